import PyProof.Rows.All
import Wide.All
import OpenK.AllK
import Wide.FinOn
import PySem.Challenge.RW_ci0024_03
open PySem PySem.W PySem.Calls PyProof.Rows
set_option Elab.async false
set_option maxRecDepth 100000
set_option maxHeartbeats 8000000
namespace Mine
noncomputable def atPath : List Nat → List Stmt → Stmt
  | [], _ => .Pass ⟨0, 0, 0, 0⟩
  | [i], l => l.getD i (.Pass ⟨0, 0, 0, 0⟩)
  | i :: r, l => match l.getD i (.Pass ⟨0, 0, 0, 0⟩) with
    | .ClassDef _ _ _ b _ _ _ _ _ _ _ => atPath r b
    | _ => .Pass ⟨0, 0, 0, 0⟩
noncomputable def fpar (l : List Nat) : Arguments := match atPath l PySem.Challenge.pw_ci0024_03.main.body with
  | .FunctionDef _ a _ _ _ _ _ _ _ _ => a
  | _ => ⟨[], [], none, [], [], none, []⟩
noncomputable def fbodyL (l : List Nat) : List Stmt := match atPath l PySem.Challenge.pw_ci0024_03.main.body with
  | .FunctionDef _ _ b _ _ _ _ _ _ _ => b
  | _ => []
noncomputable def fbody (l : List Nat) : FuncBody := .stmts (fbodyL l)
noncomputable def fscope (l : List Nat) : Scope := match atPath l PySem.Challenge.pw_ci0024_03.main.body with
  | .FunctionDef _ _ _ _ _ _ s _ _ _ => s
  | _ => ⟨.function, [], false, false, []⟩
noncomputable def ob0 : Params → Obj := fun _ => ⟨(.type "tuple"), none, .seq #[] 0, #[]⟩
noncomputable def ob1 : Params → Obj := fun _ => ⟨.none, none, .fields #[], #[]⟩
noncomputable def ob2 : Params → Obj := fun _ => ⟨(.type "code"), none, .fields #[(.str "<module>" 182), (.str "<module>" 183), (.str "/claim/cut.py" 184), (.int 1 0), (.int 0 0), (.int 0 0), (.int 0 0), (.int 0 0), (.ref 11), (.bool false), (.int 181 0), (.ref 12), .none, .none, .none, .none, (.int 185 0), (.int 1 0), (.str "/claim/cut.py" 186)], #[]⟩
noncomputable def ob3 : Params → Obj := fun _ => ⟨(.type "frame"), none, .plain, #[(some (.ref 13)), (some (.ref 3)), (some (.ref 3)), none, (some (.str "__main__" 164)), none, (some (.ref 0))]⟩
noncomputable def heapA : Params → Heap := fun P => ⟨⟨[boot_o_0 P, boot_o_1 P, boot_o_2 P, boot_o_3 P, boot_o_4 P, boot_o_5 P, boot_o_6 P, boot_o_7 P, boot_o_8 P, boot_o_9 P, boot_o_10 P, ob0 P, ob1 P, ob2 P, ob3 P]⟩, (boot_heap P).life⟩
noncomputable def tree0 : Params → BT := fun P => (.node (boot_o_0 P) (.node (boot_o_1 P) (.node (boot_o_3 P) (.node (boot_o_7 P) .nil .nil) (.node (ob0 P) .nil .nil)) (.node (boot_o_5 P) (.node (boot_o_9 P) .nil .nil) (.node (ob2 P) .nil .nil))) (.node (boot_o_2 P) (.node (boot_o_4 P) (.node (boot_o_8 P) .nil .nil) (.node (ob1 P) .nil .nil)) (.node (boot_o_6 P) (.node (boot_o_10 P) .nil .nil) (.node (ob3 P) .nil .nil))))
noncomputable def stT0 (w : World) (os : OsState) : SharedT := ⟨tree0 w.params, 15, (boot_heap w.params).life, #[], boot_drawn, 187, os⟩
noncomputable def ob4 : Params → Obj := fun P => ⟨.none, none, .dict #[⟨PyData.keyHash P "type.__subclasses__.Exception.0", (.str "type.__subclasses__.Exception.0" 447), (.int 205 0)⟩, ⟨PyData.keyHash P "type.__subclasses__.Exception.n", (.str "type.__subclasses__.Exception.n" 448), (.int 1 0)⟩] 2, #[]⟩
noncomputable def ob5 : Params → Obj := fun P => ⟨(.type "dict"), none, .dict #[⟨PyData.keyHash P "__name__", (.str "__name__" 165), (.str "networkx.classes.graph" 533)⟩, ⟨PyData.keyHash P "__doc__", (.str "__doc__" 166), .none⟩, ⟨PyData.keyHash P "__package__", (.str "__package__" 167), .none⟩, ⟨PyData.keyHash P "__loader__", (.str "__loader__" 168), (.builtin "__main__.__loader__#opaque")⟩, ⟨PyData.keyHash P "__spec__", (.str "__spec__" 169), .none⟩, ⟨PyData.keyHash P "__annotations__", (.str "__annotations__" 170), (.ref 6)⟩, ⟨PyData.keyHash P "__builtins__", (.str "__builtins__" 171), (.ref 4)⟩, ⟨PyData.keyHash P "__file__", (.str "__file__" 173), (.str "/claim/cut.py" 172)⟩, ⟨PyData.keyHash P "__cached__", (.str "__cached__" 174), .none⟩, ⟨PyData.keyHash P "_wall", (.str "_wall" 193), (.ref 21)⟩, ⟨PyData.keyHash P "dfs_postorder_nodes", (.str "dfs_postorder_nodes" 207), (.ref 30)⟩, ⟨PyData.keyHash P "dfs_labeled_edges", (.str "dfs_labeled_edges" 229), (.ref 39)⟩, ⟨PyData.keyHash P "NodeView", (.str "NodeView" 299), (.ref 94)⟩, ⟨PyData.keyHash P "OutEdgeView", (.str "OutEdgeView" 383), (.ref 158)⟩, ⟨PyData.keyHash P "EdgeView", (.str "EdgeView" 428), (.ref 193)⟩, ⟨PyData.keyHash P "NetworkXException", (.str "NetworkXException" 450), (.ref 205)⟩, ⟨PyData.keyHash P "NetworkXError", (.str "NetworkXError" 466), (.ref 218)⟩, ⟨PyData.keyHash P "_NOT_FOUND", (.str "_NOT_FOUND" 469), (.ref 221)⟩, ⟨PyData.keyHash P "cached_property", (.str "cached_property" 532), (.ref 260)⟩] 19, #[]⟩
noncomputable def ob6 : Params → Obj := fun _ => ⟨.none, none, .fields #[(.int 1 0), (.int 0 0), (.ref 20), (.int 5 0), (.int 0 0), (.ref 29), (.int 8 0), (.int 0 0), (.ref 38), (.int 45 0), (.int 0 0), (.ref 45), (.int 66 0), (.int 0 0), (.ref 103), (.int 99 0), (.int 0 0), (.ref 168), (.int 120 0), (.int 0 0), (.ref 201), (.int 122 0), (.int 0 0), (.ref 214), (.int 126 0), (.int 0 0), (.ref 227)], #[]⟩
noncomputable def ob7 : Params → Obj := fun _ => ⟨(.type "tuple"), none, .seq #[] 0, #[]⟩
noncomputable def ob8 : Params → Obj := fun _ => ⟨.none, none, .fields #[], #[]⟩
noncomputable def ob9 : Params → Obj := fun _ => ⟨(.type "tuple"), none, .seq #[(.str "k" 190)] 0, #[]⟩
noncomputable def ob10 : Params → Obj := fun _ => ⟨(.type "tuple"), none, .seq #[] 0, #[]⟩
noncomputable def ob11 : Params → Obj := fun _ => ⟨.none, none, .func ⟨"_wall", "_wall", fpar [0], fbody [0], fscope [0], 0, [], .none, .none, .none, .none, none, .none, .none, 0⟩, #[]⟩
noncomputable def ob12 : Params → Obj := fun _ => ⟨(.type "code"), none, .fields #[(.str "_wall" 187), (.str "_wall" 188), (.str "/claim/cut.py" 189), (.int 1 0), (.int 1 0), (.int 0 0), (.int 0 0), (.int 3 0), (.ref 15), (.bool true), (.int 181 0), (.ref 16), .none, (.ref 17), (.ref 18), (.ref 19), (.int 191 0), (.int 1 0), (.str "/claim/cut.py" 192)], #[]⟩
noncomputable def ob13 : Params → Obj := fun _ => ⟨(.type "function"), none, .func ⟨"_wall", "_wall", fpar [0], fbody [0], fscope [0], 3, [], .none, .none, .none, (.str "__main__" 164), none, (.ref 20), .none, 0⟩, #[]⟩
noncomputable def ob14 : Params → Obj := fun _ => ⟨(.type "tuple"), none, .seq #[.none, .none] 0, #[]⟩
noncomputable def ob15 : Params → Obj := fun P => ⟨(.type "dict"), none, .dict #[⟨PyData.keyHash P "sort_neighbors", (.str "sort_neighbors" 196), .none⟩] 1, #[]⟩
noncomputable def ob16 : Params → Obj := fun _ => ⟨(.type "tuple"), none, .seq #[] 0, #[]⟩
noncomputable def ob17 : Params → Obj := fun _ => ⟨.none, none, .fields #[], #[]⟩
noncomputable def ob18 : Params → Obj := fun _ => ⟨(.type "tuple"), none, .seq #[(.str "G" 200), (.str "source" 201), (.str "depth_limit" 202), (.str "sort_neighbors" 203), (.str "edges" 204)] 0, #[]⟩
noncomputable def ob19 : Params → Obj := fun _ => ⟨(.type "tuple"), none, .seq #[] 0, #[]⟩
noncomputable def ob20 : Params → Obj := fun _ => ⟨.none, none, .func ⟨"dfs_postorder_nodes", "dfs_postorder_nodes", fpar [2], fbody [2], fscope [2], 0, [], .none, .none, .none, .none, none, .none, .none, 0⟩, #[]⟩
noncomputable def ob21 : Params → Obj := fun _ => ⟨(.type "code"), none, .fields #[(.str "dfs_postorder_nodes" 197), (.str "dfs_postorder_nodes" 198), (.str "/claim/cut.py" 199), (.int 5 0), (.int 3 0), (.int 0 0), (.int 1 0), (.int 3 0), (.ref 24), (.bool true), (.int 181 0), (.ref 25), .none, (.ref 26), (.ref 27), (.ref 28), (.int 205 0), (.int 5 0), (.str "/claim/cut.py" 206)], #[]⟩
noncomputable def ob22 : Params → Obj := fun _ => ⟨(.type "function"), none, .func ⟨"dfs_postorder_nodes", "dfs_postorder_nodes", fpar [2], fbody [2], fscope [2], 3, [], (.ref 22), (.ref 23), .none, (.str "networkx.algorithms.traversal.depth_first_search" 194), none, (.ref 29), .none, 0⟩, #[]⟩
noncomputable def ob23 : Params → Obj := fun _ => ⟨(.type "tuple"), none, .seq #[.none, .none] 0, #[]⟩
noncomputable def ob24 : Params → Obj := fun P => ⟨(.type "dict"), none, .dict #[⟨PyData.keyHash P "sort_neighbors", (.str "sort_neighbors" 208), .none⟩] 1, #[]⟩
noncomputable def ob25 : Params → Obj := fun _ => ⟨(.type "tuple"), none, .seq #[] 0, #[]⟩
noncomputable def ob26 : Params → Obj := fun _ => ⟨.none, none, .fields #[], #[]⟩
noncomputable def ob27 : Params → Obj := fun _ => ⟨(.type "tuple"), none, .seq #[(.str "G" 212), (.str "source" 213), (.str "depth_limit" 214), (.str "sort_neighbors" 215), (.str "nodes" 216), (.str "get_children" 217), (.str "visited" 218), (.str "start" 219), (.str "stack" 220), (.str "depth_now" 221), (.str "parent" 222), (.str "children" 223), (.str "child" 224)] 0, #[]⟩
noncomputable def ob28 : Params → Obj := fun _ => ⟨(.type "tuple"), none, .seq #[(.str "G" 225), (.str "sort_neighbors" 226)] 0, #[]⟩
noncomputable def ob29 : Params → Obj := fun _ => ⟨.none, none, .func ⟨"dfs_labeled_edges", "dfs_labeled_edges", fpar [3], fbody [3], fscope [3], 0, [], .none, .none, .none, .none, none, .none, .none, 0⟩, #[]⟩
noncomputable def ob30 : Params → Obj := fun _ => ⟨(.type "code"), none, .fields #[(.str "dfs_labeled_edges" 209), (.str "dfs_labeled_edges" 210), (.str "/claim/cut.py" 211), (.int 8 0), (.int 3 0), (.int 0 0), (.int 1 0), (.int 35 0), (.ref 33), (.bool true), (.int 181 0), (.ref 34), .none, (.ref 35), (.ref 36), (.ref 37), (.int 227 0), (.int 8 0), (.str "/claim/cut.py" 228)], #[]⟩
noncomputable def ob31 : Params → Obj := fun _ => ⟨(.type "function"), none, .func ⟨"dfs_labeled_edges", "dfs_labeled_edges", fpar [3], fbody [3], fscope [3], 3, [], (.ref 31), (.ref 32), .none, (.str "networkx.algorithms.traversal.depth_first_search" 194), none, (.ref 38), .none, 0⟩, #[]⟩
noncomputable def ob32 : Params → Obj := fun _ => ⟨(.type "tuple"), none, .seq #[] 0, #[]⟩
noncomputable def ob33 : Params → Obj := fun _ => ⟨(.type "builtin_function_or_method"), none, .fields #[(.builtin "type.__prepare__"), (.type "type")], #[]⟩
noncomputable def ob34 : Params → Obj := fun P => ⟨(.type "dict"), none, .dict #[⟨PyData.keyHash P "__module__", (.str "__module__" 239), (.str "networkx.classes.reportviews" 230)⟩, ⟨PyData.keyHash P "__qualname__", (.str "__qualname__" 241), (.str "NodeView" 240)⟩, ⟨PyData.keyHash P "__firstlineno__", (.str "__firstlineno__" 243), (.int 45 242)⟩, ⟨PyData.keyHash P "__slots__", (.str "__slots__" 245), (.ref 47)⟩, ⟨PyData.keyHash P "__init__", (.str "__init__" 253), (.ref 54)⟩, ⟨PyData.keyHash P "__len__", (.str "__len__" 260), (.ref 61)⟩, ⟨PyData.keyHash P "__iter__", (.str "__iter__" 267), (.ref 68)⟩, ⟨PyData.keyHash P "__getitem__", (.str "__getitem__" 275), (.ref 75)⟩, ⟨PyData.keyHash P "__contains__", (.str "__contains__" 283), (.ref 82)⟩, ⟨PyData.keyHash P "__call__", (.str "__call__" 292), (.ref 90)⟩, ⟨PyData.keyHash P "__static_attributes__", (.str "__static_attributes__" 294), (.ref 91)⟩] 11, #[]⟩
noncomputable def ob35 : Params → Obj := fun _ => ⟨(.type "tuple"), none, .seq #[] 0, #[]⟩
noncomputable def ob36 : Params → Obj := fun _ => ⟨.none, none, .fields #[(.int 48 0), (.int 4 0), (.ref 53), (.int 51 0), (.int 4 0), (.ref 60), (.int 54 0), (.int 4 0), (.ref 67), (.int 57 0), (.int 4 0), (.ref 74), (.int 60 0), (.int 4 0), (.ref 81), (.int 63 0), (.int 4 0), (.ref 89)], #[]⟩
noncomputable def ob37 : Params → Obj := fun _ => ⟨(.type "code"), none, .fields #[(.str "NodeView" 234), (.str "NodeView" 235), (.str "/claim/cut.py" 236), (.int 45 0), (.int 0 0), (.int 0 0), (.int 0 0), (.int 0 0), (.ref 43), (.bool false), (.int 181 0), (.ref 44), .none, .none, .none, .none, (.int 237 0), (.int 45 0), (.str "/claim/cut.py" 238)], #[]⟩
noncomputable def ob38 : Params → Obj := fun _ => ⟨(.type "frame"), none, .plain, #[(some (.ref 45)), (some (.ref 3)), (some (.ref 42)), none, (some (.str "networkx.classes.reportviews" 230)), none, (some (.ref 0))]⟩
noncomputable def ob39 : Params → Obj := fun _ => ⟨(.type "tuple"), none, .seq #[(.str "_nodes" 244)] 0, #[]⟩
noncomputable def ob40 : Params → Obj := fun _ => ⟨(.type "tuple"), none, .seq #[] 0, #[]⟩
noncomputable def ob41 : Params → Obj := fun _ => ⟨.none, none, .fields #[], #[]⟩
noncomputable def ob42 : Params → Obj := fun _ => ⟨(.type "tuple"), none, .seq #[(.str "self" 249), (.str "graph" 250)] 0, #[]⟩
noncomputable def ob43 : Params → Obj := fun _ => ⟨(.type "tuple"), none, .seq #[] 0, #[]⟩
noncomputable def ob44 : Params → Obj := fun _ => ⟨.none, none, .func ⟨"__init__", "NodeView.__init__", fpar [5, 1], fbody [5, 1], fscope [5, 1], 0, [], .none, .none, .none, .none, none, .none, .none, 0⟩, #[]⟩
noncomputable def ob45 : Params → Obj := fun _ => ⟨(.type "code"), none, .fields #[(.str "__init__" 246), (.str "NodeView.__init__" 247), (.str "/claim/cut.py" 248), (.int 48 0), (.int 2 0), (.int 0 0), (.int 0 0), (.int 3 0), (.ref 48), (.bool true), (.int 181 0), (.ref 49), .none, (.ref 50), (.ref 51), (.ref 52), (.int 251 0), (.int 48 0), (.str "/claim/cut.py" 252)], #[]⟩
noncomputable def ob46 : Params → Obj := fun _ => ⟨(.type "function"), none, .func ⟨"__init__", "NodeView.__init__", fpar [5, 1], fbody [5, 1], fscope [5, 1], 3, [], .none, .none, .none, (.str "networkx.classes.reportviews" 230), none, (.ref 53), .none, 0⟩, #[]⟩
noncomputable def ob47 : Params → Obj := fun _ => ⟨(.type "tuple"), none, .seq #[] 0, #[]⟩
noncomputable def ob48 : Params → Obj := fun _ => ⟨.none, none, .fields #[], #[]⟩
noncomputable def ob49 : Params → Obj := fun _ => ⟨(.type "tuple"), none, .seq #[(.str "self" 257)] 0, #[]⟩
noncomputable def ob50 : Params → Obj := fun _ => ⟨(.type "tuple"), none, .seq #[] 0, #[]⟩
noncomputable def ob51 : Params → Obj := fun _ => ⟨.none, none, .func ⟨"__len__", "NodeView.__len__", fpar [5, 2], fbody [5, 2], fscope [5, 2], 0, [], .none, .none, .none, .none, none, .none, .none, 0⟩, #[]⟩
noncomputable def ob52 : Params → Obj := fun _ => ⟨(.type "code"), none, .fields #[(.str "__len__" 254), (.str "NodeView.__len__" 255), (.str "/claim/cut.py" 256), (.int 51 0), (.int 1 0), (.int 0 0), (.int 0 0), (.int 3 0), (.ref 55), (.bool true), (.int 181 0), (.ref 56), .none, (.ref 57), (.ref 58), (.ref 59), (.int 258 0), (.int 51 0), (.str "/claim/cut.py" 259)], #[]⟩
noncomputable def ob53 : Params → Obj := fun _ => ⟨(.type "function"), none, .func ⟨"__len__", "NodeView.__len__", fpar [5, 2], fbody [5, 2], fscope [5, 2], 3, [], .none, .none, .none, (.str "networkx.classes.reportviews" 230), none, (.ref 60), .none, 0⟩, #[]⟩
noncomputable def ob54 : Params → Obj := fun _ => ⟨(.type "tuple"), none, .seq #[] 0, #[]⟩
noncomputable def ob55 : Params → Obj := fun _ => ⟨.none, none, .fields #[], #[]⟩
noncomputable def ob56 : Params → Obj := fun _ => ⟨(.type "tuple"), none, .seq #[(.str "self" 264)] 0, #[]⟩
noncomputable def ob57 : Params → Obj := fun _ => ⟨(.type "tuple"), none, .seq #[] 0, #[]⟩
noncomputable def ob58 : Params → Obj := fun _ => ⟨.none, none, .func ⟨"__iter__", "NodeView.__iter__", fpar [5, 3], fbody [5, 3], fscope [5, 3], 0, [], .none, .none, .none, .none, none, .none, .none, 0⟩, #[]⟩
noncomputable def ob59 : Params → Obj := fun _ => ⟨(.type "code"), none, .fields #[(.str "__iter__" 261), (.str "NodeView.__iter__" 262), (.str "/claim/cut.py" 263), (.int 54 0), (.int 1 0), (.int 0 0), (.int 0 0), (.int 3 0), (.ref 62), (.bool true), (.int 181 0), (.ref 63), .none, (.ref 64), (.ref 65), (.ref 66), (.int 265 0), (.int 54 0), (.str "/claim/cut.py" 266)], #[]⟩
noncomputable def ob60 : Params → Obj := fun _ => ⟨(.type "function"), none, .func ⟨"__iter__", "NodeView.__iter__", fpar [5, 3], fbody [5, 3], fscope [5, 3], 3, [], .none, .none, .none, (.str "networkx.classes.reportviews" 230), none, (.ref 67), .none, 0⟩, #[]⟩
noncomputable def ob61 : Params → Obj := fun _ => ⟨(.type "tuple"), none, .seq #[] 0, #[]⟩
noncomputable def ob62 : Params → Obj := fun _ => ⟨.none, none, .fields #[], #[]⟩
noncomputable def ob63 : Params → Obj := fun _ => ⟨(.type "tuple"), none, .seq #[(.str "self" 271), (.str "n" 272)] 0, #[]⟩
noncomputable def ob64 : Params → Obj := fun _ => ⟨(.type "tuple"), none, .seq #[] 0, #[]⟩
noncomputable def ob65 : Params → Obj := fun _ => ⟨.none, none, .func ⟨"__getitem__", "NodeView.__getitem__", fpar [5, 4], fbody [5, 4], fscope [5, 4], 0, [], .none, .none, .none, .none, none, .none, .none, 0⟩, #[]⟩
noncomputable def ob66 : Params → Obj := fun _ => ⟨(.type "code"), none, .fields #[(.str "__getitem__" 268), (.str "NodeView.__getitem__" 269), (.str "/claim/cut.py" 270), (.int 57 0), (.int 2 0), (.int 0 0), (.int 0 0), (.int 3 0), (.ref 69), (.bool true), (.int 181 0), (.ref 70), .none, (.ref 71), (.ref 72), (.ref 73), (.int 273 0), (.int 57 0), (.str "/claim/cut.py" 274)], #[]⟩
noncomputable def ob67 : Params → Obj := fun _ => ⟨(.type "function"), none, .func ⟨"__getitem__", "NodeView.__getitem__", fpar [5, 4], fbody [5, 4], fscope [5, 4], 3, [], .none, .none, .none, (.str "networkx.classes.reportviews" 230), none, (.ref 74), .none, 0⟩, #[]⟩
noncomputable def ob68 : Params → Obj := fun _ => ⟨(.type "tuple"), none, .seq #[] 0, #[]⟩
noncomputable def ob69 : Params → Obj := fun _ => ⟨.none, none, .fields #[], #[]⟩
noncomputable def ob70 : Params → Obj := fun _ => ⟨(.type "tuple"), none, .seq #[(.str "self" 279), (.str "n" 280)] 0, #[]⟩
noncomputable def ob71 : Params → Obj := fun _ => ⟨(.type "tuple"), none, .seq #[] 0, #[]⟩
noncomputable def ob72 : Params → Obj := fun _ => ⟨.none, none, .func ⟨"__contains__", "NodeView.__contains__", fpar [5, 5], fbody [5, 5], fscope [5, 5], 0, [], .none, .none, .none, .none, none, .none, .none, 0⟩, #[]⟩
noncomputable def ob73 : Params → Obj := fun _ => ⟨(.type "code"), none, .fields #[(.str "__contains__" 276), (.str "NodeView.__contains__" 277), (.str "/claim/cut.py" 278), (.int 60 0), (.int 2 0), (.int 0 0), (.int 0 0), (.int 3 0), (.ref 76), (.bool true), (.int 181 0), (.ref 77), .none, (.ref 78), (.ref 79), (.ref 80), (.int 281 0), (.int 60 0), (.str "/claim/cut.py" 282)], #[]⟩
noncomputable def ob74 : Params → Obj := fun _ => ⟨(.type "function"), none, .func ⟨"__contains__", "NodeView.__contains__", fpar [5, 5], fbody [5, 5], fscope [5, 5], 3, [], .none, .none, .none, (.str "networkx.classes.reportviews" 230), none, (.ref 81), .none, 0⟩, #[]⟩
noncomputable def ob75 : Params → Obj := fun _ => ⟨(.type "tuple"), none, .seq #[(.bool false), .none] 0, #[]⟩
noncomputable def ob76 : Params → Obj := fun _ => ⟨(.type "tuple"), none, .seq #[] 0, #[]⟩
noncomputable def ob77 : Params → Obj := fun _ => ⟨.none, none, .fields #[], #[]⟩
noncomputable def ob78 : Params → Obj := fun _ => ⟨(.type "tuple"), none, .seq #[(.str "self" 287), (.str "data" 288), (.str "default" 289)] 0, #[]⟩
noncomputable def ob79 : Params → Obj := fun _ => ⟨(.type "tuple"), none, .seq #[] 0, #[]⟩
noncomputable def ob80 : Params → Obj := fun _ => ⟨.none, none, .func ⟨"__call__", "NodeView.__call__", fpar [5, 6], fbody [5, 6], fscope [5, 6], 0, [], .none, .none, .none, .none, none, .none, .none, 0⟩, #[]⟩
noncomputable def ob81 : Params → Obj := fun _ => ⟨(.type "code"), none, .fields #[(.str "__call__" 284), (.str "NodeView.__call__" 285), (.str "/claim/cut.py" 286), (.int 63 0), (.int 3 0), (.int 0 0), (.int 0 0), (.int 3 0), (.ref 84), (.bool true), (.int 181 0), (.ref 85), .none, (.ref 86), (.ref 87), (.ref 88), (.int 290 0), (.int 63 0), (.str "/claim/cut.py" 291)], #[]⟩
noncomputable def ob82 : Params → Obj := fun _ => ⟨(.type "function"), none, .func ⟨"__call__", "NodeView.__call__", fpar [5, 6], fbody [5, 6], fscope [5, 6], 3, [], (.ref 83), .none, .none, (.str "networkx.classes.reportviews" 230), none, (.ref 89), .none, 0⟩, #[]⟩
noncomputable def ob83 : Params → Obj := fun _ => ⟨(.type "tuple"), none, .seq #[(.str "_nodes" 293)] 0, #[]⟩
noncomputable def ob84 : Params → Obj := fun _ => ⟨(.type "list"), none, .seq #[(.str "_nodes" 244)] 1, #[]⟩
noncomputable def ob85 : Params → Obj := fun P => ⟨(.type "dict"), none, .dict #[⟨PyData.keyHash P "__module__", (.str "__module__" 239), (.str "networkx.classes.reportviews" 230)⟩, ⟨PyData.keyHash P "__firstlineno__", (.str "__firstlineno__" 243), (.int 45 242)⟩, ⟨PyData.keyHash P "__slots__", (.str "__slots__" 245), (.ref 47)⟩, ⟨PyData.keyHash P "__init__", (.str "__init__" 253), (.ref 54)⟩, ⟨PyData.keyHash P "__len__", (.str "__len__" 260), (.ref 61)⟩, ⟨PyData.keyHash P "__iter__", (.str "__iter__" 267), (.ref 68)⟩, ⟨PyData.keyHash P "__getitem__", (.str "__getitem__" 275), (.ref 75)⟩, ⟨PyData.keyHash P "__contains__", (.str "__contains__" 283), (.ref 82)⟩, ⟨PyData.keyHash P "__call__", (.str "__call__" 292), (.ref 90)⟩, ⟨PyData.keyHash P "__static_attributes__", (.str "__static_attributes__" 294), (.ref 91)⟩, ⟨PyData.keyHash P "_nodes", (.str "_nodes" 296), (.ref 95)⟩, ⟨PyData.keyHash P "__doc__", (.str "__doc__" 297), .none⟩] 3, #[]⟩
noncomputable def ob86 : Params → Obj := fun _ => ⟨(.type "type"), none, .cls ⟨"NodeView", [(.type "object")], [(.ref 94), (.type "object")], 93, "NodeView", false, ["_nodes"], [], false, none, false⟩, #[none, none, (some (.str "NodeView" 232)), (some (.str "NodeView" 240)), (some (.builtin "object.__new__")), (some (.bool false))]⟩
noncomputable def ob87 : Params → Obj := fun _ => ⟨(.type "member_descriptor"), none, .fields #[(.str "_nodes" 295), (.ref 94), (.builtin "proto.slot"), (.builtin "proto.slot#set"), (.int 0 0)], #[]⟩
noncomputable def ob88 : Params → Obj := fun _ => ⟨(.type "super"), none, .fields #[(.ref 94), (.ref 94), (.ref 94)], #[]⟩
noncomputable def ob89 : Params → Obj := fun _ => ⟨(.type "builtin_function_or_method"), none, .fields #[(.builtin "object.__init_subclass__"), (.ref 94)], #[]⟩
noncomputable def ob90 : Params → Obj := fun _ => ⟨(.type "tuple"), none, .seq #[] 0, #[]⟩
noncomputable def ob91 : Params → Obj := fun _ => ⟨(.type "builtin_function_or_method"), none, .fields #[(.builtin "type.__prepare__"), (.type "type")], #[]⟩
noncomputable def ob92 : Params → Obj := fun P => ⟨(.type "dict"), none, .dict #[⟨PyData.keyHash P "__module__", (.str "__module__" 307), (.str "networkx.classes.reportviews" 230)⟩, ⟨PyData.keyHash P "__qualname__", (.str "__qualname__" 309), (.str "OutEdgeView" 308)⟩, ⟨PyData.keyHash P "__firstlineno__", (.str "__firstlineno__" 311), (.int 66 310)⟩, ⟨PyData.keyHash P "__init__", (.str "__init__" 319), (.ref 111)⟩, ⟨PyData.keyHash P "_nodes_nbrs", (.str "_nodes_nbrs" 326), (.ref 118)⟩, ⟨PyData.keyHash P "__len__", (.str "__len__" 333), (.ref 125)⟩, ⟨PyData.keyHash P "__iter__", (.str "__iter__" 343), (.ref 132)⟩, ⟨PyData.keyHash P "__contains__", (.str "__contains__" 353), (.ref 139)⟩, ⟨PyData.keyHash P "__getitem__", (.str "__getitem__" 363), (.ref 146)⟩, ⟨PyData.keyHash P "__call__", (.str "__call__" 374), (.ref 155)⟩, ⟨PyData.keyHash P "__static_attributes__", (.str "__static_attributes__" 376), (.ref 156)⟩] 11, #[]⟩
noncomputable def ob93 : Params → Obj := fun _ => ⟨(.type "tuple"), none, .seq #[] 0, #[]⟩
noncomputable def ob94 : Params → Obj := fun _ => ⟨.none, none, .fields #[(.int 68 0), (.int 4 0), (.ref 110), (.int 71 0), (.int 4 0), (.ref 117), (.int 74 0), (.int 4 0), (.ref 124), (.int 77 0), (.int 4 0), (.ref 131), (.int 82 0), (.int 4 0), (.ref 138), (.int 89 0), (.int 4 0), (.ref 145), (.int 96 0), (.int 4 0), (.ref 154)], #[]⟩
noncomputable def ob95 : Params → Obj := fun _ => ⟨(.type "code"), none, .fields #[(.str "OutEdgeView" 302), (.str "OutEdgeView" 303), (.str "/claim/cut.py" 304), (.int 66 0), (.int 0 0), (.int 0 0), (.int 0 0), (.int 0 0), (.ref 101), (.bool false), (.int 181 0), (.ref 102), .none, .none, .none, .none, (.int 305 0), (.int 66 0), (.str "/claim/cut.py" 306)], #[]⟩
noncomputable def ob96 : Params → Obj := fun _ => ⟨(.type "frame"), none, .plain, #[(some (.ref 103)), (some (.ref 3)), (some (.ref 100)), none, (some (.str "networkx.classes.reportviews" 230)), none, (some (.ref 0))]⟩
noncomputable def ob97 : Params → Obj := fun _ => ⟨(.type "tuple"), none, .seq #[] 0, #[]⟩
noncomputable def ob98 : Params → Obj := fun _ => ⟨.none, none, .fields #[], #[]⟩
noncomputable def ob99 : Params → Obj := fun _ => ⟨(.type "tuple"), none, .seq #[(.str "self" 315), (.str "G" 316)] 0, #[]⟩
noncomputable def ob100 : Params → Obj := fun _ => ⟨(.type "tuple"), none, .seq #[] 0, #[]⟩
noncomputable def ob101 : Params → Obj := fun _ => ⟨.none, none, .func ⟨"__init__", "OutEdgeView.__init__", fpar [6, 0], fbody [6, 0], fscope [6, 0], 0, [], .none, .none, .none, .none, none, .none, .none, 0⟩, #[]⟩
noncomputable def ob102 : Params → Obj := fun _ => ⟨(.type "code"), none, .fields #[(.str "__init__" 312), (.str "OutEdgeView.__init__" 313), (.str "/claim/cut.py" 314), (.int 68 0), (.int 2 0), (.int 0 0), (.int 0 0), (.int 3 0), (.ref 105), (.bool true), (.int 181 0), (.ref 106), .none, (.ref 107), (.ref 108), (.ref 109), (.int 317 0), (.int 68 0), (.str "/claim/cut.py" 318)], #[]⟩
noncomputable def ob103 : Params → Obj := fun _ => ⟨(.type "function"), none, .func ⟨"__init__", "OutEdgeView.__init__", fpar [6, 0], fbody [6, 0], fscope [6, 0], 3, [], .none, .none, .none, (.str "networkx.classes.reportviews" 230), none, (.ref 110), .none, 0⟩, #[]⟩
noncomputable def ob104 : Params → Obj := fun _ => ⟨(.type "tuple"), none, .seq #[] 0, #[]⟩
noncomputable def ob105 : Params → Obj := fun _ => ⟨.none, none, .fields #[], #[]⟩
noncomputable def ob106 : Params → Obj := fun _ => ⟨(.type "tuple"), none, .seq #[(.str "self" 323)] 0, #[]⟩
noncomputable def ob107 : Params → Obj := fun _ => ⟨(.type "tuple"), none, .seq #[] 0, #[]⟩
noncomputable def ob108 : Params → Obj := fun _ => ⟨.none, none, .func ⟨"_nodes_nbrs", "OutEdgeView._nodes_nbrs", fpar [6, 1], fbody [6, 1], fscope [6, 1], 0, [], .none, .none, .none, .none, none, .none, .none, 0⟩, #[]⟩
noncomputable def ob109 : Params → Obj := fun _ => ⟨(.type "code"), none, .fields #[(.str "_nodes_nbrs" 320), (.str "OutEdgeView._nodes_nbrs" 321), (.str "/claim/cut.py" 322), (.int 71 0), (.int 1 0), (.int 0 0), (.int 0 0), (.int 3 0), (.ref 112), (.bool true), (.int 181 0), (.ref 113), .none, (.ref 114), (.ref 115), (.ref 116), (.int 324 0), (.int 71 0), (.str "/claim/cut.py" 325)], #[]⟩
noncomputable def ob110 : Params → Obj := fun _ => ⟨(.type "function"), none, .func ⟨"_nodes_nbrs", "OutEdgeView._nodes_nbrs", fpar [6, 1], fbody [6, 1], fscope [6, 1], 3, [], .none, .none, .none, (.str "networkx.classes.reportviews" 230), none, (.ref 117), .none, 0⟩, #[]⟩
noncomputable def ob111 : Params → Obj := fun _ => ⟨(.type "tuple"), none, .seq #[] 0, #[]⟩
noncomputable def ob112 : Params → Obj := fun _ => ⟨.none, none, .fields #[], #[]⟩
noncomputable def ob113 : Params → Obj := fun _ => ⟨(.type "tuple"), none, .seq #[(.str "self" 330)] 0, #[]⟩
noncomputable def ob114 : Params → Obj := fun _ => ⟨(.type "tuple"), none, .seq #[] 0, #[]⟩
noncomputable def ob115 : Params → Obj := fun _ => ⟨.none, none, .func ⟨"__len__", "OutEdgeView.__len__", fpar [6, 2], fbody [6, 2], fscope [6, 2], 0, [], .none, .none, .none, .none, none, .none, .none, 0⟩, #[]⟩
noncomputable def ob116 : Params → Obj := fun _ => ⟨(.type "code"), none, .fields #[(.str "__len__" 327), (.str "OutEdgeView.__len__" 328), (.str "/claim/cut.py" 329), (.int 74 0), (.int 1 0), (.int 0 0), (.int 0 0), (.int 3 0), (.ref 119), (.bool true), (.int 181 0), (.ref 120), .none, (.ref 121), (.ref 122), (.ref 123), (.int 331 0), (.int 74 0), (.str "/claim/cut.py" 332)], #[]⟩
noncomputable def ob117 : Params → Obj := fun _ => ⟨(.type "function"), none, .func ⟨"__len__", "OutEdgeView.__len__", fpar [6, 2], fbody [6, 2], fscope [6, 2], 3, [], .none, .none, .none, (.str "networkx.classes.reportviews" 230), none, (.ref 124), .none, 0⟩, #[]⟩
noncomputable def ob118 : Params → Obj := fun _ => ⟨(.type "tuple"), none, .seq #[] 0, #[]⟩
noncomputable def ob119 : Params → Obj := fun _ => ⟨.none, none, .fields #[], #[]⟩
noncomputable def ob120 : Params → Obj := fun _ => ⟨(.type "tuple"), none, .seq #[(.str "self" 337), (.str "n" 338), (.str "nbrs" 339), (.str "nbr" 340)] 0, #[]⟩
noncomputable def ob121 : Params → Obj := fun _ => ⟨(.type "tuple"), none, .seq #[] 0, #[]⟩
noncomputable def ob122 : Params → Obj := fun _ => ⟨.none, none, .func ⟨"__iter__", "OutEdgeView.__iter__", fpar [6, 3], fbody [6, 3], fscope [6, 3], 0, [], .none, .none, .none, .none, none, .none, .none, 0⟩, #[]⟩
noncomputable def ob123 : Params → Obj := fun _ => ⟨(.type "code"), none, .fields #[(.str "__iter__" 334), (.str "OutEdgeView.__iter__" 335), (.str "/claim/cut.py" 336), (.int 77 0), (.int 1 0), (.int 0 0), (.int 0 0), (.int 35 0), (.ref 126), (.bool true), (.int 181 0), (.ref 127), .none, (.ref 128), (.ref 129), (.ref 130), (.int 341 0), (.int 77 0), (.str "/claim/cut.py" 342)], #[]⟩
noncomputable def ob124 : Params → Obj := fun _ => ⟨(.type "function"), none, .func ⟨"__iter__", "OutEdgeView.__iter__", fpar [6, 3], fbody [6, 3], fscope [6, 3], 3, [], .none, .none, .none, (.str "networkx.classes.reportviews" 230), none, (.ref 131), .none, 0⟩, #[]⟩
noncomputable def ob125 : Params → Obj := fun _ => ⟨(.type "tuple"), none, .seq #[] 0, #[]⟩
noncomputable def ob126 : Params → Obj := fun _ => ⟨.none, none, .fields #[], #[]⟩
noncomputable def ob127 : Params → Obj := fun _ => ⟨(.type "tuple"), none, .seq #[(.str "self" 347), (.str "e" 348), (.str "u" 349), (.str "v" 350)] 0, #[]⟩
noncomputable def ob128 : Params → Obj := fun _ => ⟨(.type "tuple"), none, .seq #[] 0, #[]⟩
noncomputable def ob129 : Params → Obj := fun _ => ⟨.none, none, .func ⟨"__contains__", "OutEdgeView.__contains__", fpar [6, 4], fbody [6, 4], fscope [6, 4], 0, [], .none, .none, .none, .none, none, .none, .none, 0⟩, #[]⟩
noncomputable def ob130 : Params → Obj := fun _ => ⟨(.type "code"), none, .fields #[(.str "__contains__" 344), (.str "OutEdgeView.__contains__" 345), (.str "/claim/cut.py" 346), (.int 82 0), (.int 2 0), (.int 0 0), (.int 0 0), (.int 3 0), (.ref 133), (.bool true), (.int 181 0), (.ref 134), .none, (.ref 135), (.ref 136), (.ref 137), (.int 351 0), (.int 82 0), (.str "/claim/cut.py" 352)], #[]⟩
noncomputable def ob131 : Params → Obj := fun _ => ⟨(.type "function"), none, .func ⟨"__contains__", "OutEdgeView.__contains__", fpar [6, 4], fbody [6, 4], fscope [6, 4], 3, [], .none, .none, .none, (.str "networkx.classes.reportviews" 230), none, (.ref 138), .none, 0⟩, #[]⟩
noncomputable def ob132 : Params → Obj := fun _ => ⟨(.type "tuple"), none, .seq #[] 0, #[]⟩
noncomputable def ob133 : Params → Obj := fun _ => ⟨.none, none, .fields #[], #[]⟩
noncomputable def ob134 : Params → Obj := fun _ => ⟨(.type "tuple"), none, .seq #[(.str "self" 357), (.str "e" 358), (.str "u" 359), (.str "v" 360)] 0, #[]⟩
noncomputable def ob135 : Params → Obj := fun _ => ⟨(.type "tuple"), none, .seq #[] 0, #[]⟩
noncomputable def ob136 : Params → Obj := fun _ => ⟨.none, none, .func ⟨"__getitem__", "OutEdgeView.__getitem__", fpar [6, 5], fbody [6, 5], fscope [6, 5], 0, [], .none, .none, .none, .none, none, .none, .none, 0⟩, #[]⟩
noncomputable def ob137 : Params → Obj := fun _ => ⟨(.type "code"), none, .fields #[(.str "__getitem__" 354), (.str "OutEdgeView.__getitem__" 355), (.str "/claim/cut.py" 356), (.int 89 0), (.int 2 0), (.int 0 0), (.int 0 0), (.int 3 0), (.ref 140), (.bool true), (.int 181 0), (.ref 141), .none, (.ref 142), (.ref 143), (.ref 144), (.int 361 0), (.int 89 0), (.str "/claim/cut.py" 362)], #[]⟩
noncomputable def ob138 : Params → Obj := fun _ => ⟨(.type "function"), none, .func ⟨"__getitem__", "OutEdgeView.__getitem__", fpar [6, 5], fbody [6, 5], fscope [6, 5], 3, [], .none, .none, .none, (.str "networkx.classes.reportviews" 230), none, (.ref 145), .none, 0⟩, #[]⟩
noncomputable def ob139 : Params → Obj := fun _ => ⟨(.type "tuple"), none, .seq #[.none, (.bool false)] 0, #[]⟩
noncomputable def ob140 : Params → Obj := fun P => ⟨(.type "dict"), none, .dict #[⟨PyData.keyHash P "default", (.str "default" 364), .none⟩] 1, #[]⟩
noncomputable def ob141 : Params → Obj := fun _ => ⟨(.type "tuple"), none, .seq #[] 0, #[]⟩
noncomputable def ob142 : Params → Obj := fun _ => ⟨.none, none, .fields #[], #[]⟩
noncomputable def ob143 : Params → Obj := fun _ => ⟨(.type "tuple"), none, .seq #[(.str "self" 368), (.str "nbunch" 369), (.str "data" 370), (.str "default" 371)] 0, #[]⟩
noncomputable def ob144 : Params → Obj := fun _ => ⟨(.type "tuple"), none, .seq #[] 0, #[]⟩
noncomputable def ob145 : Params → Obj := fun _ => ⟨.none, none, .func ⟨"__call__", "OutEdgeView.__call__", fpar [6, 6], fbody [6, 6], fscope [6, 6], 0, [], .none, .none, .none, .none, none, .none, .none, 0⟩, #[]⟩
noncomputable def ob146 : Params → Obj := fun _ => ⟨(.type "code"), none, .fields #[(.str "__call__" 365), (.str "OutEdgeView.__call__" 366), (.str "/claim/cut.py" 367), (.int 96 0), (.int 3 0), (.int 0 0), (.int 1 0), (.int 3 0), (.ref 149), (.bool true), (.int 181 0), (.ref 150), .none, (.ref 151), (.ref 152), (.ref 153), (.int 372 0), (.int 96 0), (.str "/claim/cut.py" 373)], #[]⟩
noncomputable def ob147 : Params → Obj := fun _ => ⟨(.type "function"), none, .func ⟨"__call__", "OutEdgeView.__call__", fpar [6, 6], fbody [6, 6], fscope [6, 6], 3, [], (.ref 147), (.ref 148), .none, (.str "networkx.classes.reportviews" 230), none, (.ref 154), .none, 0⟩, #[]⟩
noncomputable def ob148 : Params → Obj := fun _ => ⟨(.type "tuple"), none, .seq #[(.str "_adjdict" 375)] 0, #[]⟩
noncomputable def ob149 : Params → Obj := fun P => ⟨(.type "dict"), none, .dict #[⟨PyData.keyHash P "__module__", (.str "__module__" 307), (.str "networkx.classes.reportviews" 230)⟩, ⟨PyData.keyHash P "__firstlineno__", (.str "__firstlineno__" 311), (.int 66 310)⟩, ⟨PyData.keyHash P "__init__", (.str "__init__" 319), (.ref 111)⟩, ⟨PyData.keyHash P "_nodes_nbrs", (.str "_nodes_nbrs" 326), (.ref 118)⟩, ⟨PyData.keyHash P "__len__", (.str "__len__" 333), (.ref 125)⟩, ⟨PyData.keyHash P "__iter__", (.str "__iter__" 343), (.ref 132)⟩, ⟨PyData.keyHash P "__contains__", (.str "__contains__" 353), (.ref 139)⟩, ⟨PyData.keyHash P "__getitem__", (.str "__getitem__" 363), (.ref 146)⟩, ⟨PyData.keyHash P "__call__", (.str "__call__" 374), (.ref 155)⟩, ⟨PyData.keyHash P "__static_attributes__", (.str "__static_attributes__" 376), (.ref 156)⟩, ⟨PyData.keyHash P "__dict__", (.str "__dict__" 378), (.ref 159)⟩, ⟨PyData.keyHash P "__weakref__", (.str "__weakref__" 380), (.ref 160)⟩, ⟨PyData.keyHash P "__doc__", (.str "__doc__" 381), .none⟩] 4, #[]⟩
noncomputable def ob150 : Params → Obj := fun _ => ⟨(.type "type"), none, .cls ⟨"OutEdgeView", [(.type "object")], [(.ref 158), (.type "object")], 157, "OutEdgeView", true, [], [(.ref 193)], false, none, false⟩, #[none, none, (some (.str "OutEdgeView" 300)), (some (.str "OutEdgeView" 308)), (some (.builtin "object.__new__")), (some (.bool true))]⟩
noncomputable def ob151 : Params → Obj := fun _ => ⟨(.type "getset_descriptor"), none, .fields #[(.str "__dict__" 377), (.ref 158), (.builtin "function.__dict__"), (.builtin "function.__dict__#set")], #[]⟩
noncomputable def ob152 : Params → Obj := fun _ => ⟨(.type "getset_descriptor"), none, .fields #[(.str "__weakref__" 379), (.ref 158), (.builtin "ExceptionGroup.__weakref__"), .none], #[]⟩
noncomputable def ob153 : Params → Obj := fun _ => ⟨(.type "super"), none, .fields #[(.ref 158), (.ref 158), (.ref 158)], #[]⟩
noncomputable def ob154 : Params → Obj := fun _ => ⟨(.type "builtin_function_or_method"), none, .fields #[(.builtin "object.__init_subclass__"), (.ref 158)], #[]⟩
noncomputable def ob155 : Params → Obj := fun _ => ⟨(.type "tuple"), none, .seq #[(.ref 158)] 0, #[]⟩
noncomputable def ob156 : Params → Obj := fun _ => ⟨(.type "builtin_function_or_method"), none, .fields #[(.builtin "type.__prepare__"), (.type "type")], #[]⟩
noncomputable def ob157 : Params → Obj := fun P => ⟨(.type "dict"), none, .dict #[⟨PyData.keyHash P "__module__", (.str "__module__" 391), (.str "networkx.classes.reportviews" 230)⟩, ⟨PyData.keyHash P "__qualname__", (.str "__qualname__" 393), (.str "EdgeView" 392)⟩, ⟨PyData.keyHash P "__firstlineno__", (.str "__firstlineno__" 395), (.int 99 394)⟩, ⟨PyData.keyHash P "__len__", (.str "__len__" 403), (.ref 176)⟩, ⟨PyData.keyHash P "__iter__", (.str "__iter__" 414), (.ref 183)⟩, ⟨PyData.keyHash P "__contains__", (.str "__contains__" 424), (.ref 190)⟩, ⟨PyData.keyHash P "__static_attributes__", (.str "__static_attributes__" 425), (.ref 191)⟩] 7, #[]⟩
noncomputable def ob158 : Params → Obj := fun _ => ⟨(.type "tuple"), none, .seq #[] 0, #[]⟩
noncomputable def ob159 : Params → Obj := fun _ => ⟨.none, none, .fields #[(.int 101 0), (.int 4 0), (.ref 175), (.int 105 0), (.int 4 0), (.ref 182), (.int 113 0), (.int 4 0), (.ref 189)], #[]⟩
noncomputable def ob160 : Params → Obj := fun _ => ⟨(.type "code"), none, .fields #[(.str "EdgeView" 386), (.str "EdgeView" 387), (.str "/claim/cut.py" 388), (.int 99 0), (.int 0 0), (.int 0 0), (.int 0 0), (.int 0 0), (.ref 166), (.bool false), (.int 181 0), (.ref 167), .none, .none, .none, .none, (.int 389 0), (.int 99 0), (.str "/claim/cut.py" 390)], #[]⟩
noncomputable def ob161 : Params → Obj := fun _ => ⟨(.type "frame"), none, .plain, #[(some (.ref 168)), (some (.ref 3)), (some (.ref 165)), none, (some (.str "networkx.classes.reportviews" 230)), none, (some (.ref 0))]⟩
noncomputable def ob162 : Params → Obj := fun _ => ⟨(.type "tuple"), none, .seq #[] 0, #[]⟩
noncomputable def ob163 : Params → Obj := fun _ => ⟨.none, none, .fields #[], #[]⟩
noncomputable def ob164 : Params → Obj := fun _ => ⟨(.type "tuple"), none, .seq #[(.str "self" 399), (.str "num_nbrs" 400)] 0, #[]⟩
noncomputable def ob165 : Params → Obj := fun _ => ⟨(.type "tuple"), none, .seq #[] 0, #[]⟩
noncomputable def ob166 : Params → Obj := fun _ => ⟨.none, none, .func ⟨"__len__", "EdgeView.__len__", fpar [7, 0], fbody [7, 0], fscope [7, 0], 0, [], .none, .none, .none, .none, none, .none, .none, 0⟩, #[]⟩
noncomputable def ob167 : Params → Obj := fun _ => ⟨(.type "code"), none, .fields #[(.str "__len__" 396), (.str "EdgeView.__len__" 397), (.str "/claim/cut.py" 398), (.int 101 0), (.int 1 0), (.int 0 0), (.int 0 0), (.int 3 0), (.ref 170), (.bool true), (.int 181 0), (.ref 171), .none, (.ref 172), (.ref 173), (.ref 174), (.int 401 0), (.int 101 0), (.str "/claim/cut.py" 402)], #[]⟩
noncomputable def ob168 : Params → Obj := fun _ => ⟨(.type "function"), none, .func ⟨"__len__", "EdgeView.__len__", fpar [7, 0], fbody [7, 0], fscope [7, 0], 3, [], .none, .none, .none, (.str "networkx.classes.reportviews" 230), none, (.ref 175), .none, 0⟩, #[]⟩
noncomputable def ob169 : Params → Obj := fun _ => ⟨(.type "tuple"), none, .seq #[] 0, #[]⟩
noncomputable def ob170 : Params → Obj := fun _ => ⟨.none, none, .fields #[], #[]⟩
noncomputable def ob171 : Params → Obj := fun _ => ⟨(.type "tuple"), none, .seq #[(.str "self" 407), (.str "seen" 408), (.str "n" 409), (.str "nbrs" 410), (.str "nbr" 411)] 0, #[]⟩
noncomputable def ob172 : Params → Obj := fun _ => ⟨(.type "tuple"), none, .seq #[] 0, #[]⟩
noncomputable def ob173 : Params → Obj := fun _ => ⟨.none, none, .func ⟨"__iter__", "EdgeView.__iter__", fpar [7, 1], fbody [7, 1], fscope [7, 1], 0, [], .none, .none, .none, .none, none, .none, .none, 0⟩, #[]⟩
noncomputable def ob174 : Params → Obj := fun _ => ⟨(.type "code"), none, .fields #[(.str "__iter__" 404), (.str "EdgeView.__iter__" 405), (.str "/claim/cut.py" 406), (.int 105 0), (.int 1 0), (.int 0 0), (.int 0 0), (.int 35 0), (.ref 177), (.bool true), (.int 181 0), (.ref 178), .none, (.ref 179), (.ref 180), (.ref 181), (.int 412 0), (.int 105 0), (.str "/claim/cut.py" 413)], #[]⟩
noncomputable def ob175 : Params → Obj := fun _ => ⟨(.type "function"), none, .func ⟨"__iter__", "EdgeView.__iter__", fpar [7, 1], fbody [7, 1], fscope [7, 1], 3, [], .none, .none, .none, (.str "networkx.classes.reportviews" 230), none, (.ref 182), .none, 0⟩, #[]⟩
noncomputable def ob176 : Params → Obj := fun _ => ⟨(.type "tuple"), none, .seq #[] 0, #[]⟩
noncomputable def ob177 : Params → Obj := fun _ => ⟨.none, none, .fields #[], #[]⟩
noncomputable def ob178 : Params → Obj := fun _ => ⟨(.type "tuple"), none, .seq #[(.str "self" 418), (.str "e" 419), (.str "u" 420), (.str "v" 421)] 0, #[]⟩
noncomputable def ob179 : Params → Obj := fun _ => ⟨(.type "tuple"), none, .seq #[] 0, #[]⟩
noncomputable def ob180 : Params → Obj := fun _ => ⟨.none, none, .func ⟨"__contains__", "EdgeView.__contains__", fpar [7, 2], fbody [7, 2], fscope [7, 2], 0, [], .none, .none, .none, .none, none, .none, .none, 0⟩, #[]⟩
noncomputable def ob181 : Params → Obj := fun _ => ⟨(.type "code"), none, .fields #[(.str "__contains__" 415), (.str "EdgeView.__contains__" 416), (.str "/claim/cut.py" 417), (.int 113 0), (.int 2 0), (.int 0 0), (.int 0 0), (.int 3 0), (.ref 184), (.bool true), (.int 181 0), (.ref 185), .none, (.ref 186), (.ref 187), (.ref 188), (.int 422 0), (.int 113 0), (.str "/claim/cut.py" 423)], #[]⟩
noncomputable def ob182 : Params → Obj := fun _ => ⟨(.type "function"), none, .func ⟨"__contains__", "EdgeView.__contains__", fpar [7, 2], fbody [7, 2], fscope [7, 2], 3, [], .none, .none, .none, (.str "networkx.classes.reportviews" 230), none, (.ref 189), .none, 0⟩, #[]⟩
noncomputable def ob183 : Params → Obj := fun _ => ⟨(.type "tuple"), none, .seq #[] 0, #[]⟩
noncomputable def ob184 : Params → Obj := fun P => ⟨(.type "dict"), none, .dict #[⟨PyData.keyHash P "__module__", (.str "__module__" 391), (.str "networkx.classes.reportviews" 230)⟩, ⟨PyData.keyHash P "__firstlineno__", (.str "__firstlineno__" 395), (.int 99 394)⟩, ⟨PyData.keyHash P "__len__", (.str "__len__" 403), (.ref 176)⟩, ⟨PyData.keyHash P "__iter__", (.str "__iter__" 414), (.ref 183)⟩, ⟨PyData.keyHash P "__contains__", (.str "__contains__" 424), (.ref 190)⟩, ⟨PyData.keyHash P "__static_attributes__", (.str "__static_attributes__" 425), (.ref 191)⟩, ⟨PyData.keyHash P "__doc__", (.str "__doc__" 426), .none⟩] 2, #[]⟩
noncomputable def ob185 : Params → Obj := fun _ => ⟨(.type "type"), none, .cls ⟨"EdgeView", [(.ref 158)], [(.ref 193), (.ref 158), (.type "object")], 192, "EdgeView", true, [], [], false, none, false⟩, #[(some (.ref 163)), none, (some (.str "EdgeView" 384)), (some (.str "EdgeView" 392)), (some (.builtin "object.__new__")), (some (.bool true))]⟩
noncomputable def ob186 : Params → Obj := fun _ => ⟨(.type "super"), none, .fields #[(.ref 193), (.ref 193), (.ref 193)], #[]⟩
noncomputable def ob187 : Params → Obj := fun _ => ⟨(.type "builtin_function_or_method"), none, .fields #[(.builtin "object.__init_subclass__"), (.ref 193)], #[]⟩
noncomputable def ob188 : Params → Obj := fun _ => ⟨(.type "tuple"), none, .seq #[(.type "Exception")] 0, #[]⟩
noncomputable def ob189 : Params → Obj := fun _ => ⟨(.type "builtin_function_or_method"), none, .fields #[(.builtin "type.__prepare__"), (.type "type")], #[]⟩
noncomputable def ob190 : Params → Obj := fun P => ⟨(.type "dict"), none, .dict #[⟨PyData.keyHash P "__module__", (.str "__module__" 438), (.str "networkx.exception" 429)⟩, ⟨PyData.keyHash P "__qualname__", (.str "__qualname__" 440), (.str "NetworkXException" 439)⟩, ⟨PyData.keyHash P "__firstlineno__", (.str "__firstlineno__" 442), (.int 120 441)⟩, ⟨PyData.keyHash P "__static_attributes__", (.str "__static_attributes__" 443), (.ref 203)⟩] 4, #[]⟩
noncomputable def ob191 : Params → Obj := fun _ => ⟨(.type "tuple"), none, .seq #[] 0, #[]⟩
noncomputable def ob192 : Params → Obj := fun _ => ⟨.none, none, .fields #[], #[]⟩
noncomputable def ob193 : Params → Obj := fun _ => ⟨(.type "code"), none, .fields #[(.str "NetworkXException" 433), (.str "NetworkXException" 434), (.str "/claim/cut.py" 435), (.int 120 0), (.int 0 0), (.int 0 0), (.int 0 0), (.int 0 0), (.ref 199), (.bool false), (.int 181 0), (.ref 200), .none, .none, .none, .none, (.int 436 0), (.int 120 0), (.str "/claim/cut.py" 437)], #[]⟩
noncomputable def ob194 : Params → Obj := fun _ => ⟨(.type "frame"), none, .plain, #[(some (.ref 201)), (some (.ref 3)), (some (.ref 198)), none, (some (.str "networkx.exception" 429)), none, (some (.ref 0))]⟩
noncomputable def ob195 : Params → Obj := fun _ => ⟨(.type "tuple"), none, .seq #[] 0, #[]⟩
noncomputable def ob196 : Params → Obj := fun P => ⟨(.type "dict"), none, .dict #[⟨PyData.keyHash P "__module__", (.str "__module__" 438), (.str "networkx.exception" 429)⟩, ⟨PyData.keyHash P "__firstlineno__", (.str "__firstlineno__" 442), (.int 120 441)⟩, ⟨PyData.keyHash P "__static_attributes__", (.str "__static_attributes__" 443), (.ref 203)⟩, ⟨PyData.keyHash P "__weakref__", (.str "__weakref__" 445), (.ref 206)⟩, ⟨PyData.keyHash P "__doc__", (.str "__doc__" 446), .none⟩] 3, #[]⟩
noncomputable def ob197 : Params → Obj := fun _ => ⟨(.type "type"), none, .cls ⟨"NetworkXException", [(.type "Exception")], [(.ref 205), (.type "Exception"), (.type "BaseException"), (.type "object")], 204, "NetworkXException", true, [], [(.ref 218)], false, none, false⟩, #[(some (.ref 196)), none, (some (.str "NetworkXException" 431)), (some (.str "NetworkXException" 439)), (some (.builtin "Exception.__new__")), (some (.bool true))]⟩
noncomputable def ob198 : Params → Obj := fun _ => ⟨(.type "getset_descriptor"), none, .fields #[(.str "__weakref__" 444), (.ref 205), (.builtin "ExceptionGroup.__weakref__"), .none], #[]⟩
noncomputable def ob199 : Params → Obj := fun _ => ⟨(.type "super"), none, .fields #[(.ref 205), (.ref 205), (.ref 205)], #[]⟩
noncomputable def ob200 : Params → Obj := fun _ => ⟨(.type "builtin_function_or_method"), none, .fields #[(.builtin "object.__init_subclass__"), (.ref 205)], #[]⟩
noncomputable def ob201 : Params → Obj := fun _ => ⟨(.type "tuple"), none, .seq #[(.ref 205)] 0, #[]⟩
noncomputable def ob202 : Params → Obj := fun _ => ⟨(.type "builtin_function_or_method"), none, .fields #[(.builtin "type.__prepare__"), (.type "type")], #[]⟩
noncomputable def ob203 : Params → Obj := fun P => ⟨(.type "dict"), none, .dict #[⟨PyData.keyHash P "__module__", (.str "__module__" 458), (.str "networkx.exception" 429)⟩, ⟨PyData.keyHash P "__qualname__", (.str "__qualname__" 460), (.str "NetworkXError" 459)⟩, ⟨PyData.keyHash P "__firstlineno__", (.str "__firstlineno__" 462), (.int 122 461)⟩, ⟨PyData.keyHash P "__static_attributes__", (.str "__static_attributes__" 463), (.ref 216)⟩] 4, #[]⟩
noncomputable def ob204 : Params → Obj := fun _ => ⟨(.type "tuple"), none, .seq #[] 0, #[]⟩
noncomputable def ob205 : Params → Obj := fun _ => ⟨.none, none, .fields #[], #[]⟩
noncomputable def ob206 : Params → Obj := fun _ => ⟨(.type "code"), none, .fields #[(.str "NetworkXError" 453), (.str "NetworkXError" 454), (.str "/claim/cut.py" 455), (.int 122 0), (.int 0 0), (.int 0 0), (.int 0 0), (.int 0 0), (.ref 212), (.bool false), (.int 181 0), (.ref 213), .none, .none, .none, .none, (.int 456 0), (.int 122 0), (.str "/claim/cut.py" 457)], #[]⟩
noncomputable def ob207 : Params → Obj := fun _ => ⟨(.type "frame"), none, .plain, #[(some (.ref 214)), (some (.ref 3)), (some (.ref 211)), none, (some (.str "networkx.exception" 429)), none, (some (.ref 0))]⟩
noncomputable def ob208 : Params → Obj := fun _ => ⟨(.type "tuple"), none, .seq #[] 0, #[]⟩
noncomputable def ob209 : Params → Obj := fun P => ⟨(.type "dict"), none, .dict #[⟨PyData.keyHash P "__module__", (.str "__module__" 458), (.str "networkx.exception" 429)⟩, ⟨PyData.keyHash P "__firstlineno__", (.str "__firstlineno__" 462), (.int 122 461)⟩, ⟨PyData.keyHash P "__static_attributes__", (.str "__static_attributes__" 463), (.ref 216)⟩, ⟨PyData.keyHash P "__doc__", (.str "__doc__" 464), .none⟩] 2, #[]⟩
noncomputable def ob210 : Params → Obj := fun _ => ⟨(.type "type"), none, .cls ⟨"NetworkXError", [(.ref 205)], [(.ref 218), (.ref 205), (.type "Exception"), (.type "BaseException"), (.type "object")], 217, "NetworkXError", true, [], [], false, none, false⟩, #[(some (.ref 209)), none, (some (.str "NetworkXError" 451)), (some (.str "NetworkXError" 459)), (some (.builtin "Exception.__new__")), (some (.bool true))]⟩
noncomputable def ob211 : Params → Obj := fun _ => ⟨(.type "super"), none, .fields #[(.ref 218), (.ref 218), (.ref 218)], #[]⟩
noncomputable def ob212 : Params → Obj := fun _ => ⟨(.type "builtin_function_or_method"), none, .fields #[(.builtin "object.__init_subclass__"), (.ref 218)], #[]⟩
noncomputable def ob213 : Params → Obj := fun _ => ⟨(.type "object"), none, .plain, #[]⟩
noncomputable def ob214 : Params → Obj := fun _ => ⟨(.type "tuple"), none, .seq #[] 0, #[]⟩
noncomputable def ob215 : Params → Obj := fun _ => ⟨(.type "builtin_function_or_method"), none, .fields #[(.builtin "type.__prepare__"), (.type "type")], #[]⟩
noncomputable def ob216 : Params → Obj := fun P => ⟨(.type "dict"), none, .dict #[⟨PyData.keyHash P "__module__", (.str "__module__" 477), (.str "functools" 467)⟩, ⟨PyData.keyHash P "__qualname__", (.str "__qualname__" 479), (.str "cached_property" 478)⟩, ⟨PyData.keyHash P "__firstlineno__", (.str "__firstlineno__" 481), (.int 126 480)⟩, ⟨PyData.keyHash P "__init__", (.str "__init__" 489), (.ref 235)⟩, ⟨PyData.keyHash P "__set_name__", (.str "__set_name__" 498), (.ref 242)⟩, ⟨PyData.keyHash P "__get__", (.str "__get__" 511), (.ref 250)⟩, ⟨PyData.keyHash P "__class_getitem__", (.str "__class_getitem__" 519), (.ref 257)⟩, ⟨PyData.keyHash P "__static_attributes__", (.str "__static_attributes__" 524), (.ref 258)⟩] 8, #[]⟩
noncomputable def ob217 : Params → Obj := fun _ => ⟨(.type "tuple"), none, .seq #[] 0, #[]⟩
noncomputable def ob218 : Params → Obj := fun _ => ⟨.none, none, .fields #[(.int 128 0), (.int 4 0), (.ref 234), (.int 134 0), (.int 4 0), (.ref 241), (.int 140 0), (.int 4 0), (.ref 249), (.int 162 0), (.int 4 0), (.ref 256)], #[]⟩
noncomputable def ob219 : Params → Obj := fun _ => ⟨(.type "code"), none, .fields #[(.str "cached_property" 472), (.str "cached_property" 473), (.str "/claim/cut.py" 474), (.int 126 0), (.int 0 0), (.int 0 0), (.int 0 0), (.int 0 0), (.ref 225), (.bool false), (.int 181 0), (.ref 226), .none, .none, .none, .none, (.int 475 0), (.int 126 0), (.str "/claim/cut.py" 476)], #[]⟩
noncomputable def ob220 : Params → Obj := fun _ => ⟨(.type "frame"), none, .plain, #[(some (.ref 227)), (some (.ref 3)), (some (.ref 224)), none, (some (.str "functools" 467)), none, (some (.ref 0))]⟩
noncomputable def ob221 : Params → Obj := fun _ => ⟨(.type "tuple"), none, .seq #[] 0, #[]⟩
noncomputable def ob222 : Params → Obj := fun _ => ⟨.none, none, .fields #[], #[]⟩
noncomputable def ob223 : Params → Obj := fun _ => ⟨(.type "tuple"), none, .seq #[(.str "self" 485), (.str "func" 486)] 0, #[]⟩
noncomputable def ob224 : Params → Obj := fun _ => ⟨(.type "tuple"), none, .seq #[] 0, #[]⟩
noncomputable def ob225 : Params → Obj := fun _ => ⟨.none, none, .func ⟨"__init__", "cached_property.__init__", fpar [13, 0], fbody [13, 0], fscope [13, 0], 0, [], .none, .none, .none, .none, none, .none, .none, 0⟩, #[]⟩
noncomputable def ob226 : Params → Obj := fun _ => ⟨(.type "code"), none, .fields #[(.str "__init__" 482), (.str "cached_property.__init__" 483), (.str "/claim/cut.py" 484), (.int 128 0), (.int 2 0), (.int 0 0), (.int 0 0), (.int 3 0), (.ref 229), (.bool true), (.int 181 0), (.ref 230), .none, (.ref 231), (.ref 232), (.ref 233), (.int 487 0), (.int 128 0), (.str "/claim/cut.py" 488)], #[]⟩
noncomputable def ob227 : Params → Obj := fun _ => ⟨(.type "function"), none, .func ⟨"__init__", "cached_property.__init__", fpar [13, 0], fbody [13, 0], fscope [13, 0], 3, [], .none, .none, .none, (.str "functools" 467), none, (.ref 234), .none, 0⟩, #[]⟩
noncomputable def ob228 : Params → Obj := fun _ => ⟨(.type "tuple"), none, .seq #[] 0, #[]⟩
noncomputable def ob229 : Params → Obj := fun _ => ⟨.none, none, .fields #[], #[]⟩
noncomputable def ob230 : Params → Obj := fun _ => ⟨(.type "tuple"), none, .seq #[(.str "self" 493), (.str "owner" 494), (.str "name" 495)] 0, #[]⟩
noncomputable def ob231 : Params → Obj := fun _ => ⟨(.type "tuple"), none, .seq #[] 0, #[]⟩
noncomputable def ob232 : Params → Obj := fun _ => ⟨.none, none, .func ⟨"__set_name__", "cached_property.__set_name__", fpar [13, 1], fbody [13, 1], fscope [13, 1], 0, [], .none, .none, .none, .none, none, .none, .none, 0⟩, #[]⟩
noncomputable def ob233 : Params → Obj := fun _ => ⟨(.type "code"), none, .fields #[(.str "__set_name__" 490), (.str "cached_property.__set_name__" 491), (.str "/claim/cut.py" 492), (.int 134 0), (.int 3 0), (.int 0 0), (.int 0 0), (.int 3 0), (.ref 236), (.bool true), (.int 181 0), (.ref 237), .none, (.ref 238), (.ref 239), (.ref 240), (.int 496 0), (.int 134 0), (.str "/claim/cut.py" 497)], #[]⟩
noncomputable def ob234 : Params → Obj := fun _ => ⟨(.type "function"), none, .func ⟨"__set_name__", "cached_property.__set_name__", fpar [13, 1], fbody [13, 1], fscope [13, 1], 3, [], .none, .none, .none, (.str "functools" 467), none, (.ref 241), .none, 0⟩, #[]⟩
noncomputable def ob235 : Params → Obj := fun _ => ⟨(.type "tuple"), none, .seq #[.none] 0, #[]⟩
noncomputable def ob236 : Params → Obj := fun _ => ⟨(.type "tuple"), none, .seq #[] 0, #[]⟩
noncomputable def ob237 : Params → Obj := fun _ => ⟨.none, none, .fields #[], #[]⟩
noncomputable def ob238 : Params → Obj := fun _ => ⟨(.type "tuple"), none, .seq #[(.str "self" 502), (.str "instance" 503), (.str "owner" 504), (.str "cache" 505), (.str "kind" 506), (.str "msg" 507), (.str "val" 508)] 0, #[]⟩
noncomputable def ob239 : Params → Obj := fun _ => ⟨(.type "tuple"), none, .seq #[] 0, #[]⟩
noncomputable def ob240 : Params → Obj := fun _ => ⟨.none, none, .func ⟨"__get__", "cached_property.__get__", fpar [13, 2], fbody [13, 2], fscope [13, 2], 0, [], .none, .none, .none, .none, none, .none, .none, 0⟩, #[]⟩
noncomputable def ob241 : Params → Obj := fun _ => ⟨(.type "code"), none, .fields #[(.str "__get__" 499), (.str "cached_property.__get__" 500), (.str "/claim/cut.py" 501), (.int 140 0), (.int 3 0), (.int 0 0), (.int 0 0), (.int 3 0), (.ref 244), (.bool true), (.int 181 0), (.ref 245), .none, (.ref 246), (.ref 247), (.ref 248), (.int 509 0), (.int 140 0), (.str "/claim/cut.py" 510)], #[]⟩
noncomputable def ob242 : Params → Obj := fun _ => ⟨(.type "function"), none, .func ⟨"__get__", "cached_property.__get__", fpar [13, 2], fbody [13, 2], fscope [13, 2], 3, [], (.ref 243), .none, .none, (.str "functools" 467), none, (.ref 249), .none, 0⟩, #[]⟩
noncomputable def ob243 : Params → Obj := fun _ => ⟨(.type "tuple"), none, .seq #[] 0, #[]⟩
noncomputable def ob244 : Params → Obj := fun _ => ⟨.none, none, .fields #[], #[]⟩
noncomputable def ob245 : Params → Obj := fun _ => ⟨(.type "tuple"), none, .seq #[(.str "cls" 515), (.str "item" 516)] 0, #[]⟩
noncomputable def ob246 : Params → Obj := fun _ => ⟨(.type "tuple"), none, .seq #[] 0, #[]⟩
noncomputable def ob247 : Params → Obj := fun _ => ⟨.none, none, .func ⟨"__class_getitem__", "cached_property.__class_getitem__", fpar [13, 3], fbody [13, 3], fscope [13, 3], 0, [], .none, .none, .none, .none, none, .none, .none, 0⟩, #[]⟩
noncomputable def ob248 : Params → Obj := fun _ => ⟨(.type "code"), none, .fields #[(.str "__class_getitem__" 512), (.str "cached_property.__class_getitem__" 513), (.str "/claim/cut.py" 514), (.int 162 0), (.int 2 0), (.int 0 0), (.int 0 0), (.int 3 0), (.ref 251), (.bool true), (.int 181 0), (.ref 252), .none, (.ref 253), (.ref 254), (.ref 255), (.int 517 0), (.int 162 0), (.str "/claim/cut.py" 518)], #[]⟩
noncomputable def ob249 : Params → Obj := fun _ => ⟨(.type "function"), none, .func ⟨"__class_getitem__", "cached_property.__class_getitem__", fpar [13, 3], fbody [13, 3], fscope [13, 3], 3, [], .none, .none, .none, (.str "functools" 467), none, (.ref 256), .none, 0⟩, #[]⟩
noncomputable def ob250 : Params → Obj := fun _ => ⟨(.type "tuple"), none, .seq #[(.str "__doc__" 520), (.str "__module__" 521), (.str "attrname" 522), (.str "func" 523)] 0, #[]⟩
noncomputable def ob251 : Params → Obj := fun P => ⟨(.type "dict"), none, .dict #[⟨PyData.keyHash P "__module__", (.str "__module__" 477), (.str "functools" 467)⟩, ⟨PyData.keyHash P "__firstlineno__", (.str "__firstlineno__" 481), (.int 126 480)⟩, ⟨PyData.keyHash P "__init__", (.str "__init__" 489), (.ref 235)⟩, ⟨PyData.keyHash P "__set_name__", (.str "__set_name__" 498), (.ref 242)⟩, ⟨PyData.keyHash P "__get__", (.str "__get__" 511), (.ref 250)⟩, ⟨PyData.keyHash P "__class_getitem__", (.str "__class_getitem__" 519), (.ref 261)⟩, ⟨PyData.keyHash P "__static_attributes__", (.str "__static_attributes__" 524), (.ref 258)⟩, ⟨PyData.keyHash P "__dict__", (.str "__dict__" 527), (.ref 262)⟩, ⟨PyData.keyHash P "__weakref__", (.str "__weakref__" 529), (.ref 263)⟩, ⟨PyData.keyHash P "__doc__", (.str "__doc__" 530), .none⟩] 4, #[]⟩
noncomputable def ob252 : Params → Obj := fun _ => ⟨(.type "type"), none, .cls ⟨"cached_property", [(.type "object")], [(.ref 260), (.type "object")], 259, "cached_property", true, [], [], false, none, false⟩, #[none, none, (some (.str "cached_property" 470)), (some (.str "cached_property" 478)), (some (.builtin "object.__new__")), (some (.bool true))]⟩
noncomputable def ob253 : Params → Obj := fun _ => ⟨(.type "classmethod"), none, .fields #[(.ref 257)], #[]⟩
noncomputable def ob254 : Params → Obj := fun _ => ⟨(.type "getset_descriptor"), none, .fields #[(.str "__dict__" 526), (.ref 260), (.builtin "function.__dict__"), (.builtin "function.__dict__#set")], #[]⟩
noncomputable def ob255 : Params → Obj := fun _ => ⟨(.type "getset_descriptor"), none, .fields #[(.str "__weakref__" 528), (.ref 260), (.builtin "ExceptionGroup.__weakref__"), .none], #[]⟩
noncomputable def ob256 : Params → Obj := fun _ => ⟨(.type "super"), none, .fields #[(.ref 260), (.ref 260), (.ref 260)], #[]⟩
noncomputable def ob257 : Params → Obj := fun _ => ⟨(.type "builtin_function_or_method"), none, .fields #[(.builtin "object.__init_subclass__"), (.ref 260)], #[]⟩
noncomputable def tree1 : Params → BT := fun P => (.node (boot_o_0 P) (.node (boot_o_1 P) (.node (ob5 P) (.node (boot_o_7 P) (.node (ob7 P) (.node (ob23 P) (.node (ob55 P) (.node (ob119 P) (.node (ob247 P) .nil .nil) .nil) (.node (ob183 P) .nil .nil)) (.node (ob87 P) (.node (ob151 P) .nil .nil) (.node (ob215 P) .nil .nil))) (.node (ob39 P) (.node (ob71 P) (.node (ob135 P) .nil .nil) (.node (ob199 P) .nil .nil)) (.node (ob103 P) (.node (ob167 P) .nil .nil) (.node (ob231 P) .nil .nil)))) (.node (ob15 P) (.node (ob31 P) (.node (ob63 P) (.node (ob127 P) (.node (ob255 P) .nil .nil) .nil) (.node (ob191 P) .nil .nil)) (.node (ob95 P) (.node (ob159 P) .nil .nil) (.node (ob223 P) .nil .nil))) (.node (ob47 P) (.node (ob79 P) (.node (ob143 P) .nil .nil) (.node (ob207 P) .nil .nil)) (.node (ob111 P) (.node (ob175 P) .nil .nil) (.node (ob239 P) .nil .nil))))) (.node (ob0 P) (.node (ob11 P) (.node (ob27 P) (.node (ob59 P) (.node (ob123 P) (.node (ob251 P) .nil .nil) .nil) (.node (ob187 P) .nil .nil)) (.node (ob91 P) (.node (ob155 P) .nil .nil) (.node (ob219 P) .nil .nil))) (.node (ob43 P) (.node (ob75 P) (.node (ob139 P) .nil .nil) (.node (ob203 P) .nil .nil)) (.node (ob107 P) (.node (ob171 P) .nil .nil) (.node (ob235 P) .nil .nil)))) (.node (ob19 P) (.node (ob35 P) (.node (ob67 P) (.node (ob131 P) .nil .nil) (.node (ob195 P) .nil .nil)) (.node (ob99 P) (.node (ob163 P) .nil .nil) (.node (ob227 P) .nil .nil))) (.node (ob51 P) (.node (ob83 P) (.node (ob147 P) .nil .nil) (.node (ob211 P) .nil .nil)) (.node (ob115 P) (.node (ob179 P) .nil .nil) (.node (ob243 P) .nil .nil)))))) (.node (boot_o_5 P) (.node (boot_o_9 P) (.node (ob9 P) (.node (ob25 P) (.node (ob57 P) (.node (ob121 P) (.node (ob249 P) .nil .nil) .nil) (.node (ob185 P) .nil .nil)) (.node (ob89 P) (.node (ob153 P) .nil .nil) (.node (ob217 P) .nil .nil))) (.node (ob41 P) (.node (ob73 P) (.node (ob137 P) .nil .nil) (.node (ob201 P) .nil .nil)) (.node (ob105 P) (.node (ob169 P) .nil .nil) (.node (ob233 P) .nil .nil)))) (.node (ob17 P) (.node (ob33 P) (.node (ob65 P) (.node (ob129 P) (.node (ob257 P) .nil .nil) .nil) (.node (ob193 P) .nil .nil)) (.node (ob97 P) (.node (ob161 P) .nil .nil) (.node (ob225 P) .nil .nil))) (.node (ob49 P) (.node (ob81 P) (.node (ob145 P) .nil .nil) (.node (ob209 P) .nil .nil)) (.node (ob113 P) (.node (ob177 P) .nil .nil) (.node (ob241 P) .nil .nil))))) (.node (ob2 P) (.node (ob13 P) (.node (ob29 P) (.node (ob61 P) (.node (ob125 P) (.node (ob253 P) .nil .nil) .nil) (.node (ob189 P) .nil .nil)) (.node (ob93 P) (.node (ob157 P) .nil .nil) (.node (ob221 P) .nil .nil))) (.node (ob45 P) (.node (ob77 P) (.node (ob141 P) .nil .nil) (.node (ob205 P) .nil .nil)) (.node (ob109 P) (.node (ob173 P) .nil .nil) (.node (ob237 P) .nil .nil)))) (.node (ob21 P) (.node (ob37 P) (.node (ob69 P) (.node (ob133 P) .nil .nil) (.node (ob197 P) .nil .nil)) (.node (ob101 P) (.node (ob165 P) .nil .nil) (.node (ob229 P) .nil .nil))) (.node (ob53 P) (.node (ob85 P) (.node (ob149 P) .nil .nil) (.node (ob213 P) .nil .nil)) (.node (ob117 P) (.node (ob181 P) .nil .nil) (.node (ob245 P) .nil .nil))))))) (.node (ob4 P) (.node (boot_o_4 P) (.node (boot_o_8 P) (.node (ob8 P) (.node (ob24 P) (.node (ob56 P) (.node (ob120 P) (.node (ob248 P) .nil .nil) .nil) (.node (ob184 P) .nil .nil)) (.node (ob88 P) (.node (ob152 P) .nil .nil) (.node (ob216 P) .nil .nil))) (.node (ob40 P) (.node (ob72 P) (.node (ob136 P) .nil .nil) (.node (ob200 P) .nil .nil)) (.node (ob104 P) (.node (ob168 P) .nil .nil) (.node (ob232 P) .nil .nil)))) (.node (ob16 P) (.node (ob32 P) (.node (ob64 P) (.node (ob128 P) (.node (ob256 P) .nil .nil) .nil) (.node (ob192 P) .nil .nil)) (.node (ob96 P) (.node (ob160 P) .nil .nil) (.node (ob224 P) .nil .nil))) (.node (ob48 P) (.node (ob80 P) (.node (ob144 P) .nil .nil) (.node (ob208 P) .nil .nil)) (.node (ob112 P) (.node (ob176 P) .nil .nil) (.node (ob240 P) .nil .nil))))) (.node (ob6 P) (.node (ob12 P) (.node (ob28 P) (.node (ob60 P) (.node (ob124 P) (.node (ob252 P) .nil .nil) .nil) (.node (ob188 P) .nil .nil)) (.node (ob92 P) (.node (ob156 P) .nil .nil) (.node (ob220 P) .nil .nil))) (.node (ob44 P) (.node (ob76 P) (.node (ob140 P) .nil .nil) (.node (ob204 P) .nil .nil)) (.node (ob108 P) (.node (ob172 P) .nil .nil) (.node (ob236 P) .nil .nil)))) (.node (ob20 P) (.node (ob36 P) (.node (ob68 P) (.node (ob132 P) .nil .nil) (.node (ob196 P) .nil .nil)) (.node (ob100 P) (.node (ob164 P) .nil .nil) (.node (ob228 P) .nil .nil))) (.node (ob52 P) (.node (ob84 P) (.node (ob148 P) .nil .nil) (.node (ob212 P) .nil .nil)) (.node (ob116 P) (.node (ob180 P) .nil .nil) (.node (ob244 P) .nil .nil)))))) (.node (boot_o_6 P) (.node (boot_o_10 P) (.node (ob10 P) (.node (ob26 P) (.node (ob58 P) (.node (ob122 P) (.node (ob250 P) .nil .nil) .nil) (.node (ob186 P) .nil .nil)) (.node (ob90 P) (.node (ob154 P) .nil .nil) (.node (ob218 P) .nil .nil))) (.node (ob42 P) (.node (ob74 P) (.node (ob138 P) .nil .nil) (.node (ob202 P) .nil .nil)) (.node (ob106 P) (.node (ob170 P) .nil .nil) (.node (ob234 P) .nil .nil)))) (.node (ob18 P) (.node (ob34 P) (.node (ob66 P) (.node (ob130 P) .nil .nil) (.node (ob194 P) .nil .nil)) (.node (ob98 P) (.node (ob162 P) .nil .nil) (.node (ob226 P) .nil .nil))) (.node (ob50 P) (.node (ob82 P) (.node (ob146 P) .nil .nil) (.node (ob210 P) .nil .nil)) (.node (ob114 P) (.node (ob178 P) .nil .nil) (.node (ob242 P) .nil .nil))))) (.node (ob3 P) (.node (ob14 P) (.node (ob30 P) (.node (ob62 P) (.node (ob126 P) (.node (ob254 P) .nil .nil) .nil) (.node (ob190 P) .nil .nil)) (.node (ob94 P) (.node (ob158 P) .nil .nil) (.node (ob222 P) .nil .nil))) (.node (ob46 P) (.node (ob78 P) (.node (ob142 P) .nil .nil) (.node (ob206 P) .nil .nil)) (.node (ob110 P) (.node (ob174 P) .nil .nil) (.node (ob238 P) .nil .nil)))) (.node (ob22 P) (.node (ob38 P) (.node (ob70 P) (.node (ob134 P) .nil .nil) (.node (ob198 P) .nil .nil)) (.node (ob102 P) (.node (ob166 P) .nil .nil) (.node (ob230 P) .nil .nil))) (.node (ob54 P) (.node (ob86 P) (.node (ob150 P) .nil .nil) (.node (ob214 P) .nil .nil)) (.node (ob118 P) (.node (ob182 P) .nil .nil) (.node (ob246 P) .nil .nil))))))))
noncomputable def stT1 (w : World) (os : OsState) : SharedT := ⟨tree1 w.params, 266, (boot_heap w.params).life, #[], boot_drawn, 535, os⟩
noncomputable def ob258 : Params → Obj := fun P => ⟨(.type "dict"), none, .dict #[⟨PyData.keyHash P "__name__", (.str "__name__" 165), (.str "networkx.classes.graph" 533)⟩, ⟨PyData.keyHash P "__doc__", (.str "__doc__" 166), .none⟩, ⟨PyData.keyHash P "__package__", (.str "__package__" 167), .none⟩, ⟨PyData.keyHash P "__loader__", (.str "__loader__" 168), (.builtin "__main__.__loader__#opaque")⟩, ⟨PyData.keyHash P "__spec__", (.str "__spec__" 169), .none⟩, ⟨PyData.keyHash P "__annotations__", (.str "__annotations__" 170), (.ref 6)⟩, ⟨PyData.keyHash P "__builtins__", (.str "__builtins__" 171), (.ref 4)⟩, ⟨PyData.keyHash P "__file__", (.str "__file__" 173), (.str "/claim/cut.py" 172)⟩, ⟨PyData.keyHash P "__cached__", (.str "__cached__" 174), .none⟩, ⟨PyData.keyHash P "_wall", (.str "_wall" 193), (.ref 21)⟩, ⟨PyData.keyHash P "dfs_postorder_nodes", (.str "dfs_postorder_nodes" 207), (.ref 30)⟩, ⟨PyData.keyHash P "dfs_labeled_edges", (.str "dfs_labeled_edges" 229), (.ref 39)⟩, ⟨PyData.keyHash P "NodeView", (.str "NodeView" 299), (.ref 94)⟩, ⟨PyData.keyHash P "OutEdgeView", (.str "OutEdgeView" 383), (.ref 158)⟩, ⟨PyData.keyHash P "EdgeView", (.str "EdgeView" 428), (.ref 193)⟩, ⟨PyData.keyHash P "NetworkXException", (.str "NetworkXException" 450), (.ref 205)⟩, ⟨PyData.keyHash P "NetworkXError", (.str "NetworkXError" 466), (.ref 218)⟩, ⟨PyData.keyHash P "_NOT_FOUND", (.str "_NOT_FOUND" 469), (.ref 221)⟩, ⟨PyData.keyHash P "cached_property", (.str "cached_property" 532), (.ref 260)⟩, ⟨PyData.keyHash P "Graph", (.str "Graph" 940), (.ref 558)⟩] 20, #[]⟩
noncomputable def ob259 : Params → Obj := fun _ => ⟨.none, none, .fields #[(.int 1 0), (.int 0 0), (.ref 20), (.int 5 0), (.int 0 0), (.ref 29), (.int 8 0), (.int 0 0), (.ref 38), (.int 45 0), (.int 0 0), (.ref 45), (.int 66 0), (.int 0 0), (.ref 103), (.int 99 0), (.int 0 0), (.ref 168), (.int 120 0), (.int 0 0), (.ref 201), (.int 122 0), (.int 0 0), (.ref 214), (.int 126 0), (.int 0 0), (.ref 227), (.int 165 0), (.int 0 0), (.ref 271)], #[]⟩
noncomputable def ob260 : Params → Obj := fun _ => ⟨(.type "tuple"), none, .seq #[] 0, #[]⟩
noncomputable def ob261 : Params → Obj := fun _ => ⟨(.type "builtin_function_or_method"), none, .fields #[(.builtin "type.__prepare__"), (.type "type")], #[]⟩
noncomputable def ob262 : Params → Obj := fun P => ⟨(.type "dict"), none, .dict #[⟨PyData.keyHash P "__module__", (.str "__module__" 542), (.str "networkx.classes.graph" 533)⟩, ⟨PyData.keyHash P "__qualname__", (.str "__qualname__" 544), (.str "Graph" 543)⟩, ⟨PyData.keyHash P "__firstlineno__", (.str "__firstlineno__" 546), (.int 165 545)⟩, ⟨PyData.keyHash P "node_dict_factory", (.str "node_dict_factory" 553), (.ref 279)⟩, ⟨PyData.keyHash P "node_attr_dict_factory", (.str "node_attr_dict_factory" 560), (.ref 286)⟩, ⟨PyData.keyHash P "adjlist_outer_dict_factory", (.str "adjlist_outer_dict_factory" 567), (.ref 293)⟩, ⟨PyData.keyHash P "adjlist_inner_dict_factory", (.str "adjlist_inner_dict_factory" 574), (.ref 300)⟩, ⟨PyData.keyHash P "edge_attr_dict_factory", (.str "edge_attr_dict_factory" 581), (.ref 307)⟩, ⟨PyData.keyHash P "graph_attr_dict_factory", (.str "graph_attr_dict_factory" 588), (.ref 314)⟩, ⟨PyData.keyHash P "fresh", (.str "fresh" 595), (.ref 321)⟩, ⟨PyData.keyHash P "__init__", (.str "__init__" 604), (.ref 329)⟩, ⟨PyData.keyHash P "adj", (.str "adj" 623), (.ref 338)⟩, ⟨PyData.keyHash P "__iter__", (.str "__iter__" 630), (.ref 346)⟩, ⟨PyData.keyHash P "__contains__", (.str "__contains__" 638), (.ref 353)⟩, ⟨PyData.keyHash P "__len__", (.str "__len__" 645), (.ref 360)⟩, ⟨PyData.keyHash P "__getitem__", (.str "__getitem__" 653), (.ref 367)⟩, ⟨PyData.keyHash P "add_node", (.str "add_node" 663), (.ref 374)⟩, ⟨PyData.keyHash P "add_nodes_from", (.str "add_nodes_from" 676), (.ref 381)⟩, ⟨PyData.keyHash P "remove_node", (.str "remove_node" 684), (.ref 388)⟩, ⟨PyData.keyHash P "remove_nodes_from", (.str "remove_nodes_from" 692), (.ref 395)⟩, ⟨PyData.keyHash P "nodes", (.str "nodes" 711), (.ref 404)⟩, ⟨PyData.keyHash P "number_of_nodes", (.str "number_of_nodes" 718), (.ref 412)⟩, ⟨PyData.keyHash P "order", (.str "order" 725), (.ref 419)⟩, ⟨PyData.keyHash P "has_node", (.str "has_node" 733), (.ref 426)⟩, ⟨PyData.keyHash P "add_edge", (.str "add_edge" 746), (.ref 433)⟩, ⟨PyData.keyHash P "add_edges_from", (.str "add_edges_from" 761), (.ref 440)⟩, ⟨PyData.keyHash P "remove_edge", (.str "remove_edge" 770), (.ref 447)⟩, ⟨PyData.keyHash P "remove_edges_from", (.str "remove_edges_from" 778), (.ref 454)⟩, ⟨PyData.keyHash P "has_edge", (.str "has_edge" 787), (.ref 461)⟩, ⟨PyData.keyHash P "neighbors", (.str "neighbors" 796), (.ref 468)⟩, ⟨PyData.keyHash P "edges", (.str "edges" 815), (.ref 477)⟩, ⟨PyData.keyHash P "get_edge_data", (.str "get_edge_data" 825), (.ref 486)⟩, ⟨PyData.keyHash P "adjacency", (.str "adjacency" 832), (.ref 493)⟩, ⟨PyData.keyHash P "degree", (.str "degree" 851), (.ref 502)⟩, ⟨PyData.keyHash P "clear", (.str "clear" 858), (.ref 510)⟩, ⟨PyData.keyHash P "clear_edges", (.str "clear_edges" 865), (.ref 517)⟩, ⟨PyData.keyHash P "is_multigraph", (.str "is_multigraph" 872), (.ref 524)⟩, ⟨PyData.keyHash P "is_directed", (.str "is_directed" 879), (.ref 531)⟩, ⟨PyData.keyHash P "copy", (.str "copy" 888), (.ref 539)⟩, ⟨PyData.keyHash P "size", (.str "size" 896), (.ref 547)⟩, ⟨PyData.keyHash P "number_of_edges", (.str "number_of_edges" 905), (.ref 555)⟩, ⟨PyData.keyHash P "__static_attributes__", (.str "__static_attributes__" 909), (.ref 556)⟩] 42, #[]⟩
noncomputable def ob263 : Params → Obj := fun _ => ⟨(.type "tuple"), none, .seq #[] 0, #[]⟩
noncomputable def ob264 : Params → Obj := fun _ => ⟨.none, none, .fields #[(.int 167 0), (.int 4 0), (.ref 278), (.int 170 0), (.int 4 0), (.ref 285), (.int 173 0), (.int 4 0), (.ref 292), (.int 176 0), (.int 4 0), (.ref 299), (.int 179 0), (.int 4 0), (.ref 306), (.int 182 0), (.int 4 0), (.ref 313), (.int 185 0), (.int 4 0), (.ref 320), (.int 188 0), (.int 4 0), (.ref 328), (.int 196 0), (.int 4 0), (.ref 335), (.int 199 0), (.int 4 0), (.ref 345), (.int 202 0), (.int 4 0), (.ref 352), (.int 208 0), (.int 4 0), (.ref 359), (.int 211 0), (.int 4 0), (.ref 366), (.int 214 0), (.int 4 0), (.ref 373), (.int 224 0), (.int 4 0), (.ref 380), (.int 241 0), (.int 4 0), (.ref 387), (.int 244 0), (.int 4 0), (.ref 394), (.int 248 0), (.int 4 0), (.ref 401), (.int 251 0), (.int 4 0), (.ref 411), (.int 254 0), (.int 4 0), (.ref 418), (.int 257 0), (.int 4 0), (.ref 425), (.int 260 0), (.int 4 0), (.ref 432), (.int 277 0), (.int 4 0), (.ref 439), (.int 303 0), (.int 4 0), (.ref 446), (.int 306 0), (.int 4 0), (.ref 453), (.int 309 0), (.int 4 0), (.ref 460), (.int 312 0), (.int 4 0), (.ref 467), (.int 319 0), (.int 4 0), (.ref 474), (.int 322 0), (.int 4 0), (.ref 485), (.int 325 0), (.int 4 0), (.ref 492), (.int 329 0), (.int 4 0), (.ref 499), (.int 332 0), (.int 4 0), (.ref 509), (.int 335 0), (.int 4 0), (.ref 516), (.int 338 0), (.int 4 0), (.ref 523), (.int 341 0), (.int 4 0), (.ref 530), (.int 344 0), (.int 4 0), (.ref 538), (.int 351 0), (.int 4 0), (.ref 546), (.int 354 0), (.int 4 0), (.ref 554)], #[]⟩
noncomputable def ob265 : Params → Obj := fun _ => ⟨(.type "code"), none, .fields #[(.str "Graph" 537), (.str "Graph" 538), (.str "/claim/cut.py" 539), (.int 165 0), (.int 0 0), (.int 0 0), (.int 0 0), (.int 0 0), (.ref 269), (.bool false), (.int 181 0), (.ref 270), .none, .none, .none, .none, (.int 540 0), (.int 165 0), (.str "/claim/cut.py" 541)], #[]⟩
noncomputable def ob266 : Params → Obj := fun _ => ⟨(.type "frame"), none, .plain, #[(some (.ref 271)), (some (.ref 3)), (some (.ref 268)), none, (some (.str "networkx.classes.graph" 533)), none, (some (.ref 0))]⟩
noncomputable def ob267 : Params → Obj := fun _ => ⟨(.type "tuple"), none, .seq #[] 0, #[]⟩
noncomputable def ob268 : Params → Obj := fun _ => ⟨.none, none, .fields #[], #[]⟩
noncomputable def ob269 : Params → Obj := fun _ => ⟨(.type "tuple"), none, .seq #[(.str "self" 550)] 0, #[]⟩
noncomputable def ob270 : Params → Obj := fun _ => ⟨(.type "tuple"), none, .seq #[] 0, #[]⟩
noncomputable def ob271 : Params → Obj := fun _ => ⟨.none, none, .func ⟨"node_dict_factory", "Graph.node_dict_factory", fpar [15, 0], fbody [15, 0], fscope [15, 0], 0, [], .none, .none, .none, .none, none, .none, .none, 0⟩, #[]⟩
noncomputable def ob272 : Params → Obj := fun _ => ⟨(.type "code"), none, .fields #[(.str "node_dict_factory" 547), (.str "Graph.node_dict_factory" 548), (.str "/claim/cut.py" 549), (.int 167 0), (.int 1 0), (.int 0 0), (.int 0 0), (.int 3 0), (.ref 273), (.bool true), (.int 181 0), (.ref 274), .none, (.ref 275), (.ref 276), (.ref 277), (.int 551 0), (.int 167 0), (.str "/claim/cut.py" 552)], #[]⟩
noncomputable def ob273 : Params → Obj := fun _ => ⟨(.type "function"), none, .func ⟨"node_dict_factory", "Graph.node_dict_factory", fpar [15, 0], fbody [15, 0], fscope [15, 0], 3, [], .none, .none, .none, (.str "networkx.classes.graph" 533), none, (.ref 278), .none, 0⟩, #[]⟩
noncomputable def ob274 : Params → Obj := fun _ => ⟨(.type "tuple"), none, .seq #[] 0, #[]⟩
noncomputable def ob275 : Params → Obj := fun _ => ⟨.none, none, .fields #[], #[]⟩
noncomputable def ob276 : Params → Obj := fun _ => ⟨(.type "tuple"), none, .seq #[(.str "self" 557)] 0, #[]⟩
noncomputable def ob277 : Params → Obj := fun _ => ⟨(.type "tuple"), none, .seq #[] 0, #[]⟩
noncomputable def ob278 : Params → Obj := fun _ => ⟨.none, none, .func ⟨"node_attr_dict_factory", "Graph.node_attr_dict_factory", fpar [15, 1], fbody [15, 1], fscope [15, 1], 0, [], .none, .none, .none, .none, none, .none, .none, 0⟩, #[]⟩
noncomputable def ob279 : Params → Obj := fun _ => ⟨(.type "code"), none, .fields #[(.str "node_attr_dict_factory" 554), (.str "Graph.node_attr_dict_factory" 555), (.str "/claim/cut.py" 556), (.int 170 0), (.int 1 0), (.int 0 0), (.int 0 0), (.int 3 0), (.ref 280), (.bool true), (.int 181 0), (.ref 281), .none, (.ref 282), (.ref 283), (.ref 284), (.int 558 0), (.int 170 0), (.str "/claim/cut.py" 559)], #[]⟩
noncomputable def ob280 : Params → Obj := fun _ => ⟨(.type "function"), none, .func ⟨"node_attr_dict_factory", "Graph.node_attr_dict_factory", fpar [15, 1], fbody [15, 1], fscope [15, 1], 3, [], .none, .none, .none, (.str "networkx.classes.graph" 533), none, (.ref 285), .none, 0⟩, #[]⟩
noncomputable def ob281 : Params → Obj := fun _ => ⟨(.type "tuple"), none, .seq #[] 0, #[]⟩
noncomputable def ob282 : Params → Obj := fun _ => ⟨.none, none, .fields #[], #[]⟩
noncomputable def ob283 : Params → Obj := fun _ => ⟨(.type "tuple"), none, .seq #[(.str "self" 564)] 0, #[]⟩
noncomputable def ob284 : Params → Obj := fun _ => ⟨(.type "tuple"), none, .seq #[] 0, #[]⟩
noncomputable def ob285 : Params → Obj := fun _ => ⟨.none, none, .func ⟨"adjlist_outer_dict_factory", "Graph.adjlist_outer_dict_factory", fpar [15, 2], fbody [15, 2], fscope [15, 2], 0, [], .none, .none, .none, .none, none, .none, .none, 0⟩, #[]⟩
noncomputable def ob286 : Params → Obj := fun _ => ⟨(.type "code"), none, .fields #[(.str "adjlist_outer_dict_factory" 561), (.str "Graph.adjlist_outer_dict_factory" 562), (.str "/claim/cut.py" 563), (.int 173 0), (.int 1 0), (.int 0 0), (.int 0 0), (.int 3 0), (.ref 287), (.bool true), (.int 181 0), (.ref 288), .none, (.ref 289), (.ref 290), (.ref 291), (.int 565 0), (.int 173 0), (.str "/claim/cut.py" 566)], #[]⟩
noncomputable def ob287 : Params → Obj := fun _ => ⟨(.type "function"), none, .func ⟨"adjlist_outer_dict_factory", "Graph.adjlist_outer_dict_factory", fpar [15, 2], fbody [15, 2], fscope [15, 2], 3, [], .none, .none, .none, (.str "networkx.classes.graph" 533), none, (.ref 292), .none, 0⟩, #[]⟩
noncomputable def ob288 : Params → Obj := fun _ => ⟨(.type "tuple"), none, .seq #[] 0, #[]⟩
noncomputable def ob289 : Params → Obj := fun _ => ⟨.none, none, .fields #[], #[]⟩
noncomputable def ob290 : Params → Obj := fun _ => ⟨(.type "tuple"), none, .seq #[(.str "self" 571)] 0, #[]⟩
noncomputable def ob291 : Params → Obj := fun _ => ⟨(.type "tuple"), none, .seq #[] 0, #[]⟩
noncomputable def ob292 : Params → Obj := fun _ => ⟨.none, none, .func ⟨"adjlist_inner_dict_factory", "Graph.adjlist_inner_dict_factory", fpar [15, 3], fbody [15, 3], fscope [15, 3], 0, [], .none, .none, .none, .none, none, .none, .none, 0⟩, #[]⟩
noncomputable def ob293 : Params → Obj := fun _ => ⟨(.type "code"), none, .fields #[(.str "adjlist_inner_dict_factory" 568), (.str "Graph.adjlist_inner_dict_factory" 569), (.str "/claim/cut.py" 570), (.int 176 0), (.int 1 0), (.int 0 0), (.int 0 0), (.int 3 0), (.ref 294), (.bool true), (.int 181 0), (.ref 295), .none, (.ref 296), (.ref 297), (.ref 298), (.int 572 0), (.int 176 0), (.str "/claim/cut.py" 573)], #[]⟩
noncomputable def ob294 : Params → Obj := fun _ => ⟨(.type "function"), none, .func ⟨"adjlist_inner_dict_factory", "Graph.adjlist_inner_dict_factory", fpar [15, 3], fbody [15, 3], fscope [15, 3], 3, [], .none, .none, .none, (.str "networkx.classes.graph" 533), none, (.ref 299), .none, 0⟩, #[]⟩
noncomputable def ob295 : Params → Obj := fun _ => ⟨(.type "tuple"), none, .seq #[] 0, #[]⟩
noncomputable def ob296 : Params → Obj := fun _ => ⟨.none, none, .fields #[], #[]⟩
noncomputable def ob297 : Params → Obj := fun _ => ⟨(.type "tuple"), none, .seq #[(.str "self" 578)] 0, #[]⟩
noncomputable def ob298 : Params → Obj := fun _ => ⟨(.type "tuple"), none, .seq #[] 0, #[]⟩
noncomputable def ob299 : Params → Obj := fun _ => ⟨.none, none, .func ⟨"edge_attr_dict_factory", "Graph.edge_attr_dict_factory", fpar [15, 4], fbody [15, 4], fscope [15, 4], 0, [], .none, .none, .none, .none, none, .none, .none, 0⟩, #[]⟩
noncomputable def ob300 : Params → Obj := fun _ => ⟨(.type "code"), none, .fields #[(.str "edge_attr_dict_factory" 575), (.str "Graph.edge_attr_dict_factory" 576), (.str "/claim/cut.py" 577), (.int 179 0), (.int 1 0), (.int 0 0), (.int 0 0), (.int 3 0), (.ref 301), (.bool true), (.int 181 0), (.ref 302), .none, (.ref 303), (.ref 304), (.ref 305), (.int 579 0), (.int 179 0), (.str "/claim/cut.py" 580)], #[]⟩
noncomputable def ob301 : Params → Obj := fun _ => ⟨(.type "function"), none, .func ⟨"edge_attr_dict_factory", "Graph.edge_attr_dict_factory", fpar [15, 4], fbody [15, 4], fscope [15, 4], 3, [], .none, .none, .none, (.str "networkx.classes.graph" 533), none, (.ref 306), .none, 0⟩, #[]⟩
noncomputable def ob302 : Params → Obj := fun _ => ⟨(.type "tuple"), none, .seq #[] 0, #[]⟩
noncomputable def ob303 : Params → Obj := fun _ => ⟨.none, none, .fields #[], #[]⟩
noncomputable def ob304 : Params → Obj := fun _ => ⟨(.type "tuple"), none, .seq #[(.str "self" 585)] 0, #[]⟩
noncomputable def ob305 : Params → Obj := fun _ => ⟨(.type "tuple"), none, .seq #[] 0, #[]⟩
noncomputable def ob306 : Params → Obj := fun _ => ⟨.none, none, .func ⟨"graph_attr_dict_factory", "Graph.graph_attr_dict_factory", fpar [15, 5], fbody [15, 5], fscope [15, 5], 0, [], .none, .none, .none, .none, none, .none, .none, 0⟩, #[]⟩
noncomputable def ob307 : Params → Obj := fun _ => ⟨(.type "code"), none, .fields #[(.str "graph_attr_dict_factory" 582), (.str "Graph.graph_attr_dict_factory" 583), (.str "/claim/cut.py" 584), (.int 182 0), (.int 1 0), (.int 0 0), (.int 0 0), (.int 3 0), (.ref 308), (.bool true), (.int 181 0), (.ref 309), .none, (.ref 310), (.ref 311), (.ref 312), (.int 586 0), (.int 182 0), (.str "/claim/cut.py" 587)], #[]⟩
noncomputable def ob308 : Params → Obj := fun _ => ⟨(.type "function"), none, .func ⟨"graph_attr_dict_factory", "Graph.graph_attr_dict_factory", fpar [15, 5], fbody [15, 5], fscope [15, 5], 3, [], .none, .none, .none, (.str "networkx.classes.graph" 533), none, (.ref 313), .none, 0⟩, #[]⟩
noncomputable def ob309 : Params → Obj := fun _ => ⟨(.type "tuple"), none, .seq #[] 0, #[]⟩
noncomputable def ob310 : Params → Obj := fun _ => ⟨.none, none, .fields #[], #[]⟩
noncomputable def ob311 : Params → Obj := fun _ => ⟨(.type "tuple"), none, .seq #[(.str "self" 592)] 0, #[]⟩
noncomputable def ob312 : Params → Obj := fun _ => ⟨(.type "tuple"), none, .seq #[] 0, #[]⟩
noncomputable def ob313 : Params → Obj := fun _ => ⟨.none, none, .func ⟨"fresh", "Graph.fresh", fpar [15, 6], fbody [15, 6], fscope [15, 6], 0, [], .none, .none, .none, .none, none, .none, .none, 0⟩, #[]⟩
noncomputable def ob314 : Params → Obj := fun _ => ⟨(.type "code"), none, .fields #[(.str "fresh" 589), (.str "Graph.fresh" 590), (.str "/claim/cut.py" 591), (.int 185 0), (.int 1 0), (.int 0 0), (.int 0 0), (.int 3 0), (.ref 315), (.bool true), (.int 181 0), (.ref 316), .none, (.ref 317), (.ref 318), (.ref 319), (.int 593 0), (.int 185 0), (.str "/claim/cut.py" 594)], #[]⟩
noncomputable def ob315 : Params → Obj := fun _ => ⟨(.type "function"), none, .func ⟨"fresh", "Graph.fresh", fpar [15, 6], fbody [15, 6], fscope [15, 6], 3, [], .none, .none, .none, (.str "networkx.classes.graph" 533), none, (.ref 320), .none, 0⟩, #[]⟩
noncomputable def ob316 : Params → Obj := fun _ => ⟨(.type "tuple"), none, .seq #[.none] 0, #[]⟩
noncomputable def ob317 : Params → Obj := fun _ => ⟨(.type "tuple"), none, .seq #[] 0, #[]⟩
noncomputable def ob318 : Params → Obj := fun _ => ⟨.none, none, .fields #[], #[]⟩
noncomputable def ob319 : Params → Obj := fun _ => ⟨(.type "tuple"), none, .seq #[(.str "self" 599), (.str "incoming_graph_data" 600), (.str "attr" 601)] 0, #[]⟩
noncomputable def ob320 : Params → Obj := fun _ => ⟨(.type "tuple"), none, .seq #[] 0, #[]⟩
noncomputable def ob321 : Params → Obj := fun _ => ⟨.none, none, .func ⟨"__init__", "Graph.__init__", fpar [15, 7], fbody [15, 7], fscope [15, 7], 0, [], .none, .none, .none, .none, none, .none, .none, 0⟩, #[]⟩
noncomputable def ob322 : Params → Obj := fun _ => ⟨(.type "code"), none, .fields #[(.str "__init__" 596), (.str "Graph.__init__" 597), (.str "/claim/cut.py" 598), (.int 188 0), (.int 2 0), (.int 0 0), (.int 0 0), (.int 11 0), (.ref 323), (.bool true), (.int 181 0), (.ref 324), .none, (.ref 325), (.ref 326), (.ref 327), (.int 602 0), (.int 188 0), (.str "/claim/cut.py" 603)], #[]⟩
noncomputable def ob323 : Params → Obj := fun _ => ⟨(.type "function"), none, .func ⟨"__init__", "Graph.__init__", fpar [15, 7], fbody [15, 7], fscope [15, 7], 3, [], (.ref 322), .none, .none, (.str "networkx.classes.graph" 533), none, (.ref 328), .none, 0⟩, #[]⟩
noncomputable def ob324 : Params → Obj := fun _ => ⟨(.type "tuple"), none, .seq #[] 0, #[]⟩
noncomputable def ob325 : Params → Obj := fun _ => ⟨.none, none, .fields #[], #[]⟩
noncomputable def ob326 : Params → Obj := fun _ => ⟨(.type "tuple"), none, .seq #[(.str "self" 608)] 0, #[]⟩
noncomputable def ob327 : Params → Obj := fun _ => ⟨(.type "tuple"), none, .seq #[] 0, #[]⟩
noncomputable def ob328 : Params → Obj := fun _ => ⟨.none, none, .func ⟨"adj", "Graph.adj", fpar [15, 8], fbody [15, 8], fscope [15, 8], 0, [], .none, .none, .none, .none, none, .none, .none, 0⟩, #[]⟩
noncomputable def ob329 : Params → Obj := fun _ => ⟨(.type "code"), none, .fields #[(.str "adj" 605), (.str "Graph.adj" 606), (.str "/claim/cut.py" 607), (.int 195 0), (.int 1 0), (.int 0 0), (.int 0 0), (.int 3 0), (.ref 330), (.bool true), (.int 181 0), (.ref 331), .none, (.ref 332), (.ref 333), (.ref 334), (.int 609 0), (.int 195 0), (.str "/claim/cut.py" 610)], #[]⟩
noncomputable def ob330 : Params → Obj := fun _ => ⟨(.type "function"), none, .func ⟨"adj", "Graph.adj", fpar [15, 8], fbody [15, 8], fscope [15, 8], 3, [], .none, .none, .none, (.str "networkx.classes.graph" 533), none, (.ref 335), .none, 0⟩, #[]⟩
noncomputable def ob331 : Params → Obj := fun P => ⟨(.type "dict"), none, .dict #[⟨PyData.keyHash P "func", (.str "func" 614), (.ref 336)⟩, ⟨PyData.keyHash P "attrname", (.str "attrname" 616), (.str "adj" 623)⟩, ⟨PyData.keyHash P "__doc__", (.str "__doc__" 619), .none⟩, ⟨PyData.keyHash P "__module__", (.str "__module__" 622), (.str "networkx.classes.graph" 533)⟩] 4, #[]⟩
noncomputable def ob332 : Params → Obj := fun _ => ⟨(.ref 260), (some 337), .plain, #[]⟩
noncomputable def ob333 : Params → Obj := fun P => ⟨(.type "frame"), none, .dict #[⟨PyData.keyHash P "self", (.str "self" 611), (.ref 338)⟩, ⟨PyData.keyHash P "func", (.str "func" 612), (.ref 336)⟩] 2, #[]⟩
noncomputable def ob334 : Params → Obj := fun _ => ⟨(.type "tuple"), none, .seq #[] 0, #[]⟩
noncomputable def ob335 : Params → Obj := fun _ => ⟨.none, none, .fields #[], #[]⟩
noncomputable def ob336 : Params → Obj := fun _ => ⟨(.type "tuple"), none, .seq #[(.str "self" 627)] 0, #[]⟩
noncomputable def ob337 : Params → Obj := fun _ => ⟨(.type "tuple"), none, .seq #[] 0, #[]⟩
noncomputable def ob338 : Params → Obj := fun _ => ⟨.none, none, .func ⟨"__iter__", "Graph.__iter__", fpar [15, 9], fbody [15, 9], fscope [15, 9], 0, [], .none, .none, .none, .none, none, .none, .none, 0⟩, #[]⟩
noncomputable def ob339 : Params → Obj := fun _ => ⟨(.type "code"), none, .fields #[(.str "__iter__" 624), (.str "Graph.__iter__" 625), (.str "/claim/cut.py" 626), (.int 199 0), (.int 1 0), (.int 0 0), (.int 0 0), (.int 3 0), (.ref 340), (.bool true), (.int 181 0), (.ref 341), .none, (.ref 342), (.ref 343), (.ref 344), (.int 628 0), (.int 199 0), (.str "/claim/cut.py" 629)], #[]⟩
noncomputable def ob340 : Params → Obj := fun _ => ⟨(.type "function"), none, .func ⟨"__iter__", "Graph.__iter__", fpar [15, 9], fbody [15, 9], fscope [15, 9], 3, [], .none, .none, .none, (.str "networkx.classes.graph" 533), none, (.ref 345), .none, 0⟩, #[]⟩
noncomputable def ob341 : Params → Obj := fun _ => ⟨(.type "tuple"), none, .seq #[] 0, #[]⟩
noncomputable def ob342 : Params → Obj := fun _ => ⟨.none, none, .fields #[], #[]⟩
noncomputable def ob343 : Params → Obj := fun _ => ⟨(.type "tuple"), none, .seq #[(.str "self" 634), (.str "n" 635)] 0, #[]⟩
noncomputable def ob344 : Params → Obj := fun _ => ⟨(.type "tuple"), none, .seq #[] 0, #[]⟩
noncomputable def ob345 : Params → Obj := fun _ => ⟨.none, none, .func ⟨"__contains__", "Graph.__contains__", fpar [15, 10], fbody [15, 10], fscope [15, 10], 0, [], .none, .none, .none, .none, none, .none, .none, 0⟩, #[]⟩
noncomputable def ob346 : Params → Obj := fun _ => ⟨(.type "code"), none, .fields #[(.str "__contains__" 631), (.str "Graph.__contains__" 632), (.str "/claim/cut.py" 633), (.int 202 0), (.int 2 0), (.int 0 0), (.int 0 0), (.int 3 0), (.ref 347), (.bool true), (.int 181 0), (.ref 348), .none, (.ref 349), (.ref 350), (.ref 351), (.int 636 0), (.int 202 0), (.str "/claim/cut.py" 637)], #[]⟩
noncomputable def ob347 : Params → Obj := fun _ => ⟨(.type "function"), none, .func ⟨"__contains__", "Graph.__contains__", fpar [15, 10], fbody [15, 10], fscope [15, 10], 3, [], .none, .none, .none, (.str "networkx.classes.graph" 533), none, (.ref 352), .none, 0⟩, #[]⟩
noncomputable def ob348 : Params → Obj := fun _ => ⟨(.type "tuple"), none, .seq #[] 0, #[]⟩
noncomputable def ob349 : Params → Obj := fun _ => ⟨.none, none, .fields #[], #[]⟩
noncomputable def ob350 : Params → Obj := fun _ => ⟨(.type "tuple"), none, .seq #[(.str "self" 642)] 0, #[]⟩
noncomputable def ob351 : Params → Obj := fun _ => ⟨(.type "tuple"), none, .seq #[] 0, #[]⟩
noncomputable def ob352 : Params → Obj := fun _ => ⟨.none, none, .func ⟨"__len__", "Graph.__len__", fpar [15, 11], fbody [15, 11], fscope [15, 11], 0, [], .none, .none, .none, .none, none, .none, .none, 0⟩, #[]⟩
noncomputable def ob353 : Params → Obj := fun _ => ⟨(.type "code"), none, .fields #[(.str "__len__" 639), (.str "Graph.__len__" 640), (.str "/claim/cut.py" 641), (.int 208 0), (.int 1 0), (.int 0 0), (.int 0 0), (.int 3 0), (.ref 354), (.bool true), (.int 181 0), (.ref 355), .none, (.ref 356), (.ref 357), (.ref 358), (.int 643 0), (.int 208 0), (.str "/claim/cut.py" 644)], #[]⟩
noncomputable def ob354 : Params → Obj := fun _ => ⟨(.type "function"), none, .func ⟨"__len__", "Graph.__len__", fpar [15, 11], fbody [15, 11], fscope [15, 11], 3, [], .none, .none, .none, (.str "networkx.classes.graph" 533), none, (.ref 359), .none, 0⟩, #[]⟩
noncomputable def ob355 : Params → Obj := fun _ => ⟨(.type "tuple"), none, .seq #[] 0, #[]⟩
noncomputable def ob356 : Params → Obj := fun _ => ⟨.none, none, .fields #[], #[]⟩
noncomputable def ob357 : Params → Obj := fun _ => ⟨(.type "tuple"), none, .seq #[(.str "self" 649), (.str "n" 650)] 0, #[]⟩
noncomputable def ob358 : Params → Obj := fun _ => ⟨(.type "tuple"), none, .seq #[] 0, #[]⟩
noncomputable def ob359 : Params → Obj := fun _ => ⟨.none, none, .func ⟨"__getitem__", "Graph.__getitem__", fpar [15, 12], fbody [15, 12], fscope [15, 12], 0, [], .none, .none, .none, .none, none, .none, .none, 0⟩, #[]⟩
noncomputable def ob360 : Params → Obj := fun _ => ⟨(.type "code"), none, .fields #[(.str "__getitem__" 646), (.str "Graph.__getitem__" 647), (.str "/claim/cut.py" 648), (.int 211 0), (.int 2 0), (.int 0 0), (.int 0 0), (.int 3 0), (.ref 361), (.bool true), (.int 181 0), (.ref 362), .none, (.ref 363), (.ref 364), (.ref 365), (.int 651 0), (.int 211 0), (.str "/claim/cut.py" 652)], #[]⟩
noncomputable def ob361 : Params → Obj := fun _ => ⟨(.type "function"), none, .func ⟨"__getitem__", "Graph.__getitem__", fpar [15, 12], fbody [15, 12], fscope [15, 12], 3, [], .none, .none, .none, (.str "networkx.classes.graph" 533), none, (.ref 366), .none, 0⟩, #[]⟩
noncomputable def ob362 : Params → Obj := fun _ => ⟨(.type "tuple"), none, .seq #[] 0, #[]⟩
noncomputable def ob363 : Params → Obj := fun _ => ⟨.none, none, .fields #[], #[]⟩
noncomputable def ob364 : Params → Obj := fun _ => ⟨(.type "tuple"), none, .seq #[(.str "self" 657), (.str "node_for_adding" 658), (.str "attr" 659), (.str "attr_dict" 660)] 0, #[]⟩
noncomputable def ob365 : Params → Obj := fun _ => ⟨(.type "tuple"), none, .seq #[] 0, #[]⟩
noncomputable def ob366 : Params → Obj := fun _ => ⟨.none, none, .func ⟨"add_node", "Graph.add_node", fpar [15, 13], fbody [15, 13], fscope [15, 13], 0, [], .none, .none, .none, .none, none, .none, .none, 0⟩, #[]⟩
noncomputable def ob367 : Params → Obj := fun _ => ⟨(.type "code"), none, .fields #[(.str "add_node" 654), (.str "Graph.add_node" 655), (.str "/claim/cut.py" 656), (.int 214 0), (.int 2 0), (.int 0 0), (.int 0 0), (.int 11 0), (.ref 368), (.bool true), (.int 181 0), (.ref 369), .none, (.ref 370), (.ref 371), (.ref 372), (.int 661 0), (.int 214 0), (.str "/claim/cut.py" 662)], #[]⟩
noncomputable def ob368 : Params → Obj := fun _ => ⟨(.type "function"), none, .func ⟨"add_node", "Graph.add_node", fpar [15, 13], fbody [15, 13], fscope [15, 13], 3, [], .none, .none, .none, (.str "networkx.classes.graph" 533), none, (.ref 373), .none, 0⟩, #[]⟩
noncomputable def ob369 : Params → Obj := fun _ => ⟨(.type "tuple"), none, .seq #[] 0, #[]⟩
noncomputable def ob370 : Params → Obj := fun _ => ⟨.none, none, .fields #[], #[]⟩
noncomputable def ob371 : Params → Obj := fun _ => ⟨(.type "tuple"), none, .seq #[(.str "self" 667), (.str "nodes_for_adding" 668), (.str "attr" 669), (.str "n" 670), (.str "newnode" 671), (.str "newdict" 672), (.str "ndict" 673)] 0, #[]⟩
noncomputable def ob372 : Params → Obj := fun _ => ⟨(.type "tuple"), none, .seq #[] 0, #[]⟩
noncomputable def ob373 : Params → Obj := fun _ => ⟨.none, none, .func ⟨"add_nodes_from", "Graph.add_nodes_from", fpar [15, 14], fbody [15, 14], fscope [15, 14], 0, [], .none, .none, .none, .none, none, .none, .none, 0⟩, #[]⟩
noncomputable def ob374 : Params → Obj := fun _ => ⟨(.type "code"), none, .fields #[(.str "add_nodes_from" 664), (.str "Graph.add_nodes_from" 665), (.str "/claim/cut.py" 666), (.int 224 0), (.int 2 0), (.int 0 0), (.int 0 0), (.int 11 0), (.ref 375), (.bool true), (.int 181 0), (.ref 376), .none, (.ref 377), (.ref 378), (.ref 379), (.int 674 0), (.int 224 0), (.str "/claim/cut.py" 675)], #[]⟩
noncomputable def ob375 : Params → Obj := fun _ => ⟨(.type "function"), none, .func ⟨"add_nodes_from", "Graph.add_nodes_from", fpar [15, 14], fbody [15, 14], fscope [15, 14], 3, [], .none, .none, .none, (.str "networkx.classes.graph" 533), none, (.ref 380), .none, 0⟩, #[]⟩
noncomputable def ob376 : Params → Obj := fun _ => ⟨(.type "tuple"), none, .seq #[] 0, #[]⟩
noncomputable def ob377 : Params → Obj := fun _ => ⟨.none, none, .fields #[], #[]⟩
noncomputable def ob378 : Params → Obj := fun _ => ⟨(.type "tuple"), none, .seq #[(.str "self" 680), (.str "n" 681)] 0, #[]⟩
noncomputable def ob379 : Params → Obj := fun _ => ⟨(.type "tuple"), none, .seq #[] 0, #[]⟩
noncomputable def ob380 : Params → Obj := fun _ => ⟨.none, none, .func ⟨"remove_node", "Graph.remove_node", fpar [15, 15], fbody [15, 15], fscope [15, 15], 0, [], .none, .none, .none, .none, none, .none, .none, 0⟩, #[]⟩
noncomputable def ob381 : Params → Obj := fun _ => ⟨(.type "code"), none, .fields #[(.str "remove_node" 677), (.str "Graph.remove_node" 678), (.str "/claim/cut.py" 679), (.int 241 0), (.int 2 0), (.int 0 0), (.int 0 0), (.int 3 0), (.ref 382), (.bool true), (.int 181 0), (.ref 383), .none, (.ref 384), (.ref 385), (.ref 386), (.int 682 0), (.int 241 0), (.str "/claim/cut.py" 683)], #[]⟩
noncomputable def ob382 : Params → Obj := fun _ => ⟨(.type "function"), none, .func ⟨"remove_node", "Graph.remove_node", fpar [15, 15], fbody [15, 15], fscope [15, 15], 3, [], .none, .none, .none, (.str "networkx.classes.graph" 533), none, (.ref 387), .none, 0⟩, #[]⟩
noncomputable def ob383 : Params → Obj := fun _ => ⟨(.type "tuple"), none, .seq #[] 0, #[]⟩
noncomputable def ob384 : Params → Obj := fun _ => ⟨.none, none, .fields #[], #[]⟩
noncomputable def ob385 : Params → Obj := fun _ => ⟨(.type "tuple"), none, .seq #[(.str "self" 688), (.str "nodes" 689)] 0, #[]⟩
noncomputable def ob386 : Params → Obj := fun _ => ⟨(.type "tuple"), none, .seq #[] 0, #[]⟩
noncomputable def ob387 : Params → Obj := fun _ => ⟨.none, none, .func ⟨"remove_nodes_from", "Graph.remove_nodes_from", fpar [15, 16], fbody [15, 16], fscope [15, 16], 0, [], .none, .none, .none, .none, none, .none, .none, 0⟩, #[]⟩
noncomputable def ob388 : Params → Obj := fun _ => ⟨(.type "code"), none, .fields #[(.str "remove_nodes_from" 685), (.str "Graph.remove_nodes_from" 686), (.str "/claim/cut.py" 687), (.int 244 0), (.int 2 0), (.int 0 0), (.int 0 0), (.int 3 0), (.ref 389), (.bool true), (.int 181 0), (.ref 390), .none, (.ref 391), (.ref 392), (.ref 393), (.int 690 0), (.int 244 0), (.str "/claim/cut.py" 691)], #[]⟩
noncomputable def ob389 : Params → Obj := fun _ => ⟨(.type "function"), none, .func ⟨"remove_nodes_from", "Graph.remove_nodes_from", fpar [15, 16], fbody [15, 16], fscope [15, 16], 3, [], .none, .none, .none, (.str "networkx.classes.graph" 533), none, (.ref 394), .none, 0⟩, #[]⟩
noncomputable def ob390 : Params → Obj := fun _ => ⟨(.type "tuple"), none, .seq #[] 0, #[]⟩
noncomputable def ob391 : Params → Obj := fun _ => ⟨.none, none, .fields #[], #[]⟩
noncomputable def ob392 : Params → Obj := fun _ => ⟨(.type "tuple"), none, .seq #[(.str "self" 696)] 0, #[]⟩
noncomputable def ob393 : Params → Obj := fun _ => ⟨(.type "tuple"), none, .seq #[] 0, #[]⟩
noncomputable def ob394 : Params → Obj := fun _ => ⟨.none, none, .func ⟨"nodes", "Graph.nodes", fpar [15, 17], fbody [15, 17], fscope [15, 17], 0, [], .none, .none, .none, .none, none, .none, .none, 0⟩, #[]⟩
noncomputable def ob395 : Params → Obj := fun _ => ⟨(.type "code"), none, .fields #[(.str "nodes" 693), (.str "Graph.nodes" 694), (.str "/claim/cut.py" 695), (.int 247 0), (.int 1 0), (.int 0 0), (.int 0 0), (.int 3 0), (.ref 396), (.bool true), (.int 181 0), (.ref 397), .none, (.ref 398), (.ref 399), (.ref 400), (.int 697 0), (.int 247 0), (.str "/claim/cut.py" 698)], #[]⟩
noncomputable def ob396 : Params → Obj := fun _ => ⟨(.type "function"), none, .func ⟨"nodes", "Graph.nodes", fpar [15, 17], fbody [15, 17], fscope [15, 17], 3, [], .none, .none, .none, (.str "networkx.classes.graph" 533), none, (.ref 401), .none, 0⟩, #[]⟩
noncomputable def ob397 : Params → Obj := fun P => ⟨(.type "dict"), none, .dict #[⟨PyData.keyHash P "func", (.str "func" 702), (.ref 402)⟩, ⟨PyData.keyHash P "attrname", (.str "attrname" 704), (.str "nodes" 711)⟩, ⟨PyData.keyHash P "__doc__", (.str "__doc__" 707), .none⟩, ⟨PyData.keyHash P "__module__", (.str "__module__" 710), (.str "networkx.classes.graph" 533)⟩] 4, #[]⟩
noncomputable def ob398 : Params → Obj := fun _ => ⟨(.ref 260), (some 403), .plain, #[]⟩
noncomputable def ob399 : Params → Obj := fun P => ⟨(.type "frame"), none, .dict #[⟨PyData.keyHash P "self", (.str "self" 699), (.ref 404)⟩, ⟨PyData.keyHash P "func", (.str "func" 700), (.ref 402)⟩] 2, #[]⟩
noncomputable def ob400 : Params → Obj := fun _ => ⟨(.type "tuple"), none, .seq #[] 0, #[]⟩
noncomputable def ob401 : Params → Obj := fun _ => ⟨.none, none, .fields #[], #[]⟩
noncomputable def ob402 : Params → Obj := fun _ => ⟨(.type "tuple"), none, .seq #[(.str "self" 715)] 0, #[]⟩
noncomputable def ob403 : Params → Obj := fun _ => ⟨(.type "tuple"), none, .seq #[] 0, #[]⟩
noncomputable def ob404 : Params → Obj := fun _ => ⟨.none, none, .func ⟨"number_of_nodes", "Graph.number_of_nodes", fpar [15, 18], fbody [15, 18], fscope [15, 18], 0, [], .none, .none, .none, .none, none, .none, .none, 0⟩, #[]⟩
noncomputable def ob405 : Params → Obj := fun _ => ⟨(.type "code"), none, .fields #[(.str "number_of_nodes" 712), (.str "Graph.number_of_nodes" 713), (.str "/claim/cut.py" 714), (.int 251 0), (.int 1 0), (.int 0 0), (.int 0 0), (.int 3 0), (.ref 406), (.bool true), (.int 181 0), (.ref 407), .none, (.ref 408), (.ref 409), (.ref 410), (.int 716 0), (.int 251 0), (.str "/claim/cut.py" 717)], #[]⟩
noncomputable def ob406 : Params → Obj := fun _ => ⟨(.type "function"), none, .func ⟨"number_of_nodes", "Graph.number_of_nodes", fpar [15, 18], fbody [15, 18], fscope [15, 18], 3, [], .none, .none, .none, (.str "networkx.classes.graph" 533), none, (.ref 411), .none, 0⟩, #[]⟩
noncomputable def ob407 : Params → Obj := fun _ => ⟨(.type "tuple"), none, .seq #[] 0, #[]⟩
noncomputable def ob408 : Params → Obj := fun _ => ⟨.none, none, .fields #[], #[]⟩
noncomputable def ob409 : Params → Obj := fun _ => ⟨(.type "tuple"), none, .seq #[(.str "self" 722)] 0, #[]⟩
noncomputable def ob410 : Params → Obj := fun _ => ⟨(.type "tuple"), none, .seq #[] 0, #[]⟩
noncomputable def ob411 : Params → Obj := fun _ => ⟨.none, none, .func ⟨"order", "Graph.order", fpar [15, 19], fbody [15, 19], fscope [15, 19], 0, [], .none, .none, .none, .none, none, .none, .none, 0⟩, #[]⟩
noncomputable def ob412 : Params → Obj := fun _ => ⟨(.type "code"), none, .fields #[(.str "order" 719), (.str "Graph.order" 720), (.str "/claim/cut.py" 721), (.int 254 0), (.int 1 0), (.int 0 0), (.int 0 0), (.int 3 0), (.ref 413), (.bool true), (.int 181 0), (.ref 414), .none, (.ref 415), (.ref 416), (.ref 417), (.int 723 0), (.int 254 0), (.str "/claim/cut.py" 724)], #[]⟩
noncomputable def ob413 : Params → Obj := fun _ => ⟨(.type "function"), none, .func ⟨"order", "Graph.order", fpar [15, 19], fbody [15, 19], fscope [15, 19], 3, [], .none, .none, .none, (.str "networkx.classes.graph" 533), none, (.ref 418), .none, 0⟩, #[]⟩
noncomputable def ob414 : Params → Obj := fun _ => ⟨(.type "tuple"), none, .seq #[] 0, #[]⟩
noncomputable def ob415 : Params → Obj := fun _ => ⟨.none, none, .fields #[], #[]⟩
noncomputable def ob416 : Params → Obj := fun _ => ⟨(.type "tuple"), none, .seq #[(.str "self" 729), (.str "n" 730)] 0, #[]⟩
noncomputable def ob417 : Params → Obj := fun _ => ⟨(.type "tuple"), none, .seq #[] 0, #[]⟩
noncomputable def ob418 : Params → Obj := fun _ => ⟨.none, none, .func ⟨"has_node", "Graph.has_node", fpar [15, 20], fbody [15, 20], fscope [15, 20], 0, [], .none, .none, .none, .none, none, .none, .none, 0⟩, #[]⟩
noncomputable def ob419 : Params → Obj := fun _ => ⟨(.type "code"), none, .fields #[(.str "has_node" 726), (.str "Graph.has_node" 727), (.str "/claim/cut.py" 728), (.int 257 0), (.int 2 0), (.int 0 0), (.int 0 0), (.int 3 0), (.ref 420), (.bool true), (.int 181 0), (.ref 421), .none, (.ref 422), (.ref 423), (.ref 424), (.int 731 0), (.int 257 0), (.str "/claim/cut.py" 732)], #[]⟩
noncomputable def ob420 : Params → Obj := fun _ => ⟨(.type "function"), none, .func ⟨"has_node", "Graph.has_node", fpar [15, 20], fbody [15, 20], fscope [15, 20], 3, [], .none, .none, .none, (.str "networkx.classes.graph" 533), none, (.ref 425), .none, 0⟩, #[]⟩
noncomputable def ob421 : Params → Obj := fun _ => ⟨(.type "tuple"), none, .seq #[] 0, #[]⟩
noncomputable def ob422 : Params → Obj := fun _ => ⟨.none, none, .fields #[], #[]⟩
noncomputable def ob423 : Params → Obj := fun _ => ⟨(.type "tuple"), none, .seq #[(.str "self" 737), (.str "u_of_edge" 738), (.str "v_of_edge" 739), (.str "attr" 740), (.str "u" 741), (.str "v" 742), (.str "datadict" 743)] 0, #[]⟩
noncomputable def ob424 : Params → Obj := fun _ => ⟨(.type "tuple"), none, .seq #[] 0, #[]⟩
noncomputable def ob425 : Params → Obj := fun _ => ⟨.none, none, .func ⟨"add_edge", "Graph.add_edge", fpar [15, 21], fbody [15, 21], fscope [15, 21], 0, [], .none, .none, .none, .none, none, .none, .none, 0⟩, #[]⟩
noncomputable def ob426 : Params → Obj := fun _ => ⟨(.type "code"), none, .fields #[(.str "add_edge" 734), (.str "Graph.add_edge" 735), (.str "/claim/cut.py" 736), (.int 260 0), (.int 3 0), (.int 0 0), (.int 0 0), (.int 11 0), (.ref 427), (.bool true), (.int 181 0), (.ref 428), .none, (.ref 429), (.ref 430), (.ref 431), (.int 744 0), (.int 260 0), (.str "/claim/cut.py" 745)], #[]⟩
noncomputable def ob427 : Params → Obj := fun _ => ⟨(.type "function"), none, .func ⟨"add_edge", "Graph.add_edge", fpar [15, 21], fbody [15, 21], fscope [15, 21], 3, [], .none, .none, .none, (.str "networkx.classes.graph" 533), none, (.ref 432), .none, 0⟩, #[]⟩
noncomputable def ob428 : Params → Obj := fun _ => ⟨(.type "tuple"), none, .seq #[] 0, #[]⟩
noncomputable def ob429 : Params → Obj := fun _ => ⟨.none, none, .fields #[], #[]⟩
noncomputable def ob430 : Params → Obj := fun _ => ⟨(.type "tuple"), none, .seq #[(.str "self" 750), (.str "ebunch_to_add" 751), (.str "attr" 752), (.str "e" 753), (.str "ne" 754), (.str "u" 755), (.str "v" 756), (.str "dd" 757), (.str "datadict" 758)] 0, #[]⟩
noncomputable def ob431 : Params → Obj := fun _ => ⟨(.type "tuple"), none, .seq #[] 0, #[]⟩
noncomputable def ob432 : Params → Obj := fun _ => ⟨.none, none, .func ⟨"add_edges_from", "Graph.add_edges_from", fpar [15, 22], fbody [15, 22], fscope [15, 22], 0, [], .none, .none, .none, .none, none, .none, .none, 0⟩, #[]⟩
noncomputable def ob433 : Params → Obj := fun _ => ⟨(.type "code"), none, .fields #[(.str "add_edges_from" 747), (.str "Graph.add_edges_from" 748), (.str "/claim/cut.py" 749), (.int 277 0), (.int 2 0), (.int 0 0), (.int 0 0), (.int 11 0), (.ref 434), (.bool true), (.int 181 0), (.ref 435), .none, (.ref 436), (.ref 437), (.ref 438), (.int 759 0), (.int 277 0), (.str "/claim/cut.py" 760)], #[]⟩
noncomputable def ob434 : Params → Obj := fun _ => ⟨(.type "function"), none, .func ⟨"add_edges_from", "Graph.add_edges_from", fpar [15, 22], fbody [15, 22], fscope [15, 22], 3, [], .none, .none, .none, (.str "networkx.classes.graph" 533), none, (.ref 439), .none, 0⟩, #[]⟩
noncomputable def ob435 : Params → Obj := fun _ => ⟨(.type "tuple"), none, .seq #[] 0, #[]⟩
noncomputable def ob436 : Params → Obj := fun _ => ⟨.none, none, .fields #[], #[]⟩
noncomputable def ob437 : Params → Obj := fun _ => ⟨(.type "tuple"), none, .seq #[(.str "self" 765), (.str "u" 766), (.str "v" 767)] 0, #[]⟩
noncomputable def ob438 : Params → Obj := fun _ => ⟨(.type "tuple"), none, .seq #[] 0, #[]⟩
noncomputable def ob439 : Params → Obj := fun _ => ⟨.none, none, .func ⟨"remove_edge", "Graph.remove_edge", fpar [15, 23], fbody [15, 23], fscope [15, 23], 0, [], .none, .none, .none, .none, none, .none, .none, 0⟩, #[]⟩
noncomputable def ob440 : Params → Obj := fun _ => ⟨(.type "code"), none, .fields #[(.str "remove_edge" 762), (.str "Graph.remove_edge" 763), (.str "/claim/cut.py" 764), (.int 303 0), (.int 3 0), (.int 0 0), (.int 0 0), (.int 3 0), (.ref 441), (.bool true), (.int 181 0), (.ref 442), .none, (.ref 443), (.ref 444), (.ref 445), (.int 768 0), (.int 303 0), (.str "/claim/cut.py" 769)], #[]⟩
noncomputable def ob441 : Params → Obj := fun _ => ⟨(.type "function"), none, .func ⟨"remove_edge", "Graph.remove_edge", fpar [15, 23], fbody [15, 23], fscope [15, 23], 3, [], .none, .none, .none, (.str "networkx.classes.graph" 533), none, (.ref 446), .none, 0⟩, #[]⟩
noncomputable def ob442 : Params → Obj := fun _ => ⟨(.type "tuple"), none, .seq #[] 0, #[]⟩
noncomputable def ob443 : Params → Obj := fun _ => ⟨.none, none, .fields #[], #[]⟩
noncomputable def ob444 : Params → Obj := fun _ => ⟨(.type "tuple"), none, .seq #[(.str "self" 774), (.str "ebunch" 775)] 0, #[]⟩
noncomputable def ob445 : Params → Obj := fun _ => ⟨(.type "tuple"), none, .seq #[] 0, #[]⟩
noncomputable def ob446 : Params → Obj := fun _ => ⟨.none, none, .func ⟨"remove_edges_from", "Graph.remove_edges_from", fpar [15, 24], fbody [15, 24], fscope [15, 24], 0, [], .none, .none, .none, .none, none, .none, .none, 0⟩, #[]⟩
noncomputable def ob447 : Params → Obj := fun _ => ⟨(.type "code"), none, .fields #[(.str "remove_edges_from" 771), (.str "Graph.remove_edges_from" 772), (.str "/claim/cut.py" 773), (.int 306 0), (.int 2 0), (.int 0 0), (.int 0 0), (.int 3 0), (.ref 448), (.bool true), (.int 181 0), (.ref 449), .none, (.ref 450), (.ref 451), (.ref 452), (.int 776 0), (.int 306 0), (.str "/claim/cut.py" 777)], #[]⟩
noncomputable def ob448 : Params → Obj := fun _ => ⟨(.type "function"), none, .func ⟨"remove_edges_from", "Graph.remove_edges_from", fpar [15, 24], fbody [15, 24], fscope [15, 24], 3, [], .none, .none, .none, (.str "networkx.classes.graph" 533), none, (.ref 453), .none, 0⟩, #[]⟩
noncomputable def ob449 : Params → Obj := fun _ => ⟨(.type "tuple"), none, .seq #[] 0, #[]⟩
noncomputable def ob450 : Params → Obj := fun _ => ⟨.none, none, .fields #[], #[]⟩
noncomputable def ob451 : Params → Obj := fun _ => ⟨(.type "tuple"), none, .seq #[(.str "self" 782), (.str "u" 783), (.str "v" 784)] 0, #[]⟩
noncomputable def ob452 : Params → Obj := fun _ => ⟨(.type "tuple"), none, .seq #[] 0, #[]⟩
noncomputable def ob453 : Params → Obj := fun _ => ⟨.none, none, .func ⟨"has_edge", "Graph.has_edge", fpar [15, 25], fbody [15, 25], fscope [15, 25], 0, [], .none, .none, .none, .none, none, .none, .none, 0⟩, #[]⟩
noncomputable def ob454 : Params → Obj := fun _ => ⟨(.type "code"), none, .fields #[(.str "has_edge" 779), (.str "Graph.has_edge" 780), (.str "/claim/cut.py" 781), (.int 309 0), (.int 3 0), (.int 0 0), (.int 0 0), (.int 3 0), (.ref 455), (.bool true), (.int 181 0), (.ref 456), .none, (.ref 457), (.ref 458), (.ref 459), (.int 785 0), (.int 309 0), (.str "/claim/cut.py" 786)], #[]⟩
noncomputable def ob455 : Params → Obj := fun _ => ⟨(.type "function"), none, .func ⟨"has_edge", "Graph.has_edge", fpar [15, 25], fbody [15, 25], fscope [15, 25], 3, [], .none, .none, .none, (.str "networkx.classes.graph" 533), none, (.ref 460), .none, 0⟩, #[]⟩
noncomputable def ob456 : Params → Obj := fun _ => ⟨(.type "tuple"), none, .seq #[] 0, #[]⟩
noncomputable def ob457 : Params → Obj := fun _ => ⟨.none, none, .fields #[], #[]⟩
noncomputable def ob458 : Params → Obj := fun _ => ⟨(.type "tuple"), none, .seq #[(.str "self" 791), (.str "n" 792), (.str "err" 793)] 0, #[]⟩
noncomputable def ob459 : Params → Obj := fun _ => ⟨(.type "tuple"), none, .seq #[] 0, #[]⟩
noncomputable def ob460 : Params → Obj := fun _ => ⟨.none, none, .func ⟨"neighbors", "Graph.neighbors", fpar [15, 26], fbody [15, 26], fscope [15, 26], 0, [], .none, .none, .none, .none, none, .none, .none, 0⟩, #[]⟩
noncomputable def ob461 : Params → Obj := fun _ => ⟨(.type "code"), none, .fields #[(.str "neighbors" 788), (.str "Graph.neighbors" 789), (.str "/claim/cut.py" 790), (.int 312 0), (.int 2 0), (.int 0 0), (.int 0 0), (.int 3 0), (.ref 462), (.bool true), (.int 181 0), (.ref 463), .none, (.ref 464), (.ref 465), (.ref 466), (.int 794 0), (.int 312 0), (.str "/claim/cut.py" 795)], #[]⟩
noncomputable def ob462 : Params → Obj := fun _ => ⟨(.type "function"), none, .func ⟨"neighbors", "Graph.neighbors", fpar [15, 26], fbody [15, 26], fscope [15, 26], 3, [], .none, .none, .none, (.str "networkx.classes.graph" 533), none, (.ref 467), .none, 0⟩, #[]⟩
noncomputable def ob463 : Params → Obj := fun _ => ⟨(.type "tuple"), none, .seq #[] 0, #[]⟩
noncomputable def ob464 : Params → Obj := fun _ => ⟨.none, none, .fields #[], #[]⟩
noncomputable def ob465 : Params → Obj := fun _ => ⟨(.type "tuple"), none, .seq #[(.str "self" 800)] 0, #[]⟩
noncomputable def ob466 : Params → Obj := fun _ => ⟨(.type "tuple"), none, .seq #[] 0, #[]⟩
noncomputable def ob467 : Params → Obj := fun _ => ⟨.none, none, .func ⟨"edges", "Graph.edges", fpar [15, 27], fbody [15, 27], fscope [15, 27], 0, [], .none, .none, .none, .none, none, .none, .none, 0⟩, #[]⟩
noncomputable def ob468 : Params → Obj := fun _ => ⟨(.type "code"), none, .fields #[(.str "edges" 797), (.str "Graph.edges" 798), (.str "/claim/cut.py" 799), (.int 318 0), (.int 1 0), (.int 0 0), (.int 0 0), (.int 3 0), (.ref 469), (.bool true), (.int 181 0), (.ref 470), .none, (.ref 471), (.ref 472), (.ref 473), (.int 801 0), (.int 318 0), (.str "/claim/cut.py" 802)], #[]⟩
noncomputable def ob469 : Params → Obj := fun _ => ⟨(.type "function"), none, .func ⟨"edges", "Graph.edges", fpar [15, 27], fbody [15, 27], fscope [15, 27], 3, [], .none, .none, .none, (.str "networkx.classes.graph" 533), none, (.ref 474), .none, 0⟩, #[]⟩
noncomputable def ob470 : Params → Obj := fun P => ⟨(.type "dict"), none, .dict #[⟨PyData.keyHash P "func", (.str "func" 806), (.ref 475)⟩, ⟨PyData.keyHash P "attrname", (.str "attrname" 808), (.str "edges" 815)⟩, ⟨PyData.keyHash P "__doc__", (.str "__doc__" 811), .none⟩, ⟨PyData.keyHash P "__module__", (.str "__module__" 814), (.str "networkx.classes.graph" 533)⟩] 4, #[]⟩
noncomputable def ob471 : Params → Obj := fun _ => ⟨(.ref 260), (some 476), .plain, #[]⟩
noncomputable def ob472 : Params → Obj := fun P => ⟨(.type "frame"), none, .dict #[⟨PyData.keyHash P "self", (.str "self" 803), (.ref 477)⟩, ⟨PyData.keyHash P "func", (.str "func" 804), (.ref 475)⟩] 2, #[]⟩
noncomputable def ob473 : Params → Obj := fun _ => ⟨(.type "tuple"), none, .seq #[.none] 0, #[]⟩
noncomputable def ob474 : Params → Obj := fun _ => ⟨(.type "tuple"), none, .seq #[] 0, #[]⟩
noncomputable def ob475 : Params → Obj := fun _ => ⟨.none, none, .fields #[], #[]⟩
noncomputable def ob476 : Params → Obj := fun _ => ⟨(.type "tuple"), none, .seq #[(.str "self" 819), (.str "u" 820), (.str "v" 821), (.str "default" 822)] 0, #[]⟩
noncomputable def ob477 : Params → Obj := fun _ => ⟨(.type "tuple"), none, .seq #[] 0, #[]⟩
noncomputable def ob478 : Params → Obj := fun _ => ⟨.none, none, .func ⟨"get_edge_data", "Graph.get_edge_data", fpar [15, 28], fbody [15, 28], fscope [15, 28], 0, [], .none, .none, .none, .none, none, .none, .none, 0⟩, #[]⟩
noncomputable def ob479 : Params → Obj := fun _ => ⟨(.type "code"), none, .fields #[(.str "get_edge_data" 816), (.str "Graph.get_edge_data" 817), (.str "/claim/cut.py" 818), (.int 322 0), (.int 4 0), (.int 0 0), (.int 0 0), (.int 3 0), (.ref 480), (.bool true), (.int 181 0), (.ref 481), .none, (.ref 482), (.ref 483), (.ref 484), (.int 823 0), (.int 322 0), (.str "/claim/cut.py" 824)], #[]⟩
noncomputable def ob480 : Params → Obj := fun _ => ⟨(.type "function"), none, .func ⟨"get_edge_data", "Graph.get_edge_data", fpar [15, 28], fbody [15, 28], fscope [15, 28], 3, [], (.ref 479), .none, .none, (.str "networkx.classes.graph" 533), none, (.ref 485), .none, 0⟩, #[]⟩
noncomputable def ob481 : Params → Obj := fun _ => ⟨(.type "tuple"), none, .seq #[] 0, #[]⟩
noncomputable def ob482 : Params → Obj := fun _ => ⟨.none, none, .fields #[], #[]⟩
noncomputable def ob483 : Params → Obj := fun _ => ⟨(.type "tuple"), none, .seq #[(.str "self" 829)] 0, #[]⟩
noncomputable def ob484 : Params → Obj := fun _ => ⟨(.type "tuple"), none, .seq #[] 0, #[]⟩
noncomputable def ob485 : Params → Obj := fun _ => ⟨.none, none, .func ⟨"adjacency", "Graph.adjacency", fpar [15, 29], fbody [15, 29], fscope [15, 29], 0, [], .none, .none, .none, .none, none, .none, .none, 0⟩, #[]⟩
noncomputable def ob486 : Params → Obj := fun _ => ⟨(.type "code"), none, .fields #[(.str "adjacency" 826), (.str "Graph.adjacency" 827), (.str "/claim/cut.py" 828), (.int 325 0), (.int 1 0), (.int 0 0), (.int 0 0), (.int 3 0), (.ref 487), (.bool true), (.int 181 0), (.ref 488), .none, (.ref 489), (.ref 490), (.ref 491), (.int 830 0), (.int 325 0), (.str "/claim/cut.py" 831)], #[]⟩
noncomputable def ob487 : Params → Obj := fun _ => ⟨(.type "function"), none, .func ⟨"adjacency", "Graph.adjacency", fpar [15, 29], fbody [15, 29], fscope [15, 29], 3, [], .none, .none, .none, (.str "networkx.classes.graph" 533), none, (.ref 492), .none, 0⟩, #[]⟩
noncomputable def ob488 : Params → Obj := fun _ => ⟨(.type "tuple"), none, .seq #[] 0, #[]⟩
noncomputable def ob489 : Params → Obj := fun _ => ⟨.none, none, .fields #[], #[]⟩
noncomputable def ob490 : Params → Obj := fun _ => ⟨(.type "tuple"), none, .seq #[(.str "self" 836)] 0, #[]⟩
noncomputable def ob491 : Params → Obj := fun _ => ⟨(.type "tuple"), none, .seq #[] 0, #[]⟩
noncomputable def ob492 : Params → Obj := fun _ => ⟨.none, none, .func ⟨"degree", "Graph.degree", fpar [15, 30], fbody [15, 30], fscope [15, 30], 0, [], .none, .none, .none, .none, none, .none, .none, 0⟩, #[]⟩
noncomputable def ob493 : Params → Obj := fun _ => ⟨(.type "code"), none, .fields #[(.str "degree" 833), (.str "Graph.degree" 834), (.str "/claim/cut.py" 835), (.int 328 0), (.int 1 0), (.int 0 0), (.int 0 0), (.int 3 0), (.ref 494), (.bool true), (.int 181 0), (.ref 495), .none, (.ref 496), (.ref 497), (.ref 498), (.int 837 0), (.int 328 0), (.str "/claim/cut.py" 838)], #[]⟩
noncomputable def ob494 : Params → Obj := fun _ => ⟨(.type "function"), none, .func ⟨"degree", "Graph.degree", fpar [15, 30], fbody [15, 30], fscope [15, 30], 3, [], .none, .none, .none, (.str "networkx.classes.graph" 533), none, (.ref 499), .none, 0⟩, #[]⟩
noncomputable def ob495 : Params → Obj := fun P => ⟨(.type "dict"), none, .dict #[⟨PyData.keyHash P "func", (.str "func" 842), (.ref 500)⟩, ⟨PyData.keyHash P "attrname", (.str "attrname" 844), (.str "degree" 851)⟩, ⟨PyData.keyHash P "__doc__", (.str "__doc__" 847), .none⟩, ⟨PyData.keyHash P "__module__", (.str "__module__" 850), (.str "networkx.classes.graph" 533)⟩] 4, #[]⟩
noncomputable def ob496 : Params → Obj := fun _ => ⟨(.ref 260), (some 501), .plain, #[]⟩
noncomputable def ob497 : Params → Obj := fun P => ⟨(.type "frame"), none, .dict #[⟨PyData.keyHash P "self", (.str "self" 839), (.ref 502)⟩, ⟨PyData.keyHash P "func", (.str "func" 840), (.ref 500)⟩] 2, #[]⟩
noncomputable def ob498 : Params → Obj := fun _ => ⟨(.type "tuple"), none, .seq #[] 0, #[]⟩
noncomputable def ob499 : Params → Obj := fun _ => ⟨.none, none, .fields #[], #[]⟩
noncomputable def ob500 : Params → Obj := fun _ => ⟨(.type "tuple"), none, .seq #[(.str "self" 855)] 0, #[]⟩
noncomputable def ob501 : Params → Obj := fun _ => ⟨(.type "tuple"), none, .seq #[] 0, #[]⟩
noncomputable def ob502 : Params → Obj := fun _ => ⟨.none, none, .func ⟨"clear", "Graph.clear", fpar [15, 31], fbody [15, 31], fscope [15, 31], 0, [], .none, .none, .none, .none, none, .none, .none, 0⟩, #[]⟩
noncomputable def ob503 : Params → Obj := fun _ => ⟨(.type "code"), none, .fields #[(.str "clear" 852), (.str "Graph.clear" 853), (.str "/claim/cut.py" 854), (.int 332 0), (.int 1 0), (.int 0 0), (.int 0 0), (.int 3 0), (.ref 504), (.bool true), (.int 181 0), (.ref 505), .none, (.ref 506), (.ref 507), (.ref 508), (.int 856 0), (.int 332 0), (.str "/claim/cut.py" 857)], #[]⟩
noncomputable def ob504 : Params → Obj := fun _ => ⟨(.type "function"), none, .func ⟨"clear", "Graph.clear", fpar [15, 31], fbody [15, 31], fscope [15, 31], 3, [], .none, .none, .none, (.str "networkx.classes.graph" 533), none, (.ref 509), .none, 0⟩, #[]⟩
noncomputable def ob505 : Params → Obj := fun _ => ⟨(.type "tuple"), none, .seq #[] 0, #[]⟩
noncomputable def ob506 : Params → Obj := fun _ => ⟨.none, none, .fields #[], #[]⟩
noncomputable def ob507 : Params → Obj := fun _ => ⟨(.type "tuple"), none, .seq #[(.str "self" 862)] 0, #[]⟩
noncomputable def ob508 : Params → Obj := fun _ => ⟨(.type "tuple"), none, .seq #[] 0, #[]⟩
noncomputable def ob509 : Params → Obj := fun _ => ⟨.none, none, .func ⟨"clear_edges", "Graph.clear_edges", fpar [15, 32], fbody [15, 32], fscope [15, 32], 0, [], .none, .none, .none, .none, none, .none, .none, 0⟩, #[]⟩
noncomputable def ob510 : Params → Obj := fun _ => ⟨(.type "code"), none, .fields #[(.str "clear_edges" 859), (.str "Graph.clear_edges" 860), (.str "/claim/cut.py" 861), (.int 335 0), (.int 1 0), (.int 0 0), (.int 0 0), (.int 3 0), (.ref 511), (.bool true), (.int 181 0), (.ref 512), .none, (.ref 513), (.ref 514), (.ref 515), (.int 863 0), (.int 335 0), (.str "/claim/cut.py" 864)], #[]⟩
noncomputable def ob511 : Params → Obj := fun _ => ⟨(.type "function"), none, .func ⟨"clear_edges", "Graph.clear_edges", fpar [15, 32], fbody [15, 32], fscope [15, 32], 3, [], .none, .none, .none, (.str "networkx.classes.graph" 533), none, (.ref 516), .none, 0⟩, #[]⟩
noncomputable def ob512 : Params → Obj := fun _ => ⟨(.type "tuple"), none, .seq #[] 0, #[]⟩
noncomputable def ob513 : Params → Obj := fun _ => ⟨.none, none, .fields #[], #[]⟩
noncomputable def ob514 : Params → Obj := fun _ => ⟨(.type "tuple"), none, .seq #[(.str "self" 869)] 0, #[]⟩
noncomputable def ob515 : Params → Obj := fun _ => ⟨(.type "tuple"), none, .seq #[] 0, #[]⟩
noncomputable def ob516 : Params → Obj := fun _ => ⟨.none, none, .func ⟨"is_multigraph", "Graph.is_multigraph", fpar [15, 33], fbody [15, 33], fscope [15, 33], 0, [], .none, .none, .none, .none, none, .none, .none, 0⟩, #[]⟩
noncomputable def ob517 : Params → Obj := fun _ => ⟨(.type "code"), none, .fields #[(.str "is_multigraph" 866), (.str "Graph.is_multigraph" 867), (.str "/claim/cut.py" 868), (.int 338 0), (.int 1 0), (.int 0 0), (.int 0 0), (.int 3 0), (.ref 518), (.bool true), (.int 181 0), (.ref 519), .none, (.ref 520), (.ref 521), (.ref 522), (.int 870 0), (.int 338 0), (.str "/claim/cut.py" 871)], #[]⟩
noncomputable def ob518 : Params → Obj := fun _ => ⟨(.type "function"), none, .func ⟨"is_multigraph", "Graph.is_multigraph", fpar [15, 33], fbody [15, 33], fscope [15, 33], 3, [], .none, .none, .none, (.str "networkx.classes.graph" 533), none, (.ref 523), .none, 0⟩, #[]⟩
noncomputable def ob519 : Params → Obj := fun _ => ⟨(.type "tuple"), none, .seq #[] 0, #[]⟩
noncomputable def ob520 : Params → Obj := fun _ => ⟨.none, none, .fields #[], #[]⟩
noncomputable def ob521 : Params → Obj := fun _ => ⟨(.type "tuple"), none, .seq #[(.str "self" 876)] 0, #[]⟩
noncomputable def ob522 : Params → Obj := fun _ => ⟨(.type "tuple"), none, .seq #[] 0, #[]⟩
noncomputable def ob523 : Params → Obj := fun _ => ⟨.none, none, .func ⟨"is_directed", "Graph.is_directed", fpar [15, 34], fbody [15, 34], fscope [15, 34], 0, [], .none, .none, .none, .none, none, .none, .none, 0⟩, #[]⟩
noncomputable def ob524 : Params → Obj := fun _ => ⟨(.type "code"), none, .fields #[(.str "is_directed" 873), (.str "Graph.is_directed" 874), (.str "/claim/cut.py" 875), (.int 341 0), (.int 1 0), (.int 0 0), (.int 0 0), (.int 3 0), (.ref 525), (.bool true), (.int 181 0), (.ref 526), .none, (.ref 527), (.ref 528), (.ref 529), (.int 877 0), (.int 341 0), (.str "/claim/cut.py" 878)], #[]⟩
noncomputable def ob525 : Params → Obj := fun _ => ⟨(.type "function"), none, .func ⟨"is_directed", "Graph.is_directed", fpar [15, 34], fbody [15, 34], fscope [15, 34], 3, [], .none, .none, .none, (.str "networkx.classes.graph" 533), none, (.ref 530), .none, 0⟩, #[]⟩
noncomputable def ob526 : Params → Obj := fun _ => ⟨(.type "tuple"), none, .seq #[(.bool false)] 0, #[]⟩
noncomputable def ob527 : Params → Obj := fun _ => ⟨(.type "tuple"), none, .seq #[] 0, #[]⟩
noncomputable def ob528 : Params → Obj := fun _ => ⟨.none, none, .fields #[], #[]⟩
noncomputable def ob529 : Params → Obj := fun _ => ⟨(.type "tuple"), none, .seq #[(.str "self" 883), (.str "as_view" 884), (.str "G" 885)] 0, #[]⟩
noncomputable def ob530 : Params → Obj := fun _ => ⟨(.type "tuple"), none, .seq #[] 0, #[]⟩
noncomputable def ob531 : Params → Obj := fun _ => ⟨.none, none, .func ⟨"copy", "Graph.copy", fpar [15, 35], fbody [15, 35], fscope [15, 35], 0, [], .none, .none, .none, .none, none, .none, .none, 0⟩, #[]⟩
noncomputable def ob532 : Params → Obj := fun _ => ⟨(.type "code"), none, .fields #[(.str "copy" 880), (.str "Graph.copy" 881), (.str "/claim/cut.py" 882), (.int 344 0), (.int 2 0), (.int 0 0), (.int 0 0), (.int 3 0), (.ref 533), (.bool true), (.int 181 0), (.ref 534), .none, (.ref 535), (.ref 536), (.ref 537), (.int 886 0), (.int 344 0), (.str "/claim/cut.py" 887)], #[]⟩
noncomputable def ob533 : Params → Obj := fun _ => ⟨(.type "function"), none, .func ⟨"copy", "Graph.copy", fpar [15, 35], fbody [15, 35], fscope [15, 35], 3, [], (.ref 532), .none, .none, (.str "networkx.classes.graph" 533), none, (.ref 538), .none, 0⟩, #[]⟩
noncomputable def ob534 : Params → Obj := fun _ => ⟨(.type "tuple"), none, .seq #[.none] 0, #[]⟩
noncomputable def ob535 : Params → Obj := fun _ => ⟨(.type "tuple"), none, .seq #[] 0, #[]⟩
noncomputable def ob536 : Params → Obj := fun _ => ⟨.none, none, .fields #[], #[]⟩
noncomputable def ob537 : Params → Obj := fun _ => ⟨(.type "tuple"), none, .seq #[(.str "self" 892), (.str "weight" 893)] 0, #[]⟩
noncomputable def ob538 : Params → Obj := fun _ => ⟨(.type "tuple"), none, .seq #[] 0, #[]⟩
noncomputable def ob539 : Params → Obj := fun _ => ⟨.none, none, .func ⟨"size", "Graph.size", fpar [15, 36], fbody [15, 36], fscope [15, 36], 0, [], .none, .none, .none, .none, none, .none, .none, 0⟩, #[]⟩
noncomputable def ob540 : Params → Obj := fun _ => ⟨(.type "code"), none, .fields #[(.str "size" 889), (.str "Graph.size" 890), (.str "/claim/cut.py" 891), (.int 351 0), (.int 2 0), (.int 0 0), (.int 0 0), (.int 3 0), (.ref 541), (.bool true), (.int 181 0), (.ref 542), .none, (.ref 543), (.ref 544), (.ref 545), (.int 894 0), (.int 351 0), (.str "/claim/cut.py" 895)], #[]⟩
noncomputable def ob541 : Params → Obj := fun _ => ⟨(.type "function"), none, .func ⟨"size", "Graph.size", fpar [15, 36], fbody [15, 36], fscope [15, 36], 3, [], (.ref 540), .none, .none, (.str "networkx.classes.graph" 533), none, (.ref 546), .none, 0⟩, #[]⟩
noncomputable def ob542 : Params → Obj := fun _ => ⟨(.type "tuple"), none, .seq #[.none, .none] 0, #[]⟩
noncomputable def ob543 : Params → Obj := fun _ => ⟨(.type "tuple"), none, .seq #[] 0, #[]⟩
noncomputable def ob544 : Params → Obj := fun _ => ⟨.none, none, .fields #[], #[]⟩
noncomputable def ob545 : Params → Obj := fun _ => ⟨(.type "tuple"), none, .seq #[(.str "self" 900), (.str "u" 901), (.str "v" 902)] 0, #[]⟩
noncomputable def ob546 : Params → Obj := fun _ => ⟨(.type "tuple"), none, .seq #[] 0, #[]⟩
noncomputable def ob547 : Params → Obj := fun _ => ⟨.none, none, .func ⟨"number_of_edges", "Graph.number_of_edges", fpar [15, 37], fbody [15, 37], fscope [15, 37], 0, [], .none, .none, .none, .none, none, .none, .none, 0⟩, #[]⟩
noncomputable def ob548 : Params → Obj := fun _ => ⟨(.type "code"), none, .fields #[(.str "number_of_edges" 897), (.str "Graph.number_of_edges" 898), (.str "/claim/cut.py" 899), (.int 354 0), (.int 3 0), (.int 0 0), (.int 0 0), (.int 3 0), (.ref 549), (.bool true), (.int 181 0), (.ref 550), .none, (.ref 551), (.ref 552), (.ref 553), (.int 903 0), (.int 354 0), (.str "/claim/cut.py" 904)], #[]⟩
noncomputable def ob549 : Params → Obj := fun _ => ⟨(.type "function"), none, .func ⟨"number_of_edges", "Graph.number_of_edges", fpar [15, 37], fbody [15, 37], fscope [15, 37], 3, [], (.ref 548), .none, .none, (.str "networkx.classes.graph" 533), none, (.ref 554), .none, 0⟩, #[]⟩
noncomputable def ob550 : Params → Obj := fun _ => ⟨(.type "tuple"), none, .seq #[(.str "_adj" 906), (.str "_node" 907), (.str "graph" 908)] 0, #[]⟩
noncomputable def ob551 : Params → Obj := fun P => ⟨(.type "dict"), none, .dict #[⟨PyData.keyHash P "__module__", (.str "__module__" 542), (.str "networkx.classes.graph" 533)⟩, ⟨PyData.keyHash P "__firstlineno__", (.str "__firstlineno__" 546), (.int 165 545)⟩, ⟨PyData.keyHash P "node_dict_factory", (.str "node_dict_factory" 553), (.ref 279)⟩, ⟨PyData.keyHash P "node_attr_dict_factory", (.str "node_attr_dict_factory" 560), (.ref 286)⟩, ⟨PyData.keyHash P "adjlist_outer_dict_factory", (.str "adjlist_outer_dict_factory" 567), (.ref 293)⟩, ⟨PyData.keyHash P "adjlist_inner_dict_factory", (.str "adjlist_inner_dict_factory" 574), (.ref 300)⟩, ⟨PyData.keyHash P "edge_attr_dict_factory", (.str "edge_attr_dict_factory" 581), (.ref 307)⟩, ⟨PyData.keyHash P "graph_attr_dict_factory", (.str "graph_attr_dict_factory" 588), (.ref 314)⟩, ⟨PyData.keyHash P "fresh", (.str "fresh" 595), (.ref 321)⟩, ⟨PyData.keyHash P "__init__", (.str "__init__" 604), (.ref 329)⟩, ⟨PyData.keyHash P "adj", (.str "adj" 623), (.ref 338)⟩, ⟨PyData.keyHash P "__iter__", (.str "__iter__" 630), (.ref 346)⟩, ⟨PyData.keyHash P "__contains__", (.str "__contains__" 638), (.ref 353)⟩, ⟨PyData.keyHash P "__len__", (.str "__len__" 645), (.ref 360)⟩, ⟨PyData.keyHash P "__getitem__", (.str "__getitem__" 653), (.ref 367)⟩, ⟨PyData.keyHash P "add_node", (.str "add_node" 663), (.ref 374)⟩, ⟨PyData.keyHash P "add_nodes_from", (.str "add_nodes_from" 676), (.ref 381)⟩, ⟨PyData.keyHash P "remove_node", (.str "remove_node" 684), (.ref 388)⟩, ⟨PyData.keyHash P "remove_nodes_from", (.str "remove_nodes_from" 692), (.ref 395)⟩, ⟨PyData.keyHash P "nodes", (.str "nodes" 711), (.ref 404)⟩, ⟨PyData.keyHash P "number_of_nodes", (.str "number_of_nodes" 718), (.ref 412)⟩, ⟨PyData.keyHash P "order", (.str "order" 725), (.ref 419)⟩, ⟨PyData.keyHash P "has_node", (.str "has_node" 733), (.ref 426)⟩, ⟨PyData.keyHash P "add_edge", (.str "add_edge" 746), (.ref 433)⟩, ⟨PyData.keyHash P "add_edges_from", (.str "add_edges_from" 761), (.ref 440)⟩, ⟨PyData.keyHash P "remove_edge", (.str "remove_edge" 770), (.ref 447)⟩, ⟨PyData.keyHash P "remove_edges_from", (.str "remove_edges_from" 778), (.ref 454)⟩, ⟨PyData.keyHash P "has_edge", (.str "has_edge" 787), (.ref 461)⟩, ⟨PyData.keyHash P "neighbors", (.str "neighbors" 796), (.ref 468)⟩, ⟨PyData.keyHash P "edges", (.str "edges" 815), (.ref 477)⟩, ⟨PyData.keyHash P "get_edge_data", (.str "get_edge_data" 825), (.ref 486)⟩, ⟨PyData.keyHash P "adjacency", (.str "adjacency" 832), (.ref 493)⟩, ⟨PyData.keyHash P "degree", (.str "degree" 851), (.ref 502)⟩, ⟨PyData.keyHash P "clear", (.str "clear" 858), (.ref 510)⟩, ⟨PyData.keyHash P "clear_edges", (.str "clear_edges" 865), (.ref 517)⟩, ⟨PyData.keyHash P "is_multigraph", (.str "is_multigraph" 872), (.ref 524)⟩, ⟨PyData.keyHash P "is_directed", (.str "is_directed" 879), (.ref 531)⟩, ⟨PyData.keyHash P "copy", (.str "copy" 888), (.ref 539)⟩, ⟨PyData.keyHash P "size", (.str "size" 896), (.ref 547)⟩, ⟨PyData.keyHash P "number_of_edges", (.str "number_of_edges" 905), (.ref 555)⟩, ⟨PyData.keyHash P "__static_attributes__", (.str "__static_attributes__" 909), (.ref 556)⟩, ⟨PyData.keyHash P "__dict__", (.str "__dict__" 911), (.ref 559)⟩, ⟨PyData.keyHash P "__weakref__", (.str "__weakref__" 913), (.ref 560)⟩, ⟨PyData.keyHash P "__doc__", (.str "__doc__" 914), .none⟩] 4, #[]⟩
noncomputable def ob552 : Params → Obj := fun _ => ⟨(.type "type"), none, .cls ⟨"Graph", [(.type "object")], [(.ref 558), (.type "object")], 557, "Graph", true, [], [], false, none, false⟩, #[none, none, (some (.str "Graph" 535)), (some (.str "Graph" 543)), (some (.builtin "object.__new__")), (some (.bool true))]⟩
noncomputable def ob553 : Params → Obj := fun _ => ⟨(.type "getset_descriptor"), none, .fields #[(.str "__dict__" 910), (.ref 558), (.builtin "function.__dict__"), (.builtin "function.__dict__#set")], #[]⟩
noncomputable def ob554 : Params → Obj := fun _ => ⟨(.type "getset_descriptor"), none, .fields #[(.str "__weakref__" 912), (.ref 558), (.builtin "ExceptionGroup.__weakref__"), .none], #[]⟩
noncomputable def ob555 : Params → Obj := fun P => ⟨(.type "frame"), none, .dict #[⟨PyData.keyHash P "self", (.str "self" 915), (.ref 338)⟩, ⟨PyData.keyHash P "owner", (.str "owner" 916), (.ref 558)⟩, ⟨PyData.keyHash P "name", (.str "name" 917), (.str "adj" 623)⟩] 3, #[]⟩
noncomputable def ob556 : Params → Obj := fun P => ⟨(.type "frame"), none, .dict #[⟨PyData.keyHash P "self", (.str "self" 921), (.ref 404)⟩, ⟨PyData.keyHash P "owner", (.str "owner" 922), (.ref 558)⟩, ⟨PyData.keyHash P "name", (.str "name" 923), (.str "nodes" 711)⟩] 3, #[]⟩
noncomputable def ob557 : Params → Obj := fun P => ⟨(.type "frame"), none, .dict #[⟨PyData.keyHash P "self", (.str "self" 927), (.ref 477)⟩, ⟨PyData.keyHash P "owner", (.str "owner" 928), (.ref 558)⟩, ⟨PyData.keyHash P "name", (.str "name" 929), (.str "edges" 815)⟩] 3, #[]⟩
noncomputable def ob558 : Params → Obj := fun P => ⟨(.type "frame"), none, .dict #[⟨PyData.keyHash P "self", (.str "self" 933), (.ref 502)⟩, ⟨PyData.keyHash P "owner", (.str "owner" 934), (.ref 558)⟩, ⟨PyData.keyHash P "name", (.str "name" 935), (.str "degree" 851)⟩] 3, #[]⟩
noncomputable def ob559 : Params → Obj := fun _ => ⟨(.type "super"), none, .fields #[(.ref 558), (.ref 558), (.ref 558)], #[]⟩
noncomputable def ob560 : Params → Obj := fun _ => ⟨(.type "builtin_function_or_method"), none, .fields #[(.builtin "object.__init_subclass__"), (.ref 558)], #[]⟩
noncomputable def tree2 : Params → BT := fun P => (.node (boot_o_0 P) (.node (boot_o_1 P) (.node (ob258 P) (.node (boot_o_7 P) (.node (ob7 P) (.node (ob23 P) (.node (ob55 P) (.node (ob119 P) (.node (ob247 P) (.node (ob505 P) .nil .nil) .nil) (.node (ob377 P) .nil .nil)) (.node (ob183 P) (.node (ob313 P) .nil .nil) (.node (ob441 P) .nil .nil))) (.node (ob87 P) (.node (ob151 P) (.node (ob281 P) (.node (ob537 P) .nil .nil) .nil) (.node (ob409 P) .nil .nil)) (.node (ob215 P) (.node (ob345 P) .nil .nil) (.node (ob473 P) .nil .nil)))) (.node (ob39 P) (.node (ob71 P) (.node (ob135 P) (.node (ob265 P) (.node (ob521 P) .nil .nil) .nil) (.node (ob393 P) .nil .nil)) (.node (ob199 P) (.node (ob329 P) .nil .nil) (.node (ob457 P) .nil .nil))) (.node (ob103 P) (.node (ob167 P) (.node (ob297 P) (.node (ob553 P) .nil .nil) .nil) (.node (ob425 P) .nil .nil)) (.node (ob231 P) (.node (ob361 P) .nil .nil) (.node (ob489 P) .nil .nil))))) (.node (ob15 P) (.node (ob31 P) (.node (ob63 P) (.node (ob127 P) (.node (ob255 P) (.node (ob513 P) .nil .nil) .nil) (.node (ob385 P) .nil .nil)) (.node (ob191 P) (.node (ob321 P) .nil .nil) (.node (ob449 P) .nil .nil))) (.node (ob95 P) (.node (ob159 P) (.node (ob289 P) (.node (ob545 P) .nil .nil) .nil) (.node (ob417 P) .nil .nil)) (.node (ob223 P) (.node (ob353 P) .nil .nil) (.node (ob481 P) .nil .nil)))) (.node (ob47 P) (.node (ob79 P) (.node (ob143 P) (.node (ob273 P) (.node (ob529 P) .nil .nil) .nil) (.node (ob401 P) .nil .nil)) (.node (ob207 P) (.node (ob337 P) .nil .nil) (.node (ob465 P) .nil .nil))) (.node (ob111 P) (.node (ob175 P) (.node (ob305 P) .nil .nil) (.node (ob433 P) .nil .nil)) (.node (ob239 P) (.node (ob369 P) .nil .nil) (.node (ob497 P) .nil .nil)))))) (.node (ob0 P) (.node (ob11 P) (.node (ob27 P) (.node (ob59 P) (.node (ob123 P) (.node (ob251 P) (.node (ob509 P) .nil .nil) .nil) (.node (ob381 P) .nil .nil)) (.node (ob187 P) (.node (ob317 P) .nil .nil) (.node (ob445 P) .nil .nil))) (.node (ob91 P) (.node (ob155 P) (.node (ob285 P) (.node (ob541 P) .nil .nil) .nil) (.node (ob413 P) .nil .nil)) (.node (ob219 P) (.node (ob349 P) .nil .nil) (.node (ob477 P) .nil .nil)))) (.node (ob43 P) (.node (ob75 P) (.node (ob139 P) (.node (ob269 P) (.node (ob525 P) .nil .nil) .nil) (.node (ob397 P) .nil .nil)) (.node (ob203 P) (.node (ob333 P) .nil .nil) (.node (ob461 P) .nil .nil))) (.node (ob107 P) (.node (ob171 P) (.node (ob301 P) (.node (ob557 P) .nil .nil) .nil) (.node (ob429 P) .nil .nil)) (.node (ob235 P) (.node (ob365 P) .nil .nil) (.node (ob493 P) .nil .nil))))) (.node (ob19 P) (.node (ob35 P) (.node (ob67 P) (.node (ob131 P) (.node (ob261 P) (.node (ob517 P) .nil .nil) .nil) (.node (ob389 P) .nil .nil)) (.node (ob195 P) (.node (ob325 P) .nil .nil) (.node (ob453 P) .nil .nil))) (.node (ob99 P) (.node (ob163 P) (.node (ob293 P) (.node (ob549 P) .nil .nil) .nil) (.node (ob421 P) .nil .nil)) (.node (ob227 P) (.node (ob357 P) .nil .nil) (.node (ob485 P) .nil .nil)))) (.node (ob51 P) (.node (ob83 P) (.node (ob147 P) (.node (ob277 P) (.node (ob533 P) .nil .nil) .nil) (.node (ob405 P) .nil .nil)) (.node (ob211 P) (.node (ob341 P) .nil .nil) (.node (ob469 P) .nil .nil))) (.node (ob115 P) (.node (ob179 P) (.node (ob309 P) .nil .nil) (.node (ob437 P) .nil .nil)) (.node (ob243 P) (.node (ob373 P) .nil .nil) (.node (ob501 P) .nil .nil))))))) (.node (boot_o_5 P) (.node (boot_o_9 P) (.node (ob9 P) (.node (ob25 P) (.node (ob57 P) (.node (ob121 P) (.node (ob249 P) (.node (ob507 P) .nil .nil) .nil) (.node (ob379 P) .nil .nil)) (.node (ob185 P) (.node (ob315 P) .nil .nil) (.node (ob443 P) .nil .nil))) (.node (ob89 P) (.node (ob153 P) (.node (ob283 P) (.node (ob539 P) .nil .nil) .nil) (.node (ob411 P) .nil .nil)) (.node (ob217 P) (.node (ob347 P) .nil .nil) (.node (ob475 P) .nil .nil)))) (.node (ob41 P) (.node (ob73 P) (.node (ob137 P) (.node (ob267 P) (.node (ob523 P) .nil .nil) .nil) (.node (ob395 P) .nil .nil)) (.node (ob201 P) (.node (ob331 P) .nil .nil) (.node (ob459 P) .nil .nil))) (.node (ob105 P) (.node (ob169 P) (.node (ob299 P) (.node (ob555 P) .nil .nil) .nil) (.node (ob427 P) .nil .nil)) (.node (ob233 P) (.node (ob363 P) .nil .nil) (.node (ob491 P) .nil .nil))))) (.node (ob17 P) (.node (ob33 P) (.node (ob65 P) (.node (ob129 P) (.node (ob257 P) (.node (ob515 P) .nil .nil) .nil) (.node (ob387 P) .nil .nil)) (.node (ob193 P) (.node (ob323 P) .nil .nil) (.node (ob451 P) .nil .nil))) (.node (ob97 P) (.node (ob161 P) (.node (ob291 P) (.node (ob547 P) .nil .nil) .nil) (.node (ob419 P) .nil .nil)) (.node (ob225 P) (.node (ob355 P) .nil .nil) (.node (ob483 P) .nil .nil)))) (.node (ob49 P) (.node (ob81 P) (.node (ob145 P) (.node (ob275 P) (.node (ob531 P) .nil .nil) .nil) (.node (ob403 P) .nil .nil)) (.node (ob209 P) (.node (ob339 P) .nil .nil) (.node (ob467 P) .nil .nil))) (.node (ob113 P) (.node (ob177 P) (.node (ob307 P) .nil .nil) (.node (ob435 P) .nil .nil)) (.node (ob241 P) (.node (ob371 P) .nil .nil) (.node (ob499 P) .nil .nil)))))) (.node (ob2 P) (.node (ob13 P) (.node (ob29 P) (.node (ob61 P) (.node (ob125 P) (.node (ob253 P) (.node (ob511 P) .nil .nil) .nil) (.node (ob383 P) .nil .nil)) (.node (ob189 P) (.node (ob319 P) .nil .nil) (.node (ob447 P) .nil .nil))) (.node (ob93 P) (.node (ob157 P) (.node (ob287 P) (.node (ob543 P) .nil .nil) .nil) (.node (ob415 P) .nil .nil)) (.node (ob221 P) (.node (ob351 P) .nil .nil) (.node (ob479 P) .nil .nil)))) (.node (ob45 P) (.node (ob77 P) (.node (ob141 P) (.node (ob271 P) (.node (ob527 P) .nil .nil) .nil) (.node (ob399 P) .nil .nil)) (.node (ob205 P) (.node (ob335 P) .nil .nil) (.node (ob463 P) .nil .nil))) (.node (ob109 P) (.node (ob173 P) (.node (ob303 P) (.node (ob559 P) .nil .nil) .nil) (.node (ob431 P) .nil .nil)) (.node (ob237 P) (.node (ob367 P) .nil .nil) (.node (ob495 P) .nil .nil))))) (.node (ob21 P) (.node (ob37 P) (.node (ob69 P) (.node (ob133 P) (.node (ob263 P) (.node (ob519 P) .nil .nil) .nil) (.node (ob391 P) .nil .nil)) (.node (ob197 P) (.node (ob327 P) .nil .nil) (.node (ob455 P) .nil .nil))) (.node (ob101 P) (.node (ob165 P) (.node (ob295 P) (.node (ob551 P) .nil .nil) .nil) (.node (ob423 P) .nil .nil)) (.node (ob229 P) (.node (ob359 P) .nil .nil) (.node (ob487 P) .nil .nil)))) (.node (ob53 P) (.node (ob85 P) (.node (ob149 P) (.node (ob279 P) (.node (ob535 P) .nil .nil) .nil) (.node (ob407 P) .nil .nil)) (.node (ob213 P) (.node (ob343 P) .nil .nil) (.node (ob471 P) .nil .nil))) (.node (ob117 P) (.node (ob181 P) (.node (ob311 P) .nil .nil) (.node (ob439 P) .nil .nil)) (.node (ob245 P) (.node (ob375 P) .nil .nil) (.node (ob503 P) .nil .nil)))))))) (.node (ob4 P) (.node (boot_o_4 P) (.node (boot_o_8 P) (.node (ob8 P) (.node (ob24 P) (.node (ob56 P) (.node (ob120 P) (.node (ob248 P) (.node (ob506 P) .nil .nil) .nil) (.node (ob378 P) .nil .nil)) (.node (ob184 P) (.node (ob314 P) .nil .nil) (.node (ob442 P) .nil .nil))) (.node (ob88 P) (.node (ob152 P) (.node (ob282 P) (.node (ob538 P) .nil .nil) .nil) (.node (ob410 P) .nil .nil)) (.node (ob216 P) (.node (ob346 P) .nil .nil) (.node (ob474 P) .nil .nil)))) (.node (ob40 P) (.node (ob72 P) (.node (ob136 P) (.node (ob266 P) (.node (ob522 P) .nil .nil) .nil) (.node (ob394 P) .nil .nil)) (.node (ob200 P) (.node (ob330 P) .nil .nil) (.node (ob458 P) .nil .nil))) (.node (ob104 P) (.node (ob168 P) (.node (ob298 P) (.node (ob554 P) .nil .nil) .nil) (.node (ob426 P) .nil .nil)) (.node (ob232 P) (.node (ob362 P) .nil .nil) (.node (ob490 P) .nil .nil))))) (.node (ob16 P) (.node (ob32 P) (.node (ob64 P) (.node (ob128 P) (.node (ob256 P) (.node (ob514 P) .nil .nil) .nil) (.node (ob386 P) .nil .nil)) (.node (ob192 P) (.node (ob322 P) .nil .nil) (.node (ob450 P) .nil .nil))) (.node (ob96 P) (.node (ob160 P) (.node (ob290 P) (.node (ob546 P) .nil .nil) .nil) (.node (ob418 P) .nil .nil)) (.node (ob224 P) (.node (ob354 P) .nil .nil) (.node (ob482 P) .nil .nil)))) (.node (ob48 P) (.node (ob80 P) (.node (ob144 P) (.node (ob274 P) (.node (ob530 P) .nil .nil) .nil) (.node (ob402 P) .nil .nil)) (.node (ob208 P) (.node (ob338 P) .nil .nil) (.node (ob466 P) .nil .nil))) (.node (ob112 P) (.node (ob176 P) (.node (ob306 P) .nil .nil) (.node (ob434 P) .nil .nil)) (.node (ob240 P) (.node (ob370 P) .nil .nil) (.node (ob498 P) .nil .nil)))))) (.node (ob259 P) (.node (ob12 P) (.node (ob28 P) (.node (ob60 P) (.node (ob124 P) (.node (ob252 P) (.node (ob510 P) .nil .nil) .nil) (.node (ob382 P) .nil .nil)) (.node (ob188 P) (.node (ob318 P) .nil .nil) (.node (ob446 P) .nil .nil))) (.node (ob92 P) (.node (ob156 P) (.node (ob286 P) (.node (ob542 P) .nil .nil) .nil) (.node (ob414 P) .nil .nil)) (.node (ob220 P) (.node (ob350 P) .nil .nil) (.node (ob478 P) .nil .nil)))) (.node (ob44 P) (.node (ob76 P) (.node (ob140 P) (.node (ob270 P) (.node (ob526 P) .nil .nil) .nil) (.node (ob398 P) .nil .nil)) (.node (ob204 P) (.node (ob334 P) .nil .nil) (.node (ob462 P) .nil .nil))) (.node (ob108 P) (.node (ob172 P) (.node (ob302 P) (.node (ob558 P) .nil .nil) .nil) (.node (ob430 P) .nil .nil)) (.node (ob236 P) (.node (ob366 P) .nil .nil) (.node (ob494 P) .nil .nil))))) (.node (ob20 P) (.node (ob36 P) (.node (ob68 P) (.node (ob132 P) (.node (ob262 P) (.node (ob518 P) .nil .nil) .nil) (.node (ob390 P) .nil .nil)) (.node (ob196 P) (.node (ob326 P) .nil .nil) (.node (ob454 P) .nil .nil))) (.node (ob100 P) (.node (ob164 P) (.node (ob294 P) (.node (ob550 P) .nil .nil) .nil) (.node (ob422 P) .nil .nil)) (.node (ob228 P) (.node (ob358 P) .nil .nil) (.node (ob486 P) .nil .nil)))) (.node (ob52 P) (.node (ob84 P) (.node (ob148 P) (.node (ob278 P) (.node (ob534 P) .nil .nil) .nil) (.node (ob406 P) .nil .nil)) (.node (ob212 P) (.node (ob342 P) .nil .nil) (.node (ob470 P) .nil .nil))) (.node (ob116 P) (.node (ob180 P) (.node (ob310 P) .nil .nil) (.node (ob438 P) .nil .nil)) (.node (ob244 P) (.node (ob374 P) .nil .nil) (.node (ob502 P) .nil .nil))))))) (.node (boot_o_6 P) (.node (boot_o_10 P) (.node (ob10 P) (.node (ob26 P) (.node (ob58 P) (.node (ob122 P) (.node (ob250 P) (.node (ob508 P) .nil .nil) .nil) (.node (ob380 P) .nil .nil)) (.node (ob186 P) (.node (ob316 P) .nil .nil) (.node (ob444 P) .nil .nil))) (.node (ob90 P) (.node (ob154 P) (.node (ob284 P) (.node (ob540 P) .nil .nil) .nil) (.node (ob412 P) .nil .nil)) (.node (ob218 P) (.node (ob348 P) .nil .nil) (.node (ob476 P) .nil .nil)))) (.node (ob42 P) (.node (ob74 P) (.node (ob138 P) (.node (ob268 P) (.node (ob524 P) .nil .nil) .nil) (.node (ob396 P) .nil .nil)) (.node (ob202 P) (.node (ob332 P) .nil .nil) (.node (ob460 P) .nil .nil))) (.node (ob106 P) (.node (ob170 P) (.node (ob300 P) (.node (ob556 P) .nil .nil) .nil) (.node (ob428 P) .nil .nil)) (.node (ob234 P) (.node (ob364 P) .nil .nil) (.node (ob492 P) .nil .nil))))) (.node (ob18 P) (.node (ob34 P) (.node (ob66 P) (.node (ob130 P) (.node (ob260 P) (.node (ob516 P) .nil .nil) .nil) (.node (ob388 P) .nil .nil)) (.node (ob194 P) (.node (ob324 P) .nil .nil) (.node (ob452 P) .nil .nil))) (.node (ob98 P) (.node (ob162 P) (.node (ob292 P) (.node (ob548 P) .nil .nil) .nil) (.node (ob420 P) .nil .nil)) (.node (ob226 P) (.node (ob356 P) .nil .nil) (.node (ob484 P) .nil .nil)))) (.node (ob50 P) (.node (ob82 P) (.node (ob146 P) (.node (ob276 P) (.node (ob532 P) .nil .nil) .nil) (.node (ob404 P) .nil .nil)) (.node (ob210 P) (.node (ob340 P) .nil .nil) (.node (ob468 P) .nil .nil))) (.node (ob114 P) (.node (ob178 P) (.node (ob308 P) .nil .nil) (.node (ob436 P) .nil .nil)) (.node (ob242 P) (.node (ob372 P) .nil .nil) (.node (ob500 P) .nil .nil)))))) (.node (ob3 P) (.node (ob14 P) (.node (ob30 P) (.node (ob62 P) (.node (ob126 P) (.node (ob254 P) (.node (ob512 P) .nil .nil) .nil) (.node (ob384 P) .nil .nil)) (.node (ob190 P) (.node (ob320 P) .nil .nil) (.node (ob448 P) .nil .nil))) (.node (ob94 P) (.node (ob158 P) (.node (ob288 P) (.node (ob544 P) .nil .nil) .nil) (.node (ob416 P) .nil .nil)) (.node (ob222 P) (.node (ob352 P) .nil .nil) (.node (ob480 P) .nil .nil)))) (.node (ob46 P) (.node (ob78 P) (.node (ob142 P) (.node (ob272 P) (.node (ob528 P) .nil .nil) .nil) (.node (ob400 P) .nil .nil)) (.node (ob206 P) (.node (ob336 P) .nil .nil) (.node (ob464 P) .nil .nil))) (.node (ob110 P) (.node (ob174 P) (.node (ob304 P) (.node (ob560 P) .nil .nil) .nil) (.node (ob432 P) .nil .nil)) (.node (ob238 P) (.node (ob368 P) .nil .nil) (.node (ob496 P) .nil .nil))))) (.node (ob22 P) (.node (ob38 P) (.node (ob70 P) (.node (ob134 P) (.node (ob264 P) (.node (ob520 P) .nil .nil) .nil) (.node (ob392 P) .nil .nil)) (.node (ob198 P) (.node (ob328 P) .nil .nil) (.node (ob456 P) .nil .nil))) (.node (ob102 P) (.node (ob166 P) (.node (ob296 P) (.node (ob552 P) .nil .nil) .nil) (.node (ob424 P) .nil .nil)) (.node (ob230 P) (.node (ob360 P) .nil .nil) (.node (ob488 P) .nil .nil)))) (.node (ob54 P) (.node (ob86 P) (.node (ob150 P) (.node (ob280 P) (.node (ob536 P) .nil .nil) .nil) (.node (ob408 P) .nil .nil)) (.node (ob214 P) (.node (ob344 P) .nil .nil) (.node (ob472 P) .nil .nil))) (.node (ob118 P) (.node (ob182 P) (.node (ob312 P) .nil .nil) (.node (ob440 P) .nil .nil)) (.node (ob246 P) (.node (ob376 P) .nil .nil) (.node (ob504 P) .nil .nil)))))))))
noncomputable def stT2 (w : World) (os : OsState) : SharedT := ⟨tree2 w.params, 567, (boot_heap w.params).life, #[], boot_drawn, 941, os⟩
noncomputable def ob561 : Params → Obj := fun P => ⟨(.type "dict"), none, .dict #[⟨PyData.keyHash P "__name__", (.str "__name__" 165), (.str "networkx.classes.digraph" 941)⟩, ⟨PyData.keyHash P "__doc__", (.str "__doc__" 166), .none⟩, ⟨PyData.keyHash P "__package__", (.str "__package__" 167), .none⟩, ⟨PyData.keyHash P "__loader__", (.str "__loader__" 168), (.builtin "__main__.__loader__#opaque")⟩, ⟨PyData.keyHash P "__spec__", (.str "__spec__" 169), .none⟩, ⟨PyData.keyHash P "__annotations__", (.str "__annotations__" 170), (.ref 6)⟩, ⟨PyData.keyHash P "__builtins__", (.str "__builtins__" 171), (.ref 4)⟩, ⟨PyData.keyHash P "__file__", (.str "__file__" 173), (.str "/claim/cut.py" 172)⟩, ⟨PyData.keyHash P "__cached__", (.str "__cached__" 174), .none⟩, ⟨PyData.keyHash P "_wall", (.str "_wall" 193), (.ref 21)⟩, ⟨PyData.keyHash P "dfs_postorder_nodes", (.str "dfs_postorder_nodes" 207), (.ref 30)⟩, ⟨PyData.keyHash P "dfs_labeled_edges", (.str "dfs_labeled_edges" 229), (.ref 39)⟩, ⟨PyData.keyHash P "NodeView", (.str "NodeView" 299), (.ref 94)⟩, ⟨PyData.keyHash P "OutEdgeView", (.str "OutEdgeView" 383), (.ref 158)⟩, ⟨PyData.keyHash P "EdgeView", (.str "EdgeView" 428), (.ref 193)⟩, ⟨PyData.keyHash P "NetworkXException", (.str "NetworkXException" 450), (.ref 205)⟩, ⟨PyData.keyHash P "NetworkXError", (.str "NetworkXError" 466), (.ref 218)⟩, ⟨PyData.keyHash P "_NOT_FOUND", (.str "_NOT_FOUND" 469), (.ref 221)⟩, ⟨PyData.keyHash P "cached_property", (.str "cached_property" 532), (.ref 260)⟩, ⟨PyData.keyHash P "Graph", (.str "Graph" 940), (.ref 558)⟩, ⟨PyData.keyHash P "DiGraph", (.str "DiGraph" 1303), (.ref 773)⟩] 21, #[]⟩
noncomputable def ob562 : Params → Obj := fun _ => ⟨.none, none, .fields #[(.int 1 0), (.int 0 0), (.ref 20), (.int 5 0), (.int 0 0), (.ref 29), (.int 8 0), (.int 0 0), (.ref 38), (.int 45 0), (.int 0 0), (.ref 45), (.int 66 0), (.int 0 0), (.ref 103), (.int 99 0), (.int 0 0), (.ref 168), (.int 120 0), (.int 0 0), (.ref 201), (.int 122 0), (.int 0 0), (.ref 214), (.int 126 0), (.int 0 0), (.ref 227), (.int 165 0), (.int 0 0), (.ref 271), (.int 357 0), (.int 0 0), (.ref 572)], #[]⟩
noncomputable def ob563 : Params → Obj := fun _ => ⟨(.type "type"), none, .cls ⟨"Graph", [(.type "object")], [(.ref 558), (.type "object")], 557, "Graph", true, [], [(.ref 773)], false, none, false⟩, #[none, none, (some (.str "Graph" 535)), (some (.str "Graph" 543)), (some (.builtin "object.__new__")), (some (.bool true))]⟩
noncomputable def ob564 : Params → Obj := fun _ => ⟨(.type "tuple"), none, .seq #[(.ref 558)] 0, #[]⟩
noncomputable def ob565 : Params → Obj := fun _ => ⟨(.type "builtin_function_or_method"), none, .fields #[(.builtin "type.__prepare__"), (.type "type")], #[]⟩
noncomputable def ob566 : Params → Obj := fun P => ⟨(.type "dict"), none, .dict #[⟨PyData.keyHash P "__module__", (.str "__module__" 950), (.str "networkx.classes.digraph" 941)⟩, ⟨PyData.keyHash P "__qualname__", (.str "__qualname__" 952), (.str "DiGraph" 951)⟩, ⟨PyData.keyHash P "__firstlineno__", (.str "__firstlineno__" 954), (.int 357 953)⟩, ⟨PyData.keyHash P "fresh", (.str "fresh" 961), (.ref 580)⟩, ⟨PyData.keyHash P "__init__", (.str "__init__" 970), (.ref 588)⟩, ⟨PyData.keyHash P "adj", (.str "adj" 989), (.ref 597)⟩, ⟨PyData.keyHash P "succ", (.str "succ" 1008), (.ref 607)⟩, ⟨PyData.keyHash P "pred", (.str "pred" 1027), (.ref 617)⟩, ⟨PyData.keyHash P "add_node", (.str "add_node" 1037), (.ref 625)⟩, ⟨PyData.keyHash P "add_nodes_from", (.str "add_nodes_from" 1050), (.ref 632)⟩, ⟨PyData.keyHash P "remove_node", (.str "remove_node" 1058), (.ref 639)⟩, ⟨PyData.keyHash P "remove_nodes_from", (.str "remove_nodes_from" 1066), (.ref 646)⟩, ⟨PyData.keyHash P "add_edge", (.str "add_edge" 1079), (.ref 653)⟩, ⟨PyData.keyHash P "add_edges_from", (.str "add_edges_from" 1094), (.ref 660)⟩, ⟨PyData.keyHash P "remove_edge", (.str "remove_edge" 1103), (.ref 667)⟩, ⟨PyData.keyHash P "remove_edges_from", (.str "remove_edges_from" 1111), (.ref 674)⟩, ⟨PyData.keyHash P "has_successor", (.str "has_successor" 1120), (.ref 681)⟩, ⟨PyData.keyHash P "has_predecessor", (.str "has_predecessor" 1129), (.ref 688)⟩, ⟨PyData.keyHash P "successors", (.str "successors" 1138), (.ref 695)⟩, ⟨PyData.keyHash P "neighbors", (.str "neighbors" 1139), (.ref 695)⟩, ⟨PyData.keyHash P "predecessors", (.str "predecessors" 1148), (.ref 702)⟩, ⟨PyData.keyHash P "edges", (.str "edges" 1167), (.ref 711)⟩, ⟨PyData.keyHash P "degree", (.str "degree" 1186), (.ref 721)⟩, ⟨PyData.keyHash P "in_degree", (.str "in_degree" 1205), (.ref 731)⟩, ⟨PyData.keyHash P "out_degree", (.str "out_degree" 1224), (.ref 741)⟩, ⟨PyData.keyHash P "clear", (.str "clear" 1231), (.ref 749)⟩, ⟨PyData.keyHash P "clear_edges", (.str "clear_edges" 1238), (.ref 756)⟩, ⟨PyData.keyHash P "is_multigraph", (.str "is_multigraph" 1245), (.ref 763)⟩, ⟨PyData.keyHash P "is_directed", (.str "is_directed" 1252), (.ref 770)⟩, ⟨PyData.keyHash P "__static_attributes__", (.str "__static_attributes__" 1258), (.ref 771)⟩] 30, #[]⟩
noncomputable def ob567 : Params → Obj := fun _ => ⟨(.type "tuple"), none, .seq #[] 0, #[]⟩
noncomputable def ob568 : Params → Obj := fun _ => ⟨.none, none, .fields #[(.int 359 0), (.int 4 0), (.ref 579), (.int 362 0), (.int 4 0), (.ref 587), (.int 372 0), (.int 4 0), (.ref 594), (.int 376 0), (.int 4 0), (.ref 604), (.int 380 0), (.int 4 0), (.ref 614), (.int 383 0), (.int 4 0), (.ref 624), (.int 394 0), (.int 4 0), (.ref 631), (.int 412 0), (.int 4 0), (.ref 638), (.int 415 0), (.int 4 0), (.ref 645), (.int 418 0), (.int 4 0), (.ref 652), (.int 437 0), (.int 4 0), (.ref 659), (.int 465 0), (.int 4 0), (.ref 666), (.int 468 0), (.int 4 0), (.ref 673), (.int 471 0), (.int 4 0), (.ref 680), (.int 474 0), (.int 4 0), (.ref 687), (.int 477 0), (.int 4 0), (.ref 694), (.int 484 0), (.int 4 0), (.ref 701), (.int 491 0), (.int 4 0), (.ref 708), (.int 495 0), (.int 4 0), (.ref 718), (.int 499 0), (.int 4 0), (.ref 728), (.int 503 0), (.int 4 0), (.ref 738), (.int 506 0), (.int 4 0), (.ref 748), (.int 509 0), (.int 4 0), (.ref 755), (.int 512 0), (.int 4 0), (.ref 762), (.int 515 0), (.int 4 0), (.ref 769)], #[]⟩
noncomputable def ob569 : Params → Obj := fun _ => ⟨(.type "code"), none, .fields #[(.str "DiGraph" 945), (.str "DiGraph" 946), (.str "/claim/cut.py" 947), (.int 357 0), (.int 0 0), (.int 0 0), (.int 0 0), (.int 0 0), (.ref 570), (.bool false), (.int 181 0), (.ref 571), .none, .none, .none, .none, (.int 948 0), (.int 357 0), (.str "/claim/cut.py" 949)], #[]⟩
noncomputable def ob570 : Params → Obj := fun _ => ⟨(.type "frame"), none, .plain, #[(some (.ref 572)), (some (.ref 3)), (some (.ref 569)), none, (some (.str "networkx.classes.digraph" 941)), none, (some (.ref 0))]⟩
noncomputable def ob571 : Params → Obj := fun _ => ⟨(.type "tuple"), none, .seq #[] 0, #[]⟩
noncomputable def ob572 : Params → Obj := fun _ => ⟨.none, none, .fields #[], #[]⟩
noncomputable def ob573 : Params → Obj := fun _ => ⟨(.type "tuple"), none, .seq #[(.str "self" 958)] 0, #[]⟩
noncomputable def ob574 : Params → Obj := fun _ => ⟨(.type "tuple"), none, .seq #[] 0, #[]⟩
noncomputable def ob575 : Params → Obj := fun _ => ⟨.none, none, .func ⟨"fresh", "DiGraph.fresh", fpar [17, 0], fbody [17, 0], fscope [17, 0], 0, [], .none, .none, .none, .none, none, .none, .none, 0⟩, #[]⟩
noncomputable def ob576 : Params → Obj := fun _ => ⟨(.type "code"), none, .fields #[(.str "fresh" 955), (.str "DiGraph.fresh" 956), (.str "/claim/cut.py" 957), (.int 359 0), (.int 1 0), (.int 0 0), (.int 0 0), (.int 3 0), (.ref 574), (.bool true), (.int 181 0), (.ref 575), .none, (.ref 576), (.ref 577), (.ref 578), (.int 959 0), (.int 359 0), (.str "/claim/cut.py" 960)], #[]⟩
noncomputable def ob577 : Params → Obj := fun _ => ⟨(.type "function"), none, .func ⟨"fresh", "DiGraph.fresh", fpar [17, 0], fbody [17, 0], fscope [17, 0], 3, [], .none, .none, .none, (.str "networkx.classes.digraph" 941), none, (.ref 579), .none, 0⟩, #[]⟩
noncomputable def ob578 : Params → Obj := fun _ => ⟨(.type "tuple"), none, .seq #[.none] 0, #[]⟩
noncomputable def ob579 : Params → Obj := fun _ => ⟨(.type "tuple"), none, .seq #[] 0, #[]⟩
noncomputable def ob580 : Params → Obj := fun _ => ⟨.none, none, .fields #[], #[]⟩
noncomputable def ob581 : Params → Obj := fun _ => ⟨(.type "tuple"), none, .seq #[(.str "self" 965), (.str "incoming_graph_data" 966), (.str "attr" 967)] 0, #[]⟩
noncomputable def ob582 : Params → Obj := fun _ => ⟨(.type "tuple"), none, .seq #[] 0, #[]⟩
noncomputable def ob583 : Params → Obj := fun _ => ⟨.none, none, .func ⟨"__init__", "DiGraph.__init__", fpar [17, 1], fbody [17, 1], fscope [17, 1], 0, [], .none, .none, .none, .none, none, .none, .none, 0⟩, #[]⟩
noncomputable def ob584 : Params → Obj := fun _ => ⟨(.type "code"), none, .fields #[(.str "__init__" 962), (.str "DiGraph.__init__" 963), (.str "/claim/cut.py" 964), (.int 362 0), (.int 2 0), (.int 0 0), (.int 0 0), (.int 11 0), (.ref 582), (.bool true), (.int 181 0), (.ref 583), .none, (.ref 584), (.ref 585), (.ref 586), (.int 968 0), (.int 362 0), (.str "/claim/cut.py" 969)], #[]⟩
noncomputable def ob585 : Params → Obj := fun _ => ⟨(.type "function"), none, .func ⟨"__init__", "DiGraph.__init__", fpar [17, 1], fbody [17, 1], fscope [17, 1], 3, [], (.ref 581), .none, .none, (.str "networkx.classes.digraph" 941), none, (.ref 587), .none, 0⟩, #[]⟩
noncomputable def ob586 : Params → Obj := fun _ => ⟨(.type "tuple"), none, .seq #[] 0, #[]⟩
noncomputable def ob587 : Params → Obj := fun _ => ⟨.none, none, .fields #[], #[]⟩
noncomputable def ob588 : Params → Obj := fun _ => ⟨(.type "tuple"), none, .seq #[(.str "self" 974)] 0, #[]⟩
noncomputable def ob589 : Params → Obj := fun _ => ⟨(.type "tuple"), none, .seq #[] 0, #[]⟩
noncomputable def ob590 : Params → Obj := fun _ => ⟨.none, none, .func ⟨"adj", "DiGraph.adj", fpar [17, 2], fbody [17, 2], fscope [17, 2], 0, [], .none, .none, .none, .none, none, .none, .none, 0⟩, #[]⟩
noncomputable def ob591 : Params → Obj := fun _ => ⟨(.type "code"), none, .fields #[(.str "adj" 971), (.str "DiGraph.adj" 972), (.str "/claim/cut.py" 973), (.int 371 0), (.int 1 0), (.int 0 0), (.int 0 0), (.int 3 0), (.ref 589), (.bool true), (.int 181 0), (.ref 590), .none, (.ref 591), (.ref 592), (.ref 593), (.int 975 0), (.int 371 0), (.str "/claim/cut.py" 976)], #[]⟩
noncomputable def ob592 : Params → Obj := fun _ => ⟨(.type "function"), none, .func ⟨"adj", "DiGraph.adj", fpar [17, 2], fbody [17, 2], fscope [17, 2], 3, [], .none, .none, .none, (.str "networkx.classes.digraph" 941), none, (.ref 594), .none, 0⟩, #[]⟩
noncomputable def ob593 : Params → Obj := fun P => ⟨(.type "dict"), none, .dict #[⟨PyData.keyHash P "func", (.str "func" 980), (.ref 595)⟩, ⟨PyData.keyHash P "attrname", (.str "attrname" 982), (.str "adj" 989)⟩, ⟨PyData.keyHash P "__doc__", (.str "__doc__" 985), .none⟩, ⟨PyData.keyHash P "__module__", (.str "__module__" 988), (.str "networkx.classes.digraph" 941)⟩] 4, #[]⟩
noncomputable def ob594 : Params → Obj := fun _ => ⟨(.ref 260), (some 596), .plain, #[]⟩
noncomputable def ob595 : Params → Obj := fun P => ⟨(.type "frame"), none, .dict #[⟨PyData.keyHash P "self", (.str "self" 977), (.ref 597)⟩, ⟨PyData.keyHash P "func", (.str "func" 978), (.ref 595)⟩] 2, #[]⟩
noncomputable def ob596 : Params → Obj := fun _ => ⟨(.type "tuple"), none, .seq #[] 0, #[]⟩
noncomputable def ob597 : Params → Obj := fun _ => ⟨.none, none, .fields #[], #[]⟩
noncomputable def ob598 : Params → Obj := fun _ => ⟨(.type "tuple"), none, .seq #[(.str "self" 993)] 0, #[]⟩
noncomputable def ob599 : Params → Obj := fun _ => ⟨(.type "tuple"), none, .seq #[] 0, #[]⟩
noncomputable def ob600 : Params → Obj := fun _ => ⟨.none, none, .func ⟨"succ", "DiGraph.succ", fpar [17, 3], fbody [17, 3], fscope [17, 3], 0, [], .none, .none, .none, .none, none, .none, .none, 0⟩, #[]⟩
noncomputable def ob601 : Params → Obj := fun _ => ⟨(.type "code"), none, .fields #[(.str "succ" 990), (.str "DiGraph.succ" 991), (.str "/claim/cut.py" 992), (.int 375 0), (.int 1 0), (.int 0 0), (.int 0 0), (.int 3 0), (.ref 599), (.bool true), (.int 181 0), (.ref 600), .none, (.ref 601), (.ref 602), (.ref 603), (.int 994 0), (.int 375 0), (.str "/claim/cut.py" 995)], #[]⟩
noncomputable def ob602 : Params → Obj := fun _ => ⟨(.type "function"), none, .func ⟨"succ", "DiGraph.succ", fpar [17, 3], fbody [17, 3], fscope [17, 3], 3, [], .none, .none, .none, (.str "networkx.classes.digraph" 941), none, (.ref 604), .none, 0⟩, #[]⟩
noncomputable def ob603 : Params → Obj := fun P => ⟨(.type "dict"), none, .dict #[⟨PyData.keyHash P "func", (.str "func" 999), (.ref 605)⟩, ⟨PyData.keyHash P "attrname", (.str "attrname" 1001), (.str "succ" 1008)⟩, ⟨PyData.keyHash P "__doc__", (.str "__doc__" 1004), .none⟩, ⟨PyData.keyHash P "__module__", (.str "__module__" 1007), (.str "networkx.classes.digraph" 941)⟩] 4, #[]⟩
noncomputable def ob604 : Params → Obj := fun _ => ⟨(.ref 260), (some 606), .plain, #[]⟩
noncomputable def ob605 : Params → Obj := fun P => ⟨(.type "frame"), none, .dict #[⟨PyData.keyHash P "self", (.str "self" 996), (.ref 607)⟩, ⟨PyData.keyHash P "func", (.str "func" 997), (.ref 605)⟩] 2, #[]⟩
noncomputable def ob606 : Params → Obj := fun _ => ⟨(.type "tuple"), none, .seq #[] 0, #[]⟩
noncomputable def ob607 : Params → Obj := fun _ => ⟨.none, none, .fields #[], #[]⟩
noncomputable def ob608 : Params → Obj := fun _ => ⟨(.type "tuple"), none, .seq #[(.str "self" 1012)] 0, #[]⟩
noncomputable def ob609 : Params → Obj := fun _ => ⟨(.type "tuple"), none, .seq #[] 0, #[]⟩
noncomputable def ob610 : Params → Obj := fun _ => ⟨.none, none, .func ⟨"pred", "DiGraph.pred", fpar [17, 4], fbody [17, 4], fscope [17, 4], 0, [], .none, .none, .none, .none, none, .none, .none, 0⟩, #[]⟩
noncomputable def ob611 : Params → Obj := fun _ => ⟨(.type "code"), none, .fields #[(.str "pred" 1009), (.str "DiGraph.pred" 1010), (.str "/claim/cut.py" 1011), (.int 379 0), (.int 1 0), (.int 0 0), (.int 0 0), (.int 3 0), (.ref 609), (.bool true), (.int 181 0), (.ref 610), .none, (.ref 611), (.ref 612), (.ref 613), (.int 1013 0), (.int 379 0), (.str "/claim/cut.py" 1014)], #[]⟩
noncomputable def ob612 : Params → Obj := fun _ => ⟨(.type "function"), none, .func ⟨"pred", "DiGraph.pred", fpar [17, 4], fbody [17, 4], fscope [17, 4], 3, [], .none, .none, .none, (.str "networkx.classes.digraph" 941), none, (.ref 614), .none, 0⟩, #[]⟩
noncomputable def ob613 : Params → Obj := fun P => ⟨(.type "dict"), none, .dict #[⟨PyData.keyHash P "func", (.str "func" 1018), (.ref 615)⟩, ⟨PyData.keyHash P "attrname", (.str "attrname" 1020), (.str "pred" 1027)⟩, ⟨PyData.keyHash P "__doc__", (.str "__doc__" 1023), .none⟩, ⟨PyData.keyHash P "__module__", (.str "__module__" 1026), (.str "networkx.classes.digraph" 941)⟩] 4, #[]⟩
noncomputable def ob614 : Params → Obj := fun _ => ⟨(.ref 260), (some 616), .plain, #[]⟩
noncomputable def ob615 : Params → Obj := fun P => ⟨(.type "frame"), none, .dict #[⟨PyData.keyHash P "self", (.str "self" 1015), (.ref 617)⟩, ⟨PyData.keyHash P "func", (.str "func" 1016), (.ref 615)⟩] 2, #[]⟩
noncomputable def ob616 : Params → Obj := fun _ => ⟨(.type "tuple"), none, .seq #[] 0, #[]⟩
noncomputable def ob617 : Params → Obj := fun _ => ⟨.none, none, .fields #[], #[]⟩
noncomputable def ob618 : Params → Obj := fun _ => ⟨(.type "tuple"), none, .seq #[(.str "self" 1031), (.str "node_for_adding" 1032), (.str "attr" 1033), (.str "attr_dict" 1034)] 0, #[]⟩
noncomputable def ob619 : Params → Obj := fun _ => ⟨(.type "tuple"), none, .seq #[] 0, #[]⟩
noncomputable def ob620 : Params → Obj := fun _ => ⟨.none, none, .func ⟨"add_node", "DiGraph.add_node", fpar [17, 5], fbody [17, 5], fscope [17, 5], 0, [], .none, .none, .none, .none, none, .none, .none, 0⟩, #[]⟩
noncomputable def ob621 : Params → Obj := fun _ => ⟨(.type "code"), none, .fields #[(.str "add_node" 1028), (.str "DiGraph.add_node" 1029), (.str "/claim/cut.py" 1030), (.int 383 0), (.int 2 0), (.int 0 0), (.int 0 0), (.int 11 0), (.ref 619), (.bool true), (.int 181 0), (.ref 620), .none, (.ref 621), (.ref 622), (.ref 623), (.int 1035 0), (.int 383 0), (.str "/claim/cut.py" 1036)], #[]⟩
noncomputable def ob622 : Params → Obj := fun _ => ⟨(.type "function"), none, .func ⟨"add_node", "DiGraph.add_node", fpar [17, 5], fbody [17, 5], fscope [17, 5], 3, [], .none, .none, .none, (.str "networkx.classes.digraph" 941), none, (.ref 624), .none, 0⟩, #[]⟩
noncomputable def ob623 : Params → Obj := fun _ => ⟨(.type "tuple"), none, .seq #[] 0, #[]⟩
noncomputable def ob624 : Params → Obj := fun _ => ⟨.none, none, .fields #[], #[]⟩
noncomputable def ob625 : Params → Obj := fun _ => ⟨(.type "tuple"), none, .seq #[(.str "self" 1041), (.str "nodes_for_adding" 1042), (.str "attr" 1043), (.str "n" 1044), (.str "newnode" 1045), (.str "newdict" 1046), (.str "ndict" 1047)] 0, #[]⟩
noncomputable def ob626 : Params → Obj := fun _ => ⟨(.type "tuple"), none, .seq #[] 0, #[]⟩
noncomputable def ob627 : Params → Obj := fun _ => ⟨.none, none, .func ⟨"add_nodes_from", "DiGraph.add_nodes_from", fpar [17, 6], fbody [17, 6], fscope [17, 6], 0, [], .none, .none, .none, .none, none, .none, .none, 0⟩, #[]⟩
noncomputable def ob628 : Params → Obj := fun _ => ⟨(.type "code"), none, .fields #[(.str "add_nodes_from" 1038), (.str "DiGraph.add_nodes_from" 1039), (.str "/claim/cut.py" 1040), (.int 394 0), (.int 2 0), (.int 0 0), (.int 0 0), (.int 11 0), (.ref 626), (.bool true), (.int 181 0), (.ref 627), .none, (.ref 628), (.ref 629), (.ref 630), (.int 1048 0), (.int 394 0), (.str "/claim/cut.py" 1049)], #[]⟩
noncomputable def ob629 : Params → Obj := fun _ => ⟨(.type "function"), none, .func ⟨"add_nodes_from", "DiGraph.add_nodes_from", fpar [17, 6], fbody [17, 6], fscope [17, 6], 3, [], .none, .none, .none, (.str "networkx.classes.digraph" 941), none, (.ref 631), .none, 0⟩, #[]⟩
noncomputable def ob630 : Params → Obj := fun _ => ⟨(.type "tuple"), none, .seq #[] 0, #[]⟩
noncomputable def ob631 : Params → Obj := fun _ => ⟨.none, none, .fields #[], #[]⟩
noncomputable def ob632 : Params → Obj := fun _ => ⟨(.type "tuple"), none, .seq #[(.str "self" 1054), (.str "n" 1055)] 0, #[]⟩
noncomputable def ob633 : Params → Obj := fun _ => ⟨(.type "tuple"), none, .seq #[] 0, #[]⟩
noncomputable def ob634 : Params → Obj := fun _ => ⟨.none, none, .func ⟨"remove_node", "DiGraph.remove_node", fpar [17, 7], fbody [17, 7], fscope [17, 7], 0, [], .none, .none, .none, .none, none, .none, .none, 0⟩, #[]⟩
noncomputable def ob635 : Params → Obj := fun _ => ⟨(.type "code"), none, .fields #[(.str "remove_node" 1051), (.str "DiGraph.remove_node" 1052), (.str "/claim/cut.py" 1053), (.int 412 0), (.int 2 0), (.int 0 0), (.int 0 0), (.int 3 0), (.ref 633), (.bool true), (.int 181 0), (.ref 634), .none, (.ref 635), (.ref 636), (.ref 637), (.int 1056 0), (.int 412 0), (.str "/claim/cut.py" 1057)], #[]⟩
noncomputable def ob636 : Params → Obj := fun _ => ⟨(.type "function"), none, .func ⟨"remove_node", "DiGraph.remove_node", fpar [17, 7], fbody [17, 7], fscope [17, 7], 3, [], .none, .none, .none, (.str "networkx.classes.digraph" 941), none, (.ref 638), .none, 0⟩, #[]⟩
noncomputable def ob637 : Params → Obj := fun _ => ⟨(.type "tuple"), none, .seq #[] 0, #[]⟩
noncomputable def ob638 : Params → Obj := fun _ => ⟨.none, none, .fields #[], #[]⟩
noncomputable def ob639 : Params → Obj := fun _ => ⟨(.type "tuple"), none, .seq #[(.str "self" 1062), (.str "nodes" 1063)] 0, #[]⟩
noncomputable def ob640 : Params → Obj := fun _ => ⟨(.type "tuple"), none, .seq #[] 0, #[]⟩
noncomputable def ob641 : Params → Obj := fun _ => ⟨.none, none, .func ⟨"remove_nodes_from", "DiGraph.remove_nodes_from", fpar [17, 8], fbody [17, 8], fscope [17, 8], 0, [], .none, .none, .none, .none, none, .none, .none, 0⟩, #[]⟩
noncomputable def ob642 : Params → Obj := fun _ => ⟨(.type "code"), none, .fields #[(.str "remove_nodes_from" 1059), (.str "DiGraph.remove_nodes_from" 1060), (.str "/claim/cut.py" 1061), (.int 415 0), (.int 2 0), (.int 0 0), (.int 0 0), (.int 3 0), (.ref 640), (.bool true), (.int 181 0), (.ref 641), .none, (.ref 642), (.ref 643), (.ref 644), (.int 1064 0), (.int 415 0), (.str "/claim/cut.py" 1065)], #[]⟩
noncomputable def ob643 : Params → Obj := fun _ => ⟨(.type "function"), none, .func ⟨"remove_nodes_from", "DiGraph.remove_nodes_from", fpar [17, 8], fbody [17, 8], fscope [17, 8], 3, [], .none, .none, .none, (.str "networkx.classes.digraph" 941), none, (.ref 645), .none, 0⟩, #[]⟩
noncomputable def ob644 : Params → Obj := fun _ => ⟨(.type "tuple"), none, .seq #[] 0, #[]⟩
noncomputable def ob645 : Params → Obj := fun _ => ⟨.none, none, .fields #[], #[]⟩
noncomputable def ob646 : Params → Obj := fun _ => ⟨(.type "tuple"), none, .seq #[(.str "self" 1070), (.str "u_of_edge" 1071), (.str "v_of_edge" 1072), (.str "attr" 1073), (.str "u" 1074), (.str "v" 1075), (.str "datadict" 1076)] 0, #[]⟩
noncomputable def ob647 : Params → Obj := fun _ => ⟨(.type "tuple"), none, .seq #[] 0, #[]⟩
noncomputable def ob648 : Params → Obj := fun _ => ⟨.none, none, .func ⟨"add_edge", "DiGraph.add_edge", fpar [17, 9], fbody [17, 9], fscope [17, 9], 0, [], .none, .none, .none, .none, none, .none, .none, 0⟩, #[]⟩
noncomputable def ob649 : Params → Obj := fun _ => ⟨(.type "code"), none, .fields #[(.str "add_edge" 1067), (.str "DiGraph.add_edge" 1068), (.str "/claim/cut.py" 1069), (.int 418 0), (.int 3 0), (.int 0 0), (.int 0 0), (.int 11 0), (.ref 647), (.bool true), (.int 181 0), (.ref 648), .none, (.ref 649), (.ref 650), (.ref 651), (.int 1077 0), (.int 418 0), (.str "/claim/cut.py" 1078)], #[]⟩
noncomputable def ob650 : Params → Obj := fun _ => ⟨(.type "function"), none, .func ⟨"add_edge", "DiGraph.add_edge", fpar [17, 9], fbody [17, 9], fscope [17, 9], 3, [], .none, .none, .none, (.str "networkx.classes.digraph" 941), none, (.ref 652), .none, 0⟩, #[]⟩
noncomputable def ob651 : Params → Obj := fun _ => ⟨(.type "tuple"), none, .seq #[] 0, #[]⟩
noncomputable def ob652 : Params → Obj := fun _ => ⟨.none, none, .fields #[], #[]⟩
noncomputable def ob653 : Params → Obj := fun _ => ⟨(.type "tuple"), none, .seq #[(.str "self" 1083), (.str "ebunch_to_add" 1084), (.str "attr" 1085), (.str "e" 1086), (.str "ne" 1087), (.str "u" 1088), (.str "v" 1089), (.str "dd" 1090), (.str "datadict" 1091)] 0, #[]⟩
noncomputable def ob654 : Params → Obj := fun _ => ⟨(.type "tuple"), none, .seq #[] 0, #[]⟩
noncomputable def ob655 : Params → Obj := fun _ => ⟨.none, none, .func ⟨"add_edges_from", "DiGraph.add_edges_from", fpar [17, 10], fbody [17, 10], fscope [17, 10], 0, [], .none, .none, .none, .none, none, .none, .none, 0⟩, #[]⟩
noncomputable def ob656 : Params → Obj := fun _ => ⟨(.type "code"), none, .fields #[(.str "add_edges_from" 1080), (.str "DiGraph.add_edges_from" 1081), (.str "/claim/cut.py" 1082), (.int 437 0), (.int 2 0), (.int 0 0), (.int 0 0), (.int 11 0), (.ref 654), (.bool true), (.int 181 0), (.ref 655), .none, (.ref 656), (.ref 657), (.ref 658), (.int 1092 0), (.int 437 0), (.str "/claim/cut.py" 1093)], #[]⟩
noncomputable def ob657 : Params → Obj := fun _ => ⟨(.type "function"), none, .func ⟨"add_edges_from", "DiGraph.add_edges_from", fpar [17, 10], fbody [17, 10], fscope [17, 10], 3, [], .none, .none, .none, (.str "networkx.classes.digraph" 941), none, (.ref 659), .none, 0⟩, #[]⟩
noncomputable def ob658 : Params → Obj := fun _ => ⟨(.type "tuple"), none, .seq #[] 0, #[]⟩
noncomputable def ob659 : Params → Obj := fun _ => ⟨.none, none, .fields #[], #[]⟩
noncomputable def ob660 : Params → Obj := fun _ => ⟨(.type "tuple"), none, .seq #[(.str "self" 1098), (.str "u" 1099), (.str "v" 1100)] 0, #[]⟩
noncomputable def ob661 : Params → Obj := fun _ => ⟨(.type "tuple"), none, .seq #[] 0, #[]⟩
noncomputable def ob662 : Params → Obj := fun _ => ⟨.none, none, .func ⟨"remove_edge", "DiGraph.remove_edge", fpar [17, 11], fbody [17, 11], fscope [17, 11], 0, [], .none, .none, .none, .none, none, .none, .none, 0⟩, #[]⟩
noncomputable def ob663 : Params → Obj := fun _ => ⟨(.type "code"), none, .fields #[(.str "remove_edge" 1095), (.str "DiGraph.remove_edge" 1096), (.str "/claim/cut.py" 1097), (.int 465 0), (.int 3 0), (.int 0 0), (.int 0 0), (.int 3 0), (.ref 661), (.bool true), (.int 181 0), (.ref 662), .none, (.ref 663), (.ref 664), (.ref 665), (.int 1101 0), (.int 465 0), (.str "/claim/cut.py" 1102)], #[]⟩
noncomputable def ob664 : Params → Obj := fun _ => ⟨(.type "function"), none, .func ⟨"remove_edge", "DiGraph.remove_edge", fpar [17, 11], fbody [17, 11], fscope [17, 11], 3, [], .none, .none, .none, (.str "networkx.classes.digraph" 941), none, (.ref 666), .none, 0⟩, #[]⟩
noncomputable def ob665 : Params → Obj := fun _ => ⟨(.type "tuple"), none, .seq #[] 0, #[]⟩
noncomputable def ob666 : Params → Obj := fun _ => ⟨.none, none, .fields #[], #[]⟩
noncomputable def ob667 : Params → Obj := fun _ => ⟨(.type "tuple"), none, .seq #[(.str "self" 1107), (.str "ebunch" 1108)] 0, #[]⟩
noncomputable def ob668 : Params → Obj := fun _ => ⟨(.type "tuple"), none, .seq #[] 0, #[]⟩
noncomputable def ob669 : Params → Obj := fun _ => ⟨.none, none, .func ⟨"remove_edges_from", "DiGraph.remove_edges_from", fpar [17, 12], fbody [17, 12], fscope [17, 12], 0, [], .none, .none, .none, .none, none, .none, .none, 0⟩, #[]⟩
noncomputable def ob670 : Params → Obj := fun _ => ⟨(.type "code"), none, .fields #[(.str "remove_edges_from" 1104), (.str "DiGraph.remove_edges_from" 1105), (.str "/claim/cut.py" 1106), (.int 468 0), (.int 2 0), (.int 0 0), (.int 0 0), (.int 3 0), (.ref 668), (.bool true), (.int 181 0), (.ref 669), .none, (.ref 670), (.ref 671), (.ref 672), (.int 1109 0), (.int 468 0), (.str "/claim/cut.py" 1110)], #[]⟩
noncomputable def ob671 : Params → Obj := fun _ => ⟨(.type "function"), none, .func ⟨"remove_edges_from", "DiGraph.remove_edges_from", fpar [17, 12], fbody [17, 12], fscope [17, 12], 3, [], .none, .none, .none, (.str "networkx.classes.digraph" 941), none, (.ref 673), .none, 0⟩, #[]⟩
noncomputable def ob672 : Params → Obj := fun _ => ⟨(.type "tuple"), none, .seq #[] 0, #[]⟩
noncomputable def ob673 : Params → Obj := fun _ => ⟨.none, none, .fields #[], #[]⟩
noncomputable def ob674 : Params → Obj := fun _ => ⟨(.type "tuple"), none, .seq #[(.str "self" 1115), (.str "u" 1116), (.str "v" 1117)] 0, #[]⟩
noncomputable def ob675 : Params → Obj := fun _ => ⟨(.type "tuple"), none, .seq #[] 0, #[]⟩
noncomputable def ob676 : Params → Obj := fun _ => ⟨.none, none, .func ⟨"has_successor", "DiGraph.has_successor", fpar [17, 13], fbody [17, 13], fscope [17, 13], 0, [], .none, .none, .none, .none, none, .none, .none, 0⟩, #[]⟩
noncomputable def ob677 : Params → Obj := fun _ => ⟨(.type "code"), none, .fields #[(.str "has_successor" 1112), (.str "DiGraph.has_successor" 1113), (.str "/claim/cut.py" 1114), (.int 471 0), (.int 3 0), (.int 0 0), (.int 0 0), (.int 3 0), (.ref 675), (.bool true), (.int 181 0), (.ref 676), .none, (.ref 677), (.ref 678), (.ref 679), (.int 1118 0), (.int 471 0), (.str "/claim/cut.py" 1119)], #[]⟩
noncomputable def ob678 : Params → Obj := fun _ => ⟨(.type "function"), none, .func ⟨"has_successor", "DiGraph.has_successor", fpar [17, 13], fbody [17, 13], fscope [17, 13], 3, [], .none, .none, .none, (.str "networkx.classes.digraph" 941), none, (.ref 680), .none, 0⟩, #[]⟩
noncomputable def ob679 : Params → Obj := fun _ => ⟨(.type "tuple"), none, .seq #[] 0, #[]⟩
noncomputable def ob680 : Params → Obj := fun _ => ⟨.none, none, .fields #[], #[]⟩
noncomputable def ob681 : Params → Obj := fun _ => ⟨(.type "tuple"), none, .seq #[(.str "self" 1124), (.str "u" 1125), (.str "v" 1126)] 0, #[]⟩
noncomputable def ob682 : Params → Obj := fun _ => ⟨(.type "tuple"), none, .seq #[] 0, #[]⟩
noncomputable def ob683 : Params → Obj := fun _ => ⟨.none, none, .func ⟨"has_predecessor", "DiGraph.has_predecessor", fpar [17, 14], fbody [17, 14], fscope [17, 14], 0, [], .none, .none, .none, .none, none, .none, .none, 0⟩, #[]⟩
noncomputable def ob684 : Params → Obj := fun _ => ⟨(.type "code"), none, .fields #[(.str "has_predecessor" 1121), (.str "DiGraph.has_predecessor" 1122), (.str "/claim/cut.py" 1123), (.int 474 0), (.int 3 0), (.int 0 0), (.int 0 0), (.int 3 0), (.ref 682), (.bool true), (.int 181 0), (.ref 683), .none, (.ref 684), (.ref 685), (.ref 686), (.int 1127 0), (.int 474 0), (.str "/claim/cut.py" 1128)], #[]⟩
noncomputable def ob685 : Params → Obj := fun _ => ⟨(.type "function"), none, .func ⟨"has_predecessor", "DiGraph.has_predecessor", fpar [17, 14], fbody [17, 14], fscope [17, 14], 3, [], .none, .none, .none, (.str "networkx.classes.digraph" 941), none, (.ref 687), .none, 0⟩, #[]⟩
noncomputable def ob686 : Params → Obj := fun _ => ⟨(.type "tuple"), none, .seq #[] 0, #[]⟩
noncomputable def ob687 : Params → Obj := fun _ => ⟨.none, none, .fields #[], #[]⟩
noncomputable def ob688 : Params → Obj := fun _ => ⟨(.type "tuple"), none, .seq #[(.str "self" 1133), (.str "n" 1134), (.str "err" 1135)] 0, #[]⟩
noncomputable def ob689 : Params → Obj := fun _ => ⟨(.type "tuple"), none, .seq #[] 0, #[]⟩
noncomputable def ob690 : Params → Obj := fun _ => ⟨.none, none, .func ⟨"successors", "DiGraph.successors", fpar [17, 15], fbody [17, 15], fscope [17, 15], 0, [], .none, .none, .none, .none, none, .none, .none, 0⟩, #[]⟩
noncomputable def ob691 : Params → Obj := fun _ => ⟨(.type "code"), none, .fields #[(.str "successors" 1130), (.str "DiGraph.successors" 1131), (.str "/claim/cut.py" 1132), (.int 477 0), (.int 2 0), (.int 0 0), (.int 0 0), (.int 3 0), (.ref 689), (.bool true), (.int 181 0), (.ref 690), .none, (.ref 691), (.ref 692), (.ref 693), (.int 1136 0), (.int 477 0), (.str "/claim/cut.py" 1137)], #[]⟩
noncomputable def ob692 : Params → Obj := fun _ => ⟨(.type "function"), none, .func ⟨"successors", "DiGraph.successors", fpar [17, 15], fbody [17, 15], fscope [17, 15], 3, [], .none, .none, .none, (.str "networkx.classes.digraph" 941), none, (.ref 694), .none, 0⟩, #[]⟩
noncomputable def ob693 : Params → Obj := fun _ => ⟨(.type "tuple"), none, .seq #[] 0, #[]⟩
noncomputable def ob694 : Params → Obj := fun _ => ⟨.none, none, .fields #[], #[]⟩
noncomputable def ob695 : Params → Obj := fun _ => ⟨(.type "tuple"), none, .seq #[(.str "self" 1143), (.str "n" 1144), (.str "err" 1145)] 0, #[]⟩
noncomputable def ob696 : Params → Obj := fun _ => ⟨(.type "tuple"), none, .seq #[] 0, #[]⟩
noncomputable def ob697 : Params → Obj := fun _ => ⟨.none, none, .func ⟨"predecessors", "DiGraph.predecessors", fpar [17, 17], fbody [17, 17], fscope [17, 17], 0, [], .none, .none, .none, .none, none, .none, .none, 0⟩, #[]⟩
noncomputable def ob698 : Params → Obj := fun _ => ⟨(.type "code"), none, .fields #[(.str "predecessors" 1140), (.str "DiGraph.predecessors" 1141), (.str "/claim/cut.py" 1142), (.int 484 0), (.int 2 0), (.int 0 0), (.int 0 0), (.int 3 0), (.ref 696), (.bool true), (.int 181 0), (.ref 697), .none, (.ref 698), (.ref 699), (.ref 700), (.int 1146 0), (.int 484 0), (.str "/claim/cut.py" 1147)], #[]⟩
noncomputable def ob699 : Params → Obj := fun _ => ⟨(.type "function"), none, .func ⟨"predecessors", "DiGraph.predecessors", fpar [17, 17], fbody [17, 17], fscope [17, 17], 3, [], .none, .none, .none, (.str "networkx.classes.digraph" 941), none, (.ref 701), .none, 0⟩, #[]⟩
noncomputable def ob700 : Params → Obj := fun _ => ⟨(.type "tuple"), none, .seq #[] 0, #[]⟩
noncomputable def ob701 : Params → Obj := fun _ => ⟨.none, none, .fields #[], #[]⟩
noncomputable def ob702 : Params → Obj := fun _ => ⟨(.type "tuple"), none, .seq #[(.str "self" 1152)] 0, #[]⟩
noncomputable def ob703 : Params → Obj := fun _ => ⟨(.type "tuple"), none, .seq #[] 0, #[]⟩
noncomputable def ob704 : Params → Obj := fun _ => ⟨.none, none, .func ⟨"edges", "DiGraph.edges", fpar [17, 18], fbody [17, 18], fscope [17, 18], 0, [], .none, .none, .none, .none, none, .none, .none, 0⟩, #[]⟩
noncomputable def ob705 : Params → Obj := fun _ => ⟨(.type "code"), none, .fields #[(.str "edges" 1149), (.str "DiGraph.edges" 1150), (.str "/claim/cut.py" 1151), (.int 490 0), (.int 1 0), (.int 0 0), (.int 0 0), (.int 3 0), (.ref 703), (.bool true), (.int 181 0), (.ref 704), .none, (.ref 705), (.ref 706), (.ref 707), (.int 1153 0), (.int 490 0), (.str "/claim/cut.py" 1154)], #[]⟩
noncomputable def ob706 : Params → Obj := fun _ => ⟨(.type "function"), none, .func ⟨"edges", "DiGraph.edges", fpar [17, 18], fbody [17, 18], fscope [17, 18], 3, [], .none, .none, .none, (.str "networkx.classes.digraph" 941), none, (.ref 708), .none, 0⟩, #[]⟩
noncomputable def ob707 : Params → Obj := fun P => ⟨(.type "dict"), none, .dict #[⟨PyData.keyHash P "func", (.str "func" 1158), (.ref 709)⟩, ⟨PyData.keyHash P "attrname", (.str "attrname" 1160), (.str "edges" 1167)⟩, ⟨PyData.keyHash P "__doc__", (.str "__doc__" 1163), .none⟩, ⟨PyData.keyHash P "__module__", (.str "__module__" 1166), (.str "networkx.classes.digraph" 941)⟩] 4, #[]⟩
noncomputable def ob708 : Params → Obj := fun _ => ⟨(.ref 260), (some 710), .plain, #[]⟩
noncomputable def ob709 : Params → Obj := fun P => ⟨(.type "frame"), none, .dict #[⟨PyData.keyHash P "self", (.str "self" 1155), (.ref 711)⟩, ⟨PyData.keyHash P "func", (.str "func" 1156), (.ref 709)⟩] 2, #[]⟩
noncomputable def ob710 : Params → Obj := fun _ => ⟨(.type "tuple"), none, .seq #[] 0, #[]⟩
noncomputable def ob711 : Params → Obj := fun _ => ⟨.none, none, .fields #[], #[]⟩
noncomputable def ob712 : Params → Obj := fun _ => ⟨(.type "tuple"), none, .seq #[(.str "self" 1171)] 0, #[]⟩
noncomputable def ob713 : Params → Obj := fun _ => ⟨(.type "tuple"), none, .seq #[] 0, #[]⟩
noncomputable def ob714 : Params → Obj := fun _ => ⟨.none, none, .func ⟨"degree", "DiGraph.degree", fpar [17, 19], fbody [17, 19], fscope [17, 19], 0, [], .none, .none, .none, .none, none, .none, .none, 0⟩, #[]⟩
noncomputable def ob715 : Params → Obj := fun _ => ⟨(.type "code"), none, .fields #[(.str "degree" 1168), (.str "DiGraph.degree" 1169), (.str "/claim/cut.py" 1170), (.int 494 0), (.int 1 0), (.int 0 0), (.int 0 0), (.int 3 0), (.ref 713), (.bool true), (.int 181 0), (.ref 714), .none, (.ref 715), (.ref 716), (.ref 717), (.int 1172 0), (.int 494 0), (.str "/claim/cut.py" 1173)], #[]⟩
noncomputable def ob716 : Params → Obj := fun _ => ⟨(.type "function"), none, .func ⟨"degree", "DiGraph.degree", fpar [17, 19], fbody [17, 19], fscope [17, 19], 3, [], .none, .none, .none, (.str "networkx.classes.digraph" 941), none, (.ref 718), .none, 0⟩, #[]⟩
noncomputable def ob717 : Params → Obj := fun P => ⟨(.type "dict"), none, .dict #[⟨PyData.keyHash P "func", (.str "func" 1177), (.ref 719)⟩, ⟨PyData.keyHash P "attrname", (.str "attrname" 1179), (.str "degree" 1186)⟩, ⟨PyData.keyHash P "__doc__", (.str "__doc__" 1182), .none⟩, ⟨PyData.keyHash P "__module__", (.str "__module__" 1185), (.str "networkx.classes.digraph" 941)⟩] 4, #[]⟩
noncomputable def ob718 : Params → Obj := fun _ => ⟨(.ref 260), (some 720), .plain, #[]⟩
noncomputable def ob719 : Params → Obj := fun P => ⟨(.type "frame"), none, .dict #[⟨PyData.keyHash P "self", (.str "self" 1174), (.ref 721)⟩, ⟨PyData.keyHash P "func", (.str "func" 1175), (.ref 719)⟩] 2, #[]⟩
noncomputable def ob720 : Params → Obj := fun _ => ⟨(.type "tuple"), none, .seq #[] 0, #[]⟩
noncomputable def ob721 : Params → Obj := fun _ => ⟨.none, none, .fields #[], #[]⟩
noncomputable def ob722 : Params → Obj := fun _ => ⟨(.type "tuple"), none, .seq #[(.str "self" 1190)] 0, #[]⟩
noncomputable def ob723 : Params → Obj := fun _ => ⟨(.type "tuple"), none, .seq #[] 0, #[]⟩
noncomputable def ob724 : Params → Obj := fun _ => ⟨.none, none, .func ⟨"in_degree", "DiGraph.in_degree", fpar [17, 20], fbody [17, 20], fscope [17, 20], 0, [], .none, .none, .none, .none, none, .none, .none, 0⟩, #[]⟩
noncomputable def ob725 : Params → Obj := fun _ => ⟨(.type "code"), none, .fields #[(.str "in_degree" 1187), (.str "DiGraph.in_degree" 1188), (.str "/claim/cut.py" 1189), (.int 498 0), (.int 1 0), (.int 0 0), (.int 0 0), (.int 3 0), (.ref 723), (.bool true), (.int 181 0), (.ref 724), .none, (.ref 725), (.ref 726), (.ref 727), (.int 1191 0), (.int 498 0), (.str "/claim/cut.py" 1192)], #[]⟩
noncomputable def ob726 : Params → Obj := fun _ => ⟨(.type "function"), none, .func ⟨"in_degree", "DiGraph.in_degree", fpar [17, 20], fbody [17, 20], fscope [17, 20], 3, [], .none, .none, .none, (.str "networkx.classes.digraph" 941), none, (.ref 728), .none, 0⟩, #[]⟩
noncomputable def ob727 : Params → Obj := fun P => ⟨(.type "dict"), none, .dict #[⟨PyData.keyHash P "func", (.str "func" 1196), (.ref 729)⟩, ⟨PyData.keyHash P "attrname", (.str "attrname" 1198), (.str "in_degree" 1205)⟩, ⟨PyData.keyHash P "__doc__", (.str "__doc__" 1201), .none⟩, ⟨PyData.keyHash P "__module__", (.str "__module__" 1204), (.str "networkx.classes.digraph" 941)⟩] 4, #[]⟩
noncomputable def ob728 : Params → Obj := fun _ => ⟨(.ref 260), (some 730), .plain, #[]⟩
noncomputable def ob729 : Params → Obj := fun P => ⟨(.type "frame"), none, .dict #[⟨PyData.keyHash P "self", (.str "self" 1193), (.ref 731)⟩, ⟨PyData.keyHash P "func", (.str "func" 1194), (.ref 729)⟩] 2, #[]⟩
noncomputable def ob730 : Params → Obj := fun _ => ⟨(.type "tuple"), none, .seq #[] 0, #[]⟩
noncomputable def ob731 : Params → Obj := fun _ => ⟨.none, none, .fields #[], #[]⟩
noncomputable def ob732 : Params → Obj := fun _ => ⟨(.type "tuple"), none, .seq #[(.str "self" 1209)] 0, #[]⟩
noncomputable def ob733 : Params → Obj := fun _ => ⟨(.type "tuple"), none, .seq #[] 0, #[]⟩
noncomputable def ob734 : Params → Obj := fun _ => ⟨.none, none, .func ⟨"out_degree", "DiGraph.out_degree", fpar [17, 21], fbody [17, 21], fscope [17, 21], 0, [], .none, .none, .none, .none, none, .none, .none, 0⟩, #[]⟩
noncomputable def ob735 : Params → Obj := fun _ => ⟨(.type "code"), none, .fields #[(.str "out_degree" 1206), (.str "DiGraph.out_degree" 1207), (.str "/claim/cut.py" 1208), (.int 502 0), (.int 1 0), (.int 0 0), (.int 0 0), (.int 3 0), (.ref 733), (.bool true), (.int 181 0), (.ref 734), .none, (.ref 735), (.ref 736), (.ref 737), (.int 1210 0), (.int 502 0), (.str "/claim/cut.py" 1211)], #[]⟩
noncomputable def ob736 : Params → Obj := fun _ => ⟨(.type "function"), none, .func ⟨"out_degree", "DiGraph.out_degree", fpar [17, 21], fbody [17, 21], fscope [17, 21], 3, [], .none, .none, .none, (.str "networkx.classes.digraph" 941), none, (.ref 738), .none, 0⟩, #[]⟩
noncomputable def ob737 : Params → Obj := fun P => ⟨(.type "dict"), none, .dict #[⟨PyData.keyHash P "func", (.str "func" 1215), (.ref 739)⟩, ⟨PyData.keyHash P "attrname", (.str "attrname" 1217), (.str "out_degree" 1224)⟩, ⟨PyData.keyHash P "__doc__", (.str "__doc__" 1220), .none⟩, ⟨PyData.keyHash P "__module__", (.str "__module__" 1223), (.str "networkx.classes.digraph" 941)⟩] 4, #[]⟩
noncomputable def ob738 : Params → Obj := fun _ => ⟨(.ref 260), (some 740), .plain, #[]⟩
noncomputable def ob739 : Params → Obj := fun P => ⟨(.type "frame"), none, .dict #[⟨PyData.keyHash P "self", (.str "self" 1212), (.ref 741)⟩, ⟨PyData.keyHash P "func", (.str "func" 1213), (.ref 739)⟩] 2, #[]⟩
noncomputable def ob740 : Params → Obj := fun _ => ⟨(.type "tuple"), none, .seq #[] 0, #[]⟩
noncomputable def ob741 : Params → Obj := fun _ => ⟨.none, none, .fields #[], #[]⟩
noncomputable def ob742 : Params → Obj := fun _ => ⟨(.type "tuple"), none, .seq #[(.str "self" 1228)] 0, #[]⟩
noncomputable def ob743 : Params → Obj := fun _ => ⟨(.type "tuple"), none, .seq #[] 0, #[]⟩
noncomputable def ob744 : Params → Obj := fun _ => ⟨.none, none, .func ⟨"clear", "DiGraph.clear", fpar [17, 22], fbody [17, 22], fscope [17, 22], 0, [], .none, .none, .none, .none, none, .none, .none, 0⟩, #[]⟩
noncomputable def ob745 : Params → Obj := fun _ => ⟨(.type "code"), none, .fields #[(.str "clear" 1225), (.str "DiGraph.clear" 1226), (.str "/claim/cut.py" 1227), (.int 506 0), (.int 1 0), (.int 0 0), (.int 0 0), (.int 3 0), (.ref 743), (.bool true), (.int 181 0), (.ref 744), .none, (.ref 745), (.ref 746), (.ref 747), (.int 1229 0), (.int 506 0), (.str "/claim/cut.py" 1230)], #[]⟩
noncomputable def ob746 : Params → Obj := fun _ => ⟨(.type "function"), none, .func ⟨"clear", "DiGraph.clear", fpar [17, 22], fbody [17, 22], fscope [17, 22], 3, [], .none, .none, .none, (.str "networkx.classes.digraph" 941), none, (.ref 748), .none, 0⟩, #[]⟩
noncomputable def ob747 : Params → Obj := fun _ => ⟨(.type "tuple"), none, .seq #[] 0, #[]⟩
noncomputable def ob748 : Params → Obj := fun _ => ⟨.none, none, .fields #[], #[]⟩
noncomputable def ob749 : Params → Obj := fun _ => ⟨(.type "tuple"), none, .seq #[(.str "self" 1235)] 0, #[]⟩
noncomputable def ob750 : Params → Obj := fun _ => ⟨(.type "tuple"), none, .seq #[] 0, #[]⟩
noncomputable def ob751 : Params → Obj := fun _ => ⟨.none, none, .func ⟨"clear_edges", "DiGraph.clear_edges", fpar [17, 23], fbody [17, 23], fscope [17, 23], 0, [], .none, .none, .none, .none, none, .none, .none, 0⟩, #[]⟩
noncomputable def ob752 : Params → Obj := fun _ => ⟨(.type "code"), none, .fields #[(.str "clear_edges" 1232), (.str "DiGraph.clear_edges" 1233), (.str "/claim/cut.py" 1234), (.int 509 0), (.int 1 0), (.int 0 0), (.int 0 0), (.int 3 0), (.ref 750), (.bool true), (.int 181 0), (.ref 751), .none, (.ref 752), (.ref 753), (.ref 754), (.int 1236 0), (.int 509 0), (.str "/claim/cut.py" 1237)], #[]⟩
noncomputable def ob753 : Params → Obj := fun _ => ⟨(.type "function"), none, .func ⟨"clear_edges", "DiGraph.clear_edges", fpar [17, 23], fbody [17, 23], fscope [17, 23], 3, [], .none, .none, .none, (.str "networkx.classes.digraph" 941), none, (.ref 755), .none, 0⟩, #[]⟩
noncomputable def ob754 : Params → Obj := fun _ => ⟨(.type "tuple"), none, .seq #[] 0, #[]⟩
noncomputable def ob755 : Params → Obj := fun _ => ⟨.none, none, .fields #[], #[]⟩
noncomputable def ob756 : Params → Obj := fun _ => ⟨(.type "tuple"), none, .seq #[(.str "self" 1242)] 0, #[]⟩
noncomputable def ob757 : Params → Obj := fun _ => ⟨(.type "tuple"), none, .seq #[] 0, #[]⟩
noncomputable def ob758 : Params → Obj := fun _ => ⟨.none, none, .func ⟨"is_multigraph", "DiGraph.is_multigraph", fpar [17, 24], fbody [17, 24], fscope [17, 24], 0, [], .none, .none, .none, .none, none, .none, .none, 0⟩, #[]⟩
noncomputable def ob759 : Params → Obj := fun _ => ⟨(.type "code"), none, .fields #[(.str "is_multigraph" 1239), (.str "DiGraph.is_multigraph" 1240), (.str "/claim/cut.py" 1241), (.int 512 0), (.int 1 0), (.int 0 0), (.int 0 0), (.int 3 0), (.ref 757), (.bool true), (.int 181 0), (.ref 758), .none, (.ref 759), (.ref 760), (.ref 761), (.int 1243 0), (.int 512 0), (.str "/claim/cut.py" 1244)], #[]⟩
noncomputable def ob760 : Params → Obj := fun _ => ⟨(.type "function"), none, .func ⟨"is_multigraph", "DiGraph.is_multigraph", fpar [17, 24], fbody [17, 24], fscope [17, 24], 3, [], .none, .none, .none, (.str "networkx.classes.digraph" 941), none, (.ref 762), .none, 0⟩, #[]⟩
noncomputable def ob761 : Params → Obj := fun _ => ⟨(.type "tuple"), none, .seq #[] 0, #[]⟩
noncomputable def ob762 : Params → Obj := fun _ => ⟨.none, none, .fields #[], #[]⟩
noncomputable def ob763 : Params → Obj := fun _ => ⟨(.type "tuple"), none, .seq #[(.str "self" 1249)] 0, #[]⟩
noncomputable def ob764 : Params → Obj := fun _ => ⟨(.type "tuple"), none, .seq #[] 0, #[]⟩
noncomputable def ob765 : Params → Obj := fun _ => ⟨.none, none, .func ⟨"is_directed", "DiGraph.is_directed", fpar [17, 25], fbody [17, 25], fscope [17, 25], 0, [], .none, .none, .none, .none, none, .none, .none, 0⟩, #[]⟩
noncomputable def ob766 : Params → Obj := fun _ => ⟨(.type "code"), none, .fields #[(.str "is_directed" 1246), (.str "DiGraph.is_directed" 1247), (.str "/claim/cut.py" 1248), (.int 515 0), (.int 1 0), (.int 0 0), (.int 0 0), (.int 3 0), (.ref 764), (.bool true), (.int 181 0), (.ref 765), .none, (.ref 766), (.ref 767), (.ref 768), (.int 1250 0), (.int 515 0), (.str "/claim/cut.py" 1251)], #[]⟩
noncomputable def ob767 : Params → Obj := fun _ => ⟨(.type "function"), none, .func ⟨"is_directed", "DiGraph.is_directed", fpar [17, 25], fbody [17, 25], fscope [17, 25], 3, [], .none, .none, .none, (.str "networkx.classes.digraph" 941), none, (.ref 769), .none, 0⟩, #[]⟩
noncomputable def ob768 : Params → Obj := fun _ => ⟨(.type "tuple"), none, .seq #[(.str "_adj" 1253), (.str "_node" 1254), (.str "_pred" 1255), (.str "_succ" 1256), (.str "graph" 1257)] 0, #[]⟩
noncomputable def ob769 : Params → Obj := fun P => ⟨(.type "dict"), none, .dict #[⟨PyData.keyHash P "__module__", (.str "__module__" 950), (.str "networkx.classes.digraph" 941)⟩, ⟨PyData.keyHash P "__firstlineno__", (.str "__firstlineno__" 954), (.int 357 953)⟩, ⟨PyData.keyHash P "fresh", (.str "fresh" 961), (.ref 580)⟩, ⟨PyData.keyHash P "__init__", (.str "__init__" 970), (.ref 588)⟩, ⟨PyData.keyHash P "adj", (.str "adj" 989), (.ref 597)⟩, ⟨PyData.keyHash P "succ", (.str "succ" 1008), (.ref 607)⟩, ⟨PyData.keyHash P "pred", (.str "pred" 1027), (.ref 617)⟩, ⟨PyData.keyHash P "add_node", (.str "add_node" 1037), (.ref 625)⟩, ⟨PyData.keyHash P "add_nodes_from", (.str "add_nodes_from" 1050), (.ref 632)⟩, ⟨PyData.keyHash P "remove_node", (.str "remove_node" 1058), (.ref 639)⟩, ⟨PyData.keyHash P "remove_nodes_from", (.str "remove_nodes_from" 1066), (.ref 646)⟩, ⟨PyData.keyHash P "add_edge", (.str "add_edge" 1079), (.ref 653)⟩, ⟨PyData.keyHash P "add_edges_from", (.str "add_edges_from" 1094), (.ref 660)⟩, ⟨PyData.keyHash P "remove_edge", (.str "remove_edge" 1103), (.ref 667)⟩, ⟨PyData.keyHash P "remove_edges_from", (.str "remove_edges_from" 1111), (.ref 674)⟩, ⟨PyData.keyHash P "has_successor", (.str "has_successor" 1120), (.ref 681)⟩, ⟨PyData.keyHash P "has_predecessor", (.str "has_predecessor" 1129), (.ref 688)⟩, ⟨PyData.keyHash P "successors", (.str "successors" 1138), (.ref 695)⟩, ⟨PyData.keyHash P "neighbors", (.str "neighbors" 1139), (.ref 695)⟩, ⟨PyData.keyHash P "predecessors", (.str "predecessors" 1148), (.ref 702)⟩, ⟨PyData.keyHash P "edges", (.str "edges" 1167), (.ref 711)⟩, ⟨PyData.keyHash P "degree", (.str "degree" 1186), (.ref 721)⟩, ⟨PyData.keyHash P "in_degree", (.str "in_degree" 1205), (.ref 731)⟩, ⟨PyData.keyHash P "out_degree", (.str "out_degree" 1224), (.ref 741)⟩, ⟨PyData.keyHash P "clear", (.str "clear" 1231), (.ref 749)⟩, ⟨PyData.keyHash P "clear_edges", (.str "clear_edges" 1238), (.ref 756)⟩, ⟨PyData.keyHash P "is_multigraph", (.str "is_multigraph" 1245), (.ref 763)⟩, ⟨PyData.keyHash P "is_directed", (.str "is_directed" 1252), (.ref 770)⟩, ⟨PyData.keyHash P "__static_attributes__", (.str "__static_attributes__" 1258), (.ref 771)⟩, ⟨PyData.keyHash P "__doc__", (.str "__doc__" 1259), .none⟩] 2, #[]⟩
noncomputable def ob770 : Params → Obj := fun _ => ⟨(.type "type"), none, .cls ⟨"DiGraph", [(.ref 558)], [(.ref 773), (.ref 558), (.type "object")], 772, "DiGraph", true, [], [], false, none, false⟩, #[(some (.ref 567)), none, (some (.str "DiGraph" 943)), (some (.str "DiGraph" 951)), (some (.builtin "object.__new__")), (some (.bool true))]⟩
noncomputable def ob771 : Params → Obj := fun P => ⟨(.type "frame"), none, .dict #[⟨PyData.keyHash P "self", (.str "self" 1260), (.ref 597)⟩, ⟨PyData.keyHash P "owner", (.str "owner" 1261), (.ref 773)⟩, ⟨PyData.keyHash P "name", (.str "name" 1262), (.str "adj" 989)⟩] 3, #[]⟩
noncomputable def ob772 : Params → Obj := fun P => ⟨(.type "frame"), none, .dict #[⟨PyData.keyHash P "self", (.str "self" 1266), (.ref 607)⟩, ⟨PyData.keyHash P "owner", (.str "owner" 1267), (.ref 773)⟩, ⟨PyData.keyHash P "name", (.str "name" 1268), (.str "succ" 1008)⟩] 3, #[]⟩
noncomputable def ob773 : Params → Obj := fun P => ⟨(.type "frame"), none, .dict #[⟨PyData.keyHash P "self", (.str "self" 1272), (.ref 617)⟩, ⟨PyData.keyHash P "owner", (.str "owner" 1273), (.ref 773)⟩, ⟨PyData.keyHash P "name", (.str "name" 1274), (.str "pred" 1027)⟩] 3, #[]⟩
noncomputable def ob774 : Params → Obj := fun P => ⟨(.type "frame"), none, .dict #[⟨PyData.keyHash P "self", (.str "self" 1278), (.ref 711)⟩, ⟨PyData.keyHash P "owner", (.str "owner" 1279), (.ref 773)⟩, ⟨PyData.keyHash P "name", (.str "name" 1280), (.str "edges" 1167)⟩] 3, #[]⟩
noncomputable def ob775 : Params → Obj := fun P => ⟨(.type "frame"), none, .dict #[⟨PyData.keyHash P "self", (.str "self" 1284), (.ref 721)⟩, ⟨PyData.keyHash P "owner", (.str "owner" 1285), (.ref 773)⟩, ⟨PyData.keyHash P "name", (.str "name" 1286), (.str "degree" 1186)⟩] 3, #[]⟩
noncomputable def ob776 : Params → Obj := fun P => ⟨(.type "frame"), none, .dict #[⟨PyData.keyHash P "self", (.str "self" 1290), (.ref 731)⟩, ⟨PyData.keyHash P "owner", (.str "owner" 1291), (.ref 773)⟩, ⟨PyData.keyHash P "name", (.str "name" 1292), (.str "in_degree" 1205)⟩] 3, #[]⟩
noncomputable def ob777 : Params → Obj := fun P => ⟨(.type "frame"), none, .dict #[⟨PyData.keyHash P "self", (.str "self" 1296), (.ref 741)⟩, ⟨PyData.keyHash P "owner", (.str "owner" 1297), (.ref 773)⟩, ⟨PyData.keyHash P "name", (.str "name" 1298), (.str "out_degree" 1224)⟩] 3, #[]⟩
noncomputable def ob778 : Params → Obj := fun _ => ⟨(.type "super"), none, .fields #[(.ref 773), (.ref 773), (.ref 773)], #[]⟩
noncomputable def ob779 : Params → Obj := fun _ => ⟨(.type "builtin_function_or_method"), none, .fields #[(.builtin "object.__init_subclass__"), (.ref 773)], #[]⟩
noncomputable def tree3 : Params → BT := fun P => (.node (boot_o_0 P) (.node (boot_o_1 P) (.node (ob561 P) (.node (boot_o_7 P) (.node (ob7 P) (.node (ob23 P) (.node (ob55 P) (.node (ob119 P) (.node (ob247 P) (.node (ob505 P) .nil .nil) (.node (ob764 P) .nil .nil)) (.node (ob377 P) (.node (ob636 P) .nil .nil) .nil)) (.node (ob183 P) (.node (ob313 P) (.node (ob572 P) .nil .nil) .nil) (.node (ob441 P) (.node (ob700 P) .nil .nil) .nil))) (.node (ob87 P) (.node (ob151 P) (.node (ob281 P) (.node (ob537 P) .nil .nil) .nil) (.node (ob409 P) (.node (ob668 P) .nil .nil) .nil)) (.node (ob215 P) (.node (ob345 P) (.node (ob604 P) .nil .nil) .nil) (.node (ob473 P) (.node (ob732 P) .nil .nil) .nil)))) (.node (ob39 P) (.node (ob71 P) (.node (ob135 P) (.node (ob265 P) (.node (ob521 P) .nil .nil) .nil) (.node (ob393 P) (.node (ob652 P) .nil .nil) .nil)) (.node (ob199 P) (.node (ob329 P) (.node (ob588 P) .nil .nil) .nil) (.node (ob457 P) (.node (ob716 P) .nil .nil) .nil))) (.node (ob103 P) (.node (ob167 P) (.node (ob297 P) (.node (ob553 P) .nil .nil) .nil) (.node (ob425 P) (.node (ob684 P) .nil .nil) .nil)) (.node (ob231 P) (.node (ob361 P) (.node (ob620 P) .nil .nil) .nil) (.node (ob489 P) (.node (ob748 P) .nil .nil) .nil))))) (.node (ob15 P) (.node (ob31 P) (.node (ob63 P) (.node (ob127 P) (.node (ob255 P) (.node (ob513 P) .nil .nil) (.node (ob772 P) .nil .nil)) (.node (ob385 P) (.node (ob644 P) .nil .nil) .nil)) (.node (ob191 P) (.node (ob321 P) (.node (ob580 P) .nil .nil) .nil) (.node (ob449 P) (.node (ob708 P) .nil .nil) .nil))) (.node (ob95 P) (.node (ob159 P) (.node (ob289 P) (.node (ob545 P) .nil .nil) .nil) (.node (ob417 P) (.node (ob676 P) .nil .nil) .nil)) (.node (ob223 P) (.node (ob353 P) (.node (ob612 P) .nil .nil) .nil) (.node (ob481 P) (.node (ob740 P) .nil .nil) .nil)))) (.node (ob47 P) (.node (ob79 P) (.node (ob143 P) (.node (ob273 P) (.node (ob529 P) .nil .nil) .nil) (.node (ob401 P) (.node (ob660 P) .nil .nil) .nil)) (.node (ob207 P) (.node (ob337 P) (.node (ob596 P) .nil .nil) .nil) (.node (ob465 P) (.node (ob724 P) .nil .nil) .nil))) (.node (ob111 P) (.node (ob175 P) (.node (ob305 P) (.node (ob564 P) .nil .nil) .nil) (.node (ob433 P) (.node (ob692 P) .nil .nil) .nil)) (.node (ob239 P) (.node (ob369 P) (.node (ob628 P) .nil .nil) .nil) (.node (ob497 P) (.node (ob756 P) .nil .nil) .nil)))))) (.node (ob0 P) (.node (ob11 P) (.node (ob27 P) (.node (ob59 P) (.node (ob123 P) (.node (ob251 P) (.node (ob509 P) .nil .nil) (.node (ob768 P) .nil .nil)) (.node (ob381 P) (.node (ob640 P) .nil .nil) .nil)) (.node (ob187 P) (.node (ob317 P) (.node (ob576 P) .nil .nil) .nil) (.node (ob445 P) (.node (ob704 P) .nil .nil) .nil))) (.node (ob91 P) (.node (ob155 P) (.node (ob285 P) (.node (ob541 P) .nil .nil) .nil) (.node (ob413 P) (.node (ob672 P) .nil .nil) .nil)) (.node (ob219 P) (.node (ob349 P) (.node (ob608 P) .nil .nil) .nil) (.node (ob477 P) (.node (ob736 P) .nil .nil) .nil)))) (.node (ob43 P) (.node (ob75 P) (.node (ob139 P) (.node (ob269 P) (.node (ob525 P) .nil .nil) .nil) (.node (ob397 P) (.node (ob656 P) .nil .nil) .nil)) (.node (ob203 P) (.node (ob333 P) (.node (ob592 P) .nil .nil) .nil) (.node (ob461 P) (.node (ob720 P) .nil .nil) .nil))) (.node (ob107 P) (.node (ob171 P) (.node (ob301 P) (.node (ob557 P) .nil .nil) .nil) (.node (ob429 P) (.node (ob688 P) .nil .nil) .nil)) (.node (ob235 P) (.node (ob365 P) (.node (ob624 P) .nil .nil) .nil) (.node (ob493 P) (.node (ob752 P) .nil .nil) .nil))))) (.node (ob19 P) (.node (ob35 P) (.node (ob67 P) (.node (ob131 P) (.node (ob261 P) (.node (ob517 P) .nil .nil) (.node (ob776 P) .nil .nil)) (.node (ob389 P) (.node (ob648 P) .nil .nil) .nil)) (.node (ob195 P) (.node (ob325 P) (.node (ob584 P) .nil .nil) .nil) (.node (ob453 P) (.node (ob712 P) .nil .nil) .nil))) (.node (ob99 P) (.node (ob163 P) (.node (ob293 P) (.node (ob549 P) .nil .nil) .nil) (.node (ob421 P) (.node (ob680 P) .nil .nil) .nil)) (.node (ob227 P) (.node (ob357 P) (.node (ob616 P) .nil .nil) .nil) (.node (ob485 P) (.node (ob744 P) .nil .nil) .nil)))) (.node (ob51 P) (.node (ob83 P) (.node (ob147 P) (.node (ob277 P) (.node (ob533 P) .nil .nil) .nil) (.node (ob405 P) (.node (ob664 P) .nil .nil) .nil)) (.node (ob211 P) (.node (ob341 P) (.node (ob600 P) .nil .nil) .nil) (.node (ob469 P) (.node (ob728 P) .nil .nil) .nil))) (.node (ob115 P) (.node (ob179 P) (.node (ob309 P) (.node (ob568 P) .nil .nil) .nil) (.node (ob437 P) (.node (ob696 P) .nil .nil) .nil)) (.node (ob243 P) (.node (ob373 P) (.node (ob632 P) .nil .nil) .nil) (.node (ob501 P) (.node (ob760 P) .nil .nil) .nil))))))) (.node (boot_o_5 P) (.node (boot_o_9 P) (.node (ob9 P) (.node (ob25 P) (.node (ob57 P) (.node (ob121 P) (.node (ob249 P) (.node (ob507 P) .nil .nil) (.node (ob766 P) .nil .nil)) (.node (ob379 P) (.node (ob638 P) .nil .nil) .nil)) (.node (ob185 P) (.node (ob315 P) (.node (ob574 P) .nil .nil) .nil) (.node (ob443 P) (.node (ob702 P) .nil .nil) .nil))) (.node (ob89 P) (.node (ob153 P) (.node (ob283 P) (.node (ob539 P) .nil .nil) .nil) (.node (ob411 P) (.node (ob670 P) .nil .nil) .nil)) (.node (ob217 P) (.node (ob347 P) (.node (ob606 P) .nil .nil) .nil) (.node (ob475 P) (.node (ob734 P) .nil .nil) .nil)))) (.node (ob41 P) (.node (ob73 P) (.node (ob137 P) (.node (ob267 P) (.node (ob523 P) .nil .nil) .nil) (.node (ob395 P) (.node (ob654 P) .nil .nil) .nil)) (.node (ob201 P) (.node (ob331 P) (.node (ob590 P) .nil .nil) .nil) (.node (ob459 P) (.node (ob718 P) .nil .nil) .nil))) (.node (ob105 P) (.node (ob169 P) (.node (ob299 P) (.node (ob555 P) .nil .nil) .nil) (.node (ob427 P) (.node (ob686 P) .nil .nil) .nil)) (.node (ob233 P) (.node (ob363 P) (.node (ob622 P) .nil .nil) .nil) (.node (ob491 P) (.node (ob750 P) .nil .nil) .nil))))) (.node (ob17 P) (.node (ob33 P) (.node (ob65 P) (.node (ob129 P) (.node (ob257 P) (.node (ob515 P) .nil .nil) (.node (ob774 P) .nil .nil)) (.node (ob387 P) (.node (ob646 P) .nil .nil) .nil)) (.node (ob193 P) (.node (ob323 P) (.node (ob582 P) .nil .nil) .nil) (.node (ob451 P) (.node (ob710 P) .nil .nil) .nil))) (.node (ob97 P) (.node (ob161 P) (.node (ob291 P) (.node (ob547 P) .nil .nil) .nil) (.node (ob419 P) (.node (ob678 P) .nil .nil) .nil)) (.node (ob225 P) (.node (ob355 P) (.node (ob614 P) .nil .nil) .nil) (.node (ob483 P) (.node (ob742 P) .nil .nil) .nil)))) (.node (ob49 P) (.node (ob81 P) (.node (ob145 P) (.node (ob275 P) (.node (ob531 P) .nil .nil) .nil) (.node (ob403 P) (.node (ob662 P) .nil .nil) .nil)) (.node (ob209 P) (.node (ob339 P) (.node (ob598 P) .nil .nil) .nil) (.node (ob467 P) (.node (ob726 P) .nil .nil) .nil))) (.node (ob113 P) (.node (ob177 P) (.node (ob307 P) (.node (ob566 P) .nil .nil) .nil) (.node (ob435 P) (.node (ob694 P) .nil .nil) .nil)) (.node (ob241 P) (.node (ob371 P) (.node (ob630 P) .nil .nil) .nil) (.node (ob499 P) (.node (ob758 P) .nil .nil) .nil)))))) (.node (ob2 P) (.node (ob13 P) (.node (ob29 P) (.node (ob61 P) (.node (ob125 P) (.node (ob253 P) (.node (ob511 P) .nil .nil) (.node (ob770 P) .nil .nil)) (.node (ob383 P) (.node (ob642 P) .nil .nil) .nil)) (.node (ob189 P) (.node (ob319 P) (.node (ob578 P) .nil .nil) .nil) (.node (ob447 P) (.node (ob706 P) .nil .nil) .nil))) (.node (ob93 P) (.node (ob157 P) (.node (ob287 P) (.node (ob543 P) .nil .nil) .nil) (.node (ob415 P) (.node (ob674 P) .nil .nil) .nil)) (.node (ob221 P) (.node (ob351 P) (.node (ob610 P) .nil .nil) .nil) (.node (ob479 P) (.node (ob738 P) .nil .nil) .nil)))) (.node (ob45 P) (.node (ob77 P) (.node (ob141 P) (.node (ob271 P) (.node (ob527 P) .nil .nil) .nil) (.node (ob399 P) (.node (ob658 P) .nil .nil) .nil)) (.node (ob205 P) (.node (ob335 P) (.node (ob594 P) .nil .nil) .nil) (.node (ob463 P) (.node (ob722 P) .nil .nil) .nil))) (.node (ob109 P) (.node (ob173 P) (.node (ob303 P) (.node (ob559 P) .nil .nil) .nil) (.node (ob431 P) (.node (ob690 P) .nil .nil) .nil)) (.node (ob237 P) (.node (ob367 P) (.node (ob626 P) .nil .nil) .nil) (.node (ob495 P) (.node (ob754 P) .nil .nil) .nil))))) (.node (ob21 P) (.node (ob37 P) (.node (ob69 P) (.node (ob133 P) (.node (ob263 P) (.node (ob519 P) .nil .nil) (.node (ob778 P) .nil .nil)) (.node (ob391 P) (.node (ob650 P) .nil .nil) .nil)) (.node (ob197 P) (.node (ob327 P) (.node (ob586 P) .nil .nil) .nil) (.node (ob455 P) (.node (ob714 P) .nil .nil) .nil))) (.node (ob101 P) (.node (ob165 P) (.node (ob295 P) (.node (ob551 P) .nil .nil) .nil) (.node (ob423 P) (.node (ob682 P) .nil .nil) .nil)) (.node (ob229 P) (.node (ob359 P) (.node (ob618 P) .nil .nil) .nil) (.node (ob487 P) (.node (ob746 P) .nil .nil) .nil)))) (.node (ob53 P) (.node (ob85 P) (.node (ob149 P) (.node (ob279 P) (.node (ob535 P) .nil .nil) .nil) (.node (ob407 P) (.node (ob666 P) .nil .nil) .nil)) (.node (ob213 P) (.node (ob343 P) (.node (ob602 P) .nil .nil) .nil) (.node (ob471 P) (.node (ob730 P) .nil .nil) .nil))) (.node (ob117 P) (.node (ob181 P) (.node (ob311 P) (.node (ob570 P) .nil .nil) .nil) (.node (ob439 P) (.node (ob698 P) .nil .nil) .nil)) (.node (ob245 P) (.node (ob375 P) (.node (ob634 P) .nil .nil) .nil) (.node (ob503 P) (.node (ob762 P) .nil .nil) .nil)))))))) (.node (ob4 P) (.node (boot_o_4 P) (.node (boot_o_8 P) (.node (ob8 P) (.node (ob24 P) (.node (ob56 P) (.node (ob120 P) (.node (ob248 P) (.node (ob506 P) .nil .nil) (.node (ob765 P) .nil .nil)) (.node (ob378 P) (.node (ob637 P) .nil .nil) .nil)) (.node (ob184 P) (.node (ob314 P) (.node (ob573 P) .nil .nil) .nil) (.node (ob442 P) (.node (ob701 P) .nil .nil) .nil))) (.node (ob88 P) (.node (ob152 P) (.node (ob282 P) (.node (ob538 P) .nil .nil) .nil) (.node (ob410 P) (.node (ob669 P) .nil .nil) .nil)) (.node (ob216 P) (.node (ob346 P) (.node (ob605 P) .nil .nil) .nil) (.node (ob474 P) (.node (ob733 P) .nil .nil) .nil)))) (.node (ob40 P) (.node (ob72 P) (.node (ob136 P) (.node (ob266 P) (.node (ob522 P) .nil .nil) .nil) (.node (ob394 P) (.node (ob653 P) .nil .nil) .nil)) (.node (ob200 P) (.node (ob330 P) (.node (ob589 P) .nil .nil) .nil) (.node (ob458 P) (.node (ob717 P) .nil .nil) .nil))) (.node (ob104 P) (.node (ob168 P) (.node (ob298 P) (.node (ob554 P) .nil .nil) .nil) (.node (ob426 P) (.node (ob685 P) .nil .nil) .nil)) (.node (ob232 P) (.node (ob362 P) (.node (ob621 P) .nil .nil) .nil) (.node (ob490 P) (.node (ob749 P) .nil .nil) .nil))))) (.node (ob16 P) (.node (ob32 P) (.node (ob64 P) (.node (ob128 P) (.node (ob256 P) (.node (ob514 P) .nil .nil) (.node (ob773 P) .nil .nil)) (.node (ob386 P) (.node (ob645 P) .nil .nil) .nil)) (.node (ob192 P) (.node (ob322 P) (.node (ob581 P) .nil .nil) .nil) (.node (ob450 P) (.node (ob709 P) .nil .nil) .nil))) (.node (ob96 P) (.node (ob160 P) (.node (ob290 P) (.node (ob546 P) .nil .nil) .nil) (.node (ob418 P) (.node (ob677 P) .nil .nil) .nil)) (.node (ob224 P) (.node (ob354 P) (.node (ob613 P) .nil .nil) .nil) (.node (ob482 P) (.node (ob741 P) .nil .nil) .nil)))) (.node (ob48 P) (.node (ob80 P) (.node (ob144 P) (.node (ob274 P) (.node (ob530 P) .nil .nil) .nil) (.node (ob402 P) (.node (ob661 P) .nil .nil) .nil)) (.node (ob208 P) (.node (ob338 P) (.node (ob597 P) .nil .nil) .nil) (.node (ob466 P) (.node (ob725 P) .nil .nil) .nil))) (.node (ob112 P) (.node (ob176 P) (.node (ob306 P) (.node (ob565 P) .nil .nil) .nil) (.node (ob434 P) (.node (ob693 P) .nil .nil) .nil)) (.node (ob240 P) (.node (ob370 P) (.node (ob629 P) .nil .nil) .nil) (.node (ob498 P) (.node (ob757 P) .nil .nil) .nil)))))) (.node (ob562 P) (.node (ob12 P) (.node (ob28 P) (.node (ob60 P) (.node (ob124 P) (.node (ob252 P) (.node (ob510 P) .nil .nil) (.node (ob769 P) .nil .nil)) (.node (ob382 P) (.node (ob641 P) .nil .nil) .nil)) (.node (ob188 P) (.node (ob318 P) (.node (ob577 P) .nil .nil) .nil) (.node (ob446 P) (.node (ob705 P) .nil .nil) .nil))) (.node (ob92 P) (.node (ob156 P) (.node (ob286 P) (.node (ob542 P) .nil .nil) .nil) (.node (ob414 P) (.node (ob673 P) .nil .nil) .nil)) (.node (ob220 P) (.node (ob350 P) (.node (ob609 P) .nil .nil) .nil) (.node (ob478 P) (.node (ob737 P) .nil .nil) .nil)))) (.node (ob44 P) (.node (ob76 P) (.node (ob140 P) (.node (ob270 P) (.node (ob526 P) .nil .nil) .nil) (.node (ob398 P) (.node (ob657 P) .nil .nil) .nil)) (.node (ob204 P) (.node (ob334 P) (.node (ob593 P) .nil .nil) .nil) (.node (ob462 P) (.node (ob721 P) .nil .nil) .nil))) (.node (ob108 P) (.node (ob172 P) (.node (ob302 P) (.node (ob558 P) .nil .nil) .nil) (.node (ob430 P) (.node (ob689 P) .nil .nil) .nil)) (.node (ob236 P) (.node (ob366 P) (.node (ob625 P) .nil .nil) .nil) (.node (ob494 P) (.node (ob753 P) .nil .nil) .nil))))) (.node (ob20 P) (.node (ob36 P) (.node (ob68 P) (.node (ob132 P) (.node (ob262 P) (.node (ob518 P) .nil .nil) (.node (ob777 P) .nil .nil)) (.node (ob390 P) (.node (ob649 P) .nil .nil) .nil)) (.node (ob196 P) (.node (ob326 P) (.node (ob585 P) .nil .nil) .nil) (.node (ob454 P) (.node (ob713 P) .nil .nil) .nil))) (.node (ob100 P) (.node (ob164 P) (.node (ob294 P) (.node (ob550 P) .nil .nil) .nil) (.node (ob422 P) (.node (ob681 P) .nil .nil) .nil)) (.node (ob228 P) (.node (ob358 P) (.node (ob617 P) .nil .nil) .nil) (.node (ob486 P) (.node (ob745 P) .nil .nil) .nil)))) (.node (ob52 P) (.node (ob84 P) (.node (ob148 P) (.node (ob278 P) (.node (ob534 P) .nil .nil) .nil) (.node (ob406 P) (.node (ob665 P) .nil .nil) .nil)) (.node (ob212 P) (.node (ob342 P) (.node (ob601 P) .nil .nil) .nil) (.node (ob470 P) (.node (ob729 P) .nil .nil) .nil))) (.node (ob116 P) (.node (ob180 P) (.node (ob310 P) (.node (ob569 P) .nil .nil) .nil) (.node (ob438 P) (.node (ob697 P) .nil .nil) .nil)) (.node (ob244 P) (.node (ob374 P) (.node (ob633 P) .nil .nil) .nil) (.node (ob502 P) (.node (ob761 P) .nil .nil) .nil))))))) (.node (boot_o_6 P) (.node (boot_o_10 P) (.node (ob10 P) (.node (ob26 P) (.node (ob58 P) (.node (ob122 P) (.node (ob250 P) (.node (ob508 P) .nil .nil) (.node (ob767 P) .nil .nil)) (.node (ob380 P) (.node (ob639 P) .nil .nil) .nil)) (.node (ob186 P) (.node (ob316 P) (.node (ob575 P) .nil .nil) .nil) (.node (ob444 P) (.node (ob703 P) .nil .nil) .nil))) (.node (ob90 P) (.node (ob154 P) (.node (ob284 P) (.node (ob540 P) .nil .nil) .nil) (.node (ob412 P) (.node (ob671 P) .nil .nil) .nil)) (.node (ob218 P) (.node (ob348 P) (.node (ob607 P) .nil .nil) .nil) (.node (ob476 P) (.node (ob735 P) .nil .nil) .nil)))) (.node (ob42 P) (.node (ob74 P) (.node (ob138 P) (.node (ob268 P) (.node (ob524 P) .nil .nil) .nil) (.node (ob396 P) (.node (ob655 P) .nil .nil) .nil)) (.node (ob202 P) (.node (ob332 P) (.node (ob591 P) .nil .nil) .nil) (.node (ob460 P) (.node (ob719 P) .nil .nil) .nil))) (.node (ob106 P) (.node (ob170 P) (.node (ob300 P) (.node (ob556 P) .nil .nil) .nil) (.node (ob428 P) (.node (ob687 P) .nil .nil) .nil)) (.node (ob234 P) (.node (ob364 P) (.node (ob623 P) .nil .nil) .nil) (.node (ob492 P) (.node (ob751 P) .nil .nil) .nil))))) (.node (ob18 P) (.node (ob34 P) (.node (ob66 P) (.node (ob130 P) (.node (ob260 P) (.node (ob516 P) .nil .nil) (.node (ob775 P) .nil .nil)) (.node (ob388 P) (.node (ob647 P) .nil .nil) .nil)) (.node (ob194 P) (.node (ob324 P) (.node (ob583 P) .nil .nil) .nil) (.node (ob452 P) (.node (ob711 P) .nil .nil) .nil))) (.node (ob98 P) (.node (ob162 P) (.node (ob292 P) (.node (ob548 P) .nil .nil) .nil) (.node (ob420 P) (.node (ob679 P) .nil .nil) .nil)) (.node (ob226 P) (.node (ob356 P) (.node (ob615 P) .nil .nil) .nil) (.node (ob484 P) (.node (ob743 P) .nil .nil) .nil)))) (.node (ob50 P) (.node (ob82 P) (.node (ob146 P) (.node (ob276 P) (.node (ob532 P) .nil .nil) .nil) (.node (ob404 P) (.node (ob663 P) .nil .nil) .nil)) (.node (ob210 P) (.node (ob340 P) (.node (ob599 P) .nil .nil) .nil) (.node (ob468 P) (.node (ob727 P) .nil .nil) .nil))) (.node (ob114 P) (.node (ob178 P) (.node (ob308 P) (.node (ob567 P) .nil .nil) .nil) (.node (ob436 P) (.node (ob695 P) .nil .nil) .nil)) (.node (ob242 P) (.node (ob372 P) (.node (ob631 P) .nil .nil) .nil) (.node (ob500 P) (.node (ob759 P) .nil .nil) .nil)))))) (.node (ob3 P) (.node (ob14 P) (.node (ob30 P) (.node (ob62 P) (.node (ob126 P) (.node (ob254 P) (.node (ob512 P) .nil .nil) (.node (ob771 P) .nil .nil)) (.node (ob384 P) (.node (ob643 P) .nil .nil) .nil)) (.node (ob190 P) (.node (ob320 P) (.node (ob579 P) .nil .nil) .nil) (.node (ob448 P) (.node (ob707 P) .nil .nil) .nil))) (.node (ob94 P) (.node (ob158 P) (.node (ob288 P) (.node (ob544 P) .nil .nil) .nil) (.node (ob416 P) (.node (ob675 P) .nil .nil) .nil)) (.node (ob222 P) (.node (ob352 P) (.node (ob611 P) .nil .nil) .nil) (.node (ob480 P) (.node (ob739 P) .nil .nil) .nil)))) (.node (ob46 P) (.node (ob78 P) (.node (ob142 P) (.node (ob272 P) (.node (ob528 P) .nil .nil) .nil) (.node (ob400 P) (.node (ob659 P) .nil .nil) .nil)) (.node (ob206 P) (.node (ob336 P) (.node (ob595 P) .nil .nil) .nil) (.node (ob464 P) (.node (ob723 P) .nil .nil) .nil))) (.node (ob110 P) (.node (ob174 P) (.node (ob304 P) (.node (ob560 P) .nil .nil) .nil) (.node (ob432 P) (.node (ob691 P) .nil .nil) .nil)) (.node (ob238 P) (.node (ob368 P) (.node (ob627 P) .nil .nil) .nil) (.node (ob496 P) (.node (ob755 P) .nil .nil) .nil))))) (.node (ob22 P) (.node (ob38 P) (.node (ob70 P) (.node (ob134 P) (.node (ob264 P) (.node (ob520 P) .nil .nil) (.node (ob779 P) .nil .nil)) (.node (ob392 P) (.node (ob651 P) .nil .nil) .nil)) (.node (ob198 P) (.node (ob328 P) (.node (ob587 P) .nil .nil) .nil) (.node (ob456 P) (.node (ob715 P) .nil .nil) .nil))) (.node (ob102 P) (.node (ob166 P) (.node (ob296 P) (.node (ob563 P) .nil .nil) .nil) (.node (ob424 P) (.node (ob683 P) .nil .nil) .nil)) (.node (ob230 P) (.node (ob360 P) (.node (ob619 P) .nil .nil) .nil) (.node (ob488 P) (.node (ob747 P) .nil .nil) .nil)))) (.node (ob54 P) (.node (ob86 P) (.node (ob150 P) (.node (ob280 P) (.node (ob536 P) .nil .nil) .nil) (.node (ob408 P) (.node (ob667 P) .nil .nil) .nil)) (.node (ob214 P) (.node (ob344 P) (.node (ob603 P) .nil .nil) .nil) (.node (ob472 P) (.node (ob731 P) .nil .nil) .nil))) (.node (ob118 P) (.node (ob182 P) (.node (ob312 P) (.node (ob571 P) .nil .nil) .nil) (.node (ob440 P) (.node (ob699 P) .nil .nil) .nil)) (.node (ob246 P) (.node (ob376 P) (.node (ob635 P) .nil .nil) .nil) (.node (ob504 P) (.node (ob763 P) .nil .nil) .nil)))))))))
noncomputable def stT3 (w : World) (os : OsState) : SharedT := ⟨tree3 w.params, 783, (boot_heap w.params).life, #[], boot_drawn, 1304, os⟩
noncomputable def ob780 : Params → Obj := fun P => ⟨(.type "dict"), none, .dict #[⟨PyData.keyHash P "__name__", (.str "__name__" 165), (.str "law_ci0024_03" 1304)⟩, ⟨PyData.keyHash P "__doc__", (.str "__doc__" 166), .none⟩, ⟨PyData.keyHash P "__package__", (.str "__package__" 167), .none⟩, ⟨PyData.keyHash P "__loader__", (.str "__loader__" 168), (.builtin "__main__.__loader__#opaque")⟩, ⟨PyData.keyHash P "__spec__", (.str "__spec__" 169), .none⟩, ⟨PyData.keyHash P "__annotations__", (.str "__annotations__" 170), (.ref 6)⟩, ⟨PyData.keyHash P "__builtins__", (.str "__builtins__" 171), (.ref 4)⟩, ⟨PyData.keyHash P "__file__", (.str "__file__" 173), (.str "/claim/cut.py" 172)⟩, ⟨PyData.keyHash P "__cached__", (.str "__cached__" 174), .none⟩, ⟨PyData.keyHash P "_wall", (.str "_wall" 193), (.ref 21)⟩, ⟨PyData.keyHash P "dfs_postorder_nodes", (.str "dfs_postorder_nodes" 207), (.ref 30)⟩, ⟨PyData.keyHash P "dfs_labeled_edges", (.str "dfs_labeled_edges" 229), (.ref 39)⟩, ⟨PyData.keyHash P "NodeView", (.str "NodeView" 299), (.ref 94)⟩, ⟨PyData.keyHash P "OutEdgeView", (.str "OutEdgeView" 383), (.ref 158)⟩, ⟨PyData.keyHash P "EdgeView", (.str "EdgeView" 428), (.ref 193)⟩, ⟨PyData.keyHash P "NetworkXException", (.str "NetworkXException" 450), (.ref 205)⟩, ⟨PyData.keyHash P "NetworkXError", (.str "NetworkXError" 466), (.ref 218)⟩, ⟨PyData.keyHash P "_NOT_FOUND", (.str "_NOT_FOUND" 469), (.ref 221)⟩, ⟨PyData.keyHash P "cached_property", (.str "cached_property" 532), (.ref 260)⟩, ⟨PyData.keyHash P "Graph", (.str "Graph" 940), (.ref 558)⟩, ⟨PyData.keyHash P "DiGraph", (.str "DiGraph" 1303), (.ref 773)⟩, ⟨PyData.keyHash P "_law_seed", (.str "_law_seed" 1314), (.ref 789)⟩, ⟨PyData.keyHash P "_law_next", (.str "_law_next" 1322), (.ref 796)⟩, ⟨PyData.keyHash P "_law_walk", (.str "_law_walk" 1335), (.ref 803)⟩, ⟨PyData.keyHash P "_law_whole", (.str "_law_whole" 1347), (.ref 810)⟩, ⟨PyData.keyHash P "_law_done", (.str "_law_done" 1353), (.ref 815)⟩, ⟨PyData.keyHash P "law", (.str "law" 1359), (.ref 820)⟩] 27, #[]⟩
noncomputable def ob781 : Params → Obj := fun _ => ⟨.none, none, .fields #[(.int 1 0), (.int 0 0), (.ref 20), (.int 5 0), (.int 0 0), (.ref 29), (.int 8 0), (.int 0 0), (.ref 38), (.int 45 0), (.int 0 0), (.ref 45), (.int 66 0), (.int 0 0), (.ref 103), (.int 99 0), (.int 0 0), (.ref 168), (.int 120 0), (.int 0 0), (.ref 201), (.int 122 0), (.int 0 0), (.ref 214), (.int 126 0), (.int 0 0), (.ref 227), (.int 165 0), (.int 0 0), (.ref 271), (.int 357 0), (.int 0 0), (.ref 572), (.int 518 0), (.int 0 0), (.ref 788), (.int 523 0), (.int 0 0), (.ref 795), (.int 526 0), (.int 0 0), (.ref 802), (.int 539 0), (.int 0 0), (.ref 809), (.int 546 0), (.int 0 0), (.ref 814), (.int 548 0), (.int 0 0), (.ref 819)], #[]⟩
noncomputable def ob782 : Params → Obj := fun _ => ⟨(.type "tuple"), none, .seq #[] 0, #[]⟩
noncomputable def ob783 : Params → Obj := fun _ => ⟨.none, none, .fields #[], #[]⟩
noncomputable def ob784 : Params → Obj := fun _ => ⟨(.type "tuple"), none, .seq #[(.str "script" 1309), (.str "seed" 1310), (.str "cell" 1311)] 0, #[]⟩
noncomputable def ob785 : Params → Obj := fun _ => ⟨(.type "tuple"), none, .seq #[] 0, #[]⟩
noncomputable def ob786 : Params → Obj := fun _ => ⟨.none, none, .func ⟨"_law_seed", "_law_seed", fpar [19], fbody [19], fscope [19], 0, [], .none, .none, .none, .none, none, .none, .none, 0⟩, #[]⟩
noncomputable def ob787 : Params → Obj := fun _ => ⟨(.type "code"), none, .fields #[(.str "_law_seed" 1306), (.str "_law_seed" 1307), (.str "/claim/cut.py" 1308), (.int 518 0), (.int 1 0), (.int 0 0), (.int 0 0), (.int 3 0), (.ref 783), (.bool true), (.int 181 0), (.ref 784), .none, (.ref 785), (.ref 786), (.ref 787), (.int 1312 0), (.int 518 0), (.str "/claim/cut.py" 1313)], #[]⟩
noncomputable def ob788 : Params → Obj := fun _ => ⟨(.type "function"), none, .func ⟨"_law_seed", "_law_seed", fpar [19], fbody [19], fscope [19], 3, [], .none, .none, .none, (.str "law_ci0024_03" 1304), none, (.ref 788), .none, 0⟩, #[]⟩
noncomputable def ob789 : Params → Obj := fun _ => ⟨(.type "tuple"), none, .seq #[] 0, #[]⟩
noncomputable def ob790 : Params → Obj := fun _ => ⟨.none, none, .fields #[], #[]⟩
noncomputable def ob791 : Params → Obj := fun _ => ⟨(.type "tuple"), none, .seq #[(.str "s" 1318), (.str "many" 1319)] 0, #[]⟩
noncomputable def ob792 : Params → Obj := fun _ => ⟨(.type "tuple"), none, .seq #[] 0, #[]⟩
noncomputable def ob793 : Params → Obj := fun _ => ⟨.none, none, .func ⟨"_law_next", "_law_next", fpar [20], fbody [20], fscope [20], 0, [], .none, .none, .none, .none, none, .none, .none, 0⟩, #[]⟩
noncomputable def ob794 : Params → Obj := fun _ => ⟨(.type "code"), none, .fields #[(.str "_law_next" 1315), (.str "_law_next" 1316), (.str "/claim/cut.py" 1317), (.int 523 0), (.int 2 0), (.int 0 0), (.int 0 0), (.int 3 0), (.ref 790), (.bool true), (.int 181 0), (.ref 791), .none, (.ref 792), (.ref 793), (.ref 794), (.int 1320 0), (.int 523 0), (.str "/claim/cut.py" 1321)], #[]⟩
noncomputable def ob795 : Params → Obj := fun _ => ⟨(.type "function"), none, .func ⟨"_law_next", "_law_next", fpar [20], fbody [20], fscope [20], 3, [], .none, .none, .none, (.str "law_ci0024_03" 1304), none, (.ref 795), .none, 0⟩, #[]⟩
noncomputable def ob796 : Params → Obj := fun _ => ⟨(.type "tuple"), none, .seq #[] 0, #[]⟩
noncomputable def ob797 : Params → Obj := fun _ => ⟨.none, none, .fields #[], #[]⟩
noncomputable def ob798 : Params → Obj := fun _ => ⟨(.type "tuple"), none, .seq #[(.str "near" 1326), (.str "seen" 1327), (.str "one" 1328), (.str "depth" 1329), (.str "limit" 1330), (.str "rows" 1331), (.str "other" 1332)] 0, #[]⟩
noncomputable def ob799 : Params → Obj := fun _ => ⟨(.type "tuple"), none, .seq #[] 0, #[]⟩
noncomputable def ob800 : Params → Obj := fun _ => ⟨.none, none, .func ⟨"_law_walk", "_law_walk", fpar [21], fbody [21], fscope [21], 0, [], .none, .none, .none, .none, none, .none, .none, 0⟩, #[]⟩
noncomputable def ob801 : Params → Obj := fun _ => ⟨(.type "code"), none, .fields #[(.str "_law_walk" 1323), (.str "_law_walk" 1324), (.str "/claim/cut.py" 1325), (.int 526 0), (.int 5 0), (.int 0 0), (.int 0 0), (.int 3 0), (.ref 797), (.bool true), (.int 181 0), (.ref 798), .none, (.ref 799), (.ref 800), (.ref 801), (.int 1333 0), (.int 526 0), (.str "/claim/cut.py" 1334)], #[]⟩
noncomputable def ob802 : Params → Obj := fun _ => ⟨(.type "function"), none, .func ⟨"_law_walk", "_law_walk", fpar [21], fbody [21], fscope [21], 3, [], .none, .none, .none, (.str "law_ci0024_03" 1304), none, (.ref 802), .none, 0⟩, #[]⟩
noncomputable def ob803 : Params → Obj := fun _ => ⟨(.type "tuple"), none, .seq #[] 0, #[]⟩
noncomputable def ob804 : Params → Obj := fun _ => ⟨.none, none, .fields #[], #[]⟩
noncomputable def ob805 : Params → Obj := fun _ => ⟨(.type "tuple"), none, .seq #[(.str "near" 1339), (.str "starts" 1340), (.str "limit" 1341), (.str "rows" 1342), (.str "seen" 1343), (.str "start" 1344)] 0, #[]⟩
noncomputable def ob806 : Params → Obj := fun _ => ⟨(.type "tuple"), none, .seq #[] 0, #[]⟩
noncomputable def ob807 : Params → Obj := fun _ => ⟨.none, none, .func ⟨"_law_whole", "_law_whole", fpar [22], fbody [22], fscope [22], 0, [], .none, .none, .none, .none, none, .none, .none, 0⟩, #[]⟩
noncomputable def ob808 : Params → Obj := fun _ => ⟨(.type "code"), none, .fields #[(.str "_law_whole" 1336), (.str "_law_whole" 1337), (.str "/claim/cut.py" 1338), (.int 539 0), (.int 3 0), (.int 0 0), (.int 0 0), (.int 3 0), (.ref 804), (.bool true), (.int 181 0), (.ref 805), .none, (.ref 806), (.ref 807), (.ref 808), (.int 1345 0), (.int 539 0), (.str "/claim/cut.py" 1346)], #[]⟩
noncomputable def ob809 : Params → Obj := fun _ => ⟨(.type "function"), none, .func ⟨"_law_whole", "_law_whole", fpar [22], fbody [22], fscope [22], 3, [], .none, .none, .none, (.str "law_ci0024_03" 1304), none, (.ref 809), .none, 0⟩, #[]⟩
noncomputable def ob810 : Params → Obj := fun _ => ⟨(.type "tuple"), none, .seq #[] 0, #[]⟩
noncomputable def ob811 : Params → Obj := fun _ => ⟨.none, none, .fields #[], #[]⟩
noncomputable def ob812 : Params → Obj := fun _ => ⟨.none, none, .func ⟨"_law_done", "_law_done", fpar [23], fbody [23], fscope [23], 0, [], .none, .none, .none, .none, none, .none, .none, 0⟩, #[]⟩
noncomputable def ob813 : Params → Obj := fun _ => ⟨(.type "code"), none, .fields #[(.str "_law_done" 1348), (.str "_law_done" 1349), (.str "/claim/cut.py" 1350), (.int 546 0), (.int 1 0), (.int 0 0), (.int 0 0), (.int 3 0), (.ref 811), (.bool true), (.int 181 0), (.ref 812), .none, .none, .none, (.ref 813), (.int 1351 0), (.int 546 0), (.str "/claim/cut.py" 1352)], #[]⟩
noncomputable def ob814 : Params → Obj := fun _ => ⟨(.type "function"), none, .func ⟨"_law_done", "_law_done", fpar [23], fbody [23], fscope [23], 3, [], .none, .none, .none, (.str "law_ci0024_03" 1304), none, (.ref 814), .none, 0⟩, #[]⟩
noncomputable def ob815 : Params → Obj := fun _ => ⟨(.type "tuple"), none, .seq #[] 0, #[]⟩
noncomputable def ob816 : Params → Obj := fun _ => ⟨.none, none, .fields #[], #[]⟩
noncomputable def ob817 : Params → Obj := fun _ => ⟨.none, none, .func ⟨"law", "law", fpar [24], fbody [24], fscope [24], 0, [], .none, .none, .none, .none, none, .none, .none, 0⟩, #[]⟩
noncomputable def ob818 : Params → Obj := fun _ => ⟨(.type "code"), none, .fields #[(.str "law" 1354), (.str "law" 1355), (.str "/claim/cut.py" 1356), (.int 548 0), (.int 1 0), (.int 0 0), (.int 0 0), (.int 3 0), (.ref 816), (.bool true), (.int 181 0), (.ref 817), .none, .none, .none, (.ref 818), (.int 1357 0), (.int 548 0), (.str "/claim/cut.py" 1358)], #[]⟩
noncomputable def ob819 : Params → Obj := fun _ => ⟨(.type "function"), none, .func ⟨"law", "law", fpar [24], fbody [24], fscope [24], 3, [], .none, .none, .none, (.str "law_ci0024_03" 1304), none, (.ref 819), .none, 0⟩, #[]⟩
noncomputable def tree4 : Params → BT := fun P => (.node (boot_o_0 P) (.node (boot_o_1 P) (.node (ob780 P) (.node (boot_o_7 P) (.node (ob7 P) (.node (ob23 P) (.node (ob55 P) (.node (ob119 P) (.node (ob247 P) (.node (ob505 P) .nil .nil) (.node (ob764 P) .nil .nil)) (.node (ob377 P) (.node (ob636 P) .nil .nil) .nil)) (.node (ob183 P) (.node (ob313 P) (.node (ob572 P) .nil .nil) .nil) (.node (ob441 P) (.node (ob700 P) .nil .nil) .nil))) (.node (ob87 P) (.node (ob151 P) (.node (ob281 P) (.node (ob537 P) .nil .nil) (.node (ob798 P) .nil .nil)) (.node (ob409 P) (.node (ob668 P) .nil .nil) .nil)) (.node (ob215 P) (.node (ob345 P) (.node (ob604 P) .nil .nil) .nil) (.node (ob473 P) (.node (ob732 P) .nil .nil) .nil)))) (.node (ob39 P) (.node (ob71 P) (.node (ob135 P) (.node (ob265 P) (.node (ob521 P) .nil .nil) (.node (ob782 P) .nil .nil)) (.node (ob393 P) (.node (ob652 P) .nil .nil) .nil)) (.node (ob199 P) (.node (ob329 P) (.node (ob588 P) .nil .nil) .nil) (.node (ob457 P) (.node (ob716 P) .nil .nil) .nil))) (.node (ob103 P) (.node (ob167 P) (.node (ob297 P) (.node (ob553 P) .nil .nil) (.node (ob814 P) .nil .nil)) (.node (ob425 P) (.node (ob684 P) .nil .nil) .nil)) (.node (ob231 P) (.node (ob361 P) (.node (ob620 P) .nil .nil) .nil) (.node (ob489 P) (.node (ob748 P) .nil .nil) .nil))))) (.node (ob15 P) (.node (ob31 P) (.node (ob63 P) (.node (ob127 P) (.node (ob255 P) (.node (ob513 P) .nil .nil) (.node (ob772 P) .nil .nil)) (.node (ob385 P) (.node (ob644 P) .nil .nil) .nil)) (.node (ob191 P) (.node (ob321 P) (.node (ob580 P) .nil .nil) .nil) (.node (ob449 P) (.node (ob708 P) .nil .nil) .nil))) (.node (ob95 P) (.node (ob159 P) (.node (ob289 P) (.node (ob545 P) .nil .nil) (.node (ob806 P) .nil .nil)) (.node (ob417 P) (.node (ob676 P) .nil .nil) .nil)) (.node (ob223 P) (.node (ob353 P) (.node (ob612 P) .nil .nil) .nil) (.node (ob481 P) (.node (ob740 P) .nil .nil) .nil)))) (.node (ob47 P) (.node (ob79 P) (.node (ob143 P) (.node (ob273 P) (.node (ob529 P) .nil .nil) (.node (ob790 P) .nil .nil)) (.node (ob401 P) (.node (ob660 P) .nil .nil) .nil)) (.node (ob207 P) (.node (ob337 P) (.node (ob596 P) .nil .nil) .nil) (.node (ob465 P) (.node (ob724 P) .nil .nil) .nil))) (.node (ob111 P) (.node (ob175 P) (.node (ob305 P) (.node (ob564 P) .nil .nil) .nil) (.node (ob433 P) (.node (ob692 P) .nil .nil) .nil)) (.node (ob239 P) (.node (ob369 P) (.node (ob628 P) .nil .nil) .nil) (.node (ob497 P) (.node (ob756 P) .nil .nil) .nil)))))) (.node (ob0 P) (.node (ob11 P) (.node (ob27 P) (.node (ob59 P) (.node (ob123 P) (.node (ob251 P) (.node (ob509 P) .nil .nil) (.node (ob768 P) .nil .nil)) (.node (ob381 P) (.node (ob640 P) .nil .nil) .nil)) (.node (ob187 P) (.node (ob317 P) (.node (ob576 P) .nil .nil) .nil) (.node (ob445 P) (.node (ob704 P) .nil .nil) .nil))) (.node (ob91 P) (.node (ob155 P) (.node (ob285 P) (.node (ob541 P) .nil .nil) (.node (ob802 P) .nil .nil)) (.node (ob413 P) (.node (ob672 P) .nil .nil) .nil)) (.node (ob219 P) (.node (ob349 P) (.node (ob608 P) .nil .nil) .nil) (.node (ob477 P) (.node (ob736 P) .nil .nil) .nil)))) (.node (ob43 P) (.node (ob75 P) (.node (ob139 P) (.node (ob269 P) (.node (ob525 P) .nil .nil) (.node (ob786 P) .nil .nil)) (.node (ob397 P) (.node (ob656 P) .nil .nil) .nil)) (.node (ob203 P) (.node (ob333 P) (.node (ob592 P) .nil .nil) .nil) (.node (ob461 P) (.node (ob720 P) .nil .nil) .nil))) (.node (ob107 P) (.node (ob171 P) (.node (ob301 P) (.node (ob557 P) .nil .nil) (.node (ob818 P) .nil .nil)) (.node (ob429 P) (.node (ob688 P) .nil .nil) .nil)) (.node (ob235 P) (.node (ob365 P) (.node (ob624 P) .nil .nil) .nil) (.node (ob493 P) (.node (ob752 P) .nil .nil) .nil))))) (.node (ob19 P) (.node (ob35 P) (.node (ob67 P) (.node (ob131 P) (.node (ob261 P) (.node (ob517 P) .nil .nil) (.node (ob776 P) .nil .nil)) (.node (ob389 P) (.node (ob648 P) .nil .nil) .nil)) (.node (ob195 P) (.node (ob325 P) (.node (ob584 P) .nil .nil) .nil) (.node (ob453 P) (.node (ob712 P) .nil .nil) .nil))) (.node (ob99 P) (.node (ob163 P) (.node (ob293 P) (.node (ob549 P) .nil .nil) (.node (ob810 P) .nil .nil)) (.node (ob421 P) (.node (ob680 P) .nil .nil) .nil)) (.node (ob227 P) (.node (ob357 P) (.node (ob616 P) .nil .nil) .nil) (.node (ob485 P) (.node (ob744 P) .nil .nil) .nil)))) (.node (ob51 P) (.node (ob83 P) (.node (ob147 P) (.node (ob277 P) (.node (ob533 P) .nil .nil) (.node (ob794 P) .nil .nil)) (.node (ob405 P) (.node (ob664 P) .nil .nil) .nil)) (.node (ob211 P) (.node (ob341 P) (.node (ob600 P) .nil .nil) .nil) (.node (ob469 P) (.node (ob728 P) .nil .nil) .nil))) (.node (ob115 P) (.node (ob179 P) (.node (ob309 P) (.node (ob568 P) .nil .nil) .nil) (.node (ob437 P) (.node (ob696 P) .nil .nil) .nil)) (.node (ob243 P) (.node (ob373 P) (.node (ob632 P) .nil .nil) .nil) (.node (ob501 P) (.node (ob760 P) .nil .nil) .nil))))))) (.node (boot_o_5 P) (.node (boot_o_9 P) (.node (ob9 P) (.node (ob25 P) (.node (ob57 P) (.node (ob121 P) (.node (ob249 P) (.node (ob507 P) .nil .nil) (.node (ob766 P) .nil .nil)) (.node (ob379 P) (.node (ob638 P) .nil .nil) .nil)) (.node (ob185 P) (.node (ob315 P) (.node (ob574 P) .nil .nil) .nil) (.node (ob443 P) (.node (ob702 P) .nil .nil) .nil))) (.node (ob89 P) (.node (ob153 P) (.node (ob283 P) (.node (ob539 P) .nil .nil) (.node (ob800 P) .nil .nil)) (.node (ob411 P) (.node (ob670 P) .nil .nil) .nil)) (.node (ob217 P) (.node (ob347 P) (.node (ob606 P) .nil .nil) .nil) (.node (ob475 P) (.node (ob734 P) .nil .nil) .nil)))) (.node (ob41 P) (.node (ob73 P) (.node (ob137 P) (.node (ob267 P) (.node (ob523 P) .nil .nil) (.node (ob784 P) .nil .nil)) (.node (ob395 P) (.node (ob654 P) .nil .nil) .nil)) (.node (ob201 P) (.node (ob331 P) (.node (ob590 P) .nil .nil) .nil) (.node (ob459 P) (.node (ob718 P) .nil .nil) .nil))) (.node (ob105 P) (.node (ob169 P) (.node (ob299 P) (.node (ob555 P) .nil .nil) (.node (ob816 P) .nil .nil)) (.node (ob427 P) (.node (ob686 P) .nil .nil) .nil)) (.node (ob233 P) (.node (ob363 P) (.node (ob622 P) .nil .nil) .nil) (.node (ob491 P) (.node (ob750 P) .nil .nil) .nil))))) (.node (ob17 P) (.node (ob33 P) (.node (ob65 P) (.node (ob129 P) (.node (ob257 P) (.node (ob515 P) .nil .nil) (.node (ob774 P) .nil .nil)) (.node (ob387 P) (.node (ob646 P) .nil .nil) .nil)) (.node (ob193 P) (.node (ob323 P) (.node (ob582 P) .nil .nil) .nil) (.node (ob451 P) (.node (ob710 P) .nil .nil) .nil))) (.node (ob97 P) (.node (ob161 P) (.node (ob291 P) (.node (ob547 P) .nil .nil) (.node (ob808 P) .nil .nil)) (.node (ob419 P) (.node (ob678 P) .nil .nil) .nil)) (.node (ob225 P) (.node (ob355 P) (.node (ob614 P) .nil .nil) .nil) (.node (ob483 P) (.node (ob742 P) .nil .nil) .nil)))) (.node (ob49 P) (.node (ob81 P) (.node (ob145 P) (.node (ob275 P) (.node (ob531 P) .nil .nil) (.node (ob792 P) .nil .nil)) (.node (ob403 P) (.node (ob662 P) .nil .nil) .nil)) (.node (ob209 P) (.node (ob339 P) (.node (ob598 P) .nil .nil) .nil) (.node (ob467 P) (.node (ob726 P) .nil .nil) .nil))) (.node (ob113 P) (.node (ob177 P) (.node (ob307 P) (.node (ob566 P) .nil .nil) .nil) (.node (ob435 P) (.node (ob694 P) .nil .nil) .nil)) (.node (ob241 P) (.node (ob371 P) (.node (ob630 P) .nil .nil) .nil) (.node (ob499 P) (.node (ob758 P) .nil .nil) .nil)))))) (.node (ob2 P) (.node (ob13 P) (.node (ob29 P) (.node (ob61 P) (.node (ob125 P) (.node (ob253 P) (.node (ob511 P) .nil .nil) (.node (ob770 P) .nil .nil)) (.node (ob383 P) (.node (ob642 P) .nil .nil) .nil)) (.node (ob189 P) (.node (ob319 P) (.node (ob578 P) .nil .nil) .nil) (.node (ob447 P) (.node (ob706 P) .nil .nil) .nil))) (.node (ob93 P) (.node (ob157 P) (.node (ob287 P) (.node (ob543 P) .nil .nil) (.node (ob804 P) .nil .nil)) (.node (ob415 P) (.node (ob674 P) .nil .nil) .nil)) (.node (ob221 P) (.node (ob351 P) (.node (ob610 P) .nil .nil) .nil) (.node (ob479 P) (.node (ob738 P) .nil .nil) .nil)))) (.node (ob45 P) (.node (ob77 P) (.node (ob141 P) (.node (ob271 P) (.node (ob527 P) .nil .nil) (.node (ob788 P) .nil .nil)) (.node (ob399 P) (.node (ob658 P) .nil .nil) .nil)) (.node (ob205 P) (.node (ob335 P) (.node (ob594 P) .nil .nil) .nil) (.node (ob463 P) (.node (ob722 P) .nil .nil) .nil))) (.node (ob109 P) (.node (ob173 P) (.node (ob303 P) (.node (ob559 P) .nil .nil) .nil) (.node (ob431 P) (.node (ob690 P) .nil .nil) .nil)) (.node (ob237 P) (.node (ob367 P) (.node (ob626 P) .nil .nil) .nil) (.node (ob495 P) (.node (ob754 P) .nil .nil) .nil))))) (.node (ob21 P) (.node (ob37 P) (.node (ob69 P) (.node (ob133 P) (.node (ob263 P) (.node (ob519 P) .nil .nil) (.node (ob778 P) .nil .nil)) (.node (ob391 P) (.node (ob650 P) .nil .nil) .nil)) (.node (ob197 P) (.node (ob327 P) (.node (ob586 P) .nil .nil) .nil) (.node (ob455 P) (.node (ob714 P) .nil .nil) .nil))) (.node (ob101 P) (.node (ob165 P) (.node (ob295 P) (.node (ob551 P) .nil .nil) (.node (ob812 P) .nil .nil)) (.node (ob423 P) (.node (ob682 P) .nil .nil) .nil)) (.node (ob229 P) (.node (ob359 P) (.node (ob618 P) .nil .nil) .nil) (.node (ob487 P) (.node (ob746 P) .nil .nil) .nil)))) (.node (ob53 P) (.node (ob85 P) (.node (ob149 P) (.node (ob279 P) (.node (ob535 P) .nil .nil) (.node (ob796 P) .nil .nil)) (.node (ob407 P) (.node (ob666 P) .nil .nil) .nil)) (.node (ob213 P) (.node (ob343 P) (.node (ob602 P) .nil .nil) .nil) (.node (ob471 P) (.node (ob730 P) .nil .nil) .nil))) (.node (ob117 P) (.node (ob181 P) (.node (ob311 P) (.node (ob570 P) .nil .nil) .nil) (.node (ob439 P) (.node (ob698 P) .nil .nil) .nil)) (.node (ob245 P) (.node (ob375 P) (.node (ob634 P) .nil .nil) .nil) (.node (ob503 P) (.node (ob762 P) .nil .nil) .nil)))))))) (.node (ob4 P) (.node (boot_o_4 P) (.node (boot_o_8 P) (.node (ob8 P) (.node (ob24 P) (.node (ob56 P) (.node (ob120 P) (.node (ob248 P) (.node (ob506 P) .nil .nil) (.node (ob765 P) .nil .nil)) (.node (ob378 P) (.node (ob637 P) .nil .nil) .nil)) (.node (ob184 P) (.node (ob314 P) (.node (ob573 P) .nil .nil) .nil) (.node (ob442 P) (.node (ob701 P) .nil .nil) .nil))) (.node (ob88 P) (.node (ob152 P) (.node (ob282 P) (.node (ob538 P) .nil .nil) (.node (ob799 P) .nil .nil)) (.node (ob410 P) (.node (ob669 P) .nil .nil) .nil)) (.node (ob216 P) (.node (ob346 P) (.node (ob605 P) .nil .nil) .nil) (.node (ob474 P) (.node (ob733 P) .nil .nil) .nil)))) (.node (ob40 P) (.node (ob72 P) (.node (ob136 P) (.node (ob266 P) (.node (ob522 P) .nil .nil) (.node (ob783 P) .nil .nil)) (.node (ob394 P) (.node (ob653 P) .nil .nil) .nil)) (.node (ob200 P) (.node (ob330 P) (.node (ob589 P) .nil .nil) .nil) (.node (ob458 P) (.node (ob717 P) .nil .nil) .nil))) (.node (ob104 P) (.node (ob168 P) (.node (ob298 P) (.node (ob554 P) .nil .nil) (.node (ob815 P) .nil .nil)) (.node (ob426 P) (.node (ob685 P) .nil .nil) .nil)) (.node (ob232 P) (.node (ob362 P) (.node (ob621 P) .nil .nil) .nil) (.node (ob490 P) (.node (ob749 P) .nil .nil) .nil))))) (.node (ob16 P) (.node (ob32 P) (.node (ob64 P) (.node (ob128 P) (.node (ob256 P) (.node (ob514 P) .nil .nil) (.node (ob773 P) .nil .nil)) (.node (ob386 P) (.node (ob645 P) .nil .nil) .nil)) (.node (ob192 P) (.node (ob322 P) (.node (ob581 P) .nil .nil) .nil) (.node (ob450 P) (.node (ob709 P) .nil .nil) .nil))) (.node (ob96 P) (.node (ob160 P) (.node (ob290 P) (.node (ob546 P) .nil .nil) (.node (ob807 P) .nil .nil)) (.node (ob418 P) (.node (ob677 P) .nil .nil) .nil)) (.node (ob224 P) (.node (ob354 P) (.node (ob613 P) .nil .nil) .nil) (.node (ob482 P) (.node (ob741 P) .nil .nil) .nil)))) (.node (ob48 P) (.node (ob80 P) (.node (ob144 P) (.node (ob274 P) (.node (ob530 P) .nil .nil) (.node (ob791 P) .nil .nil)) (.node (ob402 P) (.node (ob661 P) .nil .nil) .nil)) (.node (ob208 P) (.node (ob338 P) (.node (ob597 P) .nil .nil) .nil) (.node (ob466 P) (.node (ob725 P) .nil .nil) .nil))) (.node (ob112 P) (.node (ob176 P) (.node (ob306 P) (.node (ob565 P) .nil .nil) .nil) (.node (ob434 P) (.node (ob693 P) .nil .nil) .nil)) (.node (ob240 P) (.node (ob370 P) (.node (ob629 P) .nil .nil) .nil) (.node (ob498 P) (.node (ob757 P) .nil .nil) .nil)))))) (.node (ob781 P) (.node (ob12 P) (.node (ob28 P) (.node (ob60 P) (.node (ob124 P) (.node (ob252 P) (.node (ob510 P) .nil .nil) (.node (ob769 P) .nil .nil)) (.node (ob382 P) (.node (ob641 P) .nil .nil) .nil)) (.node (ob188 P) (.node (ob318 P) (.node (ob577 P) .nil .nil) .nil) (.node (ob446 P) (.node (ob705 P) .nil .nil) .nil))) (.node (ob92 P) (.node (ob156 P) (.node (ob286 P) (.node (ob542 P) .nil .nil) (.node (ob803 P) .nil .nil)) (.node (ob414 P) (.node (ob673 P) .nil .nil) .nil)) (.node (ob220 P) (.node (ob350 P) (.node (ob609 P) .nil .nil) .nil) (.node (ob478 P) (.node (ob737 P) .nil .nil) .nil)))) (.node (ob44 P) (.node (ob76 P) (.node (ob140 P) (.node (ob270 P) (.node (ob526 P) .nil .nil) (.node (ob787 P) .nil .nil)) (.node (ob398 P) (.node (ob657 P) .nil .nil) .nil)) (.node (ob204 P) (.node (ob334 P) (.node (ob593 P) .nil .nil) .nil) (.node (ob462 P) (.node (ob721 P) .nil .nil) .nil))) (.node (ob108 P) (.node (ob172 P) (.node (ob302 P) (.node (ob558 P) .nil .nil) (.node (ob819 P) .nil .nil)) (.node (ob430 P) (.node (ob689 P) .nil .nil) .nil)) (.node (ob236 P) (.node (ob366 P) (.node (ob625 P) .nil .nil) .nil) (.node (ob494 P) (.node (ob753 P) .nil .nil) .nil))))) (.node (ob20 P) (.node (ob36 P) (.node (ob68 P) (.node (ob132 P) (.node (ob262 P) (.node (ob518 P) .nil .nil) (.node (ob777 P) .nil .nil)) (.node (ob390 P) (.node (ob649 P) .nil .nil) .nil)) (.node (ob196 P) (.node (ob326 P) (.node (ob585 P) .nil .nil) .nil) (.node (ob454 P) (.node (ob713 P) .nil .nil) .nil))) (.node (ob100 P) (.node (ob164 P) (.node (ob294 P) (.node (ob550 P) .nil .nil) (.node (ob811 P) .nil .nil)) (.node (ob422 P) (.node (ob681 P) .nil .nil) .nil)) (.node (ob228 P) (.node (ob358 P) (.node (ob617 P) .nil .nil) .nil) (.node (ob486 P) (.node (ob745 P) .nil .nil) .nil)))) (.node (ob52 P) (.node (ob84 P) (.node (ob148 P) (.node (ob278 P) (.node (ob534 P) .nil .nil) (.node (ob795 P) .nil .nil)) (.node (ob406 P) (.node (ob665 P) .nil .nil) .nil)) (.node (ob212 P) (.node (ob342 P) (.node (ob601 P) .nil .nil) .nil) (.node (ob470 P) (.node (ob729 P) .nil .nil) .nil))) (.node (ob116 P) (.node (ob180 P) (.node (ob310 P) (.node (ob569 P) .nil .nil) .nil) (.node (ob438 P) (.node (ob697 P) .nil .nil) .nil)) (.node (ob244 P) (.node (ob374 P) (.node (ob633 P) .nil .nil) .nil) (.node (ob502 P) (.node (ob761 P) .nil .nil) .nil))))))) (.node (boot_o_6 P) (.node (boot_o_10 P) (.node (ob10 P) (.node (ob26 P) (.node (ob58 P) (.node (ob122 P) (.node (ob250 P) (.node (ob508 P) .nil .nil) (.node (ob767 P) .nil .nil)) (.node (ob380 P) (.node (ob639 P) .nil .nil) .nil)) (.node (ob186 P) (.node (ob316 P) (.node (ob575 P) .nil .nil) .nil) (.node (ob444 P) (.node (ob703 P) .nil .nil) .nil))) (.node (ob90 P) (.node (ob154 P) (.node (ob284 P) (.node (ob540 P) .nil .nil) (.node (ob801 P) .nil .nil)) (.node (ob412 P) (.node (ob671 P) .nil .nil) .nil)) (.node (ob218 P) (.node (ob348 P) (.node (ob607 P) .nil .nil) .nil) (.node (ob476 P) (.node (ob735 P) .nil .nil) .nil)))) (.node (ob42 P) (.node (ob74 P) (.node (ob138 P) (.node (ob268 P) (.node (ob524 P) .nil .nil) (.node (ob785 P) .nil .nil)) (.node (ob396 P) (.node (ob655 P) .nil .nil) .nil)) (.node (ob202 P) (.node (ob332 P) (.node (ob591 P) .nil .nil) .nil) (.node (ob460 P) (.node (ob719 P) .nil .nil) .nil))) (.node (ob106 P) (.node (ob170 P) (.node (ob300 P) (.node (ob556 P) .nil .nil) (.node (ob817 P) .nil .nil)) (.node (ob428 P) (.node (ob687 P) .nil .nil) .nil)) (.node (ob234 P) (.node (ob364 P) (.node (ob623 P) .nil .nil) .nil) (.node (ob492 P) (.node (ob751 P) .nil .nil) .nil))))) (.node (ob18 P) (.node (ob34 P) (.node (ob66 P) (.node (ob130 P) (.node (ob260 P) (.node (ob516 P) .nil .nil) (.node (ob775 P) .nil .nil)) (.node (ob388 P) (.node (ob647 P) .nil .nil) .nil)) (.node (ob194 P) (.node (ob324 P) (.node (ob583 P) .nil .nil) .nil) (.node (ob452 P) (.node (ob711 P) .nil .nil) .nil))) (.node (ob98 P) (.node (ob162 P) (.node (ob292 P) (.node (ob548 P) .nil .nil) (.node (ob809 P) .nil .nil)) (.node (ob420 P) (.node (ob679 P) .nil .nil) .nil)) (.node (ob226 P) (.node (ob356 P) (.node (ob615 P) .nil .nil) .nil) (.node (ob484 P) (.node (ob743 P) .nil .nil) .nil)))) (.node (ob50 P) (.node (ob82 P) (.node (ob146 P) (.node (ob276 P) (.node (ob532 P) .nil .nil) (.node (ob793 P) .nil .nil)) (.node (ob404 P) (.node (ob663 P) .nil .nil) .nil)) (.node (ob210 P) (.node (ob340 P) (.node (ob599 P) .nil .nil) .nil) (.node (ob468 P) (.node (ob727 P) .nil .nil) .nil))) (.node (ob114 P) (.node (ob178 P) (.node (ob308 P) (.node (ob567 P) .nil .nil) .nil) (.node (ob436 P) (.node (ob695 P) .nil .nil) .nil)) (.node (ob242 P) (.node (ob372 P) (.node (ob631 P) .nil .nil) .nil) (.node (ob500 P) (.node (ob759 P) .nil .nil) .nil)))))) (.node (ob3 P) (.node (ob14 P) (.node (ob30 P) (.node (ob62 P) (.node (ob126 P) (.node (ob254 P) (.node (ob512 P) .nil .nil) (.node (ob771 P) .nil .nil)) (.node (ob384 P) (.node (ob643 P) .nil .nil) .nil)) (.node (ob190 P) (.node (ob320 P) (.node (ob579 P) .nil .nil) .nil) (.node (ob448 P) (.node (ob707 P) .nil .nil) .nil))) (.node (ob94 P) (.node (ob158 P) (.node (ob288 P) (.node (ob544 P) .nil .nil) (.node (ob805 P) .nil .nil)) (.node (ob416 P) (.node (ob675 P) .nil .nil) .nil)) (.node (ob222 P) (.node (ob352 P) (.node (ob611 P) .nil .nil) .nil) (.node (ob480 P) (.node (ob739 P) .nil .nil) .nil)))) (.node (ob46 P) (.node (ob78 P) (.node (ob142 P) (.node (ob272 P) (.node (ob528 P) .nil .nil) (.node (ob789 P) .nil .nil)) (.node (ob400 P) (.node (ob659 P) .nil .nil) .nil)) (.node (ob206 P) (.node (ob336 P) (.node (ob595 P) .nil .nil) .nil) (.node (ob464 P) (.node (ob723 P) .nil .nil) .nil))) (.node (ob110 P) (.node (ob174 P) (.node (ob304 P) (.node (ob560 P) .nil .nil) .nil) (.node (ob432 P) (.node (ob691 P) .nil .nil) .nil)) (.node (ob238 P) (.node (ob368 P) (.node (ob627 P) .nil .nil) .nil) (.node (ob496 P) (.node (ob755 P) .nil .nil) .nil))))) (.node (ob22 P) (.node (ob38 P) (.node (ob70 P) (.node (ob134 P) (.node (ob264 P) (.node (ob520 P) .nil .nil) (.node (ob779 P) .nil .nil)) (.node (ob392 P) (.node (ob651 P) .nil .nil) .nil)) (.node (ob198 P) (.node (ob328 P) (.node (ob587 P) .nil .nil) .nil) (.node (ob456 P) (.node (ob715 P) .nil .nil) .nil))) (.node (ob102 P) (.node (ob166 P) (.node (ob296 P) (.node (ob563 P) .nil .nil) (.node (ob813 P) .nil .nil)) (.node (ob424 P) (.node (ob683 P) .nil .nil) .nil)) (.node (ob230 P) (.node (ob360 P) (.node (ob619 P) .nil .nil) .nil) (.node (ob488 P) (.node (ob747 P) .nil .nil) .nil)))) (.node (ob54 P) (.node (ob86 P) (.node (ob150 P) (.node (ob280 P) (.node (ob536 P) .nil .nil) (.node (ob797 P) .nil .nil)) (.node (ob408 P) (.node (ob667 P) .nil .nil) .nil)) (.node (ob214 P) (.node (ob344 P) (.node (ob603 P) .nil .nil) .nil) (.node (ob472 P) (.node (ob731 P) .nil .nil) .nil))) (.node (ob118 P) (.node (ob182 P) (.node (ob312 P) (.node (ob571 P) .nil .nil) .nil) (.node (ob440 P) (.node (ob699 P) .nil .nil) .nil)) (.node (ob246 P) (.node (ob376 P) (.node (ob635 P) .nil .nil) .nil) (.node (ob504 P) (.node (ob763 P) .nil .nil) .nil)))))))))
noncomputable def stT4 (w : World) (os : OsState) : SharedT := ⟨tree4 w.params, 821, (boot_heap w.params).life, #[], boot_drawn, 1360, os⟩
noncomputable def heapF : Params → Heap := fun P => ⟨⟨[boot_o_0 P, boot_o_1 P, ob4 P, ob780 P, boot_o_4 P, boot_o_5 P, boot_o_6 P, boot_o_7 P, boot_o_8 P, boot_o_9 P, boot_o_10 P, ob0 P, ob781 P, ob2 P, ob3 P, ob7 P, ob8 P, ob9 P, ob10 P, ob11 P, ob12 P, ob13 P, ob14 P, ob15 P, ob16 P, ob17 P, ob18 P, ob19 P, ob20 P, ob21 P, ob22 P, ob23 P, ob24 P, ob25 P, ob26 P, ob27 P, ob28 P, ob29 P, ob30 P, ob31 P, ob32 P, ob33 P, ob34 P, ob35 P, ob36 P, ob37 P, ob38 P, ob39 P, ob40 P, ob41 P, ob42 P, ob43 P, ob44 P, ob45 P, ob46 P, ob47 P, ob48 P, ob49 P, ob50 P, ob51 P, ob52 P, ob53 P, ob54 P, ob55 P, ob56 P, ob57 P, ob58 P, ob59 P, ob60 P, ob61 P, ob62 P, ob63 P, ob64 P, ob65 P, ob66 P, ob67 P, ob68 P, ob69 P, ob70 P, ob71 P, ob72 P, ob73 P, ob74 P, ob75 P, ob76 P, ob77 P, ob78 P, ob79 P, ob80 P, ob81 P, ob82 P, ob83 P, ob84 P, ob85 P, ob86 P, ob87 P, ob88 P, ob89 P, ob90 P, ob91 P, ob92 P, ob93 P, ob94 P, ob95 P, ob96 P, ob97 P, ob98 P, ob99 P, ob100 P, ob101 P, ob102 P, ob103 P, ob104 P, ob105 P, ob106 P, ob107 P, ob108 P, ob109 P, ob110 P, ob111 P, ob112 P, ob113 P, ob114 P, ob115 P, ob116 P, ob117 P, ob118 P, ob119 P, ob120 P, ob121 P, ob122 P, ob123 P, ob124 P, ob125 P, ob126 P, ob127 P, ob128 P, ob129 P, ob130 P, ob131 P, ob132 P, ob133 P, ob134 P, ob135 P, ob136 P, ob137 P, ob138 P, ob139 P, ob140 P, ob141 P, ob142 P, ob143 P, ob144 P, ob145 P, ob146 P, ob147 P, ob148 P, ob149 P, ob150 P, ob151 P, ob152 P, ob153 P, ob154 P, ob155 P, ob156 P, ob157 P, ob158 P, ob159 P, ob160 P, ob161 P, ob162 P, ob163 P, ob164 P, ob165 P, ob166 P, ob167 P, ob168 P, ob169 P, ob170 P, ob171 P, ob172 P, ob173 P, ob174 P, ob175 P, ob176 P, ob177 P, ob178 P, ob179 P, ob180 P, ob181 P, ob182 P, ob183 P, ob184 P, ob185 P, ob186 P, ob187 P, ob188 P, ob189 P, ob190 P, ob191 P, ob192 P, ob193 P, ob194 P, ob195 P, ob196 P, ob197 P, ob198 P, ob199 P, ob200 P, ob201 P, ob202 P, ob203 P, ob204 P, ob205 P, ob206 P, ob207 P, ob208 P, ob209 P, ob210 P, ob211 P, ob212 P, ob213 P, ob214 P, ob215 P, ob216 P, ob217 P, ob218 P, ob219 P, ob220 P, ob221 P, ob222 P, ob223 P, ob224 P, ob225 P, ob226 P, ob227 P, ob228 P, ob229 P, ob230 P, ob231 P, ob232 P, ob233 P, ob234 P, ob235 P, ob236 P, ob237 P, ob238 P, ob239 P, ob240 P, ob241 P, ob242 P, ob243 P, ob244 P, ob245 P, ob246 P, ob247 P, ob248 P, ob249 P, ob250 P, ob251 P, ob252 P, ob253 P, ob254 P, ob255 P, ob256 P, ob257 P, ob260 P, ob261 P, ob262 P, ob263 P, ob264 P, ob265 P, ob266 P, ob267 P, ob268 P, ob269 P, ob270 P, ob271 P, ob272 P, ob273 P, ob274 P, ob275 P, ob276 P, ob277 P, ob278 P, ob279 P, ob280 P, ob281 P, ob282 P, ob283 P, ob284 P, ob285 P, ob286 P, ob287 P, ob288 P, ob289 P, ob290 P, ob291 P, ob292 P, ob293 P, ob294 P, ob295 P, ob296 P, ob297 P, ob298 P, ob299 P, ob300 P, ob301 P, ob302 P, ob303 P, ob304 P, ob305 P, ob306 P, ob307 P, ob308 P, ob309 P, ob310 P, ob311 P, ob312 P, ob313 P, ob314 P, ob315 P, ob316 P, ob317 P, ob318 P, ob319 P, ob320 P, ob321 P, ob322 P, ob323 P, ob324 P, ob325 P, ob326 P, ob327 P, ob328 P, ob329 P, ob330 P, ob331 P, ob332 P, ob333 P, ob334 P, ob335 P, ob336 P, ob337 P, ob338 P, ob339 P, ob340 P, ob341 P, ob342 P, ob343 P, ob344 P, ob345 P, ob346 P, ob347 P, ob348 P, ob349 P, ob350 P, ob351 P, ob352 P, ob353 P, ob354 P, ob355 P, ob356 P, ob357 P, ob358 P, ob359 P, ob360 P, ob361 P, ob362 P, ob363 P, ob364 P, ob365 P, ob366 P, ob367 P, ob368 P, ob369 P, ob370 P, ob371 P, ob372 P, ob373 P, ob374 P, ob375 P, ob376 P, ob377 P, ob378 P, ob379 P, ob380 P, ob381 P, ob382 P, ob383 P, ob384 P, ob385 P, ob386 P, ob387 P, ob388 P, ob389 P, ob390 P, ob391 P, ob392 P, ob393 P, ob394 P, ob395 P, ob396 P, ob397 P, ob398 P, ob399 P, ob400 P, ob401 P, ob402 P, ob403 P, ob404 P, ob405 P, ob406 P, ob407 P, ob408 P, ob409 P, ob410 P, ob411 P, ob412 P, ob413 P, ob414 P, ob415 P, ob416 P, ob417 P, ob418 P, ob419 P, ob420 P, ob421 P, ob422 P, ob423 P, ob424 P, ob425 P, ob426 P, ob427 P, ob428 P, ob429 P, ob430 P, ob431 P, ob432 P, ob433 P, ob434 P, ob435 P, ob436 P, ob437 P, ob438 P, ob439 P, ob440 P, ob441 P, ob442 P, ob443 P, ob444 P, ob445 P, ob446 P, ob447 P, ob448 P, ob449 P, ob450 P, ob451 P, ob452 P, ob453 P, ob454 P, ob455 P, ob456 P, ob457 P, ob458 P, ob459 P, ob460 P, ob461 P, ob462 P, ob463 P, ob464 P, ob465 P, ob466 P, ob467 P, ob468 P, ob469 P, ob470 P, ob471 P, ob472 P, ob473 P, ob474 P, ob475 P, ob476 P, ob477 P, ob478 P, ob479 P, ob480 P, ob481 P, ob482 P, ob483 P, ob484 P, ob485 P, ob486 P, ob487 P, ob488 P, ob489 P, ob490 P, ob491 P, ob492 P, ob493 P, ob494 P, ob495 P, ob496 P, ob497 P, ob498 P, ob499 P, ob500 P, ob501 P, ob502 P, ob503 P, ob504 P, ob505 P, ob506 P, ob507 P, ob508 P, ob509 P, ob510 P, ob511 P, ob512 P, ob513 P, ob514 P, ob515 P, ob516 P, ob517 P, ob518 P, ob519 P, ob520 P, ob521 P, ob522 P, ob523 P, ob524 P, ob525 P, ob526 P, ob527 P, ob528 P, ob529 P, ob530 P, ob531 P, ob532 P, ob533 P, ob534 P, ob535 P, ob536 P, ob537 P, ob538 P, ob539 P, ob540 P, ob541 P, ob542 P, ob543 P, ob544 P, ob545 P, ob546 P, ob547 P, ob548 P, ob549 P, ob550 P, ob551 P, ob563 P, ob553 P, ob554 P, ob555 P, ob556 P, ob557 P, ob558 P, ob559 P, ob560 P, ob564 P, ob565 P, ob566 P, ob567 P, ob568 P, ob569 P, ob570 P, ob571 P, ob572 P, ob573 P, ob574 P, ob575 P, ob576 P, ob577 P, ob578 P, ob579 P, ob580 P, ob581 P, ob582 P, ob583 P, ob584 P, ob585 P, ob586 P, ob587 P, ob588 P, ob589 P, ob590 P, ob591 P, ob592 P, ob593 P, ob594 P, ob595 P, ob596 P, ob597 P, ob598 P, ob599 P, ob600 P, ob601 P, ob602 P, ob603 P, ob604 P, ob605 P, ob606 P, ob607 P, ob608 P, ob609 P, ob610 P, ob611 P, ob612 P, ob613 P, ob614 P, ob615 P, ob616 P, ob617 P, ob618 P, ob619 P, ob620 P, ob621 P, ob622 P, ob623 P, ob624 P, ob625 P, ob626 P, ob627 P, ob628 P, ob629 P, ob630 P, ob631 P, ob632 P, ob633 P, ob634 P, ob635 P, ob636 P, ob637 P, ob638 P, ob639 P, ob640 P, ob641 P, ob642 P, ob643 P, ob644 P, ob645 P, ob646 P, ob647 P, ob648 P, ob649 P, ob650 P, ob651 P, ob652 P, ob653 P, ob654 P, ob655 P, ob656 P, ob657 P, ob658 P, ob659 P, ob660 P, ob661 P, ob662 P, ob663 P, ob664 P, ob665 P, ob666 P, ob667 P, ob668 P, ob669 P, ob670 P, ob671 P, ob672 P, ob673 P, ob674 P, ob675 P, ob676 P, ob677 P, ob678 P, ob679 P, ob680 P, ob681 P, ob682 P, ob683 P, ob684 P, ob685 P, ob686 P, ob687 P, ob688 P, ob689 P, ob690 P, ob691 P, ob692 P, ob693 P, ob694 P, ob695 P, ob696 P, ob697 P, ob698 P, ob699 P, ob700 P, ob701 P, ob702 P, ob703 P, ob704 P, ob705 P, ob706 P, ob707 P, ob708 P, ob709 P, ob710 P, ob711 P, ob712 P, ob713 P, ob714 P, ob715 P, ob716 P, ob717 P, ob718 P, ob719 P, ob720 P, ob721 P, ob722 P, ob723 P, ob724 P, ob725 P, ob726 P, ob727 P, ob728 P, ob729 P, ob730 P, ob731 P, ob732 P, ob733 P, ob734 P, ob735 P, ob736 P, ob737 P, ob738 P, ob739 P, ob740 P, ob741 P, ob742 P, ob743 P, ob744 P, ob745 P, ob746 P, ob747 P, ob748 P, ob749 P, ob750 P, ob751 P, ob752 P, ob753 P, ob754 P, ob755 P, ob756 P, ob757 P, ob758 P, ob759 P, ob760 P, ob761 P, ob762 P, ob763 P, ob764 P, ob765 P, ob766 P, ob767 P, ob768 P, ob769 P, ob770 P, ob771 P, ob772 P, ob773 P, ob774 P, ob775 P, ob776 P, ob777 P, ob778 P, ob779 P, ob782 P, ob783 P, ob784 P, ob785 P, ob786 P, ob787 P, ob788 P, ob789 P, ob790 P, ob791 P, ob792 P, ob793 P, ob794 P, ob795 P, ob796 P, ob797 P, ob798 P, ob799 P, ob800 P, ob801 P, ob802 P, ob803 P, ob804 P, ob805 P, ob806 P, ob807 P, ob808 P, ob809 P, ob810 P, ob811 P, ob812 P, ob813 P, ob814 P, ob815 P, ob816 P, ob817 P, ob818 P, ob819 P]⟩, (boot_heap P).life⟩
noncomputable def topEnv : Env := { scope := PySem.Challenge.pw_ci0024_03.main.scope, locals := mainNs, globals := mainNs, cells := [], code := (.ref 13), frame := some 14 }
noncomputable def topCode : Code := .body (behindTheImports PySem.Challenge.pw_ci0024_03) topEnv
theorem run_pre : ∀ (w : World) (os : OsState), topGo treeTable PySem.Challenge.pw_ci0024_03 w 11 (some (.ref 6)) 12 ⟨boot_heap w.params, #[], boot_drawn, boot_toks, os⟩ (topStub PySem.Challenge.pw_ci0024_03) = some (⟨heapA w.params, #[], boot_drawn, 187, os⟩, ⟨denote treeTable topCode, topCode, ⟨0, 0, 0, 0⟩, [topFrame ⟨0, 0, 0, 0⟩]⟩) := by
  intro w os
  rw [PySem.W.Fast.te15667345088766844465, PySem.W.Fast.te14364793385576792824, PySem.W.Fast.te11892475500146522536]
  kernel_rfl
theorem run_block : ∀ (w : World) (os : OsState), segRun treeTable PySem.Challenge.pw_ci0024_03 w 11 (some (.ref 6)) 1 1 ⟨heapA w.params, #[], boot_drawn, 187, os⟩ (blockOf (behindTheImports PySem.Challenge.pw_ci0024_03) topEnv topCode ⟨0, 0, 0, 0⟩ [topFrame ⟨0, 0, 0, 0⟩]) = some (Flow.next, (stT0 w os).abs, topCode, ⟨0, 0, 0, 0⟩) := by
  intro w os
  rw [PySem.W.Fast.te14374325043358763698, PySem.W.Fast.te14364793385576792824]
  kernel_rfl
noncomputable def sts0 : List Stmt := ((behindTheImports PySem.Challenge.pw_ci0024_03).drop 0).take 15
theorem run_t0 : ∀ (w : World) (os : OsState), segRunT treeTable PySem.Challenge.pw_ci0024_03 w 11 (some (.ref 6)) 1 2072 (stT0 w os) (piecesOf sts0 topEnv topCode ⟨0, 0, 0, 0⟩ [topFrame ⟨0, 0, 0, 0⟩]) = some (Flow.next, stT1 w os, topCode, ⟨164, 0, 164, 8⟩) := by
  intro w os
  rw [PySem.W.Fast.te10110043849684766642, PySem.W.Fast.te14364793385576792824]
  kernel_rfl
noncomputable def sts1 : List Stmt := ((behindTheImports PySem.Challenge.pw_ci0024_03).drop 15).take 1
theorem run_t1 : ∀ (w : World) (os : OsState), segRunT treeTable PySem.Challenge.pw_ci0024_03 w 11 (some (.ref 6)) 1 2569 (stT1 w os) (piecesOf sts1 topEnv topCode ⟨164, 0, 164, 8⟩ [topFrame ⟨0, 0, 0, 0⟩]) = some (Flow.next, stT2 w os, topCode, ⟨165, 0, 355, 17⟩) := by
  intro w os
  rw [PySem.W.Fast.te10110043849684766642, PySem.W.Fast.te14364793385576792824]
  kernel_rfl
noncomputable def sts2 : List Stmt := ((behindTheImports PySem.Challenge.pw_ci0024_03).drop 16).take 2
theorem run_t2 : ∀ (w : World) (os : OsState), segRunT treeTable PySem.Challenge.pw_ci0024_03 w 11 (some (.ref 6)) 1 3063 (stT2 w os) (piecesOf sts2 topEnv topCode ⟨165, 0, 355, 17⟩ [topFrame ⟨0, 0, 0, 0⟩]) = some (Flow.next, stT3 w os, topCode, ⟨357, 0, 516, 17⟩) := by
  intro w os
  rw [PySem.W.Fast.te10110043849684766642, PySem.W.Fast.te14364793385576792824]
  kernel_rfl
noncomputable def sts3 : List Stmt := ((behindTheImports PySem.Challenge.pw_ci0024_03).drop 18).take 7
theorem run_t3 : ∀ (w : World) (os : OsState), segRunT treeTable PySem.Challenge.pw_ci0024_03 w 11 (some (.ref 6)) 1 192 (stT3 w os) (piecesOf sts3 topEnv topCode ⟨357, 0, 516, 17⟩ [topFrame ⟨0, 0, 0, 0⟩]) = some (Flow.next, stT4 w os, topCode, ⟨548, 0, 578, 16⟩) := by
  intro w os
  rw [PySem.W.Fast.te10110043849684766642, PySem.W.Fast.te14364793385576792824]
  kernel_rfl
theorem run_fin : ∀ (w : World) (os : OsState), topRun treeTable PySem.Challenge.pw_ci0024_03 w 11 (some (.ref 6)) 2 (stT4 w os).abs (restOf [] topEnv topCode ⟨548, 0, 578, 16⟩ [topFrame ⟨0, 0, 0, 0⟩]) = some ⟨heapF w.params, #[], boot_drawn, 1360, os⟩ := by
  intro w os
  rw [PySem.W.Fast.te14082659384304107361, PySem.W.Fast.te14364793385576792824]
  kernel_rfl
theorem body_is : behindTheImports PySem.Challenge.pw_ci0024_03 = (sts0 ++ (sts1 ++ (sts2 ++ (sts3 ++ [])))) := by kernel_rfl
theorem run_all (w : World) (os : OsState) : topRun treeTable PySem.Challenge.pw_ci0024_03 w 11 (some (.ref 6)) (12 + (1 + (2072 + (2569 + (3063 + (192 + 2)))))) ⟨boot_heap w.params, #[], boot_drawn, boot_toks, os⟩ (topStub PySem.Challenge.pw_ci0024_03) = some ⟨heapF w.params, #[], boot_drawn, 1360, os⟩ := by
  have h := piece_app (l := sts0) (segRun_of (run_t0 w os)) (piece_app (l := sts1) (segRun_of (run_t1 w os)) (piece_app (l := sts2) (segRun_of (run_t2 w os)) (piece_app (l := sts3) (segRun_of (run_t3 w os)) (run_fin w os))))
  rw [← body_is] at h
  exact go_top (run_pre w os) (piece_block (run_block w os) h)
noncomputable def M0 : Nat := (12 + (1 + (2072 + (2569 + (3063 + (192 + 2))))))
noncomputable def view0 : Program := { PySem.Challenge.pw_ci0024_03 with main := { PySem.Challenge.pw_ci0024_03.main with body := [atPath [0] PySem.Challenge.pw_ci0024_03.main.body, atPath [5] PySem.Challenge.pw_ci0024_03.main.body, atPath [6] PySem.Challenge.pw_ci0024_03.main.body, atPath [7] PySem.Challenge.pw_ci0024_03.main.body, atPath [9] PySem.Challenge.pw_ci0024_03.main.body, atPath [10] PySem.Challenge.pw_ci0024_03.main.body, atPath [12] PySem.Challenge.pw_ci0024_03.main.body, atPath [13] PySem.Challenge.pw_ci0024_03.main.body, atPath [15] PySem.Challenge.pw_ci0024_03.main.body, atPath [17] PySem.Challenge.pw_ci0024_03.main.body, atPath [19] PySem.Challenge.pw_ci0024_03.main.body, atPath [20] PySem.Challenge.pw_ci0024_03.main.body, atPath [21] PySem.Challenge.pw_ci0024_03.main.body, atPath [22] PySem.Challenge.pw_ci0024_03.main.body, atPath [23] PySem.Challenge.pw_ci0024_03.main.body, atPath [24] PySem.Challenge.pw_ci0024_03.main.body] } }
noncomputable def loose0 : List Str := ["dfs_postorder_nodes", "dfs_labeled_edges", "NodeView", "OutEdgeView", "_NOT_FOUND", "cached_property", "Graph", "DiGraph"]
noncomputable def KF : Params → Frag := fun P => [(0, boot_o_0 P), (1, boot_o_1 P), (2, ob4 P), (3, ob780 P), (4, boot_o_4 P), (5, boot_o_5 P), (6, boot_o_6 P), (7, boot_o_7 P), (8, boot_o_8 P), (9, boot_o_9 P), (10, boot_o_10 P), (11, ob0 P), (12, ob781 P), (13, ob2 P), (14, ob3 P), (15, ob7 P), (16, ob8 P), (17, ob9 P), (18, ob10 P), (19, ob11 P), (20, ob12 P), (21, ob13 P), (22, ob14 P), (23, ob15 P), (24, ob16 P), (25, ob17 P), (26, ob18 P), (27, ob19 P), (28, ob20 P), (29, ob21 P), (30, ob22 P), (31, ob23 P), (32, ob24 P), (33, ob25 P), (34, ob26 P), (35, ob27 P), (36, ob28 P), (37, ob29 P), (38, ob30 P), (39, ob31 P), (40, ob32 P), (41, ob33 P), (42, ob34 P), (43, ob35 P), (44, ob36 P), (45, ob37 P), (46, ob38 P), (47, ob39 P), (48, ob40 P), (49, ob41 P), (50, ob42 P), (51, ob43 P), (52, ob44 P), (53, ob45 P), (54, ob46 P), (55, ob47 P), (56, ob48 P), (57, ob49 P), (58, ob50 P), (59, ob51 P), (60, ob52 P), (61, ob53 P), (62, ob54 P), (63, ob55 P), (64, ob56 P), (65, ob57 P), (66, ob58 P), (67, ob59 P), (68, ob60 P), (69, ob61 P), (70, ob62 P), (71, ob63 P), (72, ob64 P), (73, ob65 P), (74, ob66 P), (75, ob67 P), (76, ob68 P), (77, ob69 P), (78, ob70 P), (79, ob71 P), (80, ob72 P), (81, ob73 P), (82, ob74 P), (83, ob75 P), (84, ob76 P), (85, ob77 P), (86, ob78 P), (87, ob79 P), (88, ob80 P), (89, ob81 P), (90, ob82 P), (91, ob83 P), (92, ob84 P), (93, ob85 P), (94, ob86 P), (95, ob87 P), (96, ob88 P), (97, ob89 P), (98, ob90 P), (99, ob91 P), (100, ob92 P), (101, ob93 P), (102, ob94 P), (103, ob95 P), (104, ob96 P), (105, ob97 P), (106, ob98 P), (107, ob99 P), (108, ob100 P), (109, ob101 P), (110, ob102 P), (111, ob103 P), (112, ob104 P), (113, ob105 P), (114, ob106 P), (115, ob107 P), (116, ob108 P), (117, ob109 P), (118, ob110 P), (119, ob111 P), (120, ob112 P), (121, ob113 P), (122, ob114 P), (123, ob115 P), (124, ob116 P), (125, ob117 P), (126, ob118 P), (127, ob119 P), (128, ob120 P), (129, ob121 P), (130, ob122 P), (131, ob123 P), (132, ob124 P), (133, ob125 P), (134, ob126 P), (135, ob127 P), (136, ob128 P), (137, ob129 P), (138, ob130 P), (139, ob131 P), (140, ob132 P), (141, ob133 P), (142, ob134 P), (143, ob135 P), (144, ob136 P), (145, ob137 P), (146, ob138 P), (147, ob139 P), (148, ob140 P), (149, ob141 P), (150, ob142 P), (151, ob143 P), (152, ob144 P), (153, ob145 P), (154, ob146 P), (155, ob147 P), (156, ob148 P), (157, ob149 P), (158, ob150 P), (159, ob151 P), (160, ob152 P), (161, ob153 P), (162, ob154 P), (163, ob155 P), (164, ob156 P), (165, ob157 P), (166, ob158 P), (167, ob159 P), (168, ob160 P), (169, ob161 P), (170, ob162 P), (171, ob163 P), (172, ob164 P), (173, ob165 P), (174, ob166 P), (175, ob167 P), (176, ob168 P), (177, ob169 P), (178, ob170 P), (179, ob171 P), (180, ob172 P), (181, ob173 P), (182, ob174 P), (183, ob175 P), (184, ob176 P), (185, ob177 P), (186, ob178 P), (187, ob179 P), (188, ob180 P), (189, ob181 P), (190, ob182 P), (191, ob183 P), (192, ob184 P), (193, ob185 P), (194, ob186 P), (195, ob187 P), (196, ob188 P), (197, ob189 P), (198, ob190 P), (199, ob191 P), (200, ob192 P), (201, ob193 P), (202, ob194 P), (203, ob195 P), (204, ob196 P), (205, ob197 P), (206, ob198 P), (207, ob199 P), (208, ob200 P), (209, ob201 P), (210, ob202 P), (211, ob203 P), (212, ob204 P), (213, ob205 P), (214, ob206 P), (215, ob207 P), (216, ob208 P), (217, ob209 P), (218, ob210 P), (219, ob211 P), (220, ob212 P), (221, ob213 P), (222, ob214 P), (223, ob215 P), (224, ob216 P), (225, ob217 P), (226, ob218 P), (227, ob219 P), (228, ob220 P), (229, ob221 P), (230, ob222 P), (231, ob223 P), (232, ob224 P), (233, ob225 P), (234, ob226 P), (235, ob227 P), (236, ob228 P), (237, ob229 P), (238, ob230 P), (239, ob231 P), (240, ob232 P), (241, ob233 P), (242, ob234 P), (243, ob235 P), (244, ob236 P), (245, ob237 P), (246, ob238 P), (247, ob239 P), (248, ob240 P), (249, ob241 P), (250, ob242 P), (251, ob243 P), (252, ob244 P), (253, ob245 P), (254, ob246 P), (255, ob247 P), (256, ob248 P), (257, ob249 P), (258, ob250 P), (259, ob251 P), (260, ob252 P), (261, ob253 P), (262, ob254 P), (263, ob255 P), (264, ob256 P), (265, ob257 P), (266, ob260 P), (267, ob261 P), (268, ob262 P), (269, ob263 P), (270, ob264 P), (271, ob265 P), (272, ob266 P), (273, ob267 P), (274, ob268 P), (275, ob269 P), (276, ob270 P), (277, ob271 P), (278, ob272 P), (279, ob273 P), (280, ob274 P), (281, ob275 P), (282, ob276 P), (283, ob277 P), (284, ob278 P), (285, ob279 P), (286, ob280 P), (287, ob281 P), (288, ob282 P), (289, ob283 P), (290, ob284 P), (291, ob285 P), (292, ob286 P), (293, ob287 P), (294, ob288 P), (295, ob289 P), (296, ob290 P), (297, ob291 P), (298, ob292 P), (299, ob293 P), (300, ob294 P), (301, ob295 P), (302, ob296 P), (303, ob297 P), (304, ob298 P), (305, ob299 P), (306, ob300 P), (307, ob301 P), (308, ob302 P), (309, ob303 P), (310, ob304 P), (311, ob305 P), (312, ob306 P), (313, ob307 P), (314, ob308 P), (315, ob309 P), (316, ob310 P), (317, ob311 P), (318, ob312 P), (319, ob313 P), (320, ob314 P), (321, ob315 P), (322, ob316 P), (323, ob317 P), (324, ob318 P), (325, ob319 P), (326, ob320 P), (327, ob321 P), (328, ob322 P), (329, ob323 P), (330, ob324 P), (331, ob325 P), (332, ob326 P), (333, ob327 P), (334, ob328 P), (335, ob329 P), (336, ob330 P), (337, ob331 P), (338, ob332 P), (339, ob333 P), (340, ob334 P), (341, ob335 P), (342, ob336 P), (343, ob337 P), (344, ob338 P), (345, ob339 P), (346, ob340 P), (347, ob341 P), (348, ob342 P), (349, ob343 P), (350, ob344 P), (351, ob345 P), (352, ob346 P), (353, ob347 P), (354, ob348 P), (355, ob349 P), (356, ob350 P), (357, ob351 P), (358, ob352 P), (359, ob353 P), (360, ob354 P), (361, ob355 P), (362, ob356 P), (363, ob357 P), (364, ob358 P), (365, ob359 P), (366, ob360 P), (367, ob361 P), (368, ob362 P), (369, ob363 P), (370, ob364 P), (371, ob365 P), (372, ob366 P), (373, ob367 P), (374, ob368 P), (375, ob369 P), (376, ob370 P), (377, ob371 P), (378, ob372 P), (379, ob373 P), (380, ob374 P), (381, ob375 P), (382, ob376 P), (383, ob377 P), (384, ob378 P), (385, ob379 P), (386, ob380 P), (387, ob381 P), (388, ob382 P), (389, ob383 P), (390, ob384 P), (391, ob385 P), (392, ob386 P), (393, ob387 P), (394, ob388 P), (395, ob389 P), (396, ob390 P), (397, ob391 P), (398, ob392 P), (399, ob393 P), (400, ob394 P), (401, ob395 P), (402, ob396 P), (403, ob397 P), (404, ob398 P), (405, ob399 P), (406, ob400 P), (407, ob401 P), (408, ob402 P), (409, ob403 P), (410, ob404 P), (411, ob405 P), (412, ob406 P), (413, ob407 P), (414, ob408 P), (415, ob409 P), (416, ob410 P), (417, ob411 P), (418, ob412 P), (419, ob413 P), (420, ob414 P), (421, ob415 P), (422, ob416 P), (423, ob417 P), (424, ob418 P), (425, ob419 P), (426, ob420 P), (427, ob421 P), (428, ob422 P), (429, ob423 P), (430, ob424 P), (431, ob425 P), (432, ob426 P), (433, ob427 P), (434, ob428 P), (435, ob429 P), (436, ob430 P), (437, ob431 P), (438, ob432 P), (439, ob433 P), (440, ob434 P), (441, ob435 P), (442, ob436 P), (443, ob437 P), (444, ob438 P), (445, ob439 P), (446, ob440 P), (447, ob441 P), (448, ob442 P), (449, ob443 P), (450, ob444 P), (451, ob445 P), (452, ob446 P), (453, ob447 P), (454, ob448 P), (455, ob449 P), (456, ob450 P), (457, ob451 P), (458, ob452 P), (459, ob453 P), (460, ob454 P), (461, ob455 P), (462, ob456 P), (463, ob457 P), (464, ob458 P), (465, ob459 P), (466, ob460 P), (467, ob461 P), (468, ob462 P), (469, ob463 P), (470, ob464 P), (471, ob465 P), (472, ob466 P), (473, ob467 P), (474, ob468 P), (475, ob469 P), (476, ob470 P), (477, ob471 P), (478, ob472 P), (479, ob473 P), (480, ob474 P), (481, ob475 P), (482, ob476 P), (483, ob477 P), (484, ob478 P), (485, ob479 P), (486, ob480 P), (487, ob481 P), (488, ob482 P), (489, ob483 P), (490, ob484 P), (491, ob485 P), (492, ob486 P), (493, ob487 P), (494, ob488 P), (495, ob489 P), (496, ob490 P), (497, ob491 P), (498, ob492 P), (499, ob493 P), (500, ob494 P), (501, ob495 P), (502, ob496 P), (503, ob497 P), (504, ob498 P), (505, ob499 P), (506, ob500 P), (507, ob501 P), (508, ob502 P), (509, ob503 P), (510, ob504 P), (511, ob505 P), (512, ob506 P), (513, ob507 P), (514, ob508 P), (515, ob509 P), (516, ob510 P), (517, ob511 P), (518, ob512 P), (519, ob513 P), (520, ob514 P), (521, ob515 P), (522, ob516 P), (523, ob517 P), (524, ob518 P), (525, ob519 P), (526, ob520 P), (527, ob521 P), (528, ob522 P), (529, ob523 P), (530, ob524 P), (531, ob525 P), (532, ob526 P), (533, ob527 P), (534, ob528 P), (535, ob529 P), (536, ob530 P), (537, ob531 P), (538, ob532 P), (539, ob533 P), (540, ob534 P), (541, ob535 P), (542, ob536 P), (543, ob537 P), (544, ob538 P), (545, ob539 P), (546, ob540 P), (547, ob541 P), (548, ob542 P), (549, ob543 P), (550, ob544 P), (551, ob545 P), (552, ob546 P), (553, ob547 P), (554, ob548 P), (555, ob549 P), (556, ob550 P), (557, ob551 P), (558, ob563 P), (559, ob553 P), (560, ob554 P), (561, ob555 P), (562, ob556 P), (563, ob557 P), (564, ob558 P), (565, ob559 P), (566, ob560 P), (567, ob564 P), (568, ob565 P), (569, ob566 P), (570, ob567 P), (571, ob568 P), (572, ob569 P), (573, ob570 P), (574, ob571 P), (575, ob572 P), (576, ob573 P), (577, ob574 P), (578, ob575 P), (579, ob576 P), (580, ob577 P), (581, ob578 P), (582, ob579 P), (583, ob580 P), (584, ob581 P), (585, ob582 P), (586, ob583 P), (587, ob584 P), (588, ob585 P), (589, ob586 P), (590, ob587 P), (591, ob588 P), (592, ob589 P), (593, ob590 P), (594, ob591 P), (595, ob592 P), (596, ob593 P), (597, ob594 P), (598, ob595 P), (599, ob596 P), (600, ob597 P), (601, ob598 P), (602, ob599 P), (603, ob600 P), (604, ob601 P), (605, ob602 P), (606, ob603 P), (607, ob604 P), (608, ob605 P), (609, ob606 P), (610, ob607 P), (611, ob608 P), (612, ob609 P), (613, ob610 P), (614, ob611 P), (615, ob612 P), (616, ob613 P), (617, ob614 P), (618, ob615 P), (619, ob616 P), (620, ob617 P), (621, ob618 P), (622, ob619 P), (623, ob620 P), (624, ob621 P), (625, ob622 P), (626, ob623 P), (627, ob624 P), (628, ob625 P), (629, ob626 P), (630, ob627 P), (631, ob628 P), (632, ob629 P), (633, ob630 P), (634, ob631 P), (635, ob632 P), (636, ob633 P), (637, ob634 P), (638, ob635 P), (639, ob636 P), (640, ob637 P), (641, ob638 P), (642, ob639 P), (643, ob640 P), (644, ob641 P), (645, ob642 P), (646, ob643 P), (647, ob644 P), (648, ob645 P), (649, ob646 P), (650, ob647 P), (651, ob648 P), (652, ob649 P), (653, ob650 P), (654, ob651 P), (655, ob652 P), (656, ob653 P), (657, ob654 P), (658, ob655 P), (659, ob656 P), (660, ob657 P), (661, ob658 P), (662, ob659 P), (663, ob660 P), (664, ob661 P), (665, ob662 P), (666, ob663 P), (667, ob664 P), (668, ob665 P), (669, ob666 P), (670, ob667 P), (671, ob668 P), (672, ob669 P), (673, ob670 P), (674, ob671 P), (675, ob672 P), (676, ob673 P), (677, ob674 P), (678, ob675 P), (679, ob676 P), (680, ob677 P), (681, ob678 P), (682, ob679 P), (683, ob680 P), (684, ob681 P), (685, ob682 P), (686, ob683 P), (687, ob684 P), (688, ob685 P), (689, ob686 P), (690, ob687 P), (691, ob688 P), (692, ob689 P), (693, ob690 P), (694, ob691 P), (695, ob692 P), (696, ob693 P), (697, ob694 P), (698, ob695 P), (699, ob696 P), (700, ob697 P), (701, ob698 P), (702, ob699 P), (703, ob700 P), (704, ob701 P), (705, ob702 P), (706, ob703 P), (707, ob704 P), (708, ob705 P), (709, ob706 P), (710, ob707 P), (711, ob708 P), (712, ob709 P), (713, ob710 P), (714, ob711 P), (715, ob712 P), (716, ob713 P), (717, ob714 P), (718, ob715 P), (719, ob716 P), (720, ob717 P), (721, ob718 P), (722, ob719 P), (723, ob720 P), (724, ob721 P), (725, ob722 P), (726, ob723 P), (727, ob724 P), (728, ob725 P), (729, ob726 P), (730, ob727 P), (731, ob728 P), (732, ob729 P), (733, ob730 P), (734, ob731 P), (735, ob732 P), (736, ob733 P), (737, ob734 P), (738, ob735 P), (739, ob736 P), (740, ob737 P), (741, ob738 P), (742, ob739 P), (743, ob740 P), (744, ob741 P), (745, ob742 P), (746, ob743 P), (747, ob744 P), (748, ob745 P), (749, ob746 P), (750, ob747 P), (751, ob748 P), (752, ob749 P), (753, ob750 P), (754, ob751 P), (755, ob752 P), (756, ob753 P), (757, ob754 P), (758, ob755 P), (759, ob756 P), (760, ob757 P), (761, ob758 P), (762, ob759 P), (763, ob760 P), (764, ob761 P), (765, ob762 P), (766, ob763 P), (767, ob764 P), (768, ob765 P), (769, ob766 P), (770, ob767 P), (771, ob768 P), (772, ob769 P), (773, ob770 P), (774, ob771 P), (775, ob772 P), (776, ob773 P), (777, ob774 P), (778, ob775 P), (779, ob776 P), (780, ob777 P), (781, ob778 P), (782, ob779 P), (783, ob782 P), (784, ob783 P), (785, ob784 P), (786, ob785 P), (787, ob786 P), (788, ob787 P), (789, ob788 P), (790, ob789 P), (791, ob790 P), (792, ob791 P), (793, ob792 P), (794, ob793 P), (795, ob794 P), (796, ob795 P), (797, ob796 P), (798, ob797 P), (799, ob798 P), (800, ob799 P), (801, ob800 P), (802, ob801 P), (803, ob802 P), (804, ob803 P), (805, ob804 P), (806, ob805 P), (807, ob806 P), (808, ob807 P), (809, ob808 P), (810, ob809 P), (811, ob810 P), (812, ob811 P), (813, ob812 P), (814, ob813 P), (815, ob814 P), (816, ob815 P), (817, ob816 P), (818, ob817 P), (819, ob818 P), (820, ob819 P)]
noncomputable def KA : List Addr := [0, 1, 2, 3, 4, 5, 6, 7, 8, 9, 10, 11, 12, 13, 14, 15, 16, 17, 18, 19, 20, 21, 22, 23, 24, 25, 26, 27, 28, 29, 30, 31, 32, 33, 34, 35, 36, 37, 38, 39, 40, 41, 42, 43, 44, 45, 46, 47, 48, 49, 50, 51, 52, 53, 54, 55, 56, 57, 58, 59, 60, 61, 62, 63, 64, 65, 66, 67, 68, 69, 70, 71, 72, 73, 74, 75, 76, 77, 78, 79, 80, 81, 82, 83, 84, 85, 86, 87, 88, 89, 90, 91, 92, 93, 94, 95, 96, 97, 98, 99, 100, 101, 102, 103, 104, 105, 106, 107, 108, 109, 110, 111, 112, 113, 114, 115, 116, 117, 118, 119, 120, 121, 122, 123, 124, 125, 126, 127, 128, 129, 130, 131, 132, 133, 134, 135, 136, 137, 138, 139, 140, 141, 142, 143, 144, 145, 146, 147, 148, 149, 150, 151, 152, 153, 154, 155, 156, 157, 158, 159, 160, 161, 162, 163, 164, 165, 166, 167, 168, 169, 170, 171, 172, 173, 174, 175, 176, 177, 178, 179, 180, 181, 182, 183, 184, 185, 186, 187, 188, 189, 190, 191, 192, 193, 194, 195, 196, 197, 198, 199, 200, 201, 202, 203, 204, 205, 206, 207, 208, 209, 210, 211, 212, 213, 214, 215, 216, 217, 218, 219, 220, 221, 222, 223, 224, 225, 226, 227, 228, 229, 230, 231, 232, 233, 234, 235, 236, 237, 238, 239, 240, 241, 242, 243, 244, 245, 246, 247, 248, 249, 250, 251, 252, 253, 254, 255, 256, 257, 258, 259, 260, 261, 262, 263, 264, 265, 266, 267, 268, 269, 270, 271, 272, 273, 274, 275, 276, 277, 278, 279, 280, 281, 282, 283, 284, 285, 286, 287, 288, 289, 290, 291, 292, 293, 294, 295, 296, 297, 298, 299, 300, 301, 302, 303, 304, 305, 306, 307, 308, 309, 310, 311, 312, 313, 314, 315, 316, 317, 318, 319, 320, 321, 322, 323, 324, 325, 326, 327, 328, 329, 330, 331, 332, 333, 334, 335, 336, 337, 338, 339, 340, 341, 342, 343, 344, 345, 346, 347, 348, 349, 350, 351, 352, 353, 354, 355, 356, 357, 358, 359, 360, 361, 362, 363, 364, 365, 366, 367, 368, 369, 370, 371, 372, 373, 374, 375, 376, 377, 378, 379, 380, 381, 382, 383, 384, 385, 386, 387, 388, 389, 390, 391, 392, 393, 394, 395, 396, 397, 398, 399, 400, 401, 402, 403, 404, 405, 406, 407, 408, 409, 410, 411, 412, 413, 414, 415, 416, 417, 418, 419, 420, 421, 422, 423, 424, 425, 426, 427, 428, 429, 430, 431, 432, 433, 434, 435, 436, 437, 438, 439, 440, 441, 442, 443, 444, 445, 446, 447, 448, 449, 450, 451, 452, 453, 454, 455, 456, 457, 458, 459, 460, 461, 462, 463, 464, 465, 466, 467, 468, 469, 470, 471, 472, 473, 474, 475, 476, 477, 478, 479, 480, 481, 482, 483, 484, 485, 486, 487, 488, 489, 490, 491, 492, 493, 494, 495, 496, 497, 498, 499, 500, 501, 502, 503, 504, 505, 506, 507, 508, 509, 510, 511, 512, 513, 514, 515, 516, 517, 518, 519, 520, 521, 522, 523, 524, 525, 526, 527, 528, 529, 530, 531, 532, 533, 534, 535, 536, 537, 538, 539, 540, 541, 542, 543, 544, 545, 546, 547, 548, 549, 550, 551, 552, 553, 554, 555, 556, 557, 558, 559, 560, 561, 562, 563, 564, 565, 566, 567, 568, 569, 570, 571, 572, 573, 574, 575, 576, 577, 578, 579, 580, 581, 582, 583, 584, 585, 586, 587, 588, 589, 590, 591, 592, 593, 594, 595, 596, 597, 598, 599, 600, 601, 602, 603, 604, 605, 606, 607, 608, 609, 610, 611, 612, 613, 614, 615, 616, 617, 618, 619, 620, 621, 622, 623, 624, 625, 626, 627, 628, 629, 630, 631, 632, 633, 634, 635, 636, 637, 638, 639, 640, 641, 642, 643, 644, 645, 646, 647, 648, 649, 650, 651, 652, 653, 654, 655, 656, 657, 658, 659, 660, 661, 662, 663, 664, 665, 666, 667, 668, 669, 670, 671, 672, 673, 674, 675, 676, 677, 678, 679, 680, 681, 682, 683, 684, 685, 686, 687, 688, 689, 690, 691, 692, 693, 694, 695, 696, 697, 698, 699, 700, 701, 702, 703, 704, 705, 706, 707, 708, 709, 710, 711, 712, 713, 714, 715, 716, 717, 718, 719, 720, 721, 722, 723, 724, 725, 726, 727, 728, 729, 730, 731, 732, 733, 734, 735, 736, 737, 738, 739, 740, 741, 742, 743, 744, 745, 746, 747, 748, 749, 750, 751, 752, 753, 754, 755, 756, 757, 758, 759, 760, 761, 762, 763, 764, 765, 766, 767, 768, 769, 770, 771, 772, 773, 774, 775, 776, 777, 778, 779, 780, 781, 782, 783, 784, 785, 786, 787, 788, 789, 790, 791, 792, 793, 794, 795, 796, 797, 798, 799, 800, 801, 802, 803, 804, 805, 806, 807, 808, 809, 810, 811, 812, 813, 814, 815, 816, 817, 818, 819, 820]
theorem KA_is : ∀ P, KA = (KF P).map (·.1) := fun _ => rfl
theorem open_is : ∀ w : World, (fencedOpening treeTable PySem.Challenge.pw_ci0024_03 w 15910).map (fun s => (s.heap, s.gens, s.drawn, s.toks)) = some (boot_heap w.params, Array.mk [], boot_drawn, boot_toks) :=
  boot_open (p := PySem.Challenge.pw_ci0024_03) (N := 15910) (by kernel_rfl) (by kernel_rfl) (fun _ => by kernel_rfl)
theorem size_is : ∀ w : World, ((boot_heap w.params).isNs mainGlobals && (#[] : Array GenState).size == 0, (boot_heap w.params).objs.size, (boot_heap w.params).nsMap mainGlobals "__annotations__") = (true, 11, (some (.ref 6))) := by
  intro w
  kernel_rfl
end Mine
namespace Mine
def untok : Value → Value
  | .int i _ => .int i 0
  | .float b _ => .float b 0
  | .str x _ => .str x 0
  | .bytes b _ => .bytes b 0
  | v => v
theorem untok_int {v : Value} {i : Int} {t : Tok} (h : untok v = .int i t) : ∃ t, v = .int i t := by cases v <;> simp [untok] at h; exact ⟨_, by rw [h.1]⟩
theorem untok_str {v : Value} {x : Str} {t : Tok} (h : untok v = .str x t) : ∃ t, v = .str x t := by cases v <;> simp [untok] at h; exact ⟨_, by rw [h.1]⟩
theorem untok_ref {v : Value} {a : Addr} (h : untok v = .ref a) : v = .ref a := by cases v <;> simp [untok] at h; rw [h]
theorem untok_none {v : Value} (h : untok v = .none) : v = .none := by cases v <;> simp [untok] at h; rfl
theorem untok_bool {v : Value} {b : Bool} (h : untok v = .bool b) : v = .bool b := by cases v <;> simp [untok] at h; rw [h]
theorem untok_type {v : Value} {n : String} (h : untok v = .type n) : v = .type n := by cases v <;> simp [untok] at h; rw [h]
theorem untok_builtin {v : Value} {n : String} (h : untok v = .builtin n) : v = .builtin n := by cases v <;> simp [untok] at h; rw [h]
abbrev Pt := Addr × (Obj → Prop)
abbrev Chunk := List Pt
def pt (a : Addr) (φ : Obj → Prop) : Chunk := [(a, φ)]
structure St (h₁ : Heap) (X : List Addr) (h : Heap) (cs : List Chunk) : Prop where
  old : ∀ a o, a ∉ X → h₁.get? a = some o → h.get? a = some o
  off : ∀ p ∈ cs.flatten, p.1 ∈ X ∨ h₁.get? p.1 = none
  nodup : (cs.flatten.map (·.1)).Nodup
  at_ : ∀ p ∈ cs.flatten, ∃ o, h.get? p.1 = some o ∧ p.2 o
inductive Foc : List Chunk → Chunk → List Chunk → Prop
  | here (c : Chunk) (cs : List Chunk) : Foc (c :: cs) c cs
  | there {cs : List Chunk} {c : Chunk} {r : List Chunk} (d : Chunk) (h : Foc cs c r) : Foc (d :: cs) c (d :: r)
theorem Foc.perm {cs r : List Chunk} {c : Chunk} (h : Foc cs c r) : cs.Perm (c :: r) := by
  induction h with
  | here => exact List.Perm.refl _
  | there d _ ih => exact (List.Perm.cons d ih).trans (List.Perm.swap _ _ _)
section
variable {h₁ h h' : Heap} {X : List Addr} {cs cs' r : List Chunk} {c : Chunk} {a : Addr} {φ ψ : Obj → Prop} {o : Obj}
theorem St.perm (S : St h₁ X h cs) (p : cs.Perm cs') : St h₁ X h cs' := by
  have q : cs.flatten.Perm cs'.flatten := p.flatten
  exact ⟨S.old, fun x hx => S.off x (q.mem_iff.mpr hx), (q.map _).nodup_iff.mp S.nodup, fun x hx => S.at_ x (q.mem_iff.mpr hx)⟩
theorem St.foc (S : St h₁ X h cs) (f : Foc cs c r) : St h₁ X h (c :: r) := S.perm f.perm
theorem St.unfoc (S : St h₁ X h (c :: r)) (f : Foc cs c r) : St h₁ X h cs := S.perm f.perm.symm
theorem St.drop (S : St h₁ X h (c :: cs)) : St h₁ X h cs := by
  have e : (c :: cs).flatten = c ++ cs.flatten := by simp
  refine ⟨S.old, fun x hx => S.off x (by rw [e]; exact List.mem_append_right _ hx), ?_, fun x hx => S.at_ x (by rw [e]; exact List.mem_append_right _ hx)⟩
  have := S.nodup
  rw [e, List.map_append] at this
  exact (List.nodup_append.mp this).2.1
theorem St.get (S : St h₁ X h (pt a φ :: cs)) : ∃ o, h.get? a = some o ∧ φ o := S.at_ (a, φ) (by simp [pt])
theorem St.weaken (S : St h₁ X h (pt a φ :: cs)) (hw : ∀ o, φ o → ψ o) : St h₁ X h (pt a ψ :: cs) := by
  refine ⟨S.old, fun x hx => ?_, by simpa [pt] using S.nodup, fun x hx => ?_⟩
  · simp only [pt, List.flatten_cons, List.cons_append, List.nil_append, List.mem_cons] at hx
    rcases hx with rfl | hx
    · exact S.off (a, φ) (by simp [pt])
    · exact S.off x (by simp [pt, hx])
  · simp only [pt, List.flatten_cons, List.cons_append, List.nil_append, List.mem_cons] at hx
    rcases hx with rfl | hx
    · obtain ⟨o, e, q⟩ := S.get
      exact ⟨o, e, hw o q⟩
    · exact S.at_ x (by simp [pt, hx])
theorem St.set (S : St h₁ X h (pt a φ :: cs)) (hs : Heap.SameBut a h h') (hq : ∃ o, h'.get? a = some o ∧ ψ o) : St h₁ X h' (pt a ψ :: cs) := by
  have nd := S.nodup
  have e : ∀ χ : Obj → Prop, (pt a χ :: cs).flatten = (a, χ) :: cs.flatten := fun χ => by simp [pt]
  rw [e] at nd
  simp only [List.map_cons, List.nodup_cons] at nd
  have hoff := S.off (a, φ) (by rw [e]; exact List.mem_cons_self)
  refine ⟨fun b o hb ho => ?_, fun x hx => ?_, by rw [e]; simpa using nd, fun x hx => ?_⟩
  · have hne : b ≠ a := by
      rintro rfl
      rcases hoff with q | q
      · exact hb q
      · rw [q] at ho; cases ho
    exact (hs.2 b hne).trans (S.old b o hb ho)
  · rw [e] at hx
    rcases List.mem_cons.mp hx with rfl | hx
    · exact hoff
    · exact S.off x (by rw [e]; exact List.mem_cons_of_mem _ hx)
  · rw [e] at hx
    rcases List.mem_cons.mp hx with rfl | hx
    · exact hq
    · obtain ⟨o, ho, q⟩ := S.at_ x (by rw [e]; exact List.mem_cons_of_mem _ hx)
      have hne : x.1 ≠ a := fun q' => nd.1 (q' ▸ List.mem_map_of_mem hx)
      exact ⟨o, (hs.2 x.1 hne).trans ho, q⟩
theorem St.keeps (S : St h₁ X h cs) (hk : ∀ b o, h.get? b = some o → h'.get? b = some o) : St h₁ X h' cs :=
  ⟨fun b o hb ho => hk b o (S.old b o hb ho), S.off, S.nodup, fun x hx => let ⟨o, ho, q⟩ := S.at_ x hx; ⟨o, hk _ _ ho, q⟩⟩
theorem St.push (S : St h₁ X h cs) (o : Obj) : St h₁ X (h.push o) cs := S.keeps fun _ _ e => Heap.get?_push_of_some _ e
theorem St.free (S : St h₁ X h cs) {a : Addr} (ha : h.objs.size ≤ a) : a ∈ X ∨ h₁.get? a = none := by
  by_cases hx : a ∈ X
  · exact .inl hx
  · refine .inr ?_
    cases e : h₁.get? a with
    | none => rfl
    | some o => exact absurd (Heap.lt_size (S.old a o hx e)) (Nat.not_lt.mpr ha)
theorem St.new_at (S : St h₁ X h cs) (hk : ∀ b o, h.get? b = some o → h'.get? b = some o) {a : Addr} (ha : h.objs.size ≤ a) (hq : ∃ o, h'.get? a = some o ∧ φ o) : St h₁ X h' (pt a φ :: cs) := by
  have S' := S.keeps hk
  have e : (pt a φ :: cs).flatten = (a, φ) :: cs.flatten := by simp [pt]
  refine ⟨S'.old, fun x hx => ?_, ?_, fun x hx => ?_⟩
  · rw [e] at hx
    rcases List.mem_cons.mp hx with rfl | hx
    · exact S.free ha
    · exact S.off x hx
  · rw [e, List.map_cons, List.nodup_cons]
    refine ⟨fun hm => ?_, S.nodup⟩
    obtain ⟨x, hx, q⟩ := List.mem_map.mp hm
    obtain ⟨o, ho, _⟩ := S.at_ x hx
    exact absurd q (Nat.ne_of_lt (Nat.lt_of_lt_of_le (Heap.lt_size ho) ha))
  · rw [e] at hx
    rcases List.mem_cons.mp hx with rfl | hx
    · exact hq
    · exact S'.at_ x hx
theorem St.alloc (S : St h₁ X h cs) (hf : o.isFreed = false) (hq : φ o) : St h₁ X (h.push o) (pt h.objs.size φ :: cs) :=
  S.new_at (fun _ _ e => Heap.get?_push_of_some _ e) (Nat.le_refl _) ⟨o, Heap.get?_push_size _ hf, hq⟩
theorem St.lt (S : St h₁ X h (pt a φ :: cs)) : a < h.objs.size := let ⟨_, e, _⟩ := S.get; Heap.lt_size e
theorem St.app (S : St h₁ X h ((c ++ d) :: cs)) : St h₁ X h (c :: d :: cs) := by
  have e : ((c ++ d) :: cs).flatten = (c :: d :: cs).flatten := by simp
  exact ⟨S.old, e ▸ S.off, e ▸ S.nodup, e ▸ S.at_⟩
theorem St.unapp (S : St h₁ X h (c :: d :: cs)) : St h₁ X h ((c ++ d) :: cs) := by
  have e : ((c ++ d) :: cs).flatten = (c :: d :: cs).flatten := by simp
  exact ⟨S.old, e ▸ S.off, e ▸ S.nodup, e ▸ S.at_⟩
end
end Mine
namespace Mine
inductive Rep : List Chunk → Chunk → Chunk → List Chunk → Prop
  | here (c c' : Chunk) (cs : List Chunk) : Rep (c :: cs) c c' (c' :: cs)
  | there {cs : List Chunk} {c c' : Chunk} {cs' : List Chunk} (d : Chunk) (h : Rep cs c c' cs') : Rep (d :: cs) c c' (d :: cs')
theorem Rep.split {cs cs' : List Chunk} {c c' : Chunk} (h : Rep cs c c' cs') : ∃ r, cs.Perm (c :: r) ∧ cs'.Perm (c' :: r) := by
  induction h with
  | here c c' cs => exact ⟨cs, .refl _, .refl _⟩
  | there d _ ih =>
    obtain ⟨r, h1, h2⟩ := ih
    exact ⟨d :: r, (List.Perm.cons d h1).trans (List.Perm.swap _ _ _), (List.Perm.cons d h2).trans (List.Perm.swap _ _ _)⟩
inductive Has : List Chunk → Chunk → Prop
  | here (c : Chunk) (cs : List Chunk) : Has (c :: cs) c
  | there {cs : List Chunk} {c : Chunk} (d : Chunk) (h : Has cs c) : Has (d :: cs) c
theorem Has.split {cs : List Chunk} {c : Chunk} (h : Has cs c) : ∃ r, cs.Perm (c :: r) := by
  induction h with
  | here c cs => exact ⟨cs, .refl _⟩
  | there d _ ih => obtain ⟨r, h⟩ := ih; exact ⟨d :: r, (List.Perm.cons d h).trans (List.Perm.swap _ _ _)⟩
theorem Has.mem {cs : List Chunk} {c : Chunk} (h : Has cs c) {p : Pt} (hp : p ∈ c) : p ∈ cs.flatten := by
  induction h with
  | here c cs => simp [hp]
  | there d _ ih => simp only [List.flatten_cons, List.mem_append]; exact .inr (ih hp)
structure Base where
  prog : Program
  w : World
  h : Heap
  X : List Addr
  os : OsState
  drawn : Drawn
  gl : List (Str × Value)
  K : Frag
structure Base.Good (b : Base) : Prop where
  gl : ∀ x v, b.gl.lookup x = some v → untok v = v ∧ ∃ mg mb, b.h.Ns mainGlobals mg ∧ b.h.Ns builtinsNs mb ∧ (mg x = some v ∨ (mg x = none ∧ mb x = some v))
  Xg : mainGlobals ∉ b.X
  Xb : builtinsNs ∉ b.X
  Xs : cStatics ∉ b.X
  nolimit : b.h.NoLimit
  kin : b.K.In b.h
  Xk : ∀ a ∈ b.X, b.K.lookup a = none
  low : (∃ o, b.h.get? sysModules = some o) ∧ sysModules ∉ b.X
structure Ok (b : Base) (G : Array GenState) (cs : List Chunk) (s : Shared) : Prop where
  st : St b.h b.X s.heap cs
  gens : s.gens = G
  os : s.os = b.os
  drawn : s.drawn = b.drawn
structure ChainAt (h : Heap) (e k : Addr) : Prop where
  fst : ∃ o vs, h.get? e = some o ∧ o.data = .fields vs ∧ vs[2]? = some (.ref k)
  snd : ∃ o vs, h.get? k = some o ∧ o.data = .fields vs ∧ vs[2]? = some .none
  ne : k ≠ e
def HA (A : Around) (h : Heap) : Prop := A.handled = none ∨ ∃ e k, A.handled = some (.ref e) ∧ ChainAt h e k
def HH (b : Base) (A : Around) : Prop := A.handled = none ∨ ∃ e k, A.handled = some (.ref e) ∧ e ∉ b.X ∧ k ∉ b.X ∧ ChainAt b.h e k
theorem HA.keeps {A : Around} {h h' : Heap} (H : HA A h) (hk : ∀ x o, h.get? x = some o → h'.get? x = some o) : HA A h' := by
  rcases H with H | ⟨e, k, H, C⟩
  · exact .inl H
  · obtain ⟨o, vs, h1, h2⟩ := C.fst
    obtain ⟨o', vs', h3, h4⟩ := C.snd
    exact .inr ⟨e, k, H, ⟨o, vs, hk _ _ h1, h2⟩, ⟨o', vs', hk _ _ h3, h4⟩, C.ne⟩
structure Fit (b : Base) (A : Around) (d u : Nat) : Prop where
  handled : HH b A
  depth : A.depth + d < recursionLimit
  units : A.units + u < cLine
abbrev Base.M (b : Base) : Model := model b.prog b.w
section
variable {b : Base} {A : Around} {d u d' u' : Nat}
theorem Fit.mono (F : Fit b A d u) (hd : d' ≤ d) (hu : u' ≤ u) : Fit b A d' u' := ⟨F.handled, Nat.lt_of_le_of_lt (Nat.add_le_add_left hd _) F.depth, Nat.lt_of_le_of_lt (Nat.add_le_add_left hu _) F.units⟩
theorem Fit.in1 (F : Fit b A d (u + 1)) : Fit b A.in1 d u := ⟨F.handled, F.depth, by have := F.units; simp only [Around.in1_units]; omega⟩
theorem Fit.deeper (F : Fit b A (d + 1) (u + 3)) (env : Env) : Fit b (A.deeper env) d u := ⟨F.handled, by have := F.depth; simp only [Around.deeper]; omega, by have := F.units; simp only [Around.deeper_units]; omega⟩
theorem Fit.under {c : Code} {x y : Nat} (F : Fit b A (d + x) (u + y)) (hw : (c.weight, c.cUnits) = (x, y)) : Fit b (A.under c) d u := by
  obtain ⟨h1, h2⟩ := Prod.mk.inj hw
  refine ⟨F.handled, ?_, ?_⟩
  · have := F.depth; show A.depth + c.weight + d < _; omega
  · have := F.units; show A.units + c.cUnits + u < _; omega
theorem Fit.room (F : Fit b A d u) : A.depth < recursionLimit := by have := F.depth; omega
theorem Fit.line (F : Fit b A d u) : A.units < cLine := by have := F.units; omega
end
def nsP (vars : List (Str × Value)) (o : Obj) : Prop :=
  ∃ es ep, o.data = .dict es ep ∧ StrKeys es ∧ ∀ x v, vars.lookup x = some v → (nsFind es x).map untok = some v
def cellP (v : Option Value) (o : Obj) : Prop := ∃ u, o.data = .cell u ∧ u.map untok = v
abbrev Cv := List (Str × Option Value)
def cellsC (env : Env) (cv : Cv) : Chunk := cv.map fun p => ((env.cells.lookup p.1).getD 0, cellP p.2)
def fr (env : Env) (vars : List (Str × Value)) (cv : Cv := []) : Chunk := (env.locals, nsP vars) :: cellsC env cv
def put (vars : List (Str × Value)) (x : Str) (v : Value) : List (Str × Value) := (x, v) :: vars
section
variable {b : Base} {G G' : Array GenState} {cs cs' r : List Chunk} {c : Chunk} {s s' : Shared} {L a : Addr} {env : Env} {vars vars' : List (Str × Value)} {cv : Cv} {φ ψ : Obj → Prop}
theorem Ok.foc (h : Ok b G cs s) (f : Foc cs c r) : Ok b G (c :: r) s := ⟨h.st.foc f, h.gens, h.os, h.drawn⟩
theorem Ok.perm (h : Ok b G cs s) (f : cs.Perm cs') : Ok b G cs' s := ⟨h.st.perm f, h.gens, h.os, h.drawn⟩
theorem Ok.drop (h : Ok b G (c :: cs) s) : Ok b G cs s := ⟨h.st.drop, h.gens, h.os, h.drawn⟩
theorem Ok.swap {d : Chunk} (h : Ok b G (c :: d :: cs) s) : Ok b G (d :: c :: cs) s := h.perm (List.Perm.swap _ _ _)
theorem Ok.up2 {d e : Chunk} (h : Ok b G (c :: d :: e :: cs) s) : Ok b G (e :: c :: d :: cs) s := h.foc (.there _ (.there _ (.here _ _)))
theorem Ok.up3 {d e e' : Chunk} (h : Ok b G (c :: d :: e :: e' :: cs) s) : Ok b G (e' :: c :: d :: e :: cs) s := h.foc (.there _ (.there _ (.there _ (.here _ _))))
theorem Ok.drop1 {d : Chunk} (h : Ok b G (c :: d :: cs) s) : Ok b G (c :: cs) s := h.swap.drop
theorem Ok.weaken (h : Ok b G (pt a φ :: cs) s) (hw : ∀ o, φ o → ψ o) : Ok b G (pt a ψ :: cs) s := ⟨h.st.weaken hw, h.gens, h.os, h.drawn⟩
theorem Ok.toks (h : Ok b G cs s) (t : Nat) : Ok b G cs { s with toks := t } := ⟨h.st, h.gens, h.os, h.drawn⟩
theorem Ok.set {h' : Heap} {t : Nat} (h : Ok b G (pt a φ :: cs) s) (hs : Heap.SameBut a s.heap h') (hq : ∃ o, h'.get? a = some o ∧ ψ o) : Ok b G (pt a ψ :: cs) { s with heap := h', toks := t } :=
  ⟨h.st.set hs hq, h.gens, h.os, h.drawn⟩
theorem Ok.keeps {h' : Heap} {t : Nat} (h : Ok b G cs s) (hk : ∀ b o, s.heap.get? b = some o → h'.get? b = some o) : Ok b G cs { s with heap := h', toks := t } :=
  ⟨h.st.keeps hk, h.gens, h.os, h.drawn⟩
theorem Ok.alloc {o : Obj} {t : Nat} (h : Ok b G cs s) (hf : o.isFreed = false) (hq : φ o) : Ok b G (pt s.heap.objs.size φ :: cs) { s with heap := s.heap.push o, toks := t } :=
  ⟨h.st.alloc hf hq, h.gens, h.os, h.drawn⟩
theorem Ok.enter {h' : Heap} {t : Nat} (h : Ok b G cs s) (hk : ∀ b o, s.heap.get? b = some o → h'.get? b = some o) {a : Addr} (ha : s.heap.objs.size ≤ a) (hq : ∃ o, h'.get? a = some o ∧ φ o) : Ok b G (pt a φ :: cs) { s with heap := h', toks := t } :=
  ⟨h.st.new_at hk ha hq, h.gens, h.os, h.drawn⟩
theorem Ok.app {d : Chunk} (h : Ok b G ((c ++ d) :: cs) s) : Ok b G (c :: d :: cs) s := ⟨h.st.app, h.gens, h.os, h.drawn⟩
theorem Ok.unapp {d : Chunk} (h : Ok b G (c :: d :: cs) s) : Ok b G ((c ++ d) :: cs) s := ⟨h.st.unapp, h.gens, h.os, h.drawn⟩
theorem Ok.nilc (h : Ok b G cs s) : Ok b G ([] :: cs) s := ⟨⟨h.st.old, by simpa using h.st.off, by simpa using h.st.nodup, by simpa using h.st.at_⟩, h.gens, h.os, h.drawn⟩
theorem Ok.old (h : Ok b G cs s) {x : Addr} {o : Obj} (hx : x ∉ b.X) (e : b.h.get? x = some o) : s.heap.get? x = some o := h.st.old x o hx e
theorem Ok.ns (h : Ok b G cs s) {x : Addr} {m : Str → Option Value} (hx : x ∉ b.X) (e : b.h.Ns x m) : s.heap.Ns x m := let ⟨o, es, ep, ho, r⟩ := e; ⟨o, es, ep, h.old hx ho, r⟩
theorem Ok.nolimit (h : Ok b G cs s) (g : b.Good) : s.heap.NoLimit := let ⟨mc, a, e⟩ := g.nolimit; ⟨mc, h.ns g.Xs a, e⟩
theorem Ok.kin (h : Ok b G cs s) (g : b.Good) : b.K.In s.heap := fun a o e => h.old (fun hm => by rw [g.Xk a hm] at e; cases e) (g.kin a o e)
theorem Ok.low (h : Ok b G cs s) (g : b.Good) {p : Pt} (hp : p ∈ cs.flatten) : (p.1 == sysModules) = false := by
  rcases h.st.off p hp with q | q
  · exact beq_eq_false_iff_ne.mpr fun e => g.low.2 (e ▸ q)
  · exact beq_eq_false_iff_ne.mpr fun e => by obtain ⟨o, ho⟩ := g.low.1; rw [← e, q] at ho; cases ho
theorem Ok.low_pt (h : Ok b G cs s) (g : b.Good) (f : Has cs (pt a φ)) : (a == sysModules) = false := h.low g (p := (a, φ)) (f.mem (by simp [pt]))
theorem Ok.has (h : Ok b G cs s) (f : Has cs (pt a φ)) : ∃ o, s.heap.get? a = some o ∧ φ o := by
  obtain ⟨r, p⟩ := f.split
  exact (h.perm p).st.get
theorem Ok.rep {h' : Heap} {t : Nat} (h : Ok b G cs s) (f : Rep cs (pt a φ) (pt a ψ) cs') (hs : Heap.SameBut a s.heap h') (hq : ∃ o, h'.get? a = some o ∧ ψ o) : Ok b G cs' { s with heap := h', toks := t } := by
  obtain ⟨r, p, p'⟩ := f.split
  exact ((h.perm p).set hs hq).perm p'.symm
theorem Ok.lose {h' : Heap} {t : Nat} (h : Ok b G cs s) (f : Foc cs (pt a φ) cs') (hs : Heap.ExtBut a s.heap h') : Ok b G cs' { s with heap := h', toks := t } := by
  have S := h.st.foc f
  have nd := S.nodup
  have e : (pt a φ :: cs').flatten = (a, φ) :: cs'.flatten := by simp [pt]
  rw [e] at nd
  simp only [List.map_cons, List.nodup_cons] at nd
  have hoff := S.off (a, φ) (by rw [e]; exact List.mem_cons_self)
  refine ⟨⟨fun x o hx ho => ?_, S.drop.off, S.drop.nodup, fun x hx => ?_⟩, h.gens, h.os, h.drawn⟩
  · have hne : x ≠ a := by
      rintro rfl
      rcases hoff with q | q
      · exact hx q
      · rw [q] at ho; cases ho
    exact hs x o hne (S.old x o hx ho)
  · obtain ⟨o, ho, q⟩ := S.drop.at_ x hx
    exact ⟨o, hs _ _ (fun q' => nd.1 (q' ▸ List.mem_map_of_mem hx)) ho, q⟩
theorem fr_eq : fr env vars cv = pt env.locals (nsP vars) ++ cellsC env cv := rfl
theorem Ok.frame (h : Ok b G (fr env vars cv :: cs) s) : Ok b G (pt env.locals (nsP vars) :: cellsC env cv :: cs) s := Ok.app (c := pt env.locals (nsP vars)) h
theorem Ok.unframe (h : Ok b G (pt env.locals (nsP vars) :: cellsC env cv :: cs) s) : Ok b G (fr env vars cv :: cs) s := Ok.unapp (c := pt env.locals (nsP vars)) h
theorem frame_ns {o : Obj} (h : nsP vars o) (e : s.heap.get? L = some o) : ∃ m, s.heap.Ns L m ∧ ∀ x v, vars.lookup x = some v → ∃ u, m x = some u ∧ untok u = v := by
  obtain ⟨es, ep, hd, hk, hv⟩ := h
  refine ⟨fun x => nsFind es x, ⟨o, es, ep, e, hd, hk, fun _ => rfl⟩, fun x v q => ?_⟩
  have := hv x v q
  cases hf : nsFind es x with
  | none => rw [hf] at this; cases this
  | some u => rw [hf] at this; exact ⟨u, hf, Option.some.inj this⟩
theorem nsP_of_ns {h : Heap} {m : Str → Option Value} (N : h.Ns L m) (hv : ∀ x v, vars.lookup x = some v → ∃ u, m x = some u ∧ untok u = v) : ∃ o, h.get? L = some o ∧ nsP vars o := by
  obtain ⟨o, es, ep, e, hd, hk, hm⟩ := N
  refine ⟨o, e, es, ep, hd, hk, fun x v q => ?_⟩
  obtain ⟨u, h1, h2⟩ := hv x v q
  rw [hm x, h1]; exact congrArg some h2
abbrev SubV (vars' vars : List (Str × Value)) : Prop := vars'.map (fun p => vars.lookup p.1) = vars'.map (fun p => some p.2)
theorem SubV_get : ∀ {vars' vars : List (Str × Value)}, SubV vars' vars → ∀ x v, vars'.lookup x = some v → vars.lookup x = some v
  | [], _, _, x, v, e => by cases e
  | (y, u) :: r, vars, h, x, v, e => by
    have h' : vars.lookup y = some u ∧ SubV r vars := by
      have : vars.lookup y :: r.map (fun p => vars.lookup p.1) = some u :: r.map (fun p => some p.2) := h
      injection this with h1 h2
      exact ⟨h1, h2⟩
    rw [List.lookup_cons] at e
    cases q : x == y with
    | true =>
      rw [q] at e
      rw [eq_of_beq q]
      exact h'.1.trans e
    | false => rw [q] at e; exact SubV_get h'.2 x v e
theorem Ok.sub (h : Ok b G (fr env vars cv :: cs) s) (e : SubV vars' vars) : Ok b G (fr env vars' cv :: cs) s :=
  (h.frame.weaken fun _ ⟨es, ep, hd, hk, hv⟩ => ⟨es, ep, hd, hk, fun x v q => hv x v (SubV_get e x v q)⟩).unframe
theorem Ok.cell (h : Ok b G (fr env vars cv :: cs) s) {x : Str} {v : Option Value} (hv : (x, v) ∈ cv) : ∃ u, s.heap.IsCell ((env.cells.lookup x).getD 0) u ∧ u.map untok = v := by
  have hm : ((env.cells.lookup x).getD 0, cellP v) ∈ (fr env vars cv :: cs).flatten := by
    simp only [List.flatten_cons, List.mem_append]
    refine .inl (List.mem_cons_of_mem _ (List.mem_map.mpr ⟨_, hv, rfl⟩))
  obtain ⟨o, e, u, hd, q⟩ := h.st.at_ _ hm
  exact ⟨u, ⟨o, e, hd⟩, q⟩
end
def cmpInt (op : CmpOp) (a b : Int) : Option Bool := match op with
  | .Eq => some (a == b) | .NotEq => some (a != b) | .Lt => some (decide (a < b)) | .LtE => some (decide (a ≤ b)) | .Gt => some (decide (a > b)) | .GtE => some (decide (a ≥ b)) | _ => none
def isNoneV : Value → Option Bool
  | .none => some true
  | .int _ _ | .str _ _ | .bool _ | .ref _ | .type _ => some false
  | _ => none
def evBin (op : Operator) (x y : Option Value) : Option Value := match op, x, y with
  | .Add, some (.int a _), some (.int b _) => some (.int (a + b) 0)
  | .Sub, some (.int a _), some (.int b _) => some (.int (a - b) 0)
  | .Mod, some (.int a _), some (.int (.ofNat (b + 1)) _) => some (.int (a.fmod (.ofNat (b + 1))) 0)
  | _, _, _ => none
def evCmp (op : CmpOp) (x y : Option Value) : Option Value := match op, x, y with
  | .Is, some v, some .none => (isNoneV v).map .bool
  | .IsNot, some v, some .none => (isNoneV v).map fun c => .bool (!c)
  | .Eq, some (.str a _), some (.str b _) => some (.bool (a == b))
  | .NotEq, some (.str a _), some (.str b _) => some (.bool (a != b))
  | op, some (.int a _), some (.int b _) => (cmpInt op a b).map .bool
  | _, _, _ => none
def evName (env : Env) (gl vars : List (Str × Value)) (cv : Cv) (x : Str) : Option Value :=
  if x == ("__debug__" : Str) || x == ("__classdict__" : Str) then none else match env.scope.names.lookup x with
    | some .local => vars.lookup x
    | some .globalImplicit => gl.lookup x
    | some .cell | some .free => match env.cells.lookup x, cv.lookup x with
      | some _, some v => v
      | _, _ => none
    | _ => none
def ev (env : Env) (gl vars : List (Str × Value)) (cv : Cv) : Nat → PySem.Expr → Option Value
  | 0, _ => none
  | n + 1, e => match e with
    | .Constant c _ _ => (match c with
      | .none => some .none
      | .bool b => some (.bool b)
      | .int i => some (.int i 0)
      | .str x => some (.str x 0)
      | _ => none)
    | .Name x _ => evName env gl vars cv x
    | .BinOp l op r _ => evBin op (ev env gl vars cv n l) (ev env gl vars cv n r)
    | .Compare l [op] [r] _ => evCmp op (ev env gl vars cv n l) (ev env gl vars cv n r)
    | _ => none
structure EnvG (env : Env) : Prop where
  kind : env.scope.kind = .function
  globals : env.globals = mainGlobals
  builtins : env.builtins = builtinsNs
structure In (b : Base) (env : Env) : Prop where
  good : b.Good
  env : EnvG env
section
variable {b : Base} {G : Array GenState} {cs : List Chunk} {s : Shared} {A : Around} {E : Value → Shared → Prop} {env : Env} {vars : List (Str × Value)} {cv cv' : Cv}
theorem mem_lookup {α : Type} : ∀ {l : List (Str × α)} {n : Str} {c : α}, l.lookup n = some c → (n, c) ∈ l
  | (k, v) :: r, n, c, h => by
    rw [List.lookup_cons] at h
    cases hb : n == k with
    | true => rw [hb] at h; cases h; rw [beq_iff_eq.mp hb]; exact List.mem_cons_self
    | false => rw [hb] at h; exact List.mem_cons_of_mem _ (mem_lookup h)
theorem get_name {x : Str} {v : Value} {Q : Value → Shared → Prop} (h : Ok b G (fr env vars cv :: cs) s) (I : In b env) (hv : evName env b.gl vars cv x = some v)
    (k : ∀ u, untok u = v → Q u s) : wpAny b.M A (loadName env x) Q E s ∧ (x == ("__debug__" : Str)) = false := by
  unfold evName at hv
  split at hv
  · cases hv
  rename_i hx0
  simp only [Bool.or_eq_true, not_or, Bool.not_eq_true] at hx0
  refine ⟨?_, hx0.1⟩
  split at hv
  · rename_i hx
    obtain ⟨o, e, hp⟩ := h.frame.st.get
    obtain ⟨m, N, hm⟩ := frame_ns hp e
    obtain ⟨u, h1, h2⟩ := hm x v hv
    exact wpAny_loadName_local I.env.kind hx N h1 (k u h2)
  · rename_i hx
    rw [loadName_read I.env.kind hx]
    obtain ⟨hu, mg, mb, N1, N2, q⟩ := I.good.gl x v hv
    have N1' := h.ns I.good.Xg N1
    have N2' := h.ns I.good.Xb N2
    rw [← I.env.globals] at N1'
    rw [← I.env.builtins] at N2'
    rcases q with q | ⟨q1, q2⟩
    · exact loadGlobal_global N1' q (k _ hu)
    · exact loadGlobal_builtin N1' q1 N2' q2 (k _ hu)
  · rename_i hx
    split at hv
    · rename_i c c' hc hc'
      obtain ⟨u, hI, hu⟩ := h.cell (mem_lookup hc')
      rw [hc] at hI
      subst hv
      obtain ⟨u', rfl, hu'⟩ := Option.map_eq_some_iff.mp hu
      exact wpAny_loadName_cell I.env.kind hx hc hI (k u' hu')
    · cases hv
  · rename_i hx
    split at hv
    · rename_i c c' hc hc'
      obtain ⟨u, hI, hu⟩ := h.cell (mem_lookup hc')
      rw [hc] at hI
      subst hv
      obtain ⟨u', rfl, hu'⟩ := Option.map_eq_some_iff.mp hu
      exact wpAny_loadName_free I.env.kind hx hc hI (k u' hu') hx0.2
    · cases hv
  · cases hv
theorem behind_of {op : CmpOp} {r : PySem.Expr} (h : op ≠ .In) (h' : op ≠ .NotIn) : behindInMarks op r = false := by
  cases r <;> simp [behindInMarks, h, h']
theorem cmp_ints {op : CmpOp} {a c : Int} {t u : Tok} {r : Bool} {Q : Value → Shared → Prop} (e : cmpInt op a c = some r) (k : Q (.bool r) s) : wpAny b.M A (compareOp op (.int a t) (.int c u)) Q E s := by
  cases op <;> simp only [cmpInt, Option.some.injEq, reduceCtorEq] at e <;> subst e
  · exact PyProof.Rows.eq_int k
  · exact PyProof.Rows.ne_int k
  · exact PyProof.Rows.lt_int k
  · exact PyProof.Rows.le_int k
  · exact PyProof.Rows.gt_int k
  · exact PyProof.Rows.ge_int k
theorem bin_of {op : Operator} {x y : Value} {v : Value} {Q : Value → Shared → Prop} (h : Ok b G cs s) (e : evBin op (some (untok x)) (some (untok y)) = some v)
    (k : ∀ u s', untok u = v → Ok b G cs s' → Q u s') : wpAny b.M A (binaryOp op x y) Q E s := by
  unfold evBin at e
  split at e
  · rename_i q1 q2
    obtain ⟨_, rfl⟩ := untok_int (Option.some.inj q1)
    obtain ⟨_, rfl⟩ := untok_int (Option.some.inj q2)
    cases e
    exact PyProof.Rows.add_int (k _ _ rfl (h.toks _))
  · rename_i q1 q2
    obtain ⟨_, rfl⟩ := untok_int (Option.some.inj q1)
    obtain ⟨_, rfl⟩ := untok_int (Option.some.inj q2)
    cases e
    exact PyProof.Rows.sub_int' (k _ _ rfl (h.toks _))
  · rename_i q1 q2
    obtain ⟨_, rfl⟩ := untok_int (Option.some.inj q1)
    obtain ⟨_, rfl⟩ := untok_int (Option.some.inj q2)
    cases e
    exact PyProof.Rows.mod_int' (by intro q; cases q) (k _ _ rfl (h.toks _))
  · cases e
theorem isNone_of {x : Value} {c : Bool} (e : isNoneV (untok x) = some c) : (x == .none) = c := by
  cases x <;> simp [untok, isNoneV] at e <;> subst e <;> rfl
theorem cmp_of {op : CmpOp} {x y : Value} {v : Value} {Q : Value → Shared → Prop} (h : Ok b G cs s) (e : evCmp op (some (untok x)) (some (untok y)) = some v)
    (k : Q v s) : wpAny b.M A (compareOp op x y) Q E s ∧ (∃ c, v = .bool c) ∧ op ≠ .In ∧ op ≠ .NotIn := by
  unfold evCmp at e
  split at e
  · rename_i q1 q2
    cases q1
    have hy := untok_none (Option.some.inj q2)
    subst hy
    cases hc : isNoneV (untok x) with
    | none => rw [hc] at e; cases e
    | some c =>
      rw [hc] at e; cases e
      refine ⟨PyProof.Rows.is_none_gen ?_, ⟨_, rfl⟩, by decide, by decide⟩
      rw [isNone_of hc]; exact k
  · rename_i q1 q2
    cases q1
    have hy := untok_none (Option.some.inj q2)
    subst hy
    cases hc : isNoneV (untok x) with
    | none => rw [hc] at e; cases e
    | some c =>
      rw [hc] at e; cases e
      refine ⟨PyProof.Rows.isnot_none_gen ?_, ⟨_, rfl⟩, by decide, by decide⟩
      rw [isNone_of hc]; exact k
  · rename_i q1 q2
    obtain ⟨_, rfl⟩ := untok_str (Option.some.inj q1)
    obtain ⟨_, rfl⟩ := untok_str (Option.some.inj q2)
    cases e
    exact ⟨PyProof.Rows.eq_str k, ⟨_, rfl⟩, by decide, by decide⟩
  · rename_i q1 q2
    obtain ⟨_, rfl⟩ := untok_str (Option.some.inj q1)
    obtain ⟨_, rfl⟩ := untok_str (Option.some.inj q2)
    cases e
    exact ⟨PyProof.Rows.ne_str k, ⟨_, rfl⟩, by decide, by decide⟩
  · rename_i q1 q2
    obtain ⟨_, rfl⟩ := untok_int (Option.some.inj q1)
    obtain ⟨_, rfl⟩ := untok_int (Option.some.inj q2)
    obtain ⟨r, hc, e⟩ := Option.map_eq_some_iff.mp e
    subst e
    refine ⟨cmp_ints hc k, ⟨_, rfl⟩, ?_, ?_⟩ <;> (intro hh; subst hh; cases hc)
  · cases e
theorem ev_sound' : ∀ (n : Nat) (e : PySem.Expr) {s : Shared} {v : Value} {Q : Value → Shared → Prop}, ev env b.gl vars cv n e = some v → Ok b G (fr env vars cv :: cs) s → In b env →
    (∀ u s', untok u = v → Ok b G (fr env vars cv :: cs) s' → Q u s') → wpAny b.M A (eval e env) Q E s
  | 0, _, _, _, _, q, _, _, _ => by cases q
  | n + 1, e, s, v, Q, q, h, I, k => by
    unfold ev at q
    split at q
    · split at q
      · cases q; exact PyProof.Rows.Constant_none (k _ _ rfl h)
      · cases q; exact PyProof.Rows.Constant_bool (k _ _ rfl h)
      · cases q; exact wpAny_Constant_int (k _ _ rfl (h.toks _))
      · cases q; exact wpAny_Constant_str (k _ _ rfl (h.toks _))
      · cases q
    · have z := get_name (A := A) (E := E) h I q fun u hu => k u s hu h
      exact wpAny_Name z.1 z.2
    · rename_i l op r pos
      cases hl : ev env b.gl vars cv n l with
      | none => rw [hl] at q; unfold evBin at q; split at q <;> simp_all
      | some a =>
        cases hr : ev env b.gl vars cv n r with
        | none => rw [hr] at q; unfold evBin at q; split at q <;> simp_all
        | some c =>
          rw [hl, hr] at q
          refine wpAny_BinOp (ev_sound' n l hl h I fun u s₁ hu h₁ => ev_sound' n r hr h₁ I fun u' s₂ hu' h₂ => ?_)
          subst hu; subst hu'
          exact bin_of h₂ q k
    · rename_i l op r pos
      cases hl : ev env b.gl vars cv n l with
      | none => rw [hl] at q; unfold evCmp at q; split at q <;> simp_all
      | some a =>
        cases hr : ev env b.gl vars cv n r with
        | none => rw [hr] at q; unfold evCmp at q; split at q <;> simp_all
        | some c =>
          rw [hl, hr] at q
          have hop : op ≠ .In ∧ op ≠ .NotIn := by
            refine ⟨fun hh => ?_, fun hh => ?_⟩ <;> (rw [hh] at q; unfold evCmp at q; split at q <;> simp_all [cmpInt])
          refine wpAny_Compare1 (ev_sound' n l hl h I fun u s₁ hu h₁ => ev_sound' n r hr h₁ I fun u' s₂ hu' h₂ => ?_) (behind_of hop.1 hop.2)
          subst hu; subst hu'
          have hv : ∃ c, v = .bool c := (cmp_of (A := A) (E := fun _ _ => True) (Q := fun _ _ => True) h₂ q trivial).2.1
          obtain ⟨c, rfl⟩ := hv
          exact (cmp_of h₂ q (k _ _ rfl h₂)).1
    · cases q
theorem x_ev (v : Value) {e : PySem.Expr} {Q : Value → Shared → Prop} (h : Ok b G (fr env vars cv :: cs) s) (I : In b env) (q : ev env b.gl vars cv 9 e = some v)
    (k : ∀ u s', untok u = v → Ok b G (fr env vars cv :: cs) s' → Q u s') : wpAny b.M A (eval e env) Q E s := ev_sound' 9 e q h I k
theorem x_ref (a : Addr) {e : PySem.Expr} {Q : Value → Shared → Prop} (h : Ok b G (fr env vars cv :: cs) s) (I : In b env) (q : ev env b.gl vars cv 9 e = some (.ref a))
    (k : ∀ s', Ok b G (fr env vars cv :: cs) s' → Q (.ref a) s') : wpAny b.M A (eval e env) Q E s := ev_sound' 9 e q h I fun u s' hu h' => by rw [untok_ref hu]; exact k s' h'
theorem x_int (i : Int) {e : PySem.Expr} {Q : Value → Shared → Prop} (h : Ok b G (fr env vars cv :: cs) s) (I : In b env) (q : ev env b.gl vars cv 9 e = some (.int i 0))
    (k : ∀ t s', Ok b G (fr env vars cv :: cs) s' → Q (.int i t) s') : wpAny b.M A (eval e env) Q E s := ev_sound' 9 e q h I fun u s' hu h' => by obtain ⟨t, rfl⟩ := untok_int hu; exact k t s' h'
end
end Mine
namespace Mine
def peekA {α : Type} (K : Frag) (S : Setting) (z : Addr) : Sem α → Option (Option Obj × α)
  | .pure a => some (none, a)
  | .rule _ k => peekA K S z (k ())
  | .point _ k => peekA K S z (k ())
  | .ask k => peekA K S z (k S)
  | .load a _ k => (match K.lookup a with
      | some o => peekA K S z (k o)
      | none => none)
  | .alloc o k => (peek K S (k z)).map fun r => (some o, r)
  | _ => none
theorem wp_of_peekA {α : Type} {K : Frag} {M : Model} {Γ : Ctx} {Q : α → Pos → Shared → Prop} {E : Value → Pos → Shared → Prop} {p : Pos} {s : Shared} (x : K.In s.heap) {o : Option Obj} {r : α}
    (q : Q r p (match o with | none => s | some o => { s with heap := s.heap.push o })) :
    ∀ t : Sem α, peekA K ⟨M.prog, M.w.params⟩ s.heap.objs.size t = some (o, r) → Sem.wp M Γ t Q E p s := by
  intro t
  induction t with
  | pure b => intro e; cases e; exact q
  | rule _ k ih => intro e; exact ih () e
  | point _ k ih => intro e; exact ih () e
  | ask k ih => intro e; exact ih _ e
  | load a _ k ih =>
    intro e
    simp only [peekA] at e
    split at e
    · rename_i o ho; exact ⟨o, x _ _ ho, ih o e⟩
    · cases e
  | alloc ob k _ =>
    intro e
    simp only [peekA] at e
    obtain ⟨r', h1, h2⟩ := Option.map_eq_some_iff.mp e
    cases h2
    exact wp_of_peek (s := { s with heap := s.heap.push ob }) (x.keeps fun _ _ e => Heap.get?_push_of_some _ e) q (k s.heap.objs.size) h1
  | _ => intro e; cases e
theorem wpAny_peek {α : Type} {K : Frag} {M : Model} {A : Around} {E : Value → Shared → Prop} {Q : α → Shared → Prop} {s : Shared} {t : Sem α} {r : α} (x : K.In s.heap) (e : peek K ⟨M.prog, M.w.params⟩ t = some r) (q : Q r s) : wpAny M A t Q E s :=
  (Looks.of_peek (M := M) x e).here q
theorem wpAny_peekA {α : Type} {K : Frag} {M : Model} {A : Around} {E : Value → Shared → Prop} {Q : α → Shared → Prop} {s : Shared} {t : Sem α} {o : Obj} {r : Addr → α} (x : K.In s.heap) (e : ∀ z, peekA K ⟨M.prog, M.w.params⟩ z t = some (some o, r z))
    (q : Q (r s.heap.objs.size) { s with heap := s.heap.push o }) : wpAny M A t Q E s :=
  fun _ _ _ => wp_of_peekA x q t (e _)
section
variable {b : Base} {G : Array GenState} {cs : List Chunk} {s : Shared} {A : Around} {E : Value → Shared → Prop} {env : Env} {vars vars' : List (Str × Value)} {cv : Cv}
def putc (cv : Cv) (x : Str) (v : Value) : Cv := cv.map fun p => if p.1 == x then (p.1, some v) else p
theorem st_local {x : Str} {v p : Value} {Q : Unit → Shared → Prop} (h : Ok b G (fr env vars cv :: cs) s) (I : In b env) (hv : untok v = p) (hx : env.scope.names.lookup x = some .local)
    (k : ∀ s', Ok b G (fr env (put vars x p) cv :: cs) s' → Q () s') : wpAny b.M A (storeName env x v) Q E s := by
  obtain ⟨o, e, hp⟩ := h.frame.st.get
  obtain ⟨m, N, hm⟩ := frame_ns hp e
  refine wpAny_storeName_local (m := m) hx N (fun h' N' hs => k _ ?_) (by rw [I.env.kind]; rfl)
  refine (h.frame.set hs (nsP_of_ns N' fun y u q => ?_)).unframe
  unfold put at q
  rw [List.lookup_cons] at q
  by_cases hy : y = x
  · subst hy
    simp only [beq_self_eq_true] at q
    exact ⟨v, if_pos rfl, hv.trans (Option.some.inj q)⟩
  · have : (y == x) = false := beq_eq_false_iff_ne.mpr hy
    simp only [this] at q
    obtain ⟨w, h1, h2⟩ := hm y u q
    exact ⟨w, by rw [if_neg hy]; exact h1, h2⟩
theorem rep_flat {r₁ r₂ : Chunk} {a : Addr} {φ : Obj → Prop} {ds : List Chunk} (h : Ok b G ((r₁ ++ (a, φ) :: r₂) :: ds) s) : Ok b G (pt a φ :: (r₁ ++ r₂) :: ds) s := by
  have hp : ((r₁ ++ (a, φ) :: r₂) :: ds).flatten.Perm (pt a φ :: (r₁ ++ r₂) :: ds).flatten := by
    simp only [List.flatten_cons, pt, List.cons_append, List.nil_append, List.append_assoc]
    exact List.perm_middle
  exact ⟨⟨h.st.old, fun x hx => h.st.off x (hp.mem_iff.mpr hx), (hp.map _).nodup_iff.mp h.st.nodup, fun x hx => h.st.at_ x (hp.mem_iff.mpr hx)⟩, h.gens, h.os, h.drawn⟩
theorem unrep_flat {r₁ r₂ : Chunk} {a : Addr} {φ : Obj → Prop} {ds : List Chunk} (h : Ok b G (pt a φ :: (r₁ ++ r₂) :: ds) s) : Ok b G ((r₁ ++ (a, φ) :: r₂) :: ds) s := by
  have hp : ((r₁ ++ (a, φ) :: r₂) :: ds).flatten.Perm (pt a φ :: (r₁ ++ r₂) :: ds).flatten := by
    simp only [List.flatten_cons, pt, List.cons_append, List.nil_append, List.append_assoc]
    exact List.perm_middle
  exact ⟨⟨h.st.old, fun x hx => h.st.off x (hp.mem_iff.mp hx), (hp.map _).nodup_iff.mpr h.st.nodup, fun x hx => h.st.at_ x (hp.mem_iff.mp hx)⟩, h.gens, h.os, h.drawn⟩
theorem cv_split {x : Str} {w : Option Value} : ∀ {cv : Cv}, cv.lookup x = some w → (cv.map (·.1)).Nodup → ∃ a c, cv = a ++ (x, w) :: c ∧ ∀ v, putc cv x v = a ++ (x, some v) :: c
  | (y, u) :: r, e, nd => by
    rw [List.lookup_cons] at e
    rw [List.map_cons, List.nodup_cons] at nd
    cases q : x == y with
    | true =>
      rw [q] at e; cases e
      obtain rfl := eq_of_beq q
      refine ⟨[], r, rfl, fun v => ?_⟩
      have hr : ∀ p ∈ r, (p.1 == x) = false := fun p hp => beq_eq_false_iff_ne.mpr fun e => nd.1 (e ▸ List.mem_map_of_mem (f := (·.1)) hp)
      unfold putc
      rw [List.map_cons]
      simp only [beq_self_eq_true, if_true, List.nil_append, List.cons.injEq, true_and]
      conv => rhs; rw [← List.map_id r]
      exact List.map_congr_left fun p hp => by simp [hr p hp]
    | false =>
      rw [q] at e
      obtain ⟨a, c, h1, h2⟩ := cv_split e nd.2
      refine ⟨(y, u) :: a, c, by rw [h1]; rfl, fun v => ?_⟩
      have := h2 v
      unfold putc at this ⊢
      rw [List.map_cons, this]
      have q' : (y == x) = false := by rw [beq_eq_false_iff_ne] at q ⊢; exact fun e => q e.symm
      simp only [q', Bool.false_eq_true, if_false, List.cons_append]
theorem st_cell {x : Str} {v p : Value} {Q : Unit → Shared → Prop} (h : Ok b G (fr env vars cv :: cs) s) (I : In b env) (hv : untok v = p) (hx : (env.scope.names.lookup x, (env.cells.lookup x).isSome, (cv.lookup x).isSome, (cv.map (·.1)).Nodup) = (some .cell, true, true, True))
    (k : ∀ s', Ok b G (fr env vars (putc cv x p) :: cs) s' → Q () s') : wpAny b.M A (storeName env x v) Q E s := by
  simp only [Prod.mk.injEq, eq_iff_iff, iff_true] at hx
  obtain ⟨h1, h2, h3, nd⟩ := hx
  obtain ⟨c, hc⟩ := Option.isSome_iff_exists.mp h2
  obtain ⟨w, hw⟩ := Option.isSome_iff_exists.mp h3
  obtain ⟨r₁, r₂, e1, e2⟩ := cv_split hw nd
  obtain ⟨u, hI, -⟩ := h.cell (mem_lookup hw)
  rw [hc] at hI
  refine wpAny_storeName_cell I.env.kind h1 hc hI fun h' hI' hs => k _ ?_
  have hE : ∀ v', fr env vars (r₁ ++ (x, v') :: r₂) = (pt env.locals (nsP vars) ++ cellsC env r₁) ++ (c, cellP v') :: cellsC env r₂ := fun v' => by
    show pt env.locals (nsP vars) ++ cellsC env (r₁ ++ (x, v') :: r₂) = _
    unfold cellsC
    rw [List.map_append, List.map_cons, hc, List.append_assoc]; rfl
  rw [e1, hE] at h
  rw [e2, hE]
  refine unrep_flat (Ok.set (t := s.toks) (rep_flat h) hs ?_)
  obtain ⟨o, ho, hd⟩ := hI'
  exact ⟨o, ho, some v, hd, by simp [hv]⟩
theorem x_cons {st : Stmt} {rest : List Stmt} {Q : Flow → Shared → Prop} (h : wpAny b.M A (exec st env) (fun f s' => match f with | .next => wpAny b.M A (execs rest env) Q E s' | f => Q f s') E s) :
    wpAny b.M A (execs (st :: rest) env) Q E s := wpAny_execs_cons h
theorem x_nil {Q : Flow → Shared → Prop} (h : Q .next s) : wpAny b.M A (execs [] env) Q E s := wpAny_execs_nil h
theorem x_asg {x : Str} {e : PySem.Expr} {px pos : Pos} {Q : Flow → Shared → Prop} (h : wpAny b.M A (eval e env) (fun v s₁ => wpAny b.M A (storeName env x v) (fun _ => Q .next) E s₁) E s)
    (hs : swapsWith e (some (.Name x px)) pos.line env = pure false := by with_unfolding_all rfl) : wpAny b.M A (exec (.Assign [.Name x px] e pos) env) Q E s := wpAny_Assign_Name h hs
theorem x_set (v : Value) {x : Str} {e : PySem.Expr} {px pos : Pos} {Q : Flow → Shared → Prop} (h : Ok b G (fr env vars cv :: cs) s) (I : In b env)
    (q : (ev env b.gl vars cv 9 e, env.scope.names.lookup x) = (some v, some .local)) (k : ∀ s', Ok b G (fr env (put vars x v) cv :: cs) s' → Q .next s')
    (hs : swapsWith e (some (.Name x px)) pos.line env = pure false := by with_unfolding_all rfl) : wpAny b.M A (exec (.Assign [.Name x px] e pos) env) Q E s := by
  obtain ⟨q1, q2⟩ := Prod.mk.inj q
  exact wpAny_Assign_Name (ev_sound' 9 e q1 h I fun u s' hu h' => st_local h' I hu q2 k) hs
theorem isTrue_of {e : PySem.Expr} {c : Bool} {whole : Sem Value} {Q : Bool → Shared → Prop} (h : Ok b G (fr env vars cv :: cs) s) (I : In b env)
    (q : ev env b.gl vars cv 9 e = some (.bool c)) (hw : whole = eval e env) (k : ∀ s', Ok b G (fr env vars cv :: cs) s' → Q c s') : wpAny b.M A (isTrue e env whole) Q E s := by
  subst hw
  have plain : isTrue e env (eval e env) = (do let v ← eval e env; standAt e.pos; holding [v] (truthy v)) → wpAny b.M A (isTrue e env (eval e env)) Q E s := fun hq =>
    PyProof.Rows.isTrue_plain (ev_sound' 9 e q h I fun u s' hu h' => by rw [untok_bool hu]; exact wpAny_truthy_bool (k s' h')) hq
  have q' := q
  unfold ev at q
  split at q
  · exact plain rfl
  · exact plain rfl
  · exact plain rfl
  · rename_i l op r pos
    cases hl : ev env b.gl vars cv 8 l with
    | none => rw [hl] at q; unfold evCmp at q; split at q <;> simp_all
    | some a =>
      cases hr : ev env b.gl vars cv 8 r with
      | none => rw [hr] at q; unfold evCmp at q; split at q <;> simp_all
      | some d =>
        rw [hl, hr] at q
        have hop : op ≠ .In ∧ op ≠ .NotIn := by
          refine ⟨fun hh => ?_, fun hh => ?_⟩ <;> (rw [hh] at q; unfold evCmp at q; split at q <;> simp_all [cmpInt])
        refine wpAny_isTrue_Compare1 (ev_sound' 8 l hl h I fun u s₁ hu h₁ => ev_sound' 8 r hr h₁ I fun u' s₂ hu' h₂ => ?_) (behind_of hop.1 hop.2)
        subst hu; subst hu'
        exact (cmp_of h₂ q (wpAny_truthy_bool (k _ h₂))).1
  · cases q
theorem x_if (c : Bool) {e : PySem.Expr} {body orelse : List Stmt} {pos : Pos} {Q : Flow → Shared → Prop} (h : Ok b G (fr env vars cv :: cs) s) (I : In b env)
    (q : ev env b.gl vars cv 9 e = some (.bool c)) (k : ∀ s', Ok b G (fr env vars cv :: cs) s' → wpAny b.M A (execs (if c then body else orelse) env) Q E s') : wpAny b.M A (exec (.If e body orelse pos) env) Q E s := by
  refine wpAny_If (isTrue_of h I q rfl fun s' h' => ?_)
  have := k s' h'
  cases c <;> exact this
theorem x_ret (v : Value) {e : PySem.Expr} {pos : Pos} {Q : Flow → Shared → Prop} (h : Ok b G (fr env vars cv :: cs) s) (I : In b env)
    (q : ev env b.gl vars cv 9 e = some v) (k : ∀ u s', untok u = v → Ok b G (fr env vars cv :: cs) s' → Q (.ret u) s') : wpAny b.M A (exec (.Return (some e) pos) env) Q E s :=
  wpAny_Return_some (ev_sound' 9 e q h I k)
def isStar : PySem.Expr → Bool
  | .Starred _ _ => true
  | _ => false
def evs (env : Env) (gl vars : List (Str × Value)) (cv : Cv) : List PySem.Expr → Option (List Value)
  | [] => some []
  | e :: r => if isStar e then none else match ev env gl vars cv 9 e, evs env gl vars cv r with
    | some v, some vs => some (v :: vs)
    | _, _ => none
theorem starEach_cons {e : PySem.Expr} {r : List PySem.Expr} (h : isStar e = false) : starEach (e :: r) env = (false, eval e env) :: starEach r env := by
  cases e <;> first | rfl | cases h
theorem backTo_cons {x : Sem Value} {pos : Pos} {r : List (Bool × Sem Value)} : backTo pos ((false, x) :: r) = (false, x) :: backTo pos r := rfl
theorem spliced_ev : ∀ (es : List PySem.Expr) {pos : Pos} {s : Shared} {vs : List Value} {Q : List Value → Shared → Prop}, Ok b G (fr env vars cv :: cs) s → In b env → evs env b.gl vars cv es = some vs →
    (∀ us s', us.map untok = vs → Ok b G (fr env vars cv :: cs) s' → Q us s') → wpAny b.M A (spliced (backTo pos (starEach es env))) Q E s
  | [], pos, s, vs, Q, h, I, q, k => by
    cases q
    exact Calls.spliced_nil (k [] s rfl h)
  | e :: r, pos, s, vs, Q, h, I, q, k => by
    simp only [evs] at q
    cases hs : isStar e with
    | true => rw [hs] at q; cases q
    | false =>
      rw [starEach_cons hs, backTo_cons]
      rw [hs] at q
      simp only [Bool.false_eq_true, if_false] at q
      cases hv : ev env b.gl vars cv 9 e with
      | none => rw [hv] at q; cases q
      | some v =>
        cases hw : evs env b.gl vars cv r with
        | none => rw [hv, hw] at q; cases q
        | some ws =>
          rw [hv, hw] at q
          cases q
          exact Calls.spliced_cons (ev_sound' 9 e hv h I fun u s' hu h' => spliced_ev r h' I hw fun us s'' hus h'' => k (u :: us) s'' (by rw [List.map_cons, hu, hus]) h'')
theorem evalArgs_ev {es : List PySem.Expr} {f : Value} {pos : Pos} {vs : List Value} {Q : Args → Shared → Prop} (h : Ok b G (fr env vars cv :: cs) s) (I : In b env) (q : evs env b.gl vars cv es = some vs)
    (k : ∀ us s', us.map untok = vs → Ok b G (fr env vars cv :: cs) s' → Q ⟨us, []⟩ s') : wpAny b.M A (evalArgs f true (backTo pos (starEach es env)) []) Q E s := by
  cases es with
  | nil => cases q; exact PySem.evalArgs_none (k [] s rfl h)
  | cons e r =>
    have hs : isStar e = false := by
      cases hs : isStar e with
      | true => simp only [evs, hs] at q; cases q
      | false => rfl
    have z := spliced_ev (A := A) (E := E) (pos := pos) (e :: r) (Q := fun vs s' => Q ⟨vs, []⟩ s') h I q fun us s' hu h' => k us s' hu h'
    rw [starEach_cons hs, backTo_cons] at z ⊢
    exact Calls.evalArgs_plain z
structure IsDef (b : Base) (a : Addr) (fd : FuncData) (body : List Stmt) : Prop where
  at_ : ∃ o, b.h.get? a = some o ∧ o.data = .func fd
  off : a ∉ b.X
  body : fd.body = .stmts body
  code : b.h.CodeRec fd.code fd.qualname
  codeOff : ∀ c, fd.code = .ref c → c ∉ b.X
  co : fd.scope.isCoroutine = false
  kind : fd.scope.kind = .function
  globals : fd.globals = mainGlobals
  builtins : fd.builtins = builtinsNs
  clo : fd.closure = []
theorem isDef_of {b : Base} (g : b.Good) {f : Addr} {o : Obj} {fd : FuncData} {body : List Stmt} (hK : b.K.lookup f = some o) (hd : o.data = .func fd) (hc : codeIn b.K fd.code fd.qualname = true) (hb : fd.body = .stmts body)
    (hs : (fd.scope.isCoroutine, fd.scope.kind, fd.globals, fd.builtins, fd.closure) = (false, .function, mainGlobals, builtinsNs, [])) : IsDef b f fd body := by
  simp only [Prod.mk.injEq] at hs
  obtain ⟨h1, h2, h3, h4, h5⟩ := hs
  refine ⟨⟨o, g.kin f o hK, hd⟩, fun hm => (by have e := hK; rw [g.Xk f hm] at e; exact absurd e (by simp)), hb, codeRec_of g.kin hc, fun c e hm => ?_, h1, h2, h3, h4, h5⟩
  rw [e] at hc
  unfold codeIn at hc
  simp only [g.Xk c hm, Bool.false_eq_true] at hc
theorem IsDef.codeRec {a : Addr} {fd : FuncData} {body : List Stmt} (D : IsDef b a fd body) (h : Ok b G cs s) : s.heap.CodeRec fd.code fd.qualname := by
  obtain ⟨c, oc, vs, t, e, ho, r⟩ := D.code
  exact ⟨c, oc, vs, t, e, h.old (D.codeOff c e) ho, r⟩
theorem IsDef.inEnv {a : Addr} {fd : FuncData} {body : List Stmt} (D : IsDef b a fd body) (g : b.Good) (L : Addr) : In b (callEnvC fd L a) := ⟨g, D.kind, D.globals, D.builtins⟩
theorem x_callf (vs : List Value) {f : Addr} {fd : FuncData} {body : List Stmt} {x : Str} {np pos : Pos} {es : List PySem.Expr} {Q : Value → Shared → Prop} (h : Ok b G (fr env vars cv :: cs) s) (I : In b env)
    (D : IsDef b f fd body) (q : (ev env b.gl vars cv 9 (.Name x np), evs env b.gl vars cv es) = (some (.ref f), some vs))
    (k : ∀ us s', us.map untok = vs → Ok b G (fr env vars cv :: cs) s' → wpAny b.M A (call (.ref f) us []) Q E s') : wpAny b.M A (eval (.Call (.Name x np) es [] pos) env) Q E s := by
  obtain ⟨q1, q2⟩ := Prod.mk.inj q
  refine wpAny_Call_NameR (ev_sound' 9 _ q1 h I fun u s' hu h' => ?_)
  rw [untok_ref hu]
  obtain ⟨o, ho, hd⟩ := D.at_
  refine Calls.callWith_function (o := o) (fd := fd) (evalArgs_ev h' I q2 fun us s'' hus h'' => ⟨⟨h''.old D.off ho, hd⟩, ?_⟩)
  exact k us s'' hus h''
abbrev SubM (want : List (Str × Value)) (m : Str → Option Value) : Prop := want.map (fun p => (m p.1).map untok) = want.map (fun p => some p.2)
theorem SubM_get : ∀ {want : List (Str × Value)} {m : Str → Option Value}, SubM want m → ∀ x v, want.lookup x = some v → ∃ u, m x = some u ∧ untok u = v
  | [], _, _, x, v, e => by cases e
  | (y, u) :: r, m, h, x, v, e => by
    have h' : (m y).map untok = some u ∧ SubM r m := by
      have : (m y).map untok :: r.map (fun p => (m p.1).map untok) = some u :: r.map (fun p => some p.2) := h
      injection this with h1 h2
      exact ⟨h1, h2⟩
    rw [List.lookup_cons] at e
    cases q : x == y with
    | true =>
      rw [q] at e; cases e
      obtain rfl := eq_of_beq q
      exact Option.map_eq_some_iff.mp h'.1
    | false => rw [q] at e; exact SubM_get h'.2 x v e
theorem St.enterC {h₁ h h' : Heap} {X : List Addr} {c : Chunk} (S : St h₁ X h cs) (hk : ∀ b o, h.get? b = some o → h'.get? b = some o) (ha : ∀ p ∈ c, h.objs.size ≤ p.1) (nd : (c.map (·.1)).Nodup) (hq : ∀ p ∈ c, ∃ o, h'.get? p.1 = some o ∧ p.2 o) :
    St h₁ X h' (c :: cs) := by
  have S' := S.keeps hk
  have e : (c :: cs).flatten = c ++ cs.flatten := by simp
  refine ⟨S'.old, fun x hx => ?_, ?_, fun x hx => ?_⟩
  · rw [e] at hx
    rcases List.mem_append.mp hx with hx | hx
    · exact S.free (ha x hx)
    · exact S.off x hx
  · rw [e, List.map_append, List.nodup_append]
    refine ⟨nd, S.nodup, fun a h1 b' h2 => ?_⟩
    obtain ⟨x, hx, rfl⟩ := List.mem_map.mp h1
    obtain ⟨y, hy, rfl⟩ := List.mem_map.mp h2
    obtain ⟨o, ho, _⟩ := S.at_ y hy
    exact fun q => absurd (ha x hx) (Nat.not_le.mpr (q ▸ Heap.lt_size ho))
  · rw [e] at hx
    rcases List.mem_append.mp hx with hx | hx
    · exact hq x hx
    · exact S'.at_ x hx
def bindsOk (fd : FuncData) (z : Addr) (binds : List (Str × Value)) : Bool := binds.all fun x => match fd.scope.names.lookup x.1 with
  | some .local => true
  | some .cell => ((cellsFrom (z + 1) fd.scope.names []).lookup x.1).isSome
  | _ => false
theorem bindsOk_get {fd : FuncData} {z : Addr} {binds : List (Str × Value)} (h : bindsOk fd z binds = true) : ∀ x ∈ binds, fd.scope.names.lookup x.1 = some .local ∨ (fd.scope.names.lookup x.1 = some .cell ∧ ((cellsFrom (z + 1) fd.scope.names []).lookup x.1).isSome = true) := by
  intro x hx
  have := List.all_eq_true.mp h x hx
  revert this
  split
  · rename_i e; exact fun _ => .inl e
  · rename_i e; exact fun this => .inr ⟨e, this⟩
  · intro this; cases this
abbrev cvOk (env : Env) (cm : Str → Option Value) (cv : Cv) : Prop := cv.map (fun p => ((env.cells.lookup p.1).isSome, (cm p.1).map untok)) = cv.map (fun p => (true, p.2)) ∧ (cv.map (·.1)).Nodup
theorem cvOk_get {cm : Str → Option Value} (h : cvOk env cm cv) : ∀ p ∈ cv, (∃ c, env.cells.lookup p.1 = some c) ∧ (cm p.1).map untok = p.2 := by
  intro p hp
  have := List.map_inj_left.mp h.1 p hp
  obtain ⟨h1, h2⟩ := Prod.mk.inj this
  exact ⟨Option.isSome_iff_exists.mp h1, h2⟩
theorem Ok.inCall {m cm : Str → Option Value} {s' : Shared} {L : Addr} (h : Ok b G cs s) (hL : env.locals = L) (hLz : L = s.heap.objs.size) (x : InCallC s env.locals m env.cells cm s') (hv : SubM vars m) (hc : cvOk env cm cv) : Ok b G (fr env vars cv :: cs) s' := by
  obtain ⟨h1, tk, rfl⟩ := x.toInCall.same
  refine ⟨h.st.enterC x.toInCall.keep (fun p hp => ?_) ?_ (fun p hp => ?_), h.gens, h.os, h.drawn⟩
  · rcases List.mem_cons.mp hp with rfl | hp
    · rw [hL, hLz]; exact Nat.le_refl _
    · obtain ⟨q, hq, rfl⟩ := List.mem_map.mp hp
      obtain ⟨c, e⟩ := (cvOk_get hc q hq).1
      show _ ≤ (env.cells.lookup q.1).getD 0
      rw [e]
      have := x.above q.1 c (mem_lookup e)
      rw [hL, hLz] at this
      exact Nat.le_of_lt this
  · show ((env.locals, nsP vars) :: cellsC env cv |>.map (·.1)).Nodup
    rw [List.map_cons, List.nodup_cons]
    refine ⟨fun hm => ?_, ?_⟩
    · obtain ⟨p, hp, e⟩ := List.mem_map.mp hm
      obtain ⟨q, hq, rfl⟩ := List.mem_map.mp hp
      obtain ⟨c, e'⟩ := (cvOk_get hc q hq).1
      have := x.above q.1 c (mem_lookup e')
      dsimp only at e
      rw [e'] at e
      exact absurd e (Nat.ne_of_gt this)
    · unfold cellsC
      rw [List.map_map, List.nodup_iff_pairwise_ne, List.pairwise_map]
      have nd := hc.2
      rw [List.nodup_iff_pairwise_ne, List.pairwise_map] at nd
      refine List.Pairwise.imp_of_mem (fun {p q} hp hq hne e => hne ?_) nd
      obtain ⟨c1, e1⟩ := (cvOk_get hc p hp).1
      obtain ⟨c2, e2⟩ := (cvOk_get hc q hq).1
      dsimp only [Function.comp] at e
      rw [e1, e2] at e
      have e : c1 = c2 := e
      subst e
      exact name_of_addr x.apart (mem_lookup e1) (mem_lookup e2)
  · rcases List.mem_cons.mp hp with rfl | hp
    · exact nsP_of_ns x.toInCall.ns fun y v q => SubM_get hv y v q
    · obtain ⟨q, hq, rfl⟩ := List.mem_map.mp hp
      obtain ⟨⟨c, e⟩, hv'⟩ := cvOk_get hc q hq
      obtain ⟨o, ho, hd⟩ := x.cell q.1 c e
      refine ⟨o, ?_, _, hd, hv'⟩
      show h1.get? ((env.cells.lookup q.1).getD 0) = _
      rw [e]; exact ho
def Enters (b : Base) (A : Around) (fd : FuncData) (f : Addr) (body : List Stmt) (R : Result → Shared → Prop) (binds : List (Str × Value)) (s : Shared) : Prop :=
  ∃ z, s.heap.objs.size = z ∧ bindsOk fd z binds = true ∧ s.heap.NoLimit ∧ ∀ s₁, InCallC s (callEnvC fd z f).locals (bindL (callEnvC fd z f).kindOf binds fun _ => none) (callEnvC fd z f).cells (bindC (callEnvC fd z f).kindOf binds fun _ => none) s₁ →
    wpAny b.M (A.deeper (callEnvC fd z f)) (execs body (callEnvC fd z f)) (fun fl s'' => R (.ok (.ret (match fl with | .ret v => v | _ => .none))) s'')
      (fun e s'' => wpAny b.M (A.deeper (callEnvC fd z f)) (leaving (callEnvC fd z f) e) (fun _ s3 => R (.error e) s3) (fun e' s3 => R (.error e') s3) s'') s₁
theorem code_enters {f : Addr} {fd : FuncData} {body : List Stmt} {args : Args} {d u : Nat} {R : Result → Shared → Prop} (h : Ok b G cs s) (F : Fit b A (d + 1) (u + 3)) (D : IsDef b f fd body) (hg : fd.scope.isGenerator = false)
    (hb : wpAny b.M A.in1 (bindArgs fd args) (Enters b A fd f body R) (fun e s' => R (.error e) s') s) : codeAny b.M A (.call (.ref f) args) R s := by
  obtain ⟨o, ho, hd⟩ := D.at_
  refine codeAny_call_function F.room (h.old D.off ho) hd D.co hg D.body (D.codeRec h) (wpAny_mono hb (fun binds s₁ ⟨z, hz, hbo, hlim, k⟩ => ?_) fun _ _ e => e)
  rw [D.clo]
  subst hz
  refine wpAny_newFunctionEnv_cells D.kind (bindsOk_get hbo) fun env he s' x => ?_
  subst he
  exact ⟨hlim.keeps x.toInCall.keep, codeAny_func (k s' x)⟩
def retR (Q : Value → Shared → Prop) (E : Value → Shared → Prop) : Result → Shared → Prop := fun r s' => match r with | .ok (.ret v) => Q v s' | .ok _ => False | .error e => E e s'
theorem call_code {f : Value} {us : List Value} {kw : List (Str × Value)} {Q : Value → Shared → Prop} (h : codeAny b.M A (.call f ⟨us, kw⟩) (retR Q E) s) : wpAny b.M A (call f us kw) Q E s := wpAny_call h
theorem enters_of {f : Addr} {fd : FuncData} {body : List Stmt} {binds : List (Str × Value)} {d u : Nat} {R : Result → Shared → Prop} (h : Ok b G cs s) (g : b.Good) (F : Fit b A (d + 1) (u + 3))
    (hb : ∀ z, bindsOk fd z binds = true) (hv : ∀ z, SubM vars (bindL (callEnvC fd z f).kindOf binds fun _ => none)) (hc : ∀ z, cvOk (callEnvC fd z f) (bindC (callEnvC fd z f).kindOf binds fun _ => none) cv)
    (k : ∀ A' L s', Fit b A' d u → Ok b G (fr (callEnvC fd L f) vars cv :: cs) s' → wpAny b.M A' (execs body (callEnvC fd L f)) (fun fl s'' => R (.ok (.ret (match fl with | .ret v => v | _ => .none))) s'')
      (fun e s'' => wpAny b.M A' (leaving (callEnvC fd L f) e) (fun _ s3 => R (.error e) s3) (fun e' s3 => R (.error e') s3) s'') s') : Enters b A fd f body R binds s :=
  ⟨_, rfl, hb _, h.nolimit g, fun s₁ x => k _ _ _ (F.deeper _) (h.inCall rfl rfl x (hv _) (hc _))⟩
theorem code_fn {f : Addr} {fd : FuncData} {body : List Stmt} {us : List Value} {kw : List (Str × Value)} {d u : Nat} {R : Result → Shared → Prop} (binds vars : List (Str × Value)) (cv : Cv) (h : Ok b G cs s) (g : b.Good) (F : Fit b A (d + 1) (u + 3)) (D : IsDef b f fd body)
    (hb : peek b.K ⟨b.prog, b.w.params⟩ (bindArgs fd ⟨us, kw⟩) = some binds) (hg : fd.scope.isGenerator = false)
    (hk : ∀ z, bindsOk fd z binds = true) (hv : ∀ z, SubM vars (bindL (callEnvC fd z f).kindOf binds fun _ => none)) (hc : ∀ z, cvOk (callEnvC fd z f) (bindC (callEnvC fd z f).kindOf binds fun _ => none) cv)
    (k : ∀ A' L s', Fit b A' d u → Ok b G (fr (callEnvC fd L f) vars cv :: cs) s' → wpAny b.M A' (execs body (callEnvC fd L f)) (fun fl s'' => R (.ok (.ret (match fl with | .ret v => v | _ => .none))) s'')
      (fun e s'' => wpAny b.M A' (leaving (callEnvC fd L f) e) (fun _ s3 => R (.error e) s3) (fun e' s3 => R (.error e') s3) s'') s') : codeAny b.M A (.call (.ref f) ⟨us, kw⟩) R s :=
  code_enters (args := ⟨us, kw⟩) h F D hg (wpAny_peek (h.kin g) hb (enters_of h g F hk hv hc k))
theorem call_fn {f : Addr} {fd : FuncData} {body : List Stmt} {us : List Value} {kw : List (Str × Value)} {d u : Nat} {Q : Value → Shared → Prop} (binds vars : List (Str × Value)) (cv : Cv) (h : Ok b G cs s) (g : b.Good) (F : Fit b A (d + 1) (u + 3)) (D : IsDef b f fd body)
    (hb : peek b.K ⟨b.prog, b.w.params⟩ (bindArgs fd ⟨us, kw⟩) = some binds) (hg : fd.scope.isGenerator = false)
    (hk : ∀ z, bindsOk fd z binds = true) (hv : ∀ z, SubM vars (bindL (callEnvC fd z f).kindOf binds fun _ => none)) (hc : ∀ z, cvOk (callEnvC fd z f) (bindC (callEnvC fd z f).kindOf binds fun _ => none) cv)
    (k : ∀ A' L s', Fit b A' d u → Ok b G (fr (callEnvC fd L f) vars cv :: cs) s' → wpAny b.M A' (execs body (callEnvC fd L f)) (fun fl s'' => Q (match fl with | .ret v => v | _ => .none) s'')
      (fun e s'' => wpAny b.M A' (leaving (callEnvC fd L f) e) (fun _ s3 => E e s3) (fun e' s3 => E e' s3) s'') s') : wpAny b.M A (call (.ref f) us kw) Q E s :=
  call_code (code_fn (R := retR Q E) binds vars cv h g F D hb hg hk hv hc k)
end
end Mine
namespace Mine
def listP (ps : List Value) (o : Obj) : Prop := ∃ (vs : List Value) (n : Nat), o = { cls := .type "list", dict := none, data := .seq vs.toArray n, slots := #[] } ∧ vs.map untok = ps
def li (l : Addr) (ps : List Value) : Chunk := pt l (listP ps)
def tupP (ps : List Value) (o : Obj) : Prop := ∃ (vs : List Value) (n : Nat), o = { cls := .type "tuple", dict := none, data := .seq vs.toArray n, slots := #[] } ∧ vs.map untok = ps
def tu (l : Addr) (ps : List Value) : Chunk := pt l (tupP ps)
section
variable {b : Base} {G : Array GenState} {cs cs' r : List Chunk} {s : Shared} {A : Around} {E : Value → Shared → Prop} {l : Addr} {ps : List Value}
theorem Ok.list (h : Ok b G cs s) (f : Has cs (li l ps)) : ∃ (vs : List Value) (n : Nat), s.heap.get? l = some { cls := .type "list", dict := none, data := .seq vs.toArray n, slots := #[] } ∧ vs.map untok = ps := by
  obtain ⟨o, e, vs, n, rfl, q⟩ := h.has f
  exact ⟨vs, n, e, q⟩
theorem Ok.tup (h : Ok b G cs s) (f : Has cs (tu l ps)) : ∃ (vs : List Value) (n : Nat), s.heap.get? l = some { cls := .type "tuple", dict := none, data := .seq vs.toArray n, slots := #[] } ∧ vs.map untok = ps := by
  obtain ⟨o, e, vs, n, rfl, q⟩ := h.has f
  exact ⟨vs, n, e, q⟩
theorem untok_at {vs : List Value} {i : Nat} {p : Value} (q : vs.map untok = ps) (hp : ps[i]? = some p) : ∃ v, vs[i]? = some v ∧ untok v = p := by
  subst q
  rw [List.getElem?_map] at hp
  cases hv : vs[i]? with
  | none => rw [hv] at hp; cases hp
  | some v => rw [hv] at hp; exact ⟨v, rfl, Option.some.inj hp⟩
theorem seqIndex_at {k : Int} {n : Nat} (h0 : 0 ≤ k) (hk : k.toNat < n) : seqIndex? k n = some k.toNat := by
  have h1 : ¬ k < 0 := by omega
  have h2 : k < (n : Int) := by omega
  simp only [seqIndex?, h1, if_false, h0, h2, decide_true, Bool.and_self, if_true]
theorem l_item (p : Value) {k : Int} {t : Tok} {value slice : PySem.Expr} {Q : Value → Shared → Prop} (h : Ok b G cs s) (f : Has cs (li l ps)) (h0 : 0 ≤ k) (hk : k < 2 ^ 63) (hp : ps[k.toNat]? = some p)
    (k' : ∀ v, untok v = p → Q v s) (hs : subscripted slice false (.ref l) (.int k t) = operate [.ref l, .int k t] (getItem (.ref l) (.int k t)) := by with_unfolding_all rfl) : wpAny b.M A (subscriptTail value slice (.ref l) (.int k t)) Q E s := by
  obtain ⟨vs, n, e, q⟩ := h.list f
  obtain ⟨v, hv, hu⟩ := untok_at q hp
  exact tail_any (T := "list") ⟨_, e, rfl⟩ slot_list_getitem.lookup (wpAny_getItem_list ⟨_, e, rfl, n, rfl⟩ h0 hk (by simpa using hv) (k' v hu)) hs
theorem t_item (p : Value) {k : Int} {t : Tok} {value slice : PySem.Expr} {Q : Value → Shared → Prop} (h : Ok b G cs s) (f : Has cs (tu l ps)) (h0 : 0 ≤ k) (hk : k < 2 ^ 63) (hp : ps[k.toNat]? = some p)
    (k' : ∀ v, untok v = p → Q v s) (hs : subscripted slice false (.ref l) (.int k t) = operate [.ref l, .int k t] (getItem (.ref l) (.int k t)) := by with_unfolding_all rfl) : wpAny b.M A (subscriptTail value slice (.ref l) (.int k t)) Q E s := by
  obtain ⟨vs, n, e, q⟩ := h.tup f
  obtain ⟨v, hv, hu⟩ := untok_at q hp
  have hlt : k.toNat < vs.length := (List.getElem?_eq_some_iff.mp hv).1
  exact item_tupleT (j := k.toNat) (x := v) (l := vs) ⟨_, e, rfl, n, rfl⟩ (by omega) hk (seqIndex_at h0 hlt) hv (k' v hu) hs
theorem l_last (p : Value) {k : Int} {t : Tok} {value slice : PySem.Expr} {Q : Value → Shared → Prop} (h : Ok b G cs s) (f : Has cs (li l ps)) (hk : k = -1) (hp : ps.getLast? = some p)
    (k' : ∀ v, untok v = p → Q v s) (hs : subscripted slice false (.ref l) (.int k t) = operate [.ref l, .int k t] (getItem (.ref l) (.int k t)) := by with_unfolding_all rfl) : wpAny b.M A (subscriptTail value slice (.ref l) (.int k t)) Q E s := by
  subst hk
  obtain ⟨vs, n, e, q⟩ := h.list f
  have hp' : ps[ps.length - 1]? = some p := by rw [← List.getLast?_eq_getElem?]; exact hp
  obtain ⟨v, hv, hu⟩ := untok_at q hp'
  have hlen : vs.length = ps.length := by rw [← q, List.length_map]
  have hlt : ps.length - 1 < vs.length := (List.getElem?_eq_some_iff.mp hv).1
  refine tail_any (T := "list") ⟨_, e, rfl⟩ slot_list_getitem.lookup (wpAny_getItem_list_neg (x := v) ⟨_, e, rfl, n, rfl⟩ (by decide) (by rw [List.size_toArray]; omega) (by decide) ?_ (k' v hu)) hs
  rw [List.size_toArray, List.getElem?_toArray, show (-1 + (vs.length : Int)).toNat = ps.length - 1 by omega]
  exact hv
theorem sz_line {vs : List Value} {n : Nat} (h : vs.map untok = ps) (hz : ps.length ≤ n) : vs.toArray.size ≤ n := by
  rw [List.size_toArray]
  have := congrArg List.length h
  rw [List.length_map] at this
  omega
theorem l_append {v p : Value} {Q : Value → Shared → Prop} (h : Ok b G cs s) (hv : untok v = p) (f : Rep cs (li l ps) (li l (ps ++ [p])) cs') (hz : ps.length ≤ sizeLine) (k : ∀ s', Ok b G cs' s' → Q .none s') :
    wpAny b.M A (call (.builtin "list.append") [.ref l, v]) Q E s := by
  subst hv
  obtain ⟨r, p, p'⟩ := f.split
  obtain ⟨o, e, vs, n, rfl, q⟩ := (h.perm p).st.get
  refine append_at (hsz := sz_line q hz) e fun h' hs e' => k _ (h.rep f hs ⟨_, e', vs ++ [v], n + 1, ?_, ?_⟩)
  · simp
  · rw [List.map_append, q]; rfl
theorem l_truthy {Q : Bool → Shared → Prop} (h : Ok b G cs s) (f : Has cs (li l ps)) (hz : ps.length < 2 ^ 62) (k : ∀ s', Ok b G cs s' → Q (!ps.isEmpty) s') : wpAny b.M A (truthy (.ref l)) Q E s := by
  obtain ⟨vs, n, e, q⟩ := h.list f
  have hlen : vs.length = ps.length := by rw [← q, List.length_map]
  refine wpAny_truthy_list ⟨_, e, rfl, n, rfl⟩ (by rw [List.size_toArray]; omega) ?_
  have : (!vs.toArray.isEmpty) = (!ps.isEmpty) := by subst q; cases vs <;> rfl
  rw [this]
  exact k _ (h.toks _)
theorem l_len {Q : Value → Shared → Prop} (h : Ok b G cs s) (f : Has cs (li l ps)) (hz : ps.length < 2 ^ 62) (k : ∀ t s', Ok b G cs s' → Q (.int ps.length t) s') : wpAny b.M A (call (.builtin "len") [.ref l]) Q E s := by
  obtain ⟨vs, n, e, q⟩ := h.list f
  have hlen : vs.length = ps.length := by rw [← q, List.length_map]
  refine Calls.call_len_list (items := vs.toArray) ⟨_, e, rfl, n, rfl⟩ (by rw [List.size_toArray]; omega) ?_
  rw [List.size_toArray, hlen]
  exact k _ _ (h.toks _)
theorem l_new' {vs : List Value} {t : Nat} (h : Ok b G cs s) (hv : vs.map untok = ps) : Ok b G (li s.heap.objs.size ps :: cs) { s with heap := s.heap.push { cls := .type "list", data := .seq vs.toArray }, toks := t } :=
  h.alloc (t := t) rfl ⟨vs, 0, rfl, hv⟩
theorem t_new' {vs : List Value} {t : Nat} (h : Ok b G cs s) (hv : vs.map untok = ps) : Ok b G (tu s.heap.objs.size ps :: cs) { s with heap := s.heap.push { cls := .type "tuple", data := .seq vs.toArray }, toks := t } :=
  h.alloc (t := t) rfl ⟨vs, 0, rfl, hv⟩
theorem l_add {l' : Addr} {ps' : List Value} {Q : Value → Shared → Prop} (h : Ok b G cs s) (f : Has cs (li l ps)) (f' : Has cs (li l' ps')) (hz : ps.length + ps'.length ≤ sizeLine)
    (k : ∀ a s', Ok b G (li a (ps ++ ps') :: cs) s' → Q (.ref a) s') : wpAny b.M A (binaryOp .Add (.ref l) (.ref l')) Q E s := by
  obtain ⟨vs, n, e, q⟩ := h.list f
  obtain ⟨ws, m, e', q'⟩ := h.list f'
  have hv : vs.length = ps.length := by rw [← q, List.length_map]
  have hw : ws.length = ps'.length := by rw [← q', List.length_map]
  refine PySem.P.add_list e e' ?_ (by rw [List.size_toArray, List.size_toArray]; omega)
  have z := l_new' (vs := vs ++ ws) (t := s.toks) h rfl
  rw [List.map_append, q, q'] at z
  have e2 : (vs ++ ws).toArray = vs.toArray ++ ws.toArray := by simp
  rw [e2] at z
  exact k _ _ z
theorem l_put {k : Int} {t : Tok} {v p : Value} {Q : Unit → Shared → Prop} (h : Ok b G cs s) (hv : untok v = p) (f : Rep cs (li l ps) (li l (ps.set k.toNat p)) cs') (h0 : 0 ≤ k) (hk : k < ps.length) (hz : k < 2 ^ 63)
    (k' : ∀ s', Ok b G cs' s' → Q () s') : wpAny b.M A (setItem (.ref l) (.int k t) v) Q E s := by
  subst hv
  obtain ⟨r, p, p'⟩ := f.split
  obtain ⟨o, e, vs, n, rfl, q⟩ := (h.perm p).st.get
  have hlen : vs.length = ps.length := by rw [← q, List.length_map]
  have L : s.heap.IsList l vs.toArray := ⟨_, e, rfl, n, rfl⟩
  unfold setItem
  try with_reducible refine wpAny_holding ?_
  refine wpAny_bind (wpAny_sequenceKey L.typeIs (by decide) ?_)
  refine wpAny_bind (wpAny_callSpecial?_slot (name := Str.ofString "__setitem__") L.typeIs slot_list_setitem
    (wpAny_call_entry slot_list_setitem L.typeIs entry_list_setitem ?_ (args_list_setitem _ _ _)))
  show wpAny _ _ (Builtin.List.listSubscript? (.int k t) >>= _) _ _ s
  refine wpAny_bind (wpAny_listSubscript_int (fitsIndex_of h0 hz) ?_)
  clear hz
  obtain ⟨j, rfl⟩ := Int.eq_ofNat_of_zero_le h0
  have hj : j < vs.toArray.size := by rw [List.size_toArray]; omega
  show wpAny _ _ ((seqItemAt l j >>= fun r => pure (r.map (j, ·))) >>= _) _ _ s
  refine wpAny_bind (wpAny_bind (wpAny_seqItemAt e rfl (wpAny_pure ?_)))
  rw [Array.getElem?_eq_getElem hj]
  show wpAny _ _ (setSeqItemAt l j v >>= _) _ _ s
  refine wpAny_bind (wpAny_setSeqItemAt e rfl (wpAny_pure ⟨.none, rfl, wpAny_pure (k' _ (h.rep (t := s.toks) f (Heap.SameBut.update ..) ⟨_, Heap.get?_update_self _ e rfl, vs.set j v, n, ?_, ?_⟩))⟩))
  · simp [Obj.mapSeq]
  · rw [List.map_set, q]; rfl
theorem l_in {i : Int} {t : Tok} {xs : List Int} {Q : Value → Shared → Prop} (h : Ok b G cs s) (f : Has cs (li l (xs.map fun i => .int i 0))) (k : Q (.bool (xs.contains i)) s) : wpAny b.M A (compareOp .In (.int i t) (.ref l)) Q E s := by
  obtain ⟨vs, n, e, q⟩ := h.list f
  refine PySem.SeqAt.in_listAt (fun y => untok y == .int i 0) ⟨_, e, rfl, n, rfl⟩ (fun y hy => ?_) ?_
  · have hy' : untok y ∈ xs.map fun i => Value.int i 0 := by rw [← q]; exact List.mem_map_of_mem (by simpa using hy)
    obtain ⟨j, -, hj⟩ := List.mem_map.mp hy'
    obtain ⟨u, rfl⟩ := untok_int hj.symm
    have : (untok (.int j u) == Value.int i 0) = (j == i) := by
      show (Value.int j 0 == Value.int i 0) = _
      by_cases hji : j = i
      · subst hji; simp
      · rw [beq_eq_false_iff_ne.mpr (show Value.int j 0 ≠ Value.int i 0 from fun e => hji (by injection e))]
        exact (beq_eq_false_iff_ne.mpr hji).symm
    rw [this]
    exact SeqAt.EqAt.int_int j u i t
  · have : vs.toArray.any (fun y => untok y == .int i 0) = xs.contains i := by
      rw [List.any_toArray]
      have h2 : vs.any (fun y => untok y == .int i 0) = (vs.map untok).any (fun y => y == .int i 0) := by rw [List.any_map]; rfl
      rw [h2, q, List.any_map, List.contains_eq_any_beq]
      congr 1; funext j
      by_cases hji : j = i
      · subst hji; simp
      · simp only [Function.comp]
        rw [beq_eq_false_iff_ne.mpr (show Value.int j 0 ≠ Value.int i 0 from fun e => hji (by injection e))]
        exact (beq_eq_false_iff_ne.mpr (fun e => hji e.symm)).symm
    rw [this]; exact k
theorem l_notin {i : Int} {t : Tok} {xs : List Int} {Q : Value → Shared → Prop} (h : Ok b G cs s) (f : Has cs (li l (xs.map fun i => .int i 0))) (k : Q (.bool (!xs.contains i)) s) : wpAny b.M A (compareOp .NotIn (.int i t) (.ref l)) Q E s := by
  obtain ⟨vs, n, e, q⟩ := h.list f
  refine PySem.SeqAt.notIn_listAt (fun y => untok y == .int i 0) ⟨_, e, rfl, n, rfl⟩ (fun y hy => ?_) ?_
  · have hy' : untok y ∈ xs.map fun i => Value.int i 0 := by rw [← q]; exact List.mem_map_of_mem (by simpa using hy)
    obtain ⟨j, -, hj⟩ := List.mem_map.mp hy'
    obtain ⟨u, rfl⟩ := untok_int hj.symm
    have : (untok (.int j u) == Value.int i 0) = (j == i) := by
      show (Value.int j 0 == Value.int i 0) = _
      by_cases hji : j = i
      · subst hji; simp
      · rw [beq_eq_false_iff_ne.mpr (show Value.int j 0 ≠ Value.int i 0 from fun e => hji (by injection e))]
        exact (beq_eq_false_iff_ne.mpr hji).symm
    rw [this]
    exact SeqAt.EqAt.int_int j u i t
  · have : vs.toArray.any (fun y => untok y == .int i 0) = xs.contains i := by
      rw [List.any_toArray]
      have h2 : vs.any (fun y => untok y == .int i 0) = (vs.map untok).any (fun y => y == .int i 0) := by rw [List.any_map]; rfl
      rw [h2, q, List.any_map, List.contains_eq_any_beq]
      congr 1; funext j
      by_cases hji : j = i
      · subst hji; simp
      · simp only [Function.comp]
        rw [beq_eq_false_iff_ne.mpr (show Value.int j 0 ≠ Value.int i 0 from fun e => hji (by injection e))]
        exact (beq_eq_false_iff_ne.mpr (fun e => hji e.symm)).symm
    rw [this]; exact k
end
end Mine
namespace Mine
theorem entry_unchain : entryFor table "proto.unchain" = some Builtin.«proto.unchain» := entryFor_of_tree (by kernel_rfl)
theorem plain_unchain : plainId "proto.unchain" = true := by decide +kernel
section
variable {prog : Program} {w : World} {A : Around} {E : Value → Shared → Prop} {s : Shared}
theorem unchain_ok {e c k : Addr} {Q : Value → Shared → Prop} (C : ChainAt s.heap c k) (he : e ≠ k) (q : Q .none s) : wpAny (model prog w) A (runValue (.builtin "proto.unchain" ⟨[.ref e, .ref c, .ref c, .bool false], []⟩)) Q E s := by
  obtain ⟨⟨o, vs, h1, h2, h3⟩, ⟨o', vs', h4, h5, h6⟩, hne⟩ := C
  refine wpAny_runValue (codeAny_builtin entry_unchain ?_)
  rw [Around.under_plainId plain_unchain _]
  show wpAny _ _ (field (.ref c) 2 >>= _) _ _ s
  refine wpAny_bind (wpAny_field h1 h2 h3 ?_)
  have q1 : (Value.ref k == Value.none) = false := rfl
  have q2 : (Value.ref k == Value.ref e) = false := by simpa using Ne.symm he
  have q3 : (Value.ref k == Value.ref c) = false := by simpa using hne
  simp only [q1, q2, q3, Bool.false_eq_true, if_false]
  refine wpAny_bind (wpAny_pure (wpAny_pure ⟨plainId_quiet plain_unchain _, codeAny_builtin entry_unchain ?_⟩))
  rw [Around.under_plainId plain_unchain _]
  show wpAny _ _ (field (.ref k) 2 >>= _) _ _ s
  refine wpAny_bind (wpAny_field h4 h5 h6 ?_)
  have q4 : (Value.none == Value.none) = true := rfl
  simp only [q4, if_true]
  exact wpAny_pure q
theorem stop_new (hh : HA A s.heap) (k : ∀ h' e, (∀ b o, s.heap.get? b = some o → h'.get? b = some o) → (∃ o, h'.get? e = some o ∧ o.cls = .type "StopIteration") → E (.ref e) { s with heap := h' }) :
    wpAny (model prog w) A (newExc (.type "StopIteration") []) (fun e s₁ => ∀ (α : Type) (Q : α → Shared → Prop), wpAny (model prog w) A (raiseNew e : Sem α) Q E s₁) E s := by
  simp only [newExc, newTuple]
  refine wpAny_bind (wpAny_newObj_type ?_ (by size_fits))
  refine wpAny_bind (m := firstArgMember _ _) (wpAny_of_eq (a := Value.none) (by first | rfl | (simp only [firstArgMember]; rfl)) ?_)
  refine wpAny_newObj_type ?_ (by size_fits)
  have kp : ∀ b o, s.heap.get? b = some o → ((s.heap.push { cls := .type "tuple", data := .seq ([] : List Value).toArray }).push { cls := .type "StopIteration", data := .fields (#[.ref s.heap.objs.size, .none, .none, .none, .bool false, .none] ++ ownMembersOf (.type "StopIteration") []) }).get? b = some o := fun b o hb => Heap.get?_push_of_some _ (Heap.get?_push_of_some _ hb)
  intro α Q
  rcases hh with hn | ⟨c, kk, hc, C⟩
  · simp only [raiseNew]
    refine wpAny_bind (wpAny_handled ?_)
    rw [hn]
    refine wpAny_bind (wpAny_pure (wpAny_throw ?_))
    exact k _ _ kp ⟨_, Heap.get?_push_size _ rfl, rfl⟩
  · have hlt : ∀ x o, s.heap.get? x = some o → x ≠ (s.heap.push { cls := .type "tuple", data := .seq ([] : List Value).toArray }).objs.size := fun x o hx => by
      rw [Heap.size_push]
      exact Nat.ne_of_lt (Nat.lt_succ_of_lt (Heap.lt_size hx))
    obtain ⟨o, vs, h1, h2, h3⟩ := C.fst
    obtain ⟨o', vs', h4, h5, h6⟩ := C.snd
    have n1 := hlt _ _ h1
    have n2 := hlt _ _ h4
    simp only [raiseNew]
    refine wpAny_bind (wpAny_handled ?_)
    rw [hc]
    have q1 : (Value.ref c != Value.ref (s.heap.push { cls := .type "tuple", data := .seq ([] : List Value).toArray }).objs.size) = true := by simpa using n1
    show wpAny _ _ (if (Value.ref c != Value.ref (s.heap.push { cls := .type "tuple", data := .seq ([] : List Value).toArray }).objs.size) = true then _ else _) _ _ _
    rw [if_pos q1]
    refine wpAny_bind (wpAny_holding (unchain_ok (c := c) (k := kk) ⟨⟨o, vs, kp _ _ h1, h2, h3⟩, ⟨o', vs', kp _ _ h4, h5, h6⟩, C.ne⟩ n2.symm ?_))
    refine wpAny_bind (m := setField (.ref _) 2 _) (wpAny_setField (o := { cls := .type "StopIteration", data := .fields (#[.ref s.heap.objs.size, .none, .none, .none, .bool false, .none] ++ ownMembersOf (.type "StopIteration") []) }) (Heap.get?_push_size _ rfl) rfl (by rw [Array.size_append]; exact Nat.lt_of_lt_of_le (show 2 < 6 by decide) (Nat.le_add_right _ _)) ?_)
    refine wpAny_throw (k _ _ (fun b o hb => ?_) ⟨_, Heap.get?_update_self _ (Heap.get?_push_size _ rfl) rfl, rfl⟩)
    rw [Heap.get?_update_ne _ _ _ _ (hlt _ _ hb)]
    exact kp b o hb
theorem stop_raise {α : Type} {Q : α → Shared → Prop} (hh : HA A s.heap) (k : ∀ h' e, (∀ b o, s.heap.get? b = some o → h'.get? b = some o) → (∃ o, h'.get? e = some o ∧ o.cls = .type "StopIteration") → E (.ref e) { s with heap := h' }) :
    wpAny (model prog w) A (newExc (.type "StopIteration") [] >>= fun e => (raiseNew e : Sem α)) Q E s :=
  wpAny_bind (wpAny_mono (stop_new hh k) (fun e s₁ h => h _ _) fun _ _ e => e)
def HN (A : Around) (h : Heap) (it : Addr) : Prop := A.handled = none ∨ ∃ e k, A.handled = some (.ref e) ∧ ChainAt h e k ∧ e ≠ it ∧ k ≠ it
theorem HN.step {h h' : Heap} {it : Addr} (H : HN A h it) (hk : ∀ x o, x ≠ it → h.get? x = some o → h'.get? x = some o) : HA A h' := by
  rcases H with H | ⟨e, k, H, C, n1, n2⟩
  · exact .inl H
  · obtain ⟨o, vs, h1, h2⟩ := C.fst
    obtain ⟨o', vs', h3, h4⟩ := C.snd
    exact .inr ⟨e, k, H, ⟨o, vs, hk _ _ n1 h1, h2⟩, ⟨o', vs', hk _ _ n2 h3, h4⟩, C.ne⟩
theorem list_end {it l : Addr} {i : Nat} {items} {Q : Option Value → Shared → Prop} (hh : HN A s.heap it) (hit : s.heap.IsListIter it l i) (hl : s.heap.IsList l items) (hx : items[i]? = none)
    (hQ : ∀ h', Heap.ExtBut it s.heap h' → Q none { s with heap := h' }) : wpAny (model prog w) A (pyNext (.ref it)) Q E s := by
  obtain ⟨o, ho, hc, hd⟩ := id hit
  obtain ⟨ol, hol, _, nl, hdl⟩ := hl
  unfold pyNext
  refine wpAny_bind (wpAny_attempt (wpAny_callSpecial?_slot (name := Str.ofString "__next__") hit.typeIs slot_listiter_next
    (wpAny_call_entry slot_listiter_next hit.typeIs entry_listiter_next ?_ (args_listiter_next _))))
  show wpAny _ _ (field (.ref it) 0 >>= _) _ _ s
  refine wpAny_bind (wpAny_field ho hd (x := .ref l) rfl ?_)
  show wpAny _ _ (if (Value.ref l == Value.none) = true then _ else _) _ _ s
  rw [if_neg (show ¬ ((Value.ref l == Value.none) = true) from Bool.false_ne_true)]
  show wpAny _ _ (field (.ref it) 1 >>= _) _ _ s
  refine wpAny_bind (wpAny_field ho hd (x := .int i 0) rfl ?_)
  show wpAny _ _ (seqItems? (.ref l) >>= _) _ _ s
  refine wpAny_bind (wpAny_seqItems hol hdl ?_)
  simp only [Int.toNat_natCast, hx]
  refine wpAny_bind (wpAny_rule (wpAny_bind (wpAny_setField ho hd (by simp) ?_)))
  refine stop_raise (A := A.in1) (s := { s with heap := s.heap.update it (Obj.mapFields (·.setIfInBounds 0 .none)) }) (hh.step fun x o hx h => (Heap.SameBut.update ..).extBut x o hx h) fun h' e hk he => ?_
  refine wpAny_bind (wpAny_isInstance (T := "StopIteration") (b := true) he isSubtype_stop ?_)
  exact wpAny_pure (hQ _ fun b o hb h => hk b o ((Heap.SameBut.update ..).extBut b o hb h))
theorem tup_end {it t : Addr} {i : Nat} {items : Array Value} {Q : Option Value → Shared → Prop} (hh : HN A s.heap it) (hit : s.heap.IsTupleIter it t i) (ht : s.heap.IsTuple t items) (hx : items[i]? = none)
    (hQ : ∀ h', Heap.ExtBut it s.heap h' → Q none { s with heap := h' }) : wpAny (model prog w) A (pyNext (.ref it)) Q E s := by
  obtain ⟨o, ho, hc, hd⟩ := id hit
  obtain ⟨ol, hol, _, nl, hdl⟩ := ht
  unfold pyNext
  refine wpAny_bind (wpAny_attempt (wpAny_callSpecial?_slot (name := Str.ofString "__next__") hit.typeIs PySem.F.slot_tuple_iterator_next
    (wpAny_call_entry PySem.F.slot_tuple_iterator_next hit.typeIs PySem.F.entry_tuple_iterator_next ?_ (PySem.F.args_tuple_iterator_next_1 _))))
  show wpAny _ _ (field (.ref it) 0 >>= _) _ _ s
  refine wpAny_bind (wpAny_field ho hd (x := .ref t) rfl ?_)
  show wpAny _ _ (if (Value.ref t == Value.none) = true then _ else _) _ _ s
  rw [if_neg (show ¬ ((Value.ref t == Value.none) = true) from Bool.false_ne_true)]
  show wpAny _ _ (field (.ref it) 1 >>= _) _ _ s
  refine wpAny_bind (wpAny_field ho hd (x := .int i 0) rfl ?_)
  show wpAny _ _ (seqItems? (.ref t) >>= _) _ _ s
  refine wpAny_bind (wpAny_seqItems hol hdl ?_)
  simp only [Int.toNat_natCast, hx]
  refine wpAny_bind (wpAny_rule (wpAny_bind (wpAny_setField ho hd (by simp) ?_)))
  refine stop_raise (A := A.in1) (s := { s with heap := s.heap.update it (Obj.mapFields (·.setIfInBounds 0 .none)) }) (hh.step fun x o hx h => (Heap.SameBut.update ..).extBut x o hx h) fun h' e hk he => ?_
  refine wpAny_bind (wpAny_isInstance (T := "StopIteration") (b := true) he isSubtype_stop ?_)
  exact wpAny_pure (hQ _ fun b o hb h => hk b o ((Heap.SameBut.update ..).extBut b o hb h))
theorem range_end {it : Addr} {x left step : Int} {Q : Option Value → Shared → Prop} (hh : HA A s.heap) (hit : IsRangeIter s.heap it x left step) (hleft : left ≤ 0)
    (hQ : ∀ h', Heap.ExtBut it s.heap h' → Q none { s with heap := h' }) : wpAny (model prog w) A (pyNext (.ref it)) Q E s := by
  have hT : s.TypeIs (.ref it) "range_iterator" := ⟨_, hit, rfl⟩
  unfold pyNext
  refine wpAny_bind (wpAny_attempt (wpAny_callSpecial?_slot (name := Str.ofString "__next__") hT PySem.F.slot_range_iterator_next
    (wpAny_call_entry PySem.F.slot_range_iterator_next hT PySem.F.entry_range_iterator_next ?_ (PySem.F.args_range_iterator_next_1 _))))
  show wpAny _ _ (field (.ref it) 0 >>= _) _ _ s
  refine wpAny_bind (wpAny_field hit rfl (x := rawInt x) rfl ?_)
  show wpAny _ _ (field (.ref it) 1 >>= _) _ _ s
  refine wpAny_bind (wpAny_field hit rfl (x := rawInt left) rfl ?_)
  show wpAny _ _ (field (.ref it) 2 >>= _) _ _ s
  refine wpAny_bind (wpAny_field hit rfl (x := rawInt step) rfl ?_)
  show wpAny _ _ (if left ≤ 0 then _ else _) _ _ s
  rw [if_pos hleft]
  refine wpAny_bind (wpAny_rule ?_)
  refine wpAny_bind ?_
  refine stop_raise (A := A.in1) hh fun h' e hk he => ?_
  refine wpAny_bind (wpAny_isInstance (T := "StopIteration") (b := true) he isSubtype_stop ?_)
  exact wpAny_pure (hQ _ fun b o hb h => hk b o h)
theorem HA.fresh {h h' : Heap} {n : Nat} (H : HA A h) (hn : h.objs.size ≤ n) (hk : ∀ x o, x ≠ n → h.get? x = some o → h'.get? x = some o) : HN A h' n := by
  rcases H with H | ⟨e, k, H, C⟩
  · exact .inl H
  · obtain ⟨o, vs, h1, h2⟩ := C.fst
    obtain ⟨o', vs', h3, h4⟩ := C.snd
    have n1 : e ≠ n := Nat.ne_of_lt (Nat.lt_of_lt_of_le (Heap.lt_size h1) hn)
    have n2 : k ≠ n := Nat.ne_of_lt (Nat.lt_of_lt_of_le (Heap.lt_size h3) hn)
    exact .inr ⟨e, k, H, ⟨⟨o, vs, hk _ _ n1 h1, h2⟩, ⟨o', vs', hk _ _ n2 h3, h4⟩, C.ne⟩, n1, n2⟩
theorem tup_unpack {t : Addr} {items : Array Value} {Q : List Value → Shared → Prop} (hh : HA A s.heap) (ht : s.heap.IsTuple t items)
    (hQ : ∀ h', Heap.ExtBut s.heap.objs.size s.heap h' → Q items.toList { s with heap := h' }) : wpAny (model prog w) A (unpackItems (.ref t) items.size none) Q E s := by
  have hlt : t ≠ s.heap.objs.size := by obtain ⟨o, ho, _⟩ := ht; exact Nat.ne_of_lt (Heap.lt_size ho)
  unfold unpackItems
  refine wpAny_bind ?_
  unfold notIterableAtAll
  refine wpAny_bind (wpAny_specialOf ht.typeIs PySem.F.slot_tuple_iter.lookup ?_)
  refine wpAny_pure ?_
  simp only [Bool.false_eq_true, if_false]
  refine wpAny_bind (wpAny_holding (wpAny_pyIter_tuple ht ?_))
  refine wpAny_bind (wpAny_holding (wpAny_draw_tuple hlt items.size 0 _ _ ⟨_, Heap.get?_push_size _ rfl, rfl, rfl⟩ (ht.push _) (by omega) fun h₁ hit₁ hs₁ => ?_))
  have hall : List.take items.size (List.drop 0 items.toList) = items.toList := by
    rw [List.drop_zero]; exact List.take_of_length_le (by simp)
  rw [hall]
  rw [if_neg (by simp)]
  have ht₁ : h₁.IsTuple t items := (ht.push _).extBut hs₁.extBut hlt
  refine wpAny_bind (wpAny_holding (tup_end (hh.fresh (Nat.le_refl _) fun x o hx h => hs₁.extBut x o hx (Heap.get?_push_of_some _ h)) hit₁ ht₁ (by simp) fun h₂ he₂ => ?_))
  simp only [Option.isSome_none, Bool.false_eq_true, if_false]
  refine wpAny_pure (hQ h₂ fun b o hb e => he₂ b o hb (hs₁.extBut b o hb (Heap.get?_push_of_some _ e)))
theorem tup_assign {env : Env} {elts : List PySem.Expr} {x1 : Nat} {pos : Pos} {t : Addr} {items : Array Value} {Q : Unit → Shared → Prop} (hh : HA A s.heap) (ht : s.heap.IsTuple t items)
    (hn : (assignEach elts env).length = items.size) (hstar : (assignEach elts env).findIdx? (·.1) = none)
    (h : ∀ h', Heap.ExtBut s.heap.objs.size s.heap h' → wpAny (model prog w) A (assignInOrder ((assignEach elts env).map (·.2)) items.toList) Q E { s with heap := h' }) :
    wpAny (model prog w) A (assign (.Tuple elts x1 pos) env (.ref t)) Q E s := by
  rw [arm_assign_Tuple]
  refine wpAny_bind (wpAny_standAt ?_)
  unfold unpack
  rw [hn, hstar]
  exact wpAny_bind (wpAny_holding (tup_unpack hh ht h))
end
section
variable {K : Type} [DecidableEq K] {prog : Program} {w : World} {A : Around} {E : Value → Shared → Prop} {s : Shared} {knd : KeyKind prog w K}
theorem dict_end {it d : Addr} {i ep : Nat} {kvs : List (K × Value)} {Q : Option Value → Shared → Prop} (hh : HN A s.heap it) (hit : s.heap.IsKeyIter it d i kvs.length ep) (hm : s.heap.DictAt knd d kvs ep) (hx : kvs[i]? = none)
    (hQ : ∀ h', Heap.ExtBut it s.heap h' → Q none { s with heap := h' }) : wpAny (model prog w) A (pyNext (.ref it)) Q E s := by
  obtain ⟨o, ho, hc, hd⟩ := id hit
  obtain ⟨od, es, hod, hcd, hdd, hk, hp, hn⟩ := id hm
  unfold pyNext
  refine wpAny_bind (wpAny_attempt (wpAny_callSpecial?_slot (name := Str.ofString "__next__") hit.typeIs PySem.F.slot_dict_keyiterator_next
    (wpAny_call_entry PySem.F.slot_dict_keyiterator_next hit.typeIs PySem.F.entry_dict_keyiterator_next ?_ (PySem.F.args_dict_keyiterator_next_1 _))))
  refine wpAny_bind (wpAny_pure ?_)
  refine wpAny_bind ?_
  refine wpAny_bind ?_
  first | refine wpAny_bind (wpAny_typeNameOfWhole_keyiter hit.typeIs (wpAny_pure ?_)) | refine wpAny_bind (wpAny_typeNameOf_keyiter hit.typeIs (wpAny_pure ?_))
  refine wpAny_bind (wpAny_fieldsOf ho hd ?_)
  have hown : Builtin.Dict_items.ownsTuple "dict_keyiterator" = false := by decide
  simp only [hown, Bool.false_eq_true, if_false]
  show wpAny _ _ (if (Value.ref d == Value.none) = true then _ else _) _ _ s
  rw [if_neg (show ¬ ((Value.ref d == Value.none) = true) from Bool.false_ne_true)]
  refine wpAny_bind (wpAny_pure ?_)
  refine wpAny_bind (wpAny_dictEntries hod hdd ?_)
  have hsz : es.size = kvs.length := by rw [← hp.length]; simp
  rw [if_neg (by rw [hsz]; simp)]
  refine wpAny_bind (wpAny_pure ?_)
  refine wpAny_bind (wpAny_dictEpoch hod hdd ?_)
  rw [if_neg (by simp)]
  refine wpAny_pure ?_
  have hge : es.size ≤ i := by rw [hsz]; simpa using hx
  simp only [show ¬ ((i : Int) < 0) from by omega, if_false, Int.toNat_natCast, Array.getElem?_eq_none hge]
  refine wpAny_bind ?_
  first | refine wpAny_bind (wpAny_typeNameOfWhole_keyiter hit.typeIs (wpAny_pure ?_)) | refine wpAny_bind (wpAny_typeNameOf_keyiter hit.typeIs (wpAny_pure ?_))
  show wpAny _ _ (setField (.ref it) 0 .none >>= _) _ _ s
  refine wpAny_bind (wpAny_setField ho hd (by simp) ?_)
  refine stop_raise (A := A.in1) (s := { s with heap := s.heap.update it (Obj.mapFields (·.setIfInBounds 0 .none)) }) (hh.step fun x o hx h => (Heap.SameBut.update ..).extBut x o hx h) fun h' e hk he => ?_
  refine wpAny_bind (wpAny_isInstance (T := "StopIteration") (b := true) he isSubtype_stop ?_)
  exact wpAny_pure (hQ _ fun b o hb h => hk b o ((Heap.SameBut.update ..).extBut b o hb h))
end
section
variable {b : Base} {G : Array GenState} {cs r : List Chunk} {s : Shared} {A : Around} {it : Addr} {φ : Obj → Prop}
theorem HH.at (H : HH b A) (h : Ok b G cs s) : HA A s.heap := by
  rcases H with H | ⟨e, k, H, n1, n2, C⟩
  · exact .inl H
  · obtain ⟨o, vs, h1, h2⟩ := C.fst
    obtain ⟨o', vs', h3, h4⟩ := C.snd
    exact .inr ⟨e, k, H, ⟨o, vs, h.old n1 h1, h2⟩, ⟨o', vs', h.old n2 h3, h4⟩, C.ne⟩
theorem HH.ne (H : HH b A) (h : Ok b G cs s) (f : Foc cs (pt it φ) r) : HN A s.heap it := by
  have hoff := (h.foc f).st.off (it, φ) (by simp [pt])
  rcases H with H | ⟨e, k, H, n1, n2, C⟩
  · exact .inl H
  · obtain ⟨o, vs, h1, h2⟩ := C.fst
    obtain ⟨o', vs', h3, h4⟩ := C.snd
    have ne : ∀ {x : Addr} {o : Obj}, x ∉ b.X → b.h.get? x = some o → x ≠ it := by
      rintro x o hx ho rfl
      rcases hoff with q | q
      · exact hx q
      · rw [q] at ho; cases ho
    exact .inr ⟨e, k, H, ⟨⟨o, vs, h.old n1 h1, h2⟩, ⟨o', vs', h.old n2 h3, h4⟩, C.ne⟩, ne n1 h1, ne n2 h3⟩
end
end Mine
namespace Mine
structure IsIter (b : Base) (it : Value) (c : List Value → Chunk) (W : List Chunk → Prop) : Prop where
  next : ∀ {G : Array GenState} {cs cs' : List Chunk} {s : Shared} {A : Around} {E : Value → Shared → Prop} {v : Value} {vs : List Value} {Q : Option Value → Shared → Prop}, Ok b G cs s → Rep cs (c (v :: vs)) (c vs) cs' → W cs →
    (∀ u s', untok u = v → Ok b G cs' s' → Q (some u) s') → wpAny b.M A (pyNext it) Q E s
  done : ∀ {G : Array GenState} {cs cs' : List Chunk} {s : Shared} {A : Around} {E : Value → Shared → Prop} {Q : Option Value → Shared → Prop}, HH b A → Ok b G cs s → Foc cs (c []) cs' → W cs →
    (∀ s', Ok b G cs' s' → Q none s') → wpAny b.M A (pyNext it) Q E s
theorem Rep.has {cs cs' : List Chunk} {c c' : Chunk} (h : Rep cs c c' cs') : Has cs c := by
  induction h with
  | here => exact .here _ _
  | there d _ ih => exact .there d ih
theorem Rep.back {cs cs' : List Chunk} {c c' : Chunk} (h : Rep cs c c' cs') : Has cs' c' := by
  induction h with
  | here => exact .here _ _
  | there d _ ih => exact .there d ih
theorem Foc.has {cs cs' : List Chunk} {c : Chunk} (h : Foc cs c cs') : Has cs c := by
  induction h with
  | here => exact .here _ _
  | there d _ ih => exact .there d ih
def litP (l : Addr) (ps vs : List Value) (o : Obj) : Prop := ∃ i : Nat, o.cls = .type "list_iterator" ∧ o.data = .fields #[.ref l, .int i 0] ∧ ps.drop i = vs
def lit (it l : Addr) (ps vs : List Value) : Chunk := pt it (litP l ps vs)
theorem drop_cons {α : Type} {ps vs : List α} {v : α} {i : Nat} (h : ps.drop i = v :: vs) : ps[i]? = some v ∧ ps.drop (i + 1) = vs := by
  refine ⟨?_, ?_⟩
  · have := congrArg (fun l => l[0]?) h
    simpa using this
  · have := congrArg List.tail h
    simpa using this
theorem drop_nil {α : Type} {ps : List α} {i : Nat} (h : ps.drop i = []) : ps[i]? = none := by
  rw [List.drop_eq_nil_iff] at h
  exact List.getElem?_eq_none h
section
variable {b : Base} {G : Array GenState} {cs cs' r : List Chunk} {s : Shared} {A : Around} {E : Value → Shared → Prop} {l d it : Addr} {ps vs : List Value}
theorem lit_iter (l it : Addr) (ps : List Value) : IsIter b (.ref it) (lit it l ps) (fun cs => Has cs (li l ps)) where
  next := by
    intro G cs cs' s A E v vs Q h f w k
    obtain ⟨o, e, i, hc, hd, hq⟩ := h.has f.has
    obtain ⟨us, n, e', q⟩ := h.list w
    obtain ⟨h1, h2⟩ := drop_cons hq
    obtain ⟨u, hu, huv⟩ := untok_at q h1
    refine wpAny_pyNext_list_item (i := i) ⟨o, e, hc, hd⟩ ⟨_, e', rfl, n, rfl⟩ (x := u) (by simpa using hu) fun h' hit hs => k u _ huv (h.rep (t := s.toks) f hs ?_)
    obtain ⟨o', e'', hc', hd'⟩ := hit
    exact ⟨o', e'', i + 1, hc', hd', h2⟩
  done := by
    intro G cs cs' s A E Q hh h f w k
    obtain ⟨o, e, i, hc, hd, hq⟩ := h.has f.has
    obtain ⟨us, n, e', q⟩ := h.list w
    have hn : us.toArray[i]? = none := by
      have := drop_nil hq
      rw [List.getElem?_toArray]
      rw [List.getElem?_eq_none_iff] at this ⊢
      rw [← List.length_map (f := untok), q]; exact this
    refine list_end (hh.ne h f) (i := i) ⟨o, e, hc, hd⟩ ⟨_, e', rfl, n, rfl⟩ hn fun h' hs => k _ (h.lose (t := s.toks) f hs)
theorem l_iter {Q : Value → Shared → Prop} (h : Ok b G cs s) (f : Has cs (li l ps)) (k : ∀ it s', Ok b G (lit it l ps ps :: cs) s' → Q (.ref it) s') : wpAny b.M A (pyIter (.ref l)) Q E s := by
  obtain ⟨vs, n, e, q⟩ := h.list f
  refine wpAny_pyIter_list ⟨_, e, rfl, n, rfl⟩ (k _ _ (h.alloc (t := s.toks) rfl ⟨0, rfl, rfl, by simp⟩))
theorem lit_self {Q : Value → Shared → Prop} (h : Ok b G cs s) (f : Has cs (lit it l ps vs)) (k : Q (.ref it) s) : wpAny b.M A (pyIter (.ref it)) Q E s := by
  obtain ⟨o, e, i, hc, hd, hq⟩ := h.has f
  exact wpAny_pyIter_listiter (l := l) (i := i) ⟨o, e, hc, hd⟩ k
end
def diP (b : Base) (ks : List (Int × Addr)) (ep : Nat) (o : Obj) : Prop :=
  ∃ es, o.ExactDict ∧ o.data = .dict es ep ∧ KeysOf (intKind b.prog b.w) es ∧ Pairs (intKind b.prog b.w) es.toList (ks.map fun p => (p.1, Value.ref p.2)) ∧ (ks.map (·.1)).Nodup
def di (b : Base) (d : Addr) (ks : List (Int × Addr)) (ep : Nat) : Chunk := pt d (diP b ks ep)
def sto (ks : List (Int × Addr)) (k : Int) (a : Addr) : List (Int × Addr) := if ks.any (fun p => p.1 == k) then ks.map (fun p => if p.1 == k then (p.1, a) else p) else ks ++ [(k, a)]
def kvOf (ks : List (Int × Addr)) : List (Int × Value) := ks.map fun p => (p.1, Value.ref p.2)
theorem kv_keys (ks : List (Int × Addr)) : (kvOf ks).map (·.1) = ks.map (·.1) := by unfold kvOf; rw [List.map_map]; rfl
theorem kv_len (ks : List (Int × Addr)) : (kvOf ks).length = ks.length := List.length_map _
theorem kv_at (ks : List (Int × Addr)) (k : Int) : valueAt (kvOf ks) k = (ks.lookup k).map Value.ref := by
  unfold valueAt kvOf
  induction ks with
  | nil => rfl
  | cons p r ih =>
    obtain ⟨k', a⟩ := p
    rw [List.map_cons, List.find?_cons, List.lookup_cons]
    by_cases e : k' = k
    · subst e; simp
    · have e' : (k == k') = false := beq_eq_false_iff_ne.mpr fun q => e q.symm
      simp only [e, decide_false, e']; exact ih
theorem kv_stored (ks : List (Int × Addr)) (k : Int) (a : Addr) : stored (kvOf ks) k (.ref a) = kvOf (sto ks k a) := by
  unfold stored sto
  have e : (kvOf ks).any (fun kv => decide (kv.1 = k)) = ks.any (fun p => p.1 == k) := by
    unfold kvOf; rw [List.any_map]; congr 1
  rw [e]
  split
  · unfold kvOf
    rw [List.map_map, List.map_map]
    refine List.map_congr_left fun p _ => ?_
    simp only [Function.comp]
    by_cases q : p.1 = k
    · simp [q]
    · simp [q]
  · unfold kvOf; simp
section
variable {b : Base} {G : Array GenState} {cs cs' r : List Chunk} {s : Shared} {A : Around} {E : Value → Shared → Prop} {d it a : Addr} {ks : List (Int × Addr)} {ep : Nat} {k : Int} {t : Tok}
theorem Ok.dictAt (h : Ok b G cs s) (f : Has cs (di b d ks ep)) : s.heap.DictAt (intKind b.prog b.w) d (kvOf ks) ep := by
  obtain ⟨o, e, es, h1, h2, h3, h4, h5⟩ := h.has f
  exact ⟨o, es, e, h1, h2, h3, h4, by rw [kv_keys]; exact h5⟩
theorem Ok.dictLow (h : Ok b G cs s) (g : b.Good) (f : Has cs (di b d ks ep)) : (d == sysModules) = false := h.low_pt g f
theorem Ok.dictNodup (h : Ok b G cs s) (f : Has cs (di b d ks ep)) : (ks.map (·.1)).Nodup := by
  obtain ⟨o, e, es, h1, h2, h3, h4, h5⟩ := h.has f
  exact h5
theorem diP_of {h' : Heap} (x : h'.DictOf (intKind b.prog b.w) d (kvOf ks)) : ∃ ep, ∃ o, h'.get? d = some o ∧ diP b ks ep o := by
  obtain ⟨o, es, ep, e, h1, h2, h3, h4, h5⟩ := x
  exact ⟨ep, o, e, es, h1, h2, h3, h4, by rw [← kv_keys]; exact h5⟩
theorem d_in {Q : Value → Shared → Prop} (h : Ok b G cs s) (g : b.Good) (f : Has cs (di b d ks ep)) (q : ∀ s', Ok b G cs s' → Q (.bool (ks.lookup k).isSome) s') : wpAny b.M A (compareOp .In (.int k t) (.ref d)) Q E s := by
  refine wpAny_in_of (intKind_is _ _ _ _) (h.dictLow g f) (h.dictAt f).dictOf.mapOf ?_
  rw [kv_at, Option.isSome_map]
  exact q _ (h.toks _)
theorem d_notin {Q : Value → Shared → Prop} (h : Ok b G cs s) (g : b.Good) (f : Has cs (di b d ks ep)) (q : ∀ s', Ok b G cs s' → Q (.bool (!(ks.lookup k).isSome)) s') : wpAny b.M A (compareOp .NotIn (.int k t) (.ref d)) Q E s := by
  refine wpAny_notIn_of (intKind_is _ _ _ _) (h.dictLow g f) (h.dictAt f).dictOf.mapOf ?_
  rw [kv_at, Option.isSome_map]
  exact q _ (h.toks _)
theorem d_getItem {Q : Value → Shared → Prop} (h : Ok b G cs s) (f : Has cs (di b d ks ep)) (hk : ks.lookup k = some a) (q : ∀ s', Ok b G cs s' → Q (.ref a) s') : wpAny b.M A (getItem (.ref d) (.int k t)) Q E s :=
  wpAny_getItem_of (knd := intKind b.prog b.w) (intKind_is _ _ _ _) (h.dictAt f).dictOf.mapOf (by rw [kv_at, hk]; rfl) (q _ (h.toks _))
theorem d_item {value slice : PySem.Expr} {Q : Value → Shared → Prop} (h : Ok b G cs s) (f : Has cs (di b d ks ep)) (hk : ks.lookup k = some a) (q : ∀ s', Ok b G cs s' → Q (.ref a) s')
    (hs : subscripted slice false (.ref d) (.int k t) = operate [.ref d, .int k t] (getItem (.ref d) (.int k t)) := by with_unfolding_all rfl) : wpAny b.M A (subscriptTail value slice (.ref d) (.int k t)) Q E s :=
  tail_any (T := "dict") (h.dictAt f).dictOf.typeIs slot_dict_getitem.lookup (d_getItem h f hk q) hs
theorem d_get2 {pos : Pos} {x y : Sem Value} {Q : Value → Shared → Prop} (hd : (d == sysModules) = false)
    (h : wpAny b.M A x (fun key s₁ => wpAny b.M A y (fun dflt s₂ => ∃ k t a₀ cs₂ G₂ ks₂ ep₂, key = .int k t ∧ dflt = .ref a₀ ∧ Ok b G₂ cs₂ s₂ ∧ Has cs₂ (di b d ks₂ ep₂) ∧ ∀ s', Ok b G₂ cs₂ s' → Q (.ref ((ks₂.lookup k).getD a₀)) s') E s₁) E s) :
    wpAny b.M A (callWith pos (.builtin "dict.get") [.ref d] [(false, x), (false, y)] []) Q E s := by
  refine wpAny_dict_get2 (knd := intKind b.prog b.w) hd (wpAny_mono h (fun key s₁ h₁ => wpAny_mono h₁ (fun dflt s₂ ⟨k, t, a₀, cs₂, G₂, ks₂, ep₂, e1, e2, h2, f, q⟩ => ?_) fun _ _ e => e) fun _ _ e => e)
  subst e1; subst e2
  refine ⟨k, _, intKind_is _ _ _ _, (h2.dictAt f).dictOf.mapOf, ?_⟩
  have := q _ (h2.toks (s₂.toks + 1))
  rw [kv_at]
  cases e : ks₂.lookup k with
  | none => rw [e] at this; exact this
  | some a => rw [e] at this; exact this
theorem d_put {cs' : Nat → List Chunk} {Q : Unit → Shared → Prop} (h : Ok b G cs s) (f : ∀ ep', Rep cs (di b d ks ep) (di b d (sto ks k a) ep') (cs' ep')) (hz : ks.length ≤ sizeLine) (q : ∀ ep' s', Ok b G (cs' ep') s' → Q () s') : wpAny b.M A (setItem (.ref d) (.int k t) (.ref a)) Q E s := by
  refine wpAny_setItem_pairs (hsz := by rw [kv_len]; exact hz) (intKind_is b.prog b.w _ _) (h.dictAt (f 0).has).dictOf fun h' hm hs => ?_
  rw [kv_stored] at hm
  obtain ⟨ep', hq⟩ := diP_of hm
  exact q ep' _ (h.rep (t := s.toks + 1) (f ep') hs hq)
theorem d_len {Q : Value → Shared → Prop} (h : Ok b G cs s) (g : b.Good) (f : Has cs (di b d ks ep)) (hz : ks.length < 2 ^ 62) (q : ∀ t s', Ok b G cs s' → Q (.int ks.length t) s') : wpAny b.M A (call (.builtin "len") [.ref d]) Q E s := by
  refine call_len_dict (h.dictLow g f) (h.dictAt f).dictOf (by rw [kv_len]; omega) ?_
  rw [kv_len]
  exact q _ _ (h.toks _)
theorem d_new {t : Nat} (h : Ok b G cs s) : ∃ ep, Ok b G (di b s.heap.objs.size [] ep :: cs) { s with heap := s.heap.push { cls := .type "dict", data := .dict #[] }, toks := t } := by
  obtain ⟨ep, o, e, q⟩ := diP_of (ks := []) (Heap.DictOf.new (knd := intKind b.prog b.w) s.heap)
  refine ⟨ep, h.alloc (t := t) rfl ?_⟩
  rw [Heap.get?_push_size _ rfl] at e
  cases e; exact q
def ditP (d : Addr) (ks : List Int) (ep : Nat) (vs : List Value) (o : Obj) : Prop := ∃ i : Nat, o.cls = .type "dict_keyiterator" ∧ o.data = .fields #[.ref d, .int i 0, .int ks.length 0, .int ep 0] ∧ (ks.map fun k => Value.int k 0).drop i = vs
def dit (it d : Addr) (ks : List Int) (ep : Nat) (vs : List Value) : Chunk := pt it (ditP d ks ep vs)
theorem dit_iter (d it : Addr) (ks : List (Int × Addr)) (ep : Nat) : IsIter b (.ref it) (dit it d (ks.map (·.1)) ep) (fun cs => Has cs (di b d ks ep)) where
  next := by
    intro G cs cs' s A E v vs Q h f w k
    obtain ⟨o, e, i, hc, hd, hq⟩ := h.has f.has
    obtain ⟨h1, h2⟩ := drop_cons hq
    rw [List.map_map, List.getElem?_map] at h1
    obtain ⟨p, hp, hv⟩ := Option.map_eq_some_iff.mp h1
    refine wpAny_pyNext_dict_item (knd := intKind b.prog b.w) (i := i) (kvs := kvOf ks) (k := p.1) (v := .ref p.2) (ep := ep) ⟨o, e, hc, by rw [kv_len, ← List.length_map (f := (·.1)) (as := ks)]; exact hd⟩ (h.dictAt w)
      (by unfold kvOf; rw [List.getElem?_map, hp]; rfl) fun key h' hkey hit hs => ?_
    obtain ⟨t, rfl⟩ := Value.isInt_shape hkey
    refine k _ _ hv (h.rep (t := s.toks) f hs ?_)
    obtain ⟨o', e'', hc', hd'⟩ := hit
    refine ⟨o', e'', i + 1, hc', ?_, h2⟩
    rw [hd', kv_len, List.length_map]
  done := by
    intro G cs cs' s A E Q hh h f w k
    obtain ⟨o, e, i, hc, hd, hq⟩ := h.has f.has
    have hn : (kvOf ks)[i]? = none := by
      have := drop_nil hq
      rw [List.getElem?_eq_none_iff] at this ⊢
      rw [kv_len]; simpa using this
    refine dict_end (knd := intKind b.prog b.w) (hh.ne h f) (i := i) (kvs := kvOf ks) (ep := ep) ⟨o, e, hc, by rw [kv_len, ← List.length_map (f := (·.1)) (as := ks)]; exact hd⟩ (h.dictAt w) hn fun h' hs => k _ (h.lose (t := s.toks) f hs)
theorem d_iter {Q : Value → Shared → Prop} (h : Ok b G cs s) (g : b.Good) (f : Has cs (di b d ks ep)) (q : ∀ it s', Ok b G (dit it d (ks.map (·.1)) ep (ks.map fun p => .int p.1 0) :: cs) s' → Q (.ref it) s') : wpAny b.M A (pyIter (.ref d)) Q E s := by
  refine wpAny_pyIter_dict (h.dictLow g f) (h.dictAt f) (q _ _ (h.alloc (t := s.toks) rfl ⟨0, rfl, ?_, ?_⟩))
  · rw [kv_len, List.length_map]; rfl
  · rw [List.map_map]; rfl
theorem dit_self {vs : List Value} {kk : List Int} {Q : Value → Shared → Prop} (h : Ok b G cs s) (f : Has cs (dit it d kk ep vs)) (q : Q (.ref it) s) : wpAny b.M A (pyIter (.ref it)) Q E s := by
  obtain ⟨o, e, i, hc, hd, hq⟩ := h.has f
  exact wpAny_pyIter_keyiter (d := d) (i := i) (n := kk.length) (ep := ep) ⟨o, e, hc, hd⟩ q
def seP (b : Base) (xs : List Int) (o : Obj) : Prop := o.SetObjOf (intKind b.prog b.w) (fun k => xs.contains k) xs.length
def se (b : Base) (a : Addr) (xs : List Int) : Chunk := pt a (seP b xs)
theorem s_in {xs : List Int} {Q : Value → Shared → Prop} (h : Ok b G cs s) (f : Has cs (se b a xs)) (hz : xs.length < scanBound) (q : ∀ s', Ok b G cs s' → Q (.bool (xs.contains k)) s') : wpAny b.M A (compareOp .In (.int k t) (.ref a)) Q E s := by
  obtain ⟨o, e, hs⟩ := h.has f
  exact wpAny_inSet_of (knd := intKind b.prog b.w) (intKind_is _ _ _ _) rfl (hs.setOf e hz) (q _ (h.toks _))
theorem s_add {xs : List Int} {Q : Value → Shared → Prop} (h : Ok b G cs s) (f : Rep cs (se b a xs) (se b a (xs ++ [k])) cs') (hk : xs.contains k = false) (hz : xs.length + 1 < scanBound) (q : ∀ s', Ok b G cs' s' → Q .none s') :
    wpAny b.M A (call (.builtin "set.add") [.ref a, .int k t]) Q E s := by
  obtain ⟨o, e, hs⟩ := h.has f.has
  refine call_set_add (knd := intKind b.prog b.w) (k := k) (intKind_is _ _ _ _) rfl (hs.setOf e (by omega)) hz fun h' hsb hS => q _ (h.rep (t := s.toks + 1) f hsb ?_)
  obtain ⟨o', e', hs'⟩ := hS.objOf
  refine ⟨o', e', ?_⟩
  have e1 : (fun k' => xs.contains k' || decide (k' = k)) = fun k' => (xs ++ [k]).contains k' := by
    funext k'
    rw [List.contains_eq_any_beq, List.contains_eq_any_beq, List.any_append]
    simp only [List.any_cons, List.any_nil, Bool.or_false]
    congr 1
  have e2 : (if xs.contains k = true then xs.length else xs.length + 1) = (xs ++ [k]).length := by rw [hk]; simp
  rw [e1, e2] at hs'
  exact hs'
theorem s_new {Q : Value → Shared → Prop} (h : Ok b G cs s) (q : ∀ a s', Ok b G (se b a [] :: cs) s' → Q (.ref a) s') : wpAny b.M A (call (.type "set") []) Q E s :=
  call_set_0 fun led => q _ _ (h.alloc (t := s.toks) rfl (setObjOf_fresh led))
theorem for_go {env : Env} {target : PySem.Expr} {body orelse : List Stmt} {it : Value} {R : Result → Shared → Prop} (Inv : List Value → Shared → Prop)
    (item : ∀ v vs s, Inv (v :: vs) s → wpAny b.M A (pyNext it) (fun r s₁ => ∃ u, r = some u ∧ wpAny b.M A (assign target env u) (fun _ s₂ => wpAny b.M A (execs body env) (fun f s₃ => match f with
        | .next | .cont => Inv vs s₃ | .brk => R (.ok .next) s₃ | .ret v => R (.ok (.ret v)) s₃) (notedBy b.M A env fun e s' => R (.error e) s') s₂) (notedBy b.M A env fun e s' => R (.error e) s') s₁) (notedBy b.M A env fun e s' => R (.error e) s') s)
    (done : ∀ s, Inv [] s → wpAny b.M A (pyNext it) (fun r s₁ => r = none ∧ wpAny b.M A (execs orelse env) (fun f s₃ => R (.ok f) s₃) (notedBy b.M A env fun e s' => R (.error e) s') s₁) (notedBy b.M A env fun e s' => R (.error e) s') s)
    {vs : List Value} (h : Inv vs s) (ht : ∀ v, letOwnedTupleGo target it v = pure () := by intro _; rfl) : codeAny b.M A (.forLoop target it body orelse env) R s := by
  refine codeAny_forLoop (fun n s => ∃ vs, vs.length = n ∧ Inv vs s) (fun n s ⟨vs, hn, hI⟩ => ?_) vs.length ⟨vs, rfl, h⟩ ht
  cases vs with
  | nil =>
    refine wpAny_mono (done s hI) (fun r s₁ ⟨hr, h₁⟩ => ?_) fun _ _ e => e
    subst hr; exact h₁
  | cons v vs =>
    refine wpAny_mono (item v vs s hI) (fun r s₁ ⟨u, hr, h₁⟩ => ?_) fun _ _ e => e
    subst hr
    refine wpAny_mono h₁ (fun _ s₂ h₂ => wpAny_mono h₂ (fun f s₃ h₃ => ?_) fun _ _ e => e) fun _ _ e => e
    have hlt : vs.length < n := by rw [← hn]; simp
    cases f with
    | next => exact ⟨_, hlt, vs, rfl, h₃⟩
    | cont => exact ⟨_, hlt, vs, rfl, h₃⟩
    | brk => exact h₃
    | ret v => exact h₃
end
end Mine
namespace Mine
def ents (w : World) (ts : Nat → Tok) : Nat → List (Str × Addr) → List DictEntry
  | _, [] => []
  | i, (x, a) :: r => ⟨PyData.keyHash w.params x, .str x (ts i), .ref a⟩ :: ents w ts (i + 1) r
def idObj (w : World) (fs : List (Str × Addr)) (ts : Nat → Tok) (n : Nat) : Obj := { cls := .type "dict", dict := none, data := .dict (ents w ts 0 fs).toArray n, slots := #[] }
def idP (b : Base) (fs : List (Str × Addr)) (o : Obj) : Prop := ∃ ts n, o = idObj b.w fs ts n
def idc (b : Base) (d : Addr) (fs : List (Str × Addr)) : Chunk := pt d (idP b fs)
def insP (C d : Addr) (o : Obj) : Prop := o = instObj C d
def ins (x C d : Addr) : Chunk := pt x (insP C d)
section
variable {b : Base} {G : Array GenState} {cs cs' r : List Chunk} {s : Shared} {A : Around} {E : Value → Shared → Prop} {env : Env} {vars : List (Str × Value)} {cv : Cv} {x C d a : Addr} {fs fs' : List (Str × Addr)}
theorem Ok.inst (h : Ok b G cs s) (f : Has cs (ins x C d)) (f' : Has cs (idc b d fs)) : ∃ ts n, InstAt s.heap x (instObj C d) C (some (idObj b.w fs ts n)) ∧ s.heap.get? d = some (idObj b.w fs ts n) := by
  obtain ⟨o, e, rfl⟩ := h.has f
  obtain ⟨o', e', ts, n, rfl⟩ := h.has f'
  exact ⟨ts, n, ⟨e, rfl, rfl, e'⟩, e'⟩
theorem a_get (a : Addr) {name : Str} {Q : Value → Shared → Prop} (h : Ok b G cs s) (g : b.Good) (f : Has cs (ins x C d)) (f' : Has cs (idc b d fs))
    (hc : findIn b.K (.ref C) "__getattribute__" = some (some (.builtin "object.__getattribute__"))) (hf : ∀ ts n, findObj b.K C (some (idObj b.w fs ts n)) name = some (.value (.ref a)))
    (k : ∀ s', Ok b G cs s' → Q (.ref a) s') : wpAny b.M A (getAttr (.ref x) name true) Q E s := by
  obtain ⟨ts, n, I, -⟩ := h.inst f f'
  exact get_value (h.kin g) I hc (hf ts n) rfl (k _ (h.toks _))
theorem a_meth {name : Str} {fm : Addr} {pl : Sem Bool} {Q : Value × List Value → Shared → Prop} (h : Ok b G cs s) (g : b.Good) (f : Has cs (ins x C d)) (f' : Has cs (idc b d fs))
    (hc : (findIn b.K (.ref C) "__getattribute__", findIn b.K (.ref C) "__getattr__", findIn b.K (.ref C) name, typeIn b.K (.ref fm)) = (some (some (.builtin "object.__getattribute__")), some none, some (some (.ref fm)), some (.type "function")))
    (hs : ∀ ts n, shadowIn (some (idObj b.w fs ts n)) name = some false) (k : Q (.ref fm, [.ref x]) s) : wpAny b.M A (getMethod (.ref x) name pl) Q E s := by
  simp only [Prod.mk.injEq] at hc
  obtain ⟨h1, h2, h3, h4⟩ := hc
  obtain ⟨ts, n, I, -⟩ := h.inst f f'
  exact method_fn (h.kin g) I h1 h2 h3 h4 (hs ts n) k
theorem a_set {name : Str} {Q : Unit → Shared → Prop} (h : Ok b G cs s) (g : b.Good) (f : Has cs (ins x C d)) (f' : Rep cs (idc b d fs) (idc b d fs') cs')
    (hc : (findIn b.K (.ref C) "__setattr__", plainOver b.K C, takerIn b.K C name, (clsIn b.K C).any (·.hasDict)) = (some (some (.builtin "object.__setattr__")), true, some none, true))
    (hl : ∀ ts n, (lookIn name (idObj b.w fs ts n)).isSome = true) (he : ∀ ts n t, ∃ ts' n', Obj.putName name (PyData.keyHash b.w.params name) (.str name t) (.ref a) (idObj b.w fs ts n) = idObj b.w fs' ts' n')
    (hz : ∀ ts, (ents b.w ts 0 fs').length ≤ 1000) (k : ∀ s', Ok b G cs' s' → Q () s') : wpAny b.M A (setAttr (.ref x) name (.ref a)) Q E s := by
  simp only [Prod.mk.injEq] at hc
  obtain ⟨h1, hp, ht, hh⟩ := hc
  obtain ⟨ts, n, I, D⟩ := h.inst f f'.has
  have X := h.kin g
  refine set_plain X I h1 (osa_open (s := { s with toks := s.toks + 1 }) X I hp ht fun bb => ?_)
  obtain ⟨cd, hcd, hd'⟩ := any_some hh
  obtain ⟨ts', n', e⟩ := he ts n (s.toks + 1)
  have hx := I.at_
  refine wpAny_bind (wpAny_pure (wpAny_bind (wpAny_bind (wpAny_loadPart hx (wpAny_bind (looks_clsIn X hcd _ _ _ _ (fun _ _ e => e) ?_))))))
  rw [hd']
  refine wpAny_pure (a := some d) (wpAny_bind (wpAny_pure (wpAny_bind ?_)))
  unfold nsSet
  refine wpAny_bind (wpAny_bind (wpAny_askSetting (wpAny_pure (wpAny_bind (wpAny_mkText (wpAny_bind (wpAny_loadPart D ?_)))))))
  have hl' := hl ts n
  unfold lookIn at hl'
  have D' : (s.heap.update d (Obj.putName name (PyData.keyHash b.w.params name) (.str name (s.toks + 1)) (.ref a))).get? d = some (idObj b.w fs' ts' n') := by
    rw [← e]
    exact Heap.get?_update_self _ D (by rw [e]; rfl)
  have c : (!(ents b.w ts 0 fs).toArray.any (·.key.isStr name) && (ents b.w ts 0 fs).toArray.any (·.refKey)) = false := by
    rw [← Array.any_toList, ← Array.any_toList]
    have hE : (idObj b.w fs ts n).data = .dict (ents b.w ts 0 fs).toArray n := rfl
    rw [hE] at hl'
    dsimp only at hl'
    split at hl'
    · rename_i en he
      rw [List.any_eq_true.mpr ⟨en, List.mem_of_find?_eq_some he, List.find?_some he⟩]; rfl
    · split at hl'
      · cases hl'
      · rename_i z; rw [Bool.not_eq_true] at z; rw [z, Bool.and_false]
  dsimp only [idObj]
  rw [aRefKeyMayBeTheName_at, c]
  refine wpAny_updatePart D ?_
  refine wpAny_bind (wpAny_lookBehind D' (pastItsLine_dict (by rw [List.size_toArray, sizeLine_eq]; have := hz ts'; omega)) ?_)
  exact wpAny_pure (k _ (h.rep (t := s.toks + 2) f' (Heap.SameBut.update ..) ⟨_, D', ts', n', rfl⟩))
theorem x_attr {name : Str} {o : PySem.Expr} {pos : Pos} {Q : Value → Shared → Prop} (x : Addr) (h : Ok b G (fr env vars cv :: cs) s) (I : In b env) (q : ev env b.gl vars cv 9 o = some (.ref x))
    (k : ∀ s', Ok b G (fr env vars cv :: cs) s' → wpAny b.M A (getAttr (.ref x) name true) Q E s')
    (he : eval (.Attribute o name pos) env = (do
      let v ← eval o env
      standAt pos.atName
      let r ← holding [v] (getAttr v name true)
      letTemporaryGo o v r
      pure r) := by with_unfolding_all rfl) : wpAny b.M A (eval (.Attribute o name pos) env) Q E s :=
  PyProof.Rows.Attribute_any_ (x_ref x h I q k) he
theorem m_list {l : Addr} {ps : List Value} {name : Str} {i : String} {pl : Sem Bool} {Q : Value × List Value → Shared → Prop} (h : Ok b G cs s) (f : Has cs (li l ps)) (slot : Slot "list" name i) (ht : typeOf (.builtin i) = pure (.type "method_descriptor"))
    (k : Q (.builtin i, [.ref l]) s) : wpAny b.M A (getMethod (.ref l) name pl) Q E s := by
  obtain ⟨vs, n, e, q⟩ := h.list f
  exact getMethod_builtin (T := "list") ⟨_, e, rfl⟩ PySem.F.plainAttrs_list slot ht (fun a ha => by injection ha with ha; subst ha; exact ⟨_, e, rfl⟩) k
theorem m_dict {d : Addr} {ks : List (Int × Addr)} {ep : Nat} {name : Str} {i : String} {pl : Sem Bool} {Q : Value × List Value → Shared → Prop} (h : Ok b G cs s) (f : Has cs (di b d ks ep)) (slot : Slot "dict" name i) (ht : typeOf (.builtin i) = pure (.type "method_descriptor"))
    (k : Q (.builtin i, [.ref d]) s) : wpAny b.M A (getMethod (.ref d) name pl) Q E s := by
  have D := h.dictAt f
  exact getMethod_builtin (T := "dict") D.dictOf.typeIs PySem.F.plainAttrs_dict slot ht D.dictOf.mapOf.noDict k
theorem m_set {xs : List Int} {name : Str} {i : String} {pl : Sem Bool} {Q : Value × List Value → Shared → Prop} (h : Ok b G cs s) (f : Has cs (se b a xs)) (slot : Slot "set" name i) (ht : typeOf (.builtin i) = pure (.type "method_descriptor"))
    (k : Q (.builtin i, [.ref a]) s) : wpAny b.M A (getMethod (.ref a) name pl) Q E s := by
  obtain ⟨o, e, hx, -⟩ := h.has f
  exact getMethod_builtin (T := "set") ⟨_, e, hx.1⟩ PySem.F.plainAttrs_set slot ht (fun a ha => by injection ha with ha; subst ha; exact ⟨_, e, hx.2.1⟩) k
end
end Mine
namespace Mine
theorem map_cons_inv {α β : Type} {f : α → β} {us : List α} {a : β} {r : List β} (h : us.map f = a :: r) : ∃ v vs, us = v :: vs ∧ f v = a ∧ vs.map f = r := by
  cases us with
  | nil => cases h
  | cons v vs =>
    rw [List.map_cons] at h
    injection h with h1 h2
    exact ⟨v, vs, rfl, h1, h2⟩
theorem map_nil_inv {α β : Type} {f : α → β} {us : List α} (h : us.map f = []) : us = [] := List.map_eq_nil_iff.mp h
theorem args1 {us : List Value} {a : Value} (h : us.map untok = [a]) : ∃ v, us = [v] ∧ untok v = a := by
  obtain ⟨v, vs, rfl, h1, h2⟩ := map_cons_inv h
  rw [map_nil_inv h2]; exact ⟨v, rfl, h1⟩
theorem args2 {us : List Value} {a c : Value} (h : us.map untok = [a, c]) : ∃ v w, us = [v, w] ∧ untok v = a ∧ untok w = c := by
  obtain ⟨v, vs, rfl, h1, h2⟩ := map_cons_inv h
  obtain ⟨w, rfl, h3⟩ := args1 h2
  exact ⟨v, w, rfl, h1, h3⟩
theorem args3 {us : List Value} {a c d : Value} (h : us.map untok = [a, c, d]) : ∃ v w x, us = [v, w, x] ∧ untok v = a ∧ untok w = c ∧ untok x = d := by
  obtain ⟨v, vs, rfl, h1, h2⟩ := map_cons_inv h
  obtain ⟨w, x, rfl, h3⟩ := args2 h2
  exact ⟨v, w, x, rfl, h1, h3⟩
section
variable {b : Base} {G : Array GenState} {cs cs' r : List Chunk} {s : Shared} {A : Around} {E : Value → Shared → Prop} {env : Env} {vars : List (Str × Value)} {cv : Cv} {x C d a gd : Addr} {fs fs' : List (Str × Addr)} {dd u : Nat}
theorem x_dict0 {pos : Pos} {Q : Value → Shared → Prop} (h : Ok b G cs s) (k : ∀ a ep s', Ok b G (di b a [] ep :: cs) s' → Q (.ref a) s') : wpAny b.M A (eval (.Dict [] [] pos) env) Q E s := by
  obtain ⟨ep, h'⟩ := d_new (t := s.toks) h
  exact wpAny_Dict_empty (k _ ep _ h')
theorem binds_kw {α : Type} {t : Sem α} {Q : α → Shared → Prop} (r : Addr → α) (h : Ok b G cs s) (g : b.Good) (e : ∀ z, peekA b.K ⟨b.prog, b.w.params⟩ z t = some (some { cls := .type "dict", data := .dict #[] }, r z))
    (k : ∀ z ep s', Ok b G (di b z [] ep :: cs) s' → Q (r z) s') : wpAny b.M A t Q E s := by
  obtain ⟨ep, h'⟩ := d_new (t := s.toks) h
  exact wpAny_peekA (h.kin g) e (k _ ep _ h')
theorem call_fac {f : Addr} {fd : FuncData} {p1 p2 : Pos} {Q : Value → Shared → Prop} (h : Ok b G cs s) (g : b.Good) (F : Fit b A (dd + 1) (u + 3)) (D : IsDef b f fd [.Return (some (.Dict [] [] p1)) p2])
    (hb : peek b.K ⟨b.prog, b.w.params⟩ (bindArgs fd ⟨[.ref x], []⟩) = some [(("self" : Str), Value.ref x)]) (hg : fd.scope.isGenerator = false) (hk : ∀ z, bindsOk fd z [(("self" : Str), Value.ref x)] = true)
    (k : ∀ a ep s', Ok b G (di b a [] ep :: cs) s' → Q (.ref a) s') : wpAny b.M A (call (.ref f) [.ref x]) Q E s := by
  refine call_fn _ [] [] h g F D hb hg hk (fun _ => rfl) (fun _ => ⟨rfl, List.nodup_nil⟩) fun A' L s' F' h' => ?_
  refine x_cons (wpAny_Return_some (x_dict0 h'.drop fun a ep s'' h'' => k a ep s'' h''))
theorem x_meth (f x : Addr) (us₀ : List Value) {m : Str} {o : PySem.Expr} {es : List PySem.Expr} {apos pos : Pos} {pl : Sem Bool} {Q : Value → Shared → Prop} (h : Ok b G (fr env vars cv :: cs) s) (I : In b env) (q : ev env b.gl vars cv 9 o = some (.ref x))
    (fi : Has cs (ins x C gd)) (fd' : Has cs (idc b gd fs))
    (hc : (findIn b.K (.ref C) "__getattribute__", findIn b.K (.ref C) "__getattr__", findIn b.K (.ref C) m, typeIn b.K (.ref f), keepIn b.K (.ref f)) = (some (some (.builtin "object.__getattribute__")), some none, some (some (.ref f)), some (.type "function"), true))
    (hs : ∀ ts n, shadowIn (some (idObj b.w fs ts n)) m = some false) (hq : evs env b.gl vars cv es = some us₀)
    (k : ∀ us s', us.map untok = us₀ → Ok b G (fr env vars cv :: cs) s' → wpAny b.M A (call (.ref f) (.ref x :: us)) Q E s')
    (he : eval (.Call (.Attribute o m apos) es [] pos) env = (do
      let ov ← eval o env
      standAt apos.atName
      let (f, first) ← holding [ov] (getMethod ov m pl)
      callWith pos f first (backTo pos (starEach es env)) []) := by with_unfolding_all rfl) :
    wpAny b.M A (eval (.Call (.Attribute o m apos) es [] pos) env) Q E s := by
  simp only [Prod.mk.injEq] at hc
  obtain ⟨h1, h2, h3, h4, h5⟩ := hc
  refine PyProof.Rows.MethodCall_ (x_ref x h I q fun s' h' => ?_) he
  refine a_meth h' I.good (.there _ fi) (.there _ fd') (by rw [h1, h2, h3, h4]) hs ?_
  have hpl : ((backTo pos (starEach es env)).any (·.1) || ([] : List (Option Str × Sem Value)).any (·.1.isNone)) = false := by
    clear he k
    induction es generalizing us₀ with
    | nil => rfl
    | cons e r ih =>
      simp only [evs] at hq
      cases hs' : isStar e with
      | true => rw [hs'] at hq; cases hq
      | false =>
        rw [hs'] at hq
        simp only [Bool.false_eq_true, if_false] at hq
        split at hq
        · rename_i _ e2
          rw [starEach_cons hs', backTo_cons]
          have := ih _ e2
          simp only [List.any_cons, List.any_nil, Bool.or_false, Bool.false_or] at this ⊢
          exact this
        · cases hq
  exact callWith_of (P := b.K.In) hpl (keeps_K h5) (evalArgs_ev h' I hq fun us s'' hus h'' => ⟨h''.kin I.good, k us s'' hus h''⟩)
theorem plain_any {es : List PySem.Expr} {us₀ : List Value} {pos : Pos} (hq : evs env b.gl vars cv es = some us₀) : (backTo pos (starEach es env)).any (·.1) = false := by
  induction es generalizing us₀ with
  | nil => rfl
  | cons e r ih =>
    simp only [evs] at hq
    cases hs' : isStar e with
    | true => rw [hs'] at hq; cases hq
    | false =>
      rw [hs'] at hq
      simp only [Bool.false_eq_true, if_false] at hq
      split at hq
      · rename_i _ e2
        rw [starEach_cons hs', backTo_cons]
        simp only [List.any_cons, Bool.false_or]
        exact ih e2
      · cases hq
theorem cw_builtin (us₀ : List Value) {i : String} {first : List Value} {es : List PySem.Expr} {pos : Pos} {Q : Value → Shared → Prop} (h : Ok b G (fr env vars cv :: cs) s) (I : In b env) (hq : evs env b.gl vars cv es = some us₀)
    (k : ∀ us s', us.map untok = us₀ → Ok b G (fr env vars cv :: cs) s' → wpAny b.M A (call (.builtin i) (first ++ us)) Q E s') : wpAny b.M A (callWith pos (.builtin i) first (backTo pos (starEach es env)) []) Q E s :=
  Calls.callWith_builtin (plain_any hq) (evalArgs_ev h I hq fun us s' hus h' => k us s' hus h')
theorem x_callb (i : String) (us₀ : List Value) {n : Str} {np pos : Pos} {es : List PySem.Expr} {Q : Value → Shared → Prop} (h : Ok b G (fr env vars cv :: cs) s) (I : In b env) (q : (ev env b.gl vars cv 9 (.Name n np), evs env b.gl vars cv es) = (some (.builtin i), some us₀))
    (k : ∀ us s', us.map untok = us₀ → Ok b G (fr env vars cv :: cs) s' → wpAny b.M A (call (.builtin i) us) Q E s') : wpAny b.M A (eval (.Call (.Name n np) es [] pos) env) Q E s := by
  obtain ⟨q1, q2⟩ := Prod.mk.inj q
  refine wpAny_Call_NameR (ev_sound' 9 _ q1 h I fun u s' hu h' => ?_)
  rw [untok_builtin hu]
  exact cw_builtin us₀ h' I q2 k
theorem x_bm (l : Addr) (us₀ : List Value) {m : Str} {i : String} {o : PySem.Expr} {es : List PySem.Expr} {apos pos : Pos} {pl : Sem Bool} {Q : Value → Shared → Prop} (h : Ok b G (fr env vars cv :: cs) s) (I : In b env) (q : (ev env b.gl vars cv 9 o, evs env b.gl vars cv es) = (some (.ref l), some us₀))
    (hm : ∀ s' (Q' : Value × List Value → Shared → Prop), Ok b G (fr env vars cv :: cs) s' → Q' (.builtin i, [.ref l]) s' → wpAny b.M A (getMethod (.ref l) m pl) Q' E s')
    (k : ∀ us s', us.map untok = us₀ → Ok b G (fr env vars cv :: cs) s' → wpAny b.M A (call (.builtin i) (.ref l :: us)) Q E s')
    (he : eval (.Call (.Attribute o m apos) es [] pos) env = (do
      let ov ← eval o env
      standAt apos.atName
      let (f, first) ← holding [ov] (getMethod ov m pl)
      callWith pos f first (backTo pos (starEach es env)) []) := by with_unfolding_all rfl) :
    wpAny b.M A (eval (.Call (.Attribute o m apos) es [] pos) env) Q E s := by
  obtain ⟨q1, q2⟩ := Prod.mk.inj q
  exact PyProof.Rows.MethodCall_ (x_ref l h I q1 fun s' h' => hm s' _ h' (cw_builtin us₀ h' I q2 k)) he
theorem d_pop0 {d : Addr} {ep : Nat} {k : Str} {t : Tok} {v : Value} {Q : Value → Shared → Prop} (h : Ok b G cs s) (g : b.Good) (f : Has cs (di b d [] ep)) (q : ∀ s', Ok b G cs s' → Q v s') : wpAny b.M A (call (.builtin "dict.pop") [.ref d, .str k t, v]) Q E s := by
  obtain ⟨o, e, es, h1, h2, h3, h4, h5⟩ := h.has f
  have hes : es = #[] := by
    have := h4.length
    simp at this
    exact this
  subst hes
  have D : s.heap.DictOf (strKind b.prog b.w) d [] := ⟨o, #[], ep, e, h1, h2, fun x hx => by simp at hx, .nil, List.nodup_nil⟩
  exact call_meetsIn PySem.F.slot_dict_pop D.typeIs PySem.F.entry_dict_pop (PySem.F.args_dict_pop_3 _ _ _) (meets_dict_pop_default (strKind b.prog b.w) d (k := k) (strKind_is _ _ _ _) (h.low_pt g f) rfl v) ⟨[], D, rfl, q _ (h.toks _)⟩
theorem d_upd0 {d e : Addr} {ks : List (Int × Addr)} {ep ep' : Nat} {cs' : Nat → List Chunk} {Q : Value → Shared → Prop} (h : Ok b G cs s) (g : b.Good) (f : ∀ n, Rep cs (di b d ks ep) (di b d ks n) (cs' n)) (f' : Has cs (di b e [] ep')) (hne : d ≠ e) (hz : ks.length ≤ sizeLine)
    (q : ∀ n s', Ok b G (cs' n) s' → Q .none s') : wpAny b.M A (call (.builtin "dict.update") [.ref d, .ref e]) Q E s := by
  have D := (h.dictAt (f 0).has).dictOf
  have D' := (h.dictAt f').dictOf
  refine call_meetsIn PySem.F.slot_dict_update D.typeIs PySem.F.entry_dict_update (PySem.F.args_dict_update_2 _ _) (meets_dict_update (intKind b.prog b.w) d e hne (h.low_pt g f')) ⟨kvOf ks, [], D, D', by rw [kv_len]; simpa using hz, fun h' hd _ hs => ?_⟩
  obtain ⟨n, hq⟩ := diP_of (ks := ks) hd
  exact q n _ (h.rep (t := s.toks) (f n) hs hq)
end
end Mine
namespace Mine
abbrev XX : List Addr := [25, 34]
noncomputable def KX (w : World) : Frag := (KF w.params).filter fun p => !(XX.contains p.1)
abbrev PR : Program := PySem.Challenge.pw_ci0024_03
noncomputable abbrev GL : List (Str × Value) := [("dfs_postorder_nodes", .ref 30), ("dfs_labeled_edges", .ref 39), ("NetworkXError", .ref 218), ("Graph", .ref 558), ("DiGraph", .ref 773), ("_law_seed", .ref 789), ("_law_next", .ref 796), ("_law_walk", .ref 803), ("_law_whole", .ref 810), ("_law_done", .ref 815), ("len", .builtin "len"), ("iter", .builtin "iter"), ("sorted", .builtin "sorted"), ("abs", .builtin "abs"), ("all", .builtin "all"), ("set", .type "set"), ("list", .type "list"), ("range", .type "range"), ("TypeError", .type "TypeError"), ("KeyError", .type "KeyError"), ("enumerate", .type "enumerate"), ("reversed", .type "reversed")]
noncomputable abbrev BB (w : World) (h₁ : Heap) (X : List Addr) (os : OsState) (dr : Drawn) : Base := ⟨PR, w, h₁, X, os, dr, GL, KX w⟩
section
variable {w : World} {h₁ : Heap} {X : List Addr} {os : OsState} {dr : Drawn}
abbrev CO_law : Addr := 819
abbrev T_law : Addr := 817
abbrev CO_dfs : Addr := 38
abbrev T_dfs : Addr := 34
abbrev CO_post : Addr := 29
abbrev T_post : Addr := 25
abbrev A_post : Addr := 30
noncomputable def fd_post : FuncData := ⟨"dfs_postorder_nodes", "dfs_postorder_nodes", fpar [2], fbody [2], fscope [2], 3, [], (.ref 22), (.ref 23), .none, (.str "networkx.algorithms.traversal.depth_first_search" 194), none, (.ref 29), .none, 0⟩
theorem D_post (g : (BB w h₁ X os dr).Good) : IsDef (BB w h₁ X os dr) A_post fd_post (fbodyL [2]) := isDef_of g (o := ob22 w.params) (by kernel_rfl) (by kernel_rfl) (by kernel_rfl) (by kernel_rfl) (by kernel_rfl)
abbrev A_dfs : Addr := 39
noncomputable def fd_dfs : FuncData := ⟨"dfs_labeled_edges", "dfs_labeled_edges", fpar [3], fbody [3], fscope [3], 3, [], (.ref 31), (.ref 32), .none, (.str "networkx.algorithms.traversal.depth_first_search" 194), none, (.ref 38), .none, 0⟩
theorem D_dfs (g : (BB w h₁ X os dr).Good) : IsDef (BB w h₁ X os dr) A_dfs fd_dfs (fbodyL [3]) := isDef_of g (o := ob31 w.params) (by kernel_rfl) (by kernel_rfl) (by kernel_rfl) (by kernel_rfl) (by kernel_rfl)
abbrev A_G_f1 : Addr := 279
noncomputable def fd_G_f1 : FuncData := ⟨"node_dict_factory", "Graph.node_dict_factory", fpar [15, 0], fbody [15, 0], fscope [15, 0], 3, [], .none, .none, .none, (.str "networkx.classes.graph" 533), none, (.ref 278), .none, 0⟩
theorem D_G_f1 (g : (BB w h₁ X os dr).Good) : IsDef (BB w h₁ X os dr) A_G_f1 fd_G_f1 (fbodyL [15, 0]) := isDef_of g (o := ob273 w.params) (by kernel_rfl) (by kernel_rfl) (by kernel_rfl) (by kernel_rfl) (by kernel_rfl)
abbrev A_G_f2 : Addr := 286
noncomputable def fd_G_f2 : FuncData := ⟨"node_attr_dict_factory", "Graph.node_attr_dict_factory", fpar [15, 1], fbody [15, 1], fscope [15, 1], 3, [], .none, .none, .none, (.str "networkx.classes.graph" 533), none, (.ref 285), .none, 0⟩
theorem D_G_f2 (g : (BB w h₁ X os dr).Good) : IsDef (BB w h₁ X os dr) A_G_f2 fd_G_f2 (fbodyL [15, 1]) := isDef_of g (o := ob280 w.params) (by kernel_rfl) (by kernel_rfl) (by kernel_rfl) (by kernel_rfl) (by kernel_rfl)
abbrev A_G_f3 : Addr := 293
noncomputable def fd_G_f3 : FuncData := ⟨"adjlist_outer_dict_factory", "Graph.adjlist_outer_dict_factory", fpar [15, 2], fbody [15, 2], fscope [15, 2], 3, [], .none, .none, .none, (.str "networkx.classes.graph" 533), none, (.ref 292), .none, 0⟩
theorem D_G_f3 (g : (BB w h₁ X os dr).Good) : IsDef (BB w h₁ X os dr) A_G_f3 fd_G_f3 (fbodyL [15, 2]) := isDef_of g (o := ob287 w.params) (by kernel_rfl) (by kernel_rfl) (by kernel_rfl) (by kernel_rfl) (by kernel_rfl)
abbrev A_G_f4 : Addr := 300
noncomputable def fd_G_f4 : FuncData := ⟨"adjlist_inner_dict_factory", "Graph.adjlist_inner_dict_factory", fpar [15, 3], fbody [15, 3], fscope [15, 3], 3, [], .none, .none, .none, (.str "networkx.classes.graph" 533), none, (.ref 299), .none, 0⟩
theorem D_G_f4 (g : (BB w h₁ X os dr).Good) : IsDef (BB w h₁ X os dr) A_G_f4 fd_G_f4 (fbodyL [15, 3]) := isDef_of g (o := ob294 w.params) (by kernel_rfl) (by kernel_rfl) (by kernel_rfl) (by kernel_rfl) (by kernel_rfl)
abbrev A_G_f5 : Addr := 307
noncomputable def fd_G_f5 : FuncData := ⟨"edge_attr_dict_factory", "Graph.edge_attr_dict_factory", fpar [15, 4], fbody [15, 4], fscope [15, 4], 3, [], .none, .none, .none, (.str "networkx.classes.graph" 533), none, (.ref 306), .none, 0⟩
theorem D_G_f5 (g : (BB w h₁ X os dr).Good) : IsDef (BB w h₁ X os dr) A_G_f5 fd_G_f5 (fbodyL [15, 4]) := isDef_of g (o := ob301 w.params) (by kernel_rfl) (by kernel_rfl) (by kernel_rfl) (by kernel_rfl) (by kernel_rfl)
abbrev A_G_f6 : Addr := 314
noncomputable def fd_G_f6 : FuncData := ⟨"graph_attr_dict_factory", "Graph.graph_attr_dict_factory", fpar [15, 5], fbody [15, 5], fscope [15, 5], 3, [], .none, .none, .none, (.str "networkx.classes.graph" 533), none, (.ref 313), .none, 0⟩
theorem D_G_f6 (g : (BB w h₁ X os dr).Good) : IsDef (BB w h₁ X os dr) A_G_f6 fd_G_f6 (fbodyL [15, 5]) := isDef_of g (o := ob308 w.params) (by kernel_rfl) (by kernel_rfl) (by kernel_rfl) (by kernel_rfl) (by kernel_rfl)
abbrev A_G_init : Addr := 329
noncomputable def fd_G_init : FuncData := ⟨"__init__", "Graph.__init__", fpar [15, 7], fbody [15, 7], fscope [15, 7], 3, [], (.ref 322), .none, .none, (.str "networkx.classes.graph" 533), none, (.ref 328), .none, 0⟩
theorem D_G_init (g : (BB w h₁ X os dr).Good) : IsDef (BB w h₁ X os dr) A_G_init fd_G_init (fbodyL [15, 7]) := isDef_of g (o := ob323 w.params) (by kernel_rfl) (by kernel_rfl) (by kernel_rfl) (by kernel_rfl) (by kernel_rfl)
abbrev A_G_iter : Addr := 346
noncomputable def fd_G_iter : FuncData := ⟨"__iter__", "Graph.__iter__", fpar [15, 9], fbody [15, 9], fscope [15, 9], 3, [], .none, .none, .none, (.str "networkx.classes.graph" 533), none, (.ref 345), .none, 0⟩
theorem D_G_iter (g : (BB w h₁ X os dr).Good) : IsDef (BB w h₁ X os dr) A_G_iter fd_G_iter (fbodyL [15, 9]) := isDef_of g (o := ob340 w.params) (by kernel_rfl) (by kernel_rfl) (by kernel_rfl) (by kernel_rfl) (by kernel_rfl)
abbrev A_G_has : Addr := 353
noncomputable def fd_G_has : FuncData := ⟨"__contains__", "Graph.__contains__", fpar [15, 10], fbody [15, 10], fscope [15, 10], 3, [], .none, .none, .none, (.str "networkx.classes.graph" 533), none, (.ref 352), .none, 0⟩
theorem D_G_has (g : (BB w h₁ X os dr).Good) : IsDef (BB w h₁ X os dr) A_G_has fd_G_has (fbodyL [15, 10]) := isDef_of g (o := ob347 w.params) (by kernel_rfl) (by kernel_rfl) (by kernel_rfl) (by kernel_rfl) (by kernel_rfl)
abbrev A_G_len : Addr := 360
noncomputable def fd_G_len : FuncData := ⟨"__len__", "Graph.__len__", fpar [15, 11], fbody [15, 11], fscope [15, 11], 3, [], .none, .none, .none, (.str "networkx.classes.graph" 533), none, (.ref 359), .none, 0⟩
theorem D_G_len (g : (BB w h₁ X os dr).Good) : IsDef (BB w h₁ X os dr) A_G_len fd_G_len (fbodyL [15, 11]) := isDef_of g (o := ob354 w.params) (by kernel_rfl) (by kernel_rfl) (by kernel_rfl) (by kernel_rfl) (by kernel_rfl)
abbrev A_G_add_node : Addr := 374
noncomputable def fd_G_add_node : FuncData := ⟨"add_node", "Graph.add_node", fpar [15, 13], fbody [15, 13], fscope [15, 13], 3, [], .none, .none, .none, (.str "networkx.classes.graph" 533), none, (.ref 373), .none, 0⟩
theorem D_G_add_node (g : (BB w h₁ X os dr).Good) : IsDef (BB w h₁ X os dr) A_G_add_node fd_G_add_node (fbodyL [15, 13]) := isDef_of g (o := ob368 w.params) (by kernel_rfl) (by kernel_rfl) (by kernel_rfl) (by kernel_rfl) (by kernel_rfl)
abbrev A_G_add_nodes : Addr := 381
noncomputable def fd_G_add_nodes : FuncData := ⟨"add_nodes_from", "Graph.add_nodes_from", fpar [15, 14], fbody [15, 14], fscope [15, 14], 3, [], .none, .none, .none, (.str "networkx.classes.graph" 533), none, (.ref 380), .none, 0⟩
theorem D_G_add_nodes (g : (BB w h₁ X os dr).Good) : IsDef (BB w h₁ X os dr) A_G_add_nodes fd_G_add_nodes (fbodyL [15, 14]) := isDef_of g (o := ob375 w.params) (by kernel_rfl) (by kernel_rfl) (by kernel_rfl) (by kernel_rfl) (by kernel_rfl)
abbrev A_G_rem : Addr := 395
noncomputable def fd_G_rem : FuncData := ⟨"remove_nodes_from", "Graph.remove_nodes_from", fpar [15, 16], fbody [15, 16], fscope [15, 16], 3, [], .none, .none, .none, (.str "networkx.classes.graph" 533), none, (.ref 394), .none, 0⟩
theorem D_G_rem (g : (BB w h₁ X os dr).Good) : IsDef (BB w h₁ X os dr) A_G_rem fd_G_rem (fbodyL [15, 16]) := isDef_of g (o := ob389 w.params) (by kernel_rfl) (by kernel_rfl) (by kernel_rfl) (by kernel_rfl) (by kernel_rfl)
abbrev A_G_add_edge : Addr := 433
noncomputable def fd_G_add_edge : FuncData := ⟨"add_edge", "Graph.add_edge", fpar [15, 21], fbody [15, 21], fscope [15, 21], 3, [], .none, .none, .none, (.str "networkx.classes.graph" 533), none, (.ref 432), .none, 0⟩
theorem D_G_add_edge (g : (BB w h₁ X os dr).Good) : IsDef (BB w h₁ X os dr) A_G_add_edge fd_G_add_edge (fbodyL [15, 21]) := isDef_of g (o := ob427 w.params) (by kernel_rfl) (by kernel_rfl) (by kernel_rfl) (by kernel_rfl) (by kernel_rfl)
abbrev A_G_nbrs : Addr := 468
noncomputable def fd_G_nbrs : FuncData := ⟨"neighbors", "Graph.neighbors", fpar [15, 26], fbody [15, 26], fscope [15, 26], 3, [], .none, .none, .none, (.str "networkx.classes.graph" 533), none, (.ref 467), .none, 0⟩
theorem D_G_nbrs (g : (BB w h₁ X os dr).Good) : IsDef (BB w h₁ X os dr) A_G_nbrs fd_G_nbrs (fbodyL [15, 26]) := isDef_of g (o := ob462 w.params) (by kernel_rfl) (by kernel_rfl) (by kernel_rfl) (by kernel_rfl) (by kernel_rfl)
abbrev C_Graph : Addr := 558
abbrev A_D_init : Addr := 588
noncomputable def fd_D_init : FuncData := ⟨"__init__", "DiGraph.__init__", fpar [17, 1], fbody [17, 1], fscope [17, 1], 3, [], (.ref 581), .none, .none, (.str "networkx.classes.digraph" 941), none, (.ref 587), .none, 0⟩
theorem D_D_init (g : (BB w h₁ X os dr).Good) : IsDef (BB w h₁ X os dr) A_D_init fd_D_init (fbodyL [17, 1]) := isDef_of g (o := ob585 w.params) (by kernel_rfl) (by kernel_rfl) (by kernel_rfl) (by kernel_rfl) (by kernel_rfl)
abbrev A_D_add_node : Addr := 625
noncomputable def fd_D_add_node : FuncData := ⟨"add_node", "DiGraph.add_node", fpar [17, 5], fbody [17, 5], fscope [17, 5], 3, [], .none, .none, .none, (.str "networkx.classes.digraph" 941), none, (.ref 624), .none, 0⟩
theorem D_D_add_node (g : (BB w h₁ X os dr).Good) : IsDef (BB w h₁ X os dr) A_D_add_node fd_D_add_node (fbodyL [17, 5]) := isDef_of g (o := ob622 w.params) (by kernel_rfl) (by kernel_rfl) (by kernel_rfl) (by kernel_rfl) (by kernel_rfl)
abbrev A_D_add_nodes : Addr := 632
noncomputable def fd_D_add_nodes : FuncData := ⟨"add_nodes_from", "DiGraph.add_nodes_from", fpar [17, 6], fbody [17, 6], fscope [17, 6], 3, [], .none, .none, .none, (.str "networkx.classes.digraph" 941), none, (.ref 631), .none, 0⟩
theorem D_D_add_nodes (g : (BB w h₁ X os dr).Good) : IsDef (BB w h₁ X os dr) A_D_add_nodes fd_D_add_nodes (fbodyL [17, 6]) := isDef_of g (o := ob629 w.params) (by kernel_rfl) (by kernel_rfl) (by kernel_rfl) (by kernel_rfl) (by kernel_rfl)
abbrev A_D_rem : Addr := 646
noncomputable def fd_D_rem : FuncData := ⟨"remove_nodes_from", "DiGraph.remove_nodes_from", fpar [17, 8], fbody [17, 8], fscope [17, 8], 3, [], .none, .none, .none, (.str "networkx.classes.digraph" 941), none, (.ref 645), .none, 0⟩
theorem D_D_rem (g : (BB w h₁ X os dr).Good) : IsDef (BB w h₁ X os dr) A_D_rem fd_D_rem (fbodyL [17, 8]) := isDef_of g (o := ob643 w.params) (by kernel_rfl) (by kernel_rfl) (by kernel_rfl) (by kernel_rfl) (by kernel_rfl)
abbrev A_D_add_edge : Addr := 653
noncomputable def fd_D_add_edge : FuncData := ⟨"add_edge", "DiGraph.add_edge", fpar [17, 9], fbody [17, 9], fscope [17, 9], 3, [], .none, .none, .none, (.str "networkx.classes.digraph" 941), none, (.ref 652), .none, 0⟩
theorem D_D_add_edge (g : (BB w h₁ X os dr).Good) : IsDef (BB w h₁ X os dr) A_D_add_edge fd_D_add_edge (fbodyL [17, 9]) := isDef_of g (o := ob650 w.params) (by kernel_rfl) (by kernel_rfl) (by kernel_rfl) (by kernel_rfl) (by kernel_rfl)
abbrev A_D_nbrs : Addr := 695
noncomputable def fd_D_nbrs : FuncData := ⟨"successors", "DiGraph.successors", fpar [17, 15], fbody [17, 15], fscope [17, 15], 3, [], .none, .none, .none, (.str "networkx.classes.digraph" 941), none, (.ref 694), .none, 0⟩
theorem D_D_nbrs (g : (BB w h₁ X os dr).Good) : IsDef (BB w h₁ X os dr) A_D_nbrs fd_D_nbrs (fbodyL [17, 15]) := isDef_of g (o := ob692 w.params) (by kernel_rfl) (by kernel_rfl) (by kernel_rfl) (by kernel_rfl) (by kernel_rfl)
abbrev C_DiGraph : Addr := 773
abbrev A_law_seed : Addr := 789
noncomputable def fd_law_seed : FuncData := ⟨"_law_seed", "_law_seed", fpar [19], fbody [19], fscope [19], 3, [], .none, .none, .none, (.str "law_ci0024_03" 1304), none, (.ref 788), .none, 0⟩
theorem D_law_seed (g : (BB w h₁ X os dr).Good) : IsDef (BB w h₁ X os dr) A_law_seed fd_law_seed (fbodyL [19]) := isDef_of g (o := ob788 w.params) (by kernel_rfl) (by kernel_rfl) (by kernel_rfl) (by kernel_rfl) (by kernel_rfl)
abbrev A_law_next : Addr := 796
noncomputable def fd_law_next : FuncData := ⟨"_law_next", "_law_next", fpar [20], fbody [20], fscope [20], 3, [], .none, .none, .none, (.str "law_ci0024_03" 1304), none, (.ref 795), .none, 0⟩
theorem D_law_next (g : (BB w h₁ X os dr).Good) : IsDef (BB w h₁ X os dr) A_law_next fd_law_next (fbodyL [20]) := isDef_of g (o := ob795 w.params) (by kernel_rfl) (by kernel_rfl) (by kernel_rfl) (by kernel_rfl) (by kernel_rfl)
abbrev A_law_walk : Addr := 803
noncomputable def fd_law_walk : FuncData := ⟨"_law_walk", "_law_walk", fpar [21], fbody [21], fscope [21], 3, [], .none, .none, .none, (.str "law_ci0024_03" 1304), none, (.ref 802), .none, 0⟩
theorem D_law_walk (g : (BB w h₁ X os dr).Good) : IsDef (BB w h₁ X os dr) A_law_walk fd_law_walk (fbodyL [21]) := isDef_of g (o := ob802 w.params) (by kernel_rfl) (by kernel_rfl) (by kernel_rfl) (by kernel_rfl) (by kernel_rfl)
abbrev A_law_whole : Addr := 810
noncomputable def fd_law_whole : FuncData := ⟨"_law_whole", "_law_whole", fpar [22], fbody [22], fscope [22], 3, [], .none, .none, .none, (.str "law_ci0024_03" 1304), none, (.ref 809), .none, 0⟩
theorem D_law_whole (g : (BB w h₁ X os dr).Good) : IsDef (BB w h₁ X os dr) A_law_whole fd_law_whole (fbodyL [22]) := isDef_of g (o := ob809 w.params) (by kernel_rfl) (by kernel_rfl) (by kernel_rfl) (by kernel_rfl) (by kernel_rfl)
abbrev A_law_done : Addr := 815
noncomputable def fd_law_done : FuncData := ⟨"_law_done", "_law_done", fpar [23], fbody [23], fscope [23], 3, [], .none, .none, .none, (.str "law_ci0024_03" 1304), none, (.ref 814), .none, 0⟩
theorem D_law_done (g : (BB w h₁ X os dr).Good) : IsDef (BB w h₁ X os dr) A_law_done fd_law_done (fbodyL [23]) := isDef_of g (o := ob814 w.params) (by kernel_rfl) (by kernel_rfl) (by kernel_rfl) (by kernel_rfl) (by kernel_rfl)
abbrev A_law : Addr := 820
noncomputable def fd_law : FuncData := ⟨"law", "law", fpar [24], fbody [24], fscope [24], 3, [], .none, .none, .none, (.str "law_ci0024_03" 1304), none, (.ref 819), .none, 0⟩
theorem D_law (g : (BB w h₁ X os dr).Good) : IsDef (BB w h₁ X os dr) A_law fd_law (fbodyL [24]) := isDef_of g (o := ob819 w.params) (by kernel_rfl) (by kernel_rfl) (by kernel_rfl) (by kernel_rfl) (by kernel_rfl)
end
end Mine
namespace Mine
theorem perm_step {cs cs' r : List Chunk} {c : Chunk} (f : Foc cs c r) (p : r.Perm cs') : cs.Perm (c :: cs') := f.perm.trans (p.cons c)
local macro_rules | `(tactic| walk_at "foc") => `(tactic| first | with_reducible exact Foc.here _ _ | (apply Foc.there; walk_at "foc"))
local macro_rules | `(tactic| walk_at "has") => `(tactic| first | with_reducible exact Has.here _ _ | assumption | (refine Has.there _ ?_; walk_at "has"))
local macro_rules | `(tactic| walk_at "rep") => `(tactic| first | with_reducible exact Rep.here _ _ _ | assumption | (apply Rep.there; walk_at "rep"))
local macro_rules | `(tactic| walk_at "perm") => `(tactic| first | with_reducible exact List.Perm.refl _ | (refine perm_step (by walk_at "foc") ?_; walk_at "perm"))
section
variable {b : Base} {G : Array GenState} {cs cs' r : List Chunk} {c : Chunk} {s : Shared} {a a' : Addr} {φ ψ : Obj → Prop}
theorem Ok.ne (h : Ok b G (pt a φ :: cs) s) (f : Has cs (pt a' ψ)) : a ≠ a' := by
  have nd := h.st.nodup
  simp only [pt, List.flatten_cons, List.cons_append, List.nil_append, List.map_cons, List.nodup_cons] at nd
  intro e
  exact nd.1 (List.mem_map.mpr ⟨(a', ψ), f.mem (by simp [pt]), e.symm⟩)
theorem d_ne {ks ks' : List (Int × Addr)} {ep ep' : Nat} (h : Ok b G cs s) (f : Foc cs (di b a ks ep) r) (f' : Has r (di b a' ks' ep')) : a ≠ a' := (h.foc f).ne f'
end
section
variable {b : Base} {G : Array GenState} {cs cs' r : List Chunk} {s : Shared} {A : Around} {E : Value → Shared → Prop} {env : Env} {vars : List (Str × Value)} {cv : Cv} {t : Addr} {ps : List Value}
theorem Ok.ext {h' : Heap} {t : Nat} (h : Ok b G cs s) (he : Heap.ExtBut s.heap.objs.size s.heap h') : Ok b G cs { s with heap := h', toks := t } :=
  h.keeps fun x o e => he x o (Nat.ne_of_lt (Heap.lt_size e)) e
theorem u_tuple {n : Nat} {Q : List Value → Shared → Prop} (h : Ok b G cs s) (hh : HH b A) (f : Has cs (tu t ps)) (hn : n = ps.length) (k : ∀ us s', us.map untok = ps → Ok b G cs s' → Q us s') : wpAny b.M A (unpackItems (.ref t) n none) Q E s := by
  obtain ⟨vs, m, e, q⟩ := h.tup f
  have hl : n = vs.toArray.size := by rw [hn, ← q, List.length_map, List.size_toArray]
  rw [hl]
  exact tup_unpack (hh.at h) ⟨_, e, rfl, m, rfl⟩ fun h' he => k vs _ (by simpa using q) (h.ext (t := s.toks) he)
theorem sp_cons {e : PySem.Expr} {r : List PySem.Expr} {pos : Pos} {Q : List Value → Shared → Prop} (h : wpAny b.M A (eval e env) (fun v s₁ => wpAny b.M A (spliced (backTo pos (starEach r env))) (fun vs s₂ => Q (v :: vs) s₂) E s₁) E s) (hs : isStar e = false := by rfl) :
    wpAny b.M A (spliced (backTo pos (starEach (e :: r) env))) Q E s := by
  rw [starEach_cons hs, backTo_cons]
  exact Calls.spliced_cons h
theorem sp_nil {pos : Pos} {Q : List Value → Shared → Prop} (h : Q [] s) : wpAny b.M A (spliced (backTo pos (starEach [] env))) Q E s := Calls.spliced_nil h
theorem x_tuple {elts : List PySem.Expr} {kk : Nat} {pos : Pos} {Q : Value → Shared → Prop} (h : wpAny b.M A (spliced (backTo pos (starEach elts env))) (fun vs s₁ => ∃ cs' ps, vs.map untok = ps ∧ ps.length ≤ 1000 ∧ Ok b G cs' s₁ ∧ ∀ t s', Ok b G (tu t ps :: cs') s' → Q (.ref t) s') E s) :
    wpAny b.M A (eval (.Tuple elts kk pos) env) Q E s := by
  refine wpAny_Tuple (wpAny_mono h (fun vs s₁ ⟨cs', ps, hv, hl, h₁, k⟩ => ⟨?_, k _ _ (t_new' (t := s₁.toks) h₁ hv)⟩) fun _ _ e => e)
  rw [← List.length_map (f := untok), hv]; exact Nat.le_trans hl (by decide)
theorem x_list {elts : List PySem.Expr} {pos : Pos} {Q : Value → Shared → Prop} (h : wpAny b.M A (spliced (backTo pos (starEach elts env))) (fun vs s₁ => ∃ cs' ps, vs.map untok = ps ∧ ps.length ≤ 1000 ∧ Ok b G cs' s₁ ∧ ∀ t s', Ok b G (li t ps :: cs') s' → Q (.ref t) s') E s) :
    wpAny b.M A (eval (.List elts pos) env) Q E s := by
  refine wpAny_List (wpAny_mono h (fun vs s₁ ⟨cs', ps, hv, hl, h₁, k⟩ => ⟨?_, k _ _ (l_new' (t := s₁.toks) h₁ hv)⟩) fun _ _ e => e)
  rw [← List.length_map (f := untok), hv]; exact Nat.le_trans hl (by decide)
theorem x_tupleP (ps : List Value) {elts : List PySem.Expr} {kk : Nat} {pos : Pos} {Q : Value → Shared → Prop} (h : Ok b G (fr env vars cv :: cs) s) (I : In b env) (q : (evs env b.gl vars cv elts, ps.length.ble 1000) = (some ps, true))
    (k : ∀ t s', Ok b G (fr env vars cv :: tu t ps :: cs) s' → Q (.ref t) s') : wpAny b.M A (eval (.Tuple elts kk pos) env) Q E s :=
  x_tuple (spliced_ev elts h I (Prod.mk.inj q).1 fun us s' hu h' => ⟨_, ps, hu, Nat.le_of_ble_eq_true (Prod.mk.inj q).2, h', fun t s'' h'' => k t s'' h''.swap⟩)
theorem x_listP (ps : List Value) {elts : List PySem.Expr} {pos : Pos} {Q : Value → Shared → Prop} (h : Ok b G (fr env vars cv :: cs) s) (I : In b env) (q : (evs env b.gl vars cv elts, ps.length.ble 1000) = (some ps, true))
    (k : ∀ t s', Ok b G (fr env vars cv :: li t ps :: cs) s' → Q (.ref t) s') : wpAny b.M A (eval (.List elts pos) env) Q E s :=
  x_list (spliced_ev elts h I (Prod.mk.inj q).1 fun us s' hu h' => ⟨_, ps, hu, Nat.le_of_ble_eq_true (Prod.mk.inj q).2, h', fun t s'' h'' => k t s'' h''.swap⟩)
theorem x_item (l : Addr) (j : Int) (p : Value) {ps : List Value} {o e : PySem.Expr} {pos : Pos} {Q : Value → Shared → Prop} (h : Ok b G (fr env vars cv :: cs) s) (I : In b env) (q : (ev env b.gl vars cv 9 o, ev env b.gl vars cv 9 e) = (some (.ref l), some (.int j 0)))
    (f : Has (fr env vars cv :: cs) (li l ps)) (h0 : 0 ≤ j) (hj : j < 2 ^ 63) (hp : ps[j.toNat]? = some p) (k : ∀ v s', untok v = p → Ok b G (fr env vars cv :: cs) s' → Q v s')
    (hs : ∀ t, subscripted e false (.ref l) (.int j t) = operate [.ref l, .int j t] (getItem (.ref l) (.int j t)) := by intro t; with_unfolding_all rfl) : wpAny b.M A (eval (.Subscript o e pos) env) Q E s := by
  obtain ⟨q1, q2⟩ := Prod.mk.inj q
  exact PyProof.Rows.Subscript_ (x_ref l h I q1 fun s1 h1 => x_int j h1 I q2 fun t s2 h2 => l_item p h2 f h0 hj hp (fun v hv => k v s2 hv h2) (hs t))
theorem x_iadd (i j : Int) {x : Str} {px pos : Pos} {e : PySem.Expr} {Q : Flow → Shared → Prop} (h : Ok b G (fr env vars cv :: cs) s) (I : In b env) (q : (evName env b.gl vars cv x, ev env b.gl vars cv 9 e, env.scope.names.lookup x) = (some (.int i 0), some (.int j 0), some .local))
    (k : ∀ s', Ok b G (fr env (put vars x (.int (i + j) 0)) cv :: cs) s' → Q .next s') : wpAny b.M A (exec (.AugAssign (.Name x px) .Add e pos) env) Q E s := by
  simp only [Prod.mk.injEq] at q
  obtain ⟨q1, q2, q3⟩ := q
  refine wpAny_AugAssign_Name (get_name h I q1 fun u hu => x_int j h I q2 fun t s' h' => ?_).1
  obtain ⟨t', rfl⟩ := untok_int hu
  exact PyProof.Rows.iadd_int (st_local (h'.toks _) I rfl q3 fun s'' h'' => k s'' h'')
theorem x_isub (i j : Int) {x : Str} {px pos : Pos} {e : PySem.Expr} {Q : Flow → Shared → Prop} (h : Ok b G (fr env vars cv :: cs) s) (I : In b env) (q : (evName env b.gl vars cv x, ev env b.gl vars cv 9 e, env.scope.names.lookup x) = (some (.int i 0), some (.int j 0), some .local))
    (k : ∀ s', Ok b G (fr env (put vars x (.int (i - j) 0)) cv :: cs) s' → Q .next s') : wpAny b.M A (exec (.AugAssign (.Name x px) .Sub e pos) env) Q E s := by
  simp only [Prod.mk.injEq] at q
  obtain ⟨q1, q2, q3⟩ := q
  refine wpAny_AugAssign_Name (get_name h I q1 fun u hu => x_int j h I q2 fun t s' h' => ?_).1
  obtain ⟨t', rfl⟩ := untok_int hu
  exact PyProof.Rows.isub_int (st_local (h'.toks _) I rfl q3 fun s'' h'' => k s'' h'')
theorem x_neg (i : Int) {e : PySem.Expr} {pos : Pos} {Q : Value → Shared → Prop} (h : Ok b G (fr env vars cv :: cs) s) (I : In b env) (q : ev env b.gl vars cv 9 e = some (.int i 0)) (k : ∀ t s', Ok b G (fr env vars cv :: cs) s' → Q (.int (-i) t) s') :
    wpAny b.M A (eval (.UnaryOp .USub e pos) env) Q E s :=
  PyProof.Rows.UnaryOp_ (x_int i h I q fun t s' h' => PyProof.Rows.neg_int (k _ _ (h'.toks _)))
theorem l_pop {l : Addr} {p : Value} {Q : Value → Shared → Prop} (h : Ok b G cs s) (f : Rep cs (li l (ps ++ [p])) (li l ps) cs') (hz : ps.length + 1 ≤ sizeLine) (k : ∀ v s', untok v = p → Ok b G cs' s' → Q v s') : wpAny b.M A (call (.builtin "list.pop") [.ref l]) Q E s := by
  obtain ⟨r, p1, p'⟩ := f.split
  obtain ⟨o, e, vs, n, rfl, q⟩ := (h.perm p1).st.get
  have hlen : vs.length = ps.length + 1 := by rw [← List.length_map (f := untok), q]; simp
  obtain ⟨v, us, rfl⟩ : ∃ v us, vs = us ++ [v] := by
    rcases List.eq_nil_or_concat vs with h0 | ⟨us, v, h0⟩
    · rw [h0] at hlen; simp at hlen
    · exact ⟨v, us, h0.trans (by simp)⟩
  rw [List.map_append] at q
  have hl : us.length = ps.length := by simpa using hlen
  obtain ⟨hq1, hq2⟩ := List.append_inj q (by rw [List.length_map]; exact hl)
  have hv : untok v = p := by simpa using hq2
  have hsz : (us ++ [v]).toArray.size = us.length + 1 := by simp
  refine call_meets PySem.F.slot_list_pop ⟨_, e, rfl⟩ PySem.F.entry_list_pop (PySem.F.args_list_pop_1 _) (PySem.MeetsSeq.list_pop_last l (us ++ [v]).toArray n v (by rw [hsz]; simp) (by rw [hsz, hl]; exact hz)) ⟨e, ?_⟩
  refine k v _ hv (h.rep (t := s.toks) f (Heap.SameBut.update ..) ?_)
  refine ⟨_, Heap.get?_update_self _ e rfl, us, ?_⟩
  rw [hsz]
  simp only [Obj.mapSeq]
  refine ⟨?_, ?_, hq1⟩
  · exact (if ((us ++ [v]).toArray.eraseIdxIfInBounds (us.length + 1 - 1)).size = (us ++ [v]).toArray.size then n else n + 1)
  · simp
    rw [List.eraseIdx_append_of_length_le (Nat.le_refl _)]; simp
theorem x_swap2 {x y : Str} {e₁ e₂ : PySem.Expr} {k1 k2 : Nat} {px py tpos vpos pos : Pos} {Q : Flow → Shared → Prop} (I : In b env) (hh : HH b A)
    (hx : (env.scope.names.lookup x, env.scope.names.lookup y) = (some .local, some .local))
    (hw : swappedStores [.Tuple [.Name x px, .Name y py] k1 tpos] (.Tuple [e₁, e₂] k2 vpos) env = pure (some [x, y]))
    (h : wpAny b.M A (spliced (backTo vpos (starEach [e₁, e₂] env))) (fun vs s₁ => ∃ vars' cs' p₁ p₂, vs.map untok = [p₁, p₂] ∧ Ok b G (fr env vars' cv :: cs') s₁ ∧ ∀ t s', Ok b G (fr env (put (put vars' y p₂) x p₁) cv :: tu t [p₁, p₂] :: cs') s' → Q .next s') E s)
    (hs : swapsWithSole [.Tuple [.Name x px, .Name y py] k1 tpos] (.Tuple [e₁, e₂] k2 vpos) pos.line env = pure false := by with_unfolding_all rfl) :
    wpAny b.M A (exec (.Assign [.Tuple [.Name x px, .Name y py] k1 tpos] (.Tuple [e₁, e₂] k2 vpos) pos) env) Q E s := by
  obtain ⟨hx1, hx2⟩ := Prod.mk.inj hx
  refine PyProof.Rows.Assign_Tuple_swapped (names := [x, y]) (x_tuple (wpAny_mono h (fun vs s₁ ⟨vars', cs', p₁, p₂, hv, h₁, k⟩ => ⟨_, [p₁, p₂], hv, by simp, h₁, fun t s' h' => ?_⟩) fun _ _ e => e)) hs hw
  refine u_tuple h' hh (.here _ _) rfl fun us s'' hu h'' => ?_
  obtain ⟨v, u, rfl, h1, h2⟩ := args2 hu
  show wpAny _ _ (assignInOrder [bindName env y, bindName env x] [u, v]) _ _ _
  refine wpAny_assignInOrder_more (wpAny_bindName (st_local h''.swap I h2 hx2 fun s3 h3 => ?_))
  refine wpAny_assignInOrder_more (wpAny_bindName (st_local h3 I h1 hx1 fun s4 h4 => ?_))
  exact wpAny_assignInOrder_none (k t s4 h4)
theorem x_swap2P (p₁ p₂ : Value) {x y : Str} {e₁ e₂ : PySem.Expr} {k1 k2 : Nat} {px py tpos vpos pos : Pos} {Q : Flow → Shared → Prop} (h : Ok b G (fr env vars cv :: cs) s) (I : In b env) (hh : HH b A)
    (hx : (env.scope.names.lookup x, env.scope.names.lookup y, evs env b.gl vars cv [e₁, e₂]) = (some .local, some .local, some [p₁, p₂]))
    (hw : swappedStores [.Tuple [.Name x px, .Name y py] k1 tpos] (.Tuple [e₁, e₂] k2 vpos) env = pure (some [x, y]))
    (k : ∀ s', Ok b G (fr env (put (put vars y p₂) x p₁) cv :: cs) s' → Q .next s')
    (hs : swapsWithSole [.Tuple [.Name x px, .Name y py] k1 tpos] (.Tuple [e₁, e₂] k2 vpos) pos.line env = pure false := by with_unfolding_all rfl) :
    wpAny b.M A (exec (.Assign [.Tuple [.Name x px, .Name y py] k1 tpos] (.Tuple [e₁, e₂] k2 vpos) pos) env) Q E s := by
  simp only [Prod.mk.injEq] at hx
  obtain ⟨hx1, hx2, q⟩ := hx
  refine x_swap2 I hh (by rw [hx1, hx2]) hw (spliced_ev _ h I q fun us s' hu h' => ⟨vars, cs, p₁, p₂, hu, h', fun t s'' h'' => k s'' h''.drop1⟩) hs
theorem u_two {x y : Str} {px py tpos : Pos} {kk : Nat} {p₁ p₂ : Value} {Q : Unit → Shared → Prop} (h : Ok b G (fr env vars cv :: cs) s) (I : In b env) (hh : HH b A) (f : Has cs (tu t [p₁, p₂]))
    (hx : (env.scope.names.lookup x, env.scope.names.lookup y) = (some .local, some .local)) (k : ∀ s', Ok b G (fr env (put (put vars x p₁) y p₂) cv :: cs) s' → Q () s') :
    wpAny b.M A (assign (.Tuple [.Name x px, .Name y py] kk tpos) env (.ref t)) Q E s := by
  obtain ⟨hx1, hx2⟩ := Prod.mk.inj hx
  obtain ⟨vs, m, e, q⟩ := h.tup (.there _ f)
  obtain ⟨v, u, rfl, h1, h2⟩ := args2 q
  refine tup_assign (hh.at h) ⟨_, e, rfl, m, rfl⟩ rfl rfl fun h' he => ?_
  refine wpAny_assignInOrder_more (wpAny_assign_Name (st_local (h.ext (t := s.toks) he) I h1 hx1 fun s3 h3 => ?_))
  refine wpAny_assignInOrder_more (wpAny_assign_Name (st_local h3 I h2 hx2 fun s4 h4 => ?_))
  exact wpAny_assignInOrder_none (k s4 h4)
theorem u_three {x y z : Str} {px py pz tpos : Pos} {kk : Nat} {p₁ p₂ p₃ : Value} {Q : Unit → Shared → Prop} (h : Ok b G (fr env vars cv :: cs) s) (I : In b env) (hh : HH b A) (f : Has cs (tu t [p₁, p₂, p₃]))
    (hx : (env.scope.names.lookup x, env.scope.names.lookup y, env.scope.names.lookup z) = (some .local, some .local, some .local)) (k : ∀ s', Ok b G (fr env (put (put (put vars x p₁) y p₂) z p₃) cv :: cs) s' → Q () s') :
    wpAny b.M A (assign (.Tuple [.Name x px, .Name y py, .Name z pz] kk tpos) env (.ref t)) Q E s := by
  simp only [Prod.mk.injEq] at hx
  obtain ⟨hx1, hx2, hx3⟩ := hx
  obtain ⟨vs, m, e, q⟩ := h.tup (.there _ f)
  obtain ⟨v, u, ww, rfl, h1, h2, h3'⟩ := args3 q
  refine tup_assign (hh.at h) ⟨_, e, rfl, m, rfl⟩ rfl rfl fun h' he => ?_
  refine wpAny_assignInOrder_more (wpAny_assign_Name (st_local (h.ext (t := s.toks) he) I h1 hx1 fun s3 h3 => ?_))
  refine wpAny_assignInOrder_more (wpAny_assign_Name (st_local h3 I h2 hx2 fun s4 h4 => ?_))
  refine wpAny_assignInOrder_more (wpAny_assign_Name (st_local h4 I h3' hx3 fun s5 h5 => ?_))
  exact wpAny_assignInOrder_none (k s5 h5)
theorem x_put (l : Addr) (j : Int) {ps : List Value} {o e value : PySem.Expr} {pos pos' : Pos} {Q : Flow → Shared → Prop} (I : In b env) (h0 : 0 ≤ j) (hl : j < ps.length) (hj : j < 2 ^ 63)
    (h : wpAny b.M A (eval value env) (fun v s₁ => ∃ vars₁ p cs₁ cs₂, untok v = p ∧ Ok b G (fr env vars₁ cv :: cs₁) s₁ ∧ (ev env b.gl vars₁ cv 9 o, ev env b.gl vars₁ cv 9 e) = (some (.ref l), some (.int j 0)) ∧
      Rep cs₁ (li l ps) (li l (ps.set j.toNat p)) cs₂ ∧ ∀ s', Ok b G (fr env vars₁ cv :: cs₂) s' → Q .next s') E s)
    (hs : swapsWith value (some (.Subscript o e pos')) pos.line env = pure false := by with_unfolding_all rfl) : wpAny b.M A (exec (.Assign [.Subscript o e pos'] value pos) env) Q E s := by
  refine wpAny_Assign_Subscript (wpAny_mono h (fun v s₁ ⟨vars₁, p, cs₁, cs₂, hv, h₁, q, f, k⟩ => ?_) fun _ _ e => e) hs
  obtain ⟨q1, q2⟩ := Prod.mk.inj q
  exact x_ref l h₁ I q1 fun s1 h1 => x_int j h1 I q2 fun t s2 h2 => l_put h2 hv (f.there _) h0 hl hj fun s3 h3 => k s3 h3
end
end Mine
namespace Mine
def plainF : Frame → Bool
  | .ret _ none false _ _ _ _ => true
  | _ => false
theorem marks_plain {fs : List Frame} (h : fs.all plainF = true) {x : Option Value × Option Value} : marksOver fs x = x := by
  induction fs with
  | nil => rfl
  | cons F fs ih =>
    rw [List.all_cons, Bool.and_eq_true] at h
    show F.marks (marksOver fs x) = _
    rw [ih h.2]
    obtain ⟨h1, _⟩ := h
    cases F with
    | gen => cases h1
    | ret k hd g l c p kp => cases hd <;> cases g <;> first | rfl | cases h1
theorem split_plain {fs : List Frame} (h : fs.all plainF = true) : splitAtGen fs = none := by
  induction fs with
  | nil => rfl
  | cons F fs ih =>
    rw [List.all_cons, Bool.and_eq_true] at h
    cases F with
    | gen => cases h.1
    | ret k hd g l c p kp => simp only [splitAtGen, ih h.2, Option.map_none]
theorem guard_plain {fs : List Frame} (h : fs.all plainF = true) : fs.any Frame.guarded = false := by
  induction fs with
  | nil => rfl
  | cons F fs ih =>
    rw [List.all_cons, Bool.and_eq_true] at h
    rw [List.any_cons, ih h.2, Bool.or_false]
    obtain ⟨h1, _⟩ := h
    cases F with
    | gen => cases h1
    | ret k hd g l c p kp => cases hd <;> cases g <;> first | rfl | cases h1
def wt (c : Code) (fs : List Frame) : Nat × Nat := (frameCount (fs.map Frame.where_) + c.weight, unitsOf (fs.map Frame.where_) + c.cUnits)
theorem HH.of {b : Base} {A A' : Around} (H : HH b A) (e : A'.handled = A.handled) : HH b A' := by unfold HH; rw [e]; exact H
theorem over_fit {b : Base} {A : Around} {d u x y : Nat} {c : Code} {fs : List Frame} (F : Fit b A (d + x) (u + y)) (h : fs.all plainF = true) (hw : wt c fs = (x, y)) : Fit b (A.over c fs) d u := by
  have h1 := F.handled
  have h2 := F.depth
  have h3 := F.units
  obtain ⟨w1, w2⟩ := Prod.mk.inj hw
  refine ⟨h1.of ?_, ?_, ?_⟩
  · show (marksOver fs (A.handled, A.handled)).1 = A.handled
    rw [marks_plain h]
  · show A.depth + frameCount (fs.map Frame.where_) + c.weight + d < recursionLimit
    omega
  · show A.units + unitsOf (fs.map Frame.where_) + c.cUnits + u < cLine
    omega
section
variable {M : Model} {A : Around} {R : GenEnd} {Y : Protocol} {n : Nat} {s₀ : Shared} {c : Code} {fs : List Frame} {s : Shared} {env : Env} {K : Flow → Sem Fin} {H : Value → Sem Fin} {gd : Bool → Bool} {lv : List Value → List Value}
theorem seg_stmt {st : Stmt} (h : wpAny M (A.over c fs) (exec st env) (fun f s' => Seg M A R Y n s₀ c (K f) fs s') (fun x s' => Seg M A R Y n s₀ c (H x) fs s') s) : Seg M A R Y n s₀ c ((exec st env).wrap K H gd lv) fs s := seg_wrap h
theorem seg_If {test : PySem.Expr} {body orelse : List Stmt} {pos : Pos}
    (h : wpAny M (A.over c fs) (isTrue test env (eval test env)) (fun t s' => Seg M A R Y n s₀ c ((execs (if t then body else orelse) env).wrap K H gd lv) fs s') (fun x s' => Seg M A R Y n s₀ c (H x) fs s') s) :
    Seg M A R Y n s₀ c ((exec (.If test body orelse pos) env).wrap K H gd lv) fs s := by
  rw [exec_If]
  refine seg_bind_wrap (wpAny_standAt (seg_bind_wrap (wpAny_mono h (fun t s' h' => ?_) fun _ _ e => e)))
  cases t <;> exact h'
theorem seg_For {target iter : PySem.Expr} {body orelse : List Stmt} {pos : Pos}
    (h : wpAny M (A.over c fs) (eval iter env) (fun x s₁ => wpAny M (A.over c fs) (pyIter x) (fun it s₂ => ∀ p, Seg M A R Y n s₀ (.forLoop target it body orelse env) (M.den (.forLoop target it body orelse env))
      (.ret (fun r => ((match r with | .ok f => (.pure f : Sem Flow) | .error e => .raise e).onRaise fun (x : Value) => do
        if (← field x 1) == Value.none then unsupported "frame.own-activation:exception-without-traceback"
        setFlight x env.frame).wrap K H gd lv) none (gd false) (lv []) c p [] :: fs) s₂) (fun x s' => Seg M A R Y n s₀ c (H x) fs s') s₁) (fun x s' => Seg M A R Y n s₀ c (H x) fs s') s)
    (hs : ∀ x, foldedSetIterable iter env x = pure x := by intro _; rfl) :
    Seg M A R Y n s₀ c ((exec (.For target iter body orelse pos) env).wrap K H gd lv) fs s := by
  rw [exec_For]
  refine seg_bind_wrap (wpAny_standAt (seg_bind_wrap (wpAny_mono h (fun x s₁ h₁ => ?_) fun _ _ e => e)))
  rw [hs]
  refine seg_bind_wrap (wpAny_pure (seg_bind_wrap (wpAny_standAt (seg_bind_wrap (wpAny_holding (wpAny_mono h₁ (fun it s₂ h₂ => ?_) fun _ _ e => e))))))
  exact seg_call h₂
end
section
variable {prog : Program} {w : World} {A : Around} {R : GenEnd} {Y : Protocol} {n : Nat} {s₀ : Shared} {fs : List Frame} {s : Shared} {env : Env}
def noteH (env : Env) : Value → Sem Fin := fun e => (do noteFrame e env; theTreesLotGoes e : Sem Unit).wrap (fun _ => .raise e) .raise id id
def loopK (c : Code) : Flow → Sem Fin := fun f => match f with
  | .next | .cont => .pure (.again c)
  | .brk => .pure (.done .next)
  | .ret v => .pure (.done (.ret v))
theorem seg_block {body : List Stmt} (h : Seg (model prog w) A R Y n s₀ (.block body env) ((execs body env).wrap (fun f => .pure (.done f)) (noteH env) id id) fs s) :
    Seg (model prog w) A R Y n s₀ (.block body env) ((model prog w).den (.block body env)) fs s := by
  show Seg _ A R Y n s₀ _ (((execs body env).onRaise (fun x => do noteFrame x env; theTreesLotGoes x)) >>= _) fs s
  rw [Sem.onRaise_eq_wrap, Sem.bind_eq_wrap', Sem.wrap_wrap]
  rw [Sem.wrap_congr (execs body env) _ _ (K' := fun f => (.pure (.done f) : Sem Fin)) (H' := noteH env) (fun f => by rfl)
    (fun e => by
      show Sem.wrap _ _ _ _ ((do noteFrame e env; theTreesLotGoes e : Sem Unit).bind fun _ => .raise e) = _
      rw [Sem.bind_eq_wrap, Sem.wrap_wrap]; rfl)]
  exact h
theorem seg_forLoop {target : PySem.Expr} {it : Value} {body orelse : List Stmt}
    (h : wpAny (model prog w) (A.over (.forLoop target it body orelse env) fs) (pyNext it) (fun r s' => match r with
        | none => Seg (model prog w) A R Y n s₀ (.block orelse env) ((execs orelse env).wrap (fun f => .pure (.done f)) (noteH env) id id) fs s'
        | some v => wpAny (model prog w) (A.over (.forLoop target it body orelse env) fs) (assign target env v) (fun _ s'' => Seg (model prog w) A R Y n s₀ (.forLoop target it body orelse env) ((execs body env).wrap (loopK (.forLoop target it body orelse env)) (noteH env) id id) fs s'')
            (fun x s'' => Seg (model prog w) A R Y n s₀ (.forLoop target it body orelse env) (noteH env x) fs s'') s')
      (fun x s' => Seg (model prog w) A R Y n s₀ (.forLoop target it body orelse env) (noteH env x) fs s') s)
    (ht : ∀ v, letOwnedTupleGo target it v = pure () := by intro _; rfl) :
    Seg (model prog w) A R Y n s₀ (.forLoop target it body orelse env) ((model prog w).den (.forLoop target it body orelse env)) fs s := by
  show Seg _ A R Y n s₀ _ ((forTurn target it body orelse env).onRaise (fun x => do noteFrame x env; theTreesLotGoes x)) fs s
  unfold forTurn
  have hH : ∀ e : Value, ((do noteFrame e env; theTreesLotGoes e : Sem Unit).bind fun _ => (.raise e : Sem Fin)) = noteH env e := fun e => by rw [Sem.bind_eq_wrap]; rfl
  rw [Sem.onRaise_eq_wrap]
  rw [Sem.wrap_congr _ _ _ (K' := .pure) (H' := noteH env) (fun _ => rfl) hH]
  refine seg_bind_wrap (wpAny_standAt (seg_bind_wrap (wpAny_onRaise (wpAny_mono h (fun r s' h' => ?_) fun x s' h' => wpAny_standAt h'))))
  cases r with
  | none => exact seg_again rfl (seg_block h')
  | some v =>
    refine seg_bind_wrap ?_
    rw [ht v]
    refine wpAny_pure (seg_bind_wrap (wpAny_mono h' (fun _ s'' h'' => ?_) fun _ _ e => e))
    rw [Sem.bind_eq_wrap', Sem.wrap_wrap]
    rw [Sem.wrap_congr (execs body env) _ _ (K' := loopK (.forLoop target it body orelse env)) (H' := noteH env) (fun f => by cases f <;> rfl) (fun e => by rfl)]
    exact h''
end
end Mine
namespace Mine
local macro_rules | `(tactic| walk_at "foc") => `(tactic| first | with_reducible exact Foc.here _ _ | (apply Foc.there; walk_at "foc"))
local macro_rules | `(tactic| walk_at "has") => `(tactic| first | with_reducible exact Has.here _ _ | assumption | (refine Has.there _ ?_; walk_at "has"))
local macro_rules | `(tactic| walk_at "rep") => `(tactic| first | with_reducible exact Rep.here _ _ _ | assumption | (apply Rep.there; walk_at "rep"))
local macro_rules | `(tactic| walk_at "perm") => `(tactic| first | with_reducible exact List.Perm.refl _ | (refine perm_step (by walk_at "foc") ?_; walk_at "perm"))
theorem Has.app_left {l cs : List Chunk} {c : Chunk} (h : Has l c) : Has (l ++ cs) c := by
  induction h with
  | here => exact .here _ _
  | there d _ ih => exact .there d ih
theorem Has.app_right {l cs : List Chunk} {c : Chunk} (h : Has cs c) : Has (l ++ cs) c := by
  induction l with
  | nil => exact h
  | cons d l ih => exact .there d ih
theorem Rep.app_left {l l' cs : List Chunk} {c c' : Chunk} (h : Rep l c c' l') : Rep (l ++ cs) c c' (l' ++ cs) := by
  induction h with
  | here => exact .here _ _ _
  | there d _ ih => exact .there d ih
theorem Rep.app_right {l cs cs' : List Chunk} {c c' : Chunk} (h : Rep cs c c' cs') : Rep (l ++ cs) c c' (l ++ cs') := by
  induction l with
  | nil => exact h
  | cons d l ih => exact .there d ih
theorem Has.map {α : Type} {f : α → Chunk} {l : List α} {x : α} (h : x ∈ l) : Has (l.map f) (f x) := by
  induction h with
  | head => exact .here _ _
  | tail d _ ih => exact .there _ ih
theorem Rep.map {α : Type} {f : α → Chunk} {l₁ l₂ : List α} {x x' : α} : Rep ((l₁ ++ x :: l₂).map f) (f x) (f x') ((l₁ ++ x' :: l₂).map f) := by
  rw [List.map_append, List.map_append]
  exact Rep.app_right (.here _ _ _)
structure Row where
  key : Int
  at_ : Addr
  ks : List (Int × Addr)
  ep : Nat
structure GS where
  x : Addr
  gd : Addr
  ga : Addr
  na : Addr
  aa : Addr
  eg : Nat
  en : Nat
  ea : Nat
  nodes : List (Int × Addr)
  rows : List Row
  pool : List (Addr × Nat)
  pa : Addr
  eq : Nat
  prows : List Row
def rowsC (b : Base) (rs : List Row) : List Chunk := rs.map fun r => di b r.at_ r.ks r.ep
def poolC (b : Base) (ps : List (Addr × Nat)) : List Chunk := ps.map fun p => di b p.1 [] p.2
def adjL (rs : List Row) : List (Int × Addr) := rs.map fun r => (r.key, r.at_)
def absR (rs : List Row) : List (Int × List Int) := rs.map fun r => (r.key, r.ks.map (·.1))
def gU (b : Base) (C : Addr) (g : GS) : List Chunk :=
  ins g.x C g.gd :: idc b g.gd [("graph", g.ga), ("_node", g.na), ("_adj", g.aa)] :: di b g.ga [] g.eg :: di b g.na g.nodes g.en :: di b g.aa (adjL g.rows) g.ea :: (rowsC b g.rows ++ poolC b g.pool)
def gD (b : Base) (C : Addr) (g : GS) : List Chunk :=
  ins g.x C g.gd :: idc b g.gd [("graph", g.ga), ("_node", g.na), ("_adj", g.aa), ("_succ", g.aa), ("_pred", g.pa)] :: di b g.ga [] g.eg :: di b g.na g.nodes g.en :: di b g.aa (adjL g.rows) g.ea :: di b g.pa (adjL g.prows) g.eq :: (rowsC b g.rows ++ (rowsC b g.prows ++ poolC b g.pool))
structure GS.OkD (g : GS) : Prop where
  keys : g.nodes.map (·.1) = g.rows.map (·.key)
  pkeys : g.prows.map (·.key) = g.rows.map (·.key)
  nodes : ∀ p ∈ g.nodes, ∃ e, (p.2, e) ∈ g.pool
  rows : ∀ r ∈ g.rows, ∀ p ∈ r.ks, ∃ e, (p.2, e) ∈ g.pool
  prows : ∀ r ∈ g.prows, ∀ p ∈ r.ks, ∃ e, (p.2, e) ∈ g.pool
structure GS.Ok (g : GS) : Prop where
  keys : g.nodes.map (·.1) = g.rows.map (·.key)
  nodes : ∀ p ∈ g.nodes, ∃ e, (p.2, e) ∈ g.pool
  rows : ∀ r ∈ g.rows, ∀ p ∈ r.ks, ∃ e, (p.2, e) ∈ g.pool
def addN (xs : List Int) (v : Int) : List Int := if xs.contains v then xs else xs ++ [v]
def updA (gm : List (Int × List Int)) (k : Int) (v : Int) : List (Int × List Int) := gm.map fun p => if p.1 == k then (p.1, addN p.2 v) else p
theorem lookup_of_mem {α : Type} : ∀ {ks : List (Int × α)} {k : Int} {a : α}, (ks.map (·.1)).Nodup → (k, a) ∈ ks → ks.lookup k = some a
  | (k', a') :: r, k, a, nd, h => by
    rw [List.lookup_cons]
    rw [List.map_cons, List.nodup_cons] at nd
    rcases List.mem_cons.mp h with e | h
    · cases e; simp
    · have hne : k ≠ k' := fun e => nd.1 (e ▸ List.mem_map.mpr ⟨_, h, rfl⟩)
      rw [beq_eq_false_iff_ne.mpr hne]
      exact lookup_of_mem nd.2 h
theorem mem_of_look {α : Type} : ∀ {ks : List (Int × α)} {k : Int} {a : α}, ks.lookup k = some a → (k, a) ∈ ks
  | (k', a') :: r, k, a, h => by
    rw [List.lookup_cons] at h
    by_cases e : k = k'
    · subst e; simp only [beq_self_eq_true] at h; cases h; exact List.mem_cons_self
    · rw [beq_eq_false_iff_ne.mpr e] at h
      exact List.mem_cons_of_mem _ (mem_of_look h)
theorem look_some_iff {α : Type} {ks : List (Int × α)} {k : Int} : (ks.lookup k).isSome = (ks.map (·.1)).contains k := by
  induction ks with
  | nil => rfl
  | cons p r ih =>
    obtain ⟨k', a⟩ := p
    rw [List.lookup_cons, List.map_cons, List.contains_cons]
    cases k == k' <;> simp [ih]
theorem sto_keys (ks : List (Int × Addr)) (k : Int) (a : Addr) : (sto ks k a).map (·.1) = addN (ks.map (·.1)) k := by
  unfold sto addN
  have e : ks.any (fun p => p.1 == k) = (ks.map (·.1)).contains k := by
    rw [List.contains_eq_any_beq, List.any_map]
    congr 1; funext p
    simp only [Function.comp]
    by_cases e : p.1 = k
    · simp [e]
    · rw [beq_eq_false_iff_ne.mpr e, beq_eq_false_iff_ne.mpr fun q => e q.symm]
  rw [e]
  split
  · rw [List.map_map]
    refine List.map_congr_left fun p _ => ?_
    simp only [Function.comp]
    split <;> rfl
  · simp
theorem sto_mem {ks : List (Int × Addr)} {k : Int} {a : Addr} {p : Int × Addr} (h : p ∈ sto ks k a) : p ∈ ks ∨ p.2 = a := by
  unfold sto at h
  split at h
  · obtain ⟨q, hq, rfl⟩ := List.mem_map.mp h
    split
    · exact .inr rfl
    · exact .inl hq
  · rcases List.mem_append.mp h with h | h
    · exact .inl h
    · rw [List.mem_singleton.mp h]; exact .inr rfl
theorem sto_len (ks : List (Int × Addr)) (k : Int) (a : Addr) : (sto ks k a).length ≤ ks.length + 1 := by
  unfold sto
  split <;> simp
theorem adj_keys (rs : List Row) : (adjL rs).map (·.1) = rs.map (·.key) := by unfold adjL; rw [List.map_map]; rfl
theorem abs_keys (rs : List Row) : (absR rs).map (·.1) = rs.map (·.key) := by unfold absR; rw [List.map_map]; rfl
theorem row_of {rs : List Row} {k : Int} (h : k ∈ rs.map (·.key)) : ∃ r, r ∈ rs ∧ r.key = k := List.mem_map.mp h
theorem row_look {rs : List Row} {r : Row} (nd : (rs.map (·.key)).Nodup) (h : r ∈ rs) : (adjL rs).lookup r.key = some r.at_ :=
  lookup_of_mem (by rw [adj_keys]; exact nd) (List.mem_map.mpr ⟨r, h, rfl⟩)
theorem upd_rows {l₁ l₂ : List Row} {r r' : Row} {v : Int} (nd : ((l₁ ++ r :: l₂).map (·.key)).Nodup) (hk : r'.key = r.key) (hv : r'.ks.map (·.1) = addN (r.ks.map (·.1)) v) : absR (l₁ ++ r' :: l₂) = updA (absR (l₁ ++ r :: l₂)) r.key v := by
  unfold updA absR
  rw [List.map_map, List.map_append, List.map_cons, List.map_append, List.map_cons]
  rw [List.map_append, List.map_cons, List.nodup_append, List.nodup_cons] at nd
  obtain ⟨-, ⟨n2, -⟩, n3⟩ := nd
  have h1 : ∀ q ∈ l₁, (q.key == r.key) = false := fun q hq => beq_eq_false_iff_ne.mpr (n3 _ (List.mem_map.mpr ⟨q, hq, rfl⟩) _ List.mem_cons_self)
  have h2 : ∀ q ∈ l₂, (q.key == r.key) = false := fun q hq => beq_eq_false_iff_ne.mpr fun e => n2 (e ▸ List.mem_map.mpr ⟨q, hq, rfl⟩)
  congr 1
  · exact List.map_congr_left fun q hq => by have := beq_eq_false_iff_ne.mp (h1 q hq); simp [this]
  · congr 1
    · simp [hk, hv]
    · exact List.map_congr_left fun q hq => by have := beq_eq_false_iff_ne.mp (h2 q hq); simp [this]
theorem upd_keys {l₁ l₂ : List Row} {r r' : Row} (hk : r'.key = r.key) : (l₁ ++ r' :: l₂).map (·.key) = (l₁ ++ r :: l₂).map (·.key) := by simp [hk]
theorem upd_adj {l₁ l₂ : List Row} {r r' : Row} (hk : r'.key = r.key) (ha : r'.at_ = r.at_) : adjL (l₁ ++ r' :: l₂) = adjL (l₁ ++ r :: l₂) := by unfold adjL; simp [hk, ha]
theorem Ok.tail {b : Base} {G : Array GenState} {s : Shared} (pre : List Chunk) {T T' : List Chunk} (h : Mine.Ok b G (pre ++ T) s) (p : T.Perm T') : Mine.Ok b G (pre ++ T') s := h.perm (List.Perm.append_left pre p)
theorem sto_new {ks : List (Int × Addr)} {k : Int} {a : Addr} (h : (ks.map (·.1)).contains k = false) : sto ks k a = ks ++ [(k, a)] := by
  unfold sto
  have e : ks.any (fun p => p.1 == k) = (ks.map (·.1)).contains k := by
    rw [List.contains_eq_any_beq, List.any_map]
    congr 1; funext p
    simp only [Function.comp]
    by_cases e : p.1 = k
    · simp [e]
    · rw [beq_eq_false_iff_ne.mpr e, beq_eq_false_iff_ne.mpr fun q => e q.symm]
  rw [e, h]; simp
theorem look_new {ks : List (Int × Addr)} {k : Int} {a : Addr} (h : (ks.map (·.1)).contains k = false) : (ks ++ [(k, a)]).lookup k = some a := by
  induction ks with
  | nil => simp
  | cons p r ih =>
    rw [List.map_cons, List.contains_cons, Bool.or_eq_false_iff] at h
    rw [List.cons_append, List.lookup_cons, h.1]
    exact ih h.2
abbrev intL (ns : List Int) : List Value := ns.map fun n => .int n 0
theorem tail_perm {b : Base} {rows : List Row} {pool : List (Addr × Nat)} {cs : List Chunk} (r : Row) (p : Addr × Nat) :
    (di b r.at_ r.ks r.ep :: di b p.1 [] p.2 :: ((rowsC b rows ++ poolC b pool) ++ cs)).Perm ((rowsC b (rows ++ [r]) ++ poolC b (pool ++ [p])) ++ cs) := by
  have e : (rowsC b (rows ++ [r]) ++ poolC b (pool ++ [p])) ++ cs = rowsC b rows ++ di b r.at_ r.ks r.ep :: (poolC b pool ++ di b p.1 [] p.2 :: cs) := by
    unfold rowsC poolC; simp
  rw [e]
  refine List.Perm.symm (List.perm_middle.trans (List.Perm.cons _ ?_))
  rw [← List.append_assoc]
  exact List.perm_middle
theorem tail_permD {b : Base} {rows prows : List Row} {pool : List (Addr × Nat)} {cs : List Chunk} (r q : Row) (p : Addr × Nat) :
    (di b r.at_ r.ks r.ep :: di b q.at_ q.ks q.ep :: di b p.1 [] p.2 :: ((rowsC b rows ++ (rowsC b prows ++ poolC b pool)) ++ cs)).Perm ((rowsC b (rows ++ [r]) ++ (rowsC b (prows ++ [q]) ++ poolC b (pool ++ [p]))) ++ cs) := by
  have e : (rowsC b (rows ++ [r]) ++ (rowsC b (prows ++ [q]) ++ poolC b (pool ++ [p]))) ++ cs = rowsC b rows ++ di b r.at_ r.ks r.ep :: (rowsC b prows ++ di b q.at_ q.ks q.ep :: (poolC b pool ++ di b p.1 [] p.2 :: cs)) := by
    unfold rowsC poolC; simp
  rw [e]
  refine List.Perm.symm (List.perm_middle.trans (List.Perm.cons _ ?_))
  rw [← List.append_assoc]
  refine List.perm_middle.trans (List.Perm.cons _ ?_)
  have e2 : (rowsC b rows ++ (rowsC b prows ++ poolC b pool)) ++ cs = (rowsC b rows ++ rowsC b prows ++ poolC b pool) ++ cs := by simp
  rw [e2, ← List.append_assoc]
  exact List.perm_middle
theorem has_row {b : Base} {rows : List Row} {ps cs : List Chunk} {r : Row} (h : r ∈ rows) : Has ((rowsC b rows ++ ps) ++ cs) (di b r.at_ r.ks r.ep) := .app_left (.app_left (Has.map (f := fun r : Row => di b r.at_ r.ks r.ep) h))
theorem has_pool {b : Base} {pool : List (Addr × Nat)} {rs cs : List Chunk} {p : Addr × Nat} (h : p ∈ pool) : Has ((rs ++ poolC b pool) ++ cs) (di b p.1 [] p.2) := .app_left (.app_right (Has.map (f := fun p : Addr × Nat => di b p.1 [] p.2) h))
theorem rep_row {b : Base} {l₁ l₂ : List Row} {ps cs : List Chunk} (r r' : Row) : Rep ((rowsC b (l₁ ++ r :: l₂) ++ ps) ++ cs) (di b r.at_ r.ks r.ep) (di b r'.at_ r'.ks r'.ep) ((rowsC b (l₁ ++ r' :: l₂) ++ ps) ++ cs) := .app_left (.app_left (Rep.map (f := fun r : Row => di b r.at_ r.ks r.ep)))
theorem rep_pool {b : Base} {l₁ l₂ : List (Addr × Nat)} {rs cs : List Chunk} (r r' : Addr × Nat) : Rep ((rs ++ poolC b (l₁ ++ r :: l₂)) ++ cs) (di b r.1 [] r.2) (di b r'.1 [] r'.2) ((rs ++ poolC b (l₁ ++ r' :: l₂)) ++ cs) := .app_left (.app_right (Rep.map (f := fun p : Addr × Nat => di b p.1 [] p.2)))
theorem pool_perm {b : Base} {pool : List (Addr × Nat)} {rs cs : List Chunk} (p : Addr × Nat) : (di b p.1 [] p.2 :: ((rs ++ poolC b pool) ++ cs)).Perm ((rs ++ poolC b (pool ++ [p])) ++ cs) := by
  have e : (rs ++ poolC b (pool ++ [p])) ++ cs = (rs ++ poolC b pool) ++ di b p.1 [] p.2 :: cs := by unfold poolC; simp
  rw [e]
  exact List.perm_middle.symm
theorem split_of {α : Type} {l : List α} {x : α} (h : x ∈ l) : ∃ l₁ l₂, l = l₁ ++ x :: l₂ := List.append_of_mem h
theorem has_prow {b : Base} {prows : List Row} {rs ps cs : List Chunk} {r : Row} (h : r ∈ prows) : Has ((rs ++ (rowsC b prows ++ ps)) ++ cs) (di b r.at_ r.ks r.ep) := .app_left (.app_right (.app_left (Has.map (f := fun r : Row => di b r.at_ r.ks r.ep) h)))
theorem has_poolD {b : Base} {pool : List (Addr × Nat)} {rs qs cs : List Chunk} {p : Addr × Nat} (h : p ∈ pool) : Has ((rs ++ (qs ++ poolC b pool)) ++ cs) (di b p.1 [] p.2) := .app_left (.app_right (.app_right (Has.map (f := fun p : Addr × Nat => di b p.1 [] p.2) h)))
theorem rep_prow {b : Base} {l₁ l₂ : List Row} {rs ps cs : List Chunk} (r r' : Row) : Rep ((rs ++ (rowsC b (l₁ ++ r :: l₂) ++ ps)) ++ cs) (di b r.at_ r.ks r.ep) (di b r'.at_ r'.ks r'.ep) ((rs ++ (rowsC b (l₁ ++ r' :: l₂) ++ ps)) ++ cs) := .app_left (.app_right (.app_left (Rep.map (f := fun r : Row => di b r.at_ r.ks r.ep))))
theorem rep_poolD {b : Base} {l₁ l₂ : List (Addr × Nat)} {rs qs cs : List Chunk} (r r' : Addr × Nat) : Rep ((rs ++ (qs ++ poolC b (l₁ ++ r :: l₂))) ++ cs) (di b r.1 [] r.2) (di b r'.1 [] r'.2) ((rs ++ (qs ++ poolC b (l₁ ++ r' :: l₂))) ++ cs) := .app_left (.app_right (.app_right (Rep.map (f := fun p : Addr × Nat => di b p.1 [] p.2))))
theorem pool_permD {b : Base} {pool : List (Addr × Nat)} {rs qs cs : List Chunk} (p : Addr × Nat) : (di b p.1 [] p.2 :: ((rs ++ (qs ++ poolC b pool)) ++ cs)).Perm ((rs ++ (qs ++ poolC b (pool ++ [p]))) ++ cs) := by
  have e : (rs ++ (qs ++ poolC b (pool ++ [p]))) ++ cs = (rs ++ (qs ++ poolC b pool)) ++ di b p.1 [] p.2 :: cs := by unfold poolC; simp
  rw [e]
  exact List.perm_middle.symm
end Mine
namespace Mine
local macro_rules | `(tactic| walk_at "foc") => `(tactic| first | with_reducible exact Foc.here _ _ | (apply Foc.there; walk_at "foc"))
local macro_rules | `(tactic| walk_at "has") => `(tactic| first | with_reducible exact Has.here _ _ | assumption | (refine Has.there _ ?_; walk_at "has"))
local macro_rules | `(tactic| walk_at "rep") => `(tactic| first | with_reducible exact Rep.here _ _ _ | assumption | (apply Rep.there; walk_at "rep"))
local macro_rules | `(tactic| walk_at "perm") => `(tactic| first | with_reducible exact List.Perm.refl _ | (refine perm_step (by walk_at "foc") ?_; walk_at "perm"))
section
variable {b : Base} {G : Array GenState} {cs cs' r : List Chunk} {s : Shared} {A : Around} {E : Value → Shared → Prop} {x gd a C : Addr} {d u : Nat} {env : Env} {vars : List (Str × Value)} {cv : Cv} {fs : List (Str × Addr)}
theorem setA {attr : Str} {Q : Unit → Shared → Prop} (h : Ok b G (fr env vars cv :: ins x C gd :: idc b gd fs :: cs) s) (g : b.Good)
    (hc : (findIn b.K (.ref C) "__setattr__", plainOver b.K C, takerIn b.K C attr, (clsIn b.K C).any (·.hasDict)) = (some (some (.builtin "object.__setattr__")), true, some none, true))
    (hl : ∀ ts n, (lookIn attr (idObj b.w fs ts n)).isSome = true) (he : ∀ ts n t, Obj.putName attr (PyData.keyHash b.w.params attr) (.str attr t) (.ref a) (idObj b.w fs ts n) = idObj b.w (fs ++ [(attr, a)]) (fun i => if i = fs.length then t else ts i) (n + 1))
    (hz : ∀ ts, (ents b.w ts 0 (fs ++ [(attr, a)])).length ≤ 1000) (k : ∀ s', Ok b G (fr env vars cv :: ins x C gd :: idc b gd (fs ++ [(attr, a)]) :: cs) s' → Q () s') : wpAny b.M A (setAttr (.ref x) attr (.ref a)) Q E s :=
  a_set h g (.there _ (.here _ _)) (.there _ (.there _ (.here _ _ _))) hc hl (fun ts n t => ⟨_, _, he ts n t⟩) hz k
theorem x_sa (x a : Addr) {name : Str} {o : PySem.Expr} {pos : Pos} {Q : Value → Shared → Prop} (h : Ok b G (fr env vars cv :: cs) s) (I : In b env) (q : ev env b.gl vars cv 9 o = some (.ref x)) (f : Has (fr env vars cv :: cs) (ins x C gd)) (f' : Has (fr env vars cv :: cs) (idc b gd fs))
    (hc : findIn b.K (.ref C) "__getattribute__" = some (some (.builtin "object.__getattribute__"))) (hf : ∀ ts n, findObj b.K C (some (idObj b.w fs ts n)) name = some (.value (.ref a)))
    (k : ∀ s', Ok b G (fr env vars cv :: cs) s' → Q (.ref a) s')
    (he : eval (.Attribute o name pos) env = (do
      let v ← eval o env
      standAt pos.atName
      let r ← holding [v] (getAttr v name true)
      letTemporaryGo o v r
      pure r) := by with_unfolding_all rfl) : wpAny b.M A (eval (.Attribute o name pos) env) Q E s :=
  x_attr x h I q (fun _ h' => a_get a h' I.good f f' hc hf k) he
theorem x_setfac {attr m : Str} {o o' : PySem.Expr} {f : Addr} {fd : FuncData} {apos pos p1 p2 p3 p4 : Pos} {pl : Sem Bool} {Q : Flow → Shared → Prop} (h : Ok b G (fr env vars cv :: ins x C gd :: idc b gd fs :: cs) s) (I : In b env) (F : Fit b A (d + 1) (u + 3))
    (q : (ev env b.gl vars cv 9 o, ev env b.gl vars cv 9 o') = (some (.ref x), some (.ref x)))
    (hm : (findIn b.K (.ref C) "__getattribute__", findIn b.K (.ref C) "__getattr__", findIn b.K (.ref C) m, typeIn b.K (.ref f), keepIn b.K (.ref f)) = (some (some (.builtin "object.__getattribute__")), some none, some (some (.ref f)), some (.type "function"), true))
    (hs : ∀ ts n, shadowIn (some (idObj b.w fs ts n)) m = some false) (D : IsDef b f fd [.Return (some (.Dict [] [] p1)) p2])
    (hb : ∀ x, peek b.K ⟨b.prog, b.w.params⟩ (bindArgs fd ⟨[.ref x], []⟩) = some [(("self" : Str), Value.ref x)]) (hg : fd.scope.isGenerator = false) (hk : ∀ x z, bindsOk fd z [(("self" : Str), Value.ref x)] = true)
    (hc : (findIn b.K (.ref C) "__setattr__", plainOver b.K C, takerIn b.K C attr, (clsIn b.K C).any (·.hasDict)) = (some (some (.builtin "object.__setattr__")), true, some none, true))
    (hl : ∀ ts n, (lookIn attr (idObj b.w fs ts n)).isSome = true) (he : ∀ a ts n t, Obj.putName attr (PyData.keyHash b.w.params attr) (.str attr t) (.ref a) (idObj b.w fs ts n) = idObj b.w (fs ++ [(attr, a)]) (fun i => if i = fs.length then t else ts i) (n + 1))
    (hz : ∀ a ts, (ents b.w ts 0 (fs ++ [(attr, a)])).length ≤ 1000)
    (k : ∀ a ep s', Ok b G (fr env vars cv :: ins x C gd :: idc b gd (fs ++ [(attr, a)]) :: di b a [] ep :: cs) s' → Q .next s')
    (he' : eval (.Call (.Attribute o m apos) [] [] pos) env = (do
      let ov ← eval o env
      standAt apos.atName
      let (f, first) ← holding [ov] (getMethod ov m pl)
      callWith pos f first (backTo pos (starEach [] env)) []) := by with_unfolding_all rfl)
    (hsw : swapsWith (.Call (.Attribute o m apos) [] [] pos) (some (.Attribute o' attr p3)) p4.line env = pure false := by with_unfolding_all rfl) :
    wpAny b.M A (exec (.Assign [.Attribute o' attr p3] (.Call (.Attribute o m apos) [] [] pos) p4) env) Q E s := by
  obtain ⟨q1, q2⟩ := Prod.mk.inj q
  refine plainObj_wpAny_Assign_Attribute ?_ hsw
  refine x_meth f x [] h I q1 (.here _ _) (.there _ (.here _ _)) hm hs rfl (fun us s' hus h' => ?_) he'
  rw [List.map_eq_nil_iff.mp hus]
  refine call_fac h' I.good F D (hb x) hg (hk x) fun a ep s'' h'' => ?_
  refine x_ref x (h''.swap) I q2 fun s3 h3 => ?_
  exact setA (h3.foc (.there _ (.there _ (.there _ (.here _ _)))) |>.foc (.there _ (.there _ (.there _ (.here _ _)))) |>.foc (.there _ (.there _ (.here _ _)))) I.good hc hl (he a) (hz a) fun s4 h4 => k a ep s4 h4
end
section
variable {w : World} {h₁ : Heap} {X : List Addr} {os : OsState} {dr : Drawn} {G : Array GenState} {cs cs' r : List Chunk} {s : Shared} {A : Around} {E : Value → Shared → Prop} {x gd a : Addr} {d u : Nat}
theorem G_init (g : (BB w h₁ X os dr).Good) {R : Result → Shared → Prop} (h : Ok (BB w h₁ X os dr) G (ins x C_Graph gd :: idc (BB w h₁ X os dr) gd [] :: cs) s) (F : Fit (BB w h₁ X os dr) A (d + 2) (u + 6))
    (k : ∀ a1 a2 a3 e1 e2 e3 s', Ok (BB w h₁ X os dr) G (ins x C_Graph gd :: idc (BB w h₁ X os dr) gd [("graph", a1), ("_node", a2), ("_adj", a3)] :: di (BB w h₁ X os dr) a1 [] e1 :: di (BB w h₁ X os dr) a2 [] e2 :: di (BB w h₁ X os dr) a3 [] e3 :: cs) s' → R (.ok (.ret .none)) s') :
    codeAny (BB w h₁ X os dr).M A (.call (.ref A_G_init) ⟨[.ref x], []⟩) R s := by
  have D := D_G_init g
  refine code_enters (args := ⟨[.ref x], []⟩) h F D (by kernel_rfl) (binds_kw (fun z => [("self", .ref x), ("incoming_graph_data", .none), ("attr", .ref z)]) h g (by intro z; kernel_rfl) fun at0 e0 s0 h0 => ?_)
  refine enters_of (vars := [("self", .ref x), ("incoming_graph_data", .none), ("attr", .ref at0)]) (cv := []) h0 g F (by intro z; kernel_rfl) (by intro z; kernel_rfl) (fun _ => ⟨rfl, List.nodup_nil⟩) fun A' L s1 F' h1 => ?_
  have I := D.inEnv g L
  show wpAny _ _ (execs (_ :: _) _) _ _ _
  have h1 : Ok (BB w h₁ X os dr) G (fr (callEnvC fd_G_init L A_G_init) _ [] :: ins x C_Graph gd :: idc (BB w h₁ X os dr) gd [] :: di (BB w h₁ X os dr) at0 [] e0 :: cs) s1 := h1.perm (by walk_at "perm")
  refine x_cons (x_setfac h1 I F' (by kernel_rfl) (by kernel_rfl) (by intro ts n; kernel_rfl) (D_G_f6 g) (by intro x; kernel_rfl) (by kernel_rfl) (by intro x z; kernel_rfl)
    (by kernel_rfl) (by intro ts n; kernel_rfl) (by intro a ts n t; kernel_rfl) (fun _ _ => Nat.le_of_ble_eq_true rfl) fun a1 e1 s2 h2 => ?_)
  refine x_cons (x_setfac h2 I F' (by kernel_rfl) (by kernel_rfl) (by intro ts n; kernel_rfl) (D_G_f1 g) (by intro x; kernel_rfl) (by kernel_rfl) (by intro x z; kernel_rfl)
    (by kernel_rfl) (by intro ts n; kernel_rfl) (by intro a ts n t; kernel_rfl) (fun _ _ => Nat.le_of_ble_eq_true rfl) fun a2 e2 s3 h3 => ?_)
  refine x_cons (x_setfac h3 I F' (by kernel_rfl) (by kernel_rfl) (by intro ts n; kernel_rfl) (D_G_f3 g) (by intro x; kernel_rfl) (by kernel_rfl) (by intro x z; kernel_rfl)
    (by kernel_rfl) (by intro ts n; kernel_rfl) (by intro a ts n t; kernel_rfl) (fun _ _ => Nat.le_of_ble_eq_true rfl) fun a3 e3 s4 h4 => ?_)
  refine x_cons (wpAny_Expr_any (x_bm at0 [.str "backend" 0, .none] h4 I (by kernel_rfl) (fun s' Q' h' k => m_dict h' (ep := e0) (by walk_at "has") PySem.F.slot_dict_pop PySem.F.type_dict_pop k) fun us s5 hus h5 => ?_))
  obtain ⟨v1, v2, rfl, hu1, hu2⟩ := args2 hus
  obtain ⟨t1, rfl⟩ := untok_str hu1
  refine d_pop0 (ep := e0) h5 g (by walk_at "has") fun s6 h6 => ?_
  refine x_cons (wpAny_Expr_any (PyProof.Rows.MethodCall_ (x_attr x h6 I (by kernel_rfl) fun s7 h7 => a_get a1 h7 g (C := C_Graph) (by walk_at "has") (by walk_at "has") (by kernel_rfl) (by intro ts n; kernel_rfl) fun s8 h8 => ?_)))
  refine m_dict (ep := e1) (ks := []) h8 (by walk_at "has") PySem.F.slot_dict_update PySem.F.type_dict_update ?_
  refine cw_builtin [.ref at0] h8 I (by kernel_rfl) fun us s9 hus h9 => ?_
  obtain ⟨v1, rfl, hu1⟩ := args1 hus
  cases untok_ref hu1
  have hne : a1 ≠ at0 := d_ne h9 (ks := []) (ks' := []) (ep := e1) (ep' := e0) (by walk_at "foc") (by walk_at "has")
  refine d_upd0 (ks := []) (ep := e1) (ep' := e0) h9 g (fun n => (by walk_at "rep")) (by walk_at "has") hne (Nat.zero_le _) fun n s10 h10 => ?_
  have h10 : Ok (BB w h₁ X os dr) G (fr _ _ [] :: ins x C_Graph gd :: idc (BB w h₁ X os dr) gd [("graph", a1), ("_node", a2), ("_adj", a3)] :: di (BB w h₁ X os dr) a3 [] e3 :: di (BB w h₁ X os dr) a2 [] e2 :: di (BB w h₁ X os dr) a1 [] n :: di (BB w h₁ X os dr) at0 [] e0 :: cs) s10 := h10
  exact x_nil (k a1 a2 a3 n e2 e3 _ (Ok.drop (c := di (BB w h₁ X os dr) at0 [] e0) (h10.drop.perm (by walk_at "perm"))))
theorem G_new (g : (BB w h₁ X os dr).Good) {Q : Value → Shared → Prop} (h : Ok (BB w h₁ X os dr) G cs s) (F : Fit (BB w h₁ X os dr) A (d + 3) (u + 7))
    (k : ∀ g' s', Ok (BB w h₁ X os dr) G (gU (BB w h₁ X os dr) C_Graph g' ++ cs) s' → g'.Ok → g'.rows = [] → Q (.ref g'.x) s') : wpAny (BB w h₁ X os dr).M A (call (.ref C_Graph) []) Q E s := by
  obtain ⟨hh, gn, drw, tk, oss⟩ := s
  refine call_code (make_core (makes_of (K := (BB w h₁ X os dr).K) (h.kin g) (by kernel_rfl)) (looks_findIn (h.kin g) (r := some (.ref A_G_init)) (by kernel_rfl)) (fun self => bind_fn (h.kin g) self (by kernel_rfl)) (.inl rfl) ?_)
  have hd := h.alloc (o := emptyDict) (t := tk) (φ := idP (BB w h₁ X os dr) []) rfl ⟨fun _ => 0, 0, rfl⟩
  have hx := hd.alloc (o := instObj C_Graph hh.objs.size) (t := tk) (φ := insP C_Graph hh.objs.size) rfl rfl
  rw [show ({ heap := hh.push emptyDict, gens := gn, drawn := drw, toks := tk, os := oss } : Shared).heap.objs.size = hh.objs.size + 1 from Heap.size_push ..] at hx
  refine G_init (x := hh.objs.size + 1) (gd := hh.objs.size) g hx (F.under (x := 1) (y := 1) (by kernel_rfl)) fun a1 a2 a3 e1 e2 e3 s' h' => ⟨rfl, ?_⟩
  refine k ⟨hh.objs.size + 1, hh.objs.size, a1, a2, a3, e1, e2, e3, [], [], [], 0, 0, []⟩ s' (h'.perm ?_) ⟨rfl, fun p hp => (by cases hp), fun r hr => (by cases hr)⟩ rfl
  show List.Perm _ (ins _ _ _ :: idc _ _ _ :: di _ _ _ _ :: di _ _ _ _ :: di _ _ _ _ :: cs)
  exact List.Perm.refl _
theorem D_init (g : (BB w h₁ X os dr).Good) {R : Result → Shared → Prop} (h : Ok (BB w h₁ X os dr) G (ins x C_DiGraph gd :: idc (BB w h₁ X os dr) gd [] :: cs) s) (F : Fit (BB w h₁ X os dr) A (d + 2) (u + 6))
    (k : ∀ a1 a2 a3 a4 e1 e2 e3 e4 s', Ok (BB w h₁ X os dr) G (ins x C_DiGraph gd :: idc (BB w h₁ X os dr) gd [("graph", a1), ("_node", a2), ("_adj", a3), ("_succ", a3), ("_pred", a4)] :: di (BB w h₁ X os dr) a1 [] e1 :: di (BB w h₁ X os dr) a2 [] e2 :: di (BB w h₁ X os dr) a3 [] e3 :: di (BB w h₁ X os dr) a4 [] e4 :: cs) s' → R (.ok (.ret .none)) s') :
    codeAny (BB w h₁ X os dr).M A (.call (.ref A_D_init) ⟨[.ref x], []⟩) R s := by
  have D := D_D_init g
  refine code_enters (args := ⟨[.ref x], []⟩) h F D (by kernel_rfl) (binds_kw (fun z => [("self", .ref x), ("incoming_graph_data", .none), ("attr", .ref z)]) h g (by intro z; kernel_rfl) fun at0 e0 s0 h0 => ?_)
  refine enters_of (vars := [("self", .ref x), ("incoming_graph_data", .none), ("attr", .ref at0)]) (cv := []) h0 g F (by intro z; kernel_rfl) (by intro z; kernel_rfl) (fun _ => ⟨rfl, List.nodup_nil⟩) fun A' L s1 F' h1 => ?_
  have I := D.inEnv g L
  show wpAny _ _ (execs (_ :: _) _) _ _ _
  have h1 : Ok (BB w h₁ X os dr) G (fr (callEnvC fd_D_init L A_D_init) _ [] :: ins x C_DiGraph gd :: idc (BB w h₁ X os dr) gd [] :: di (BB w h₁ X os dr) at0 [] e0 :: cs) s1 := h1.perm (by walk_at "perm")
  refine x_cons (x_setfac h1 I F' (by kernel_rfl) (by kernel_rfl) (by intro ts n; kernel_rfl) (D_G_f6 g) (by intro x; kernel_rfl) (by kernel_rfl) (by intro x z; kernel_rfl)
    (by kernel_rfl) (by intro ts n; kernel_rfl) (by intro a ts n t; kernel_rfl) (fun _ _ => Nat.le_of_ble_eq_true rfl) fun a1 e1 s2 h2 => ?_)
  refine x_cons (x_setfac h2 I F' (by kernel_rfl) (by kernel_rfl) (by intro ts n; kernel_rfl) (D_G_f1 g) (by intro x; kernel_rfl) (by kernel_rfl) (by intro x z; kernel_rfl)
    (by kernel_rfl) (by intro ts n; kernel_rfl) (by intro a ts n t; kernel_rfl) (fun _ _ => Nat.le_of_ble_eq_true rfl) fun a2 e2 s3 h3 => ?_)
  refine x_cons (x_setfac h3 I F' (by kernel_rfl) (by kernel_rfl) (by intro ts n; kernel_rfl) (D_G_f3 g) (by intro x; kernel_rfl) (by kernel_rfl) (by intro x z; kernel_rfl)
    (by kernel_rfl) (by intro ts n; kernel_rfl) (by intro a ts n t; kernel_rfl) (fun _ _ => Nat.le_of_ble_eq_true rfl) fun a3 e3 s4 h4 => ?_)
  have h4 : Ok (BB w h₁ X os dr) G (fr (callEnvC fd_D_init L A_D_init) _ [] :: ins x C_DiGraph gd :: idc (BB w h₁ X os dr) gd [("graph", a1), ("_node", a2), ("_adj", a3)] :: di (BB w h₁ X os dr) a3 [] e3 :: di (BB w h₁ X os dr) a2 [] e2 :: di (BB w h₁ X os dr) a1 [] e1 :: di (BB w h₁ X os dr) at0 [] e0 :: cs) s4 := h4
  refine x_cons (plainObj_wpAny_Assign_Attribute (x_sa x a3 h4 I (by kernel_rfl) (by walk_at "has") (by walk_at "has") (by kernel_rfl) (by intro ts n; kernel_rfl) fun s5 h5 => x_ref x h5 I (by kernel_rfl) fun s6 h6 => setA h6 g (by kernel_rfl) (by intro ts n; kernel_rfl) (by intro ts n t; kernel_rfl) (fun _ => Nat.le_of_ble_eq_true rfl) fun s7 h7 => ?_))
  refine x_cons (x_setfac h7 I F' (by kernel_rfl) (by kernel_rfl) (by intro ts n; kernel_rfl) (D_G_f3 g) (by intro x; kernel_rfl) (by kernel_rfl) (by intro x z; kernel_rfl)
    (by kernel_rfl) (by intro ts n; kernel_rfl) (by intro a ts n t; kernel_rfl) (fun _ _ => Nat.le_of_ble_eq_true rfl) fun a4 e4 s4 h4 => ?_)
  refine x_cons (wpAny_Expr_any (x_bm at0 [.str "backend" 0, .none] h4 I (by kernel_rfl) (fun s' Q' h' k => m_dict h' (ep := e0) (by walk_at "has") PySem.F.slot_dict_pop PySem.F.type_dict_pop k) fun us s5 hus h5 => ?_))
  obtain ⟨v1, v2, rfl, hu1, hu2⟩ := args2 hus
  obtain ⟨t1, rfl⟩ := untok_str hu1
  refine d_pop0 (ep := e0) h5 g (by walk_at "has") fun s6 h6 => ?_
  refine x_cons (wpAny_Expr_any (PyProof.Rows.MethodCall_ (x_sa x a1 h6 I (by kernel_rfl) (by walk_at "has") (by walk_at "has") (by kernel_rfl) (by intro ts n; kernel_rfl) fun s8 h8 => ?_)))
  refine m_dict (ep := e1) (ks := []) h8 (by walk_at "has") PySem.F.slot_dict_update PySem.F.type_dict_update ?_
  refine cw_builtin [.ref at0] h8 I (by kernel_rfl) fun us s9 hus h9 => ?_
  obtain ⟨v1, rfl, hu1⟩ := args1 hus
  cases untok_ref hu1
  have hne : a1 ≠ at0 := d_ne h9 (ks := []) (ks' := []) (ep := e1) (ep' := e0) (by walk_at "foc") (by walk_at "has")
  refine d_upd0 (ks := []) (ep := e1) (ep' := e0) h9 g (fun n => (by walk_at "rep")) (by walk_at "has") hne (Nat.zero_le _) fun n s10 h10 => ?_
  have h10 : Ok (BB w h₁ X os dr) G (fr _ _ [] :: ins x C_DiGraph gd :: idc (BB w h₁ X os dr) gd [("graph", a1), ("_node", a2), ("_adj", a3), ("_succ", a3), ("_pred", a4)] :: di (BB w h₁ X os dr) a4 [] e4 :: di (BB w h₁ X os dr) a3 [] e3 :: di (BB w h₁ X os dr) a2 [] e2 :: di (BB w h₁ X os dr) a1 [] n :: di (BB w h₁ X os dr) at0 [] e0 :: cs) s10 := h10
  exact x_nil (k a1 a2 a3 a4 n e2 e3 e4 _ (Ok.drop (c := di (BB w h₁ X os dr) at0 [] e0) (h10.drop.perm (by walk_at "perm"))))
theorem D_new (g : (BB w h₁ X os dr).Good) {Q : Value → Shared → Prop} (h : Ok (BB w h₁ X os dr) G cs s) (F : Fit (BB w h₁ X os dr) A (d + 3) (u + 7))
    (k : ∀ g' s', Ok (BB w h₁ X os dr) G (gD (BB w h₁ X os dr) C_DiGraph g' ++ cs) s' → g'.OkD → g'.rows = [] → Q (.ref g'.x) s') : wpAny (BB w h₁ X os dr).M A (call (.ref C_DiGraph) []) Q E s := by
  obtain ⟨hh, gn, drw, tk, oss⟩ := s
  refine call_code (make_core (makes_of (K := (BB w h₁ X os dr).K) (h.kin g) (by kernel_rfl)) (looks_findIn (h.kin g) (r := some (.ref A_D_init)) (by kernel_rfl)) (fun self => bind_fn (h.kin g) self (by kernel_rfl)) (.inl rfl) ?_)
  have hd := h.alloc (o := emptyDict) (t := tk) (φ := idP (BB w h₁ X os dr) []) rfl ⟨fun _ => 0, 0, rfl⟩
  have hx := hd.alloc (o := instObj C_DiGraph hh.objs.size) (t := tk) (φ := insP C_DiGraph hh.objs.size) rfl rfl
  rw [show ({ heap := hh.push emptyDict, gens := gn, drawn := drw, toks := tk, os := oss } : Shared).heap.objs.size = hh.objs.size + 1 from Heap.size_push ..] at hx
  refine D_init (x := hh.objs.size + 1) (gd := hh.objs.size) g hx (F.under (x := 1) (y := 1) (by kernel_rfl)) fun a1 a2 a3 a4 e1 e2 e3 e4 s' h' => ⟨rfl, ?_⟩
  refine k ⟨hh.objs.size + 1, hh.objs.size, a1, a2, a3, e1, e2, e3, [], [], [], a4, e4, []⟩ s' (h'.perm ?_) ⟨rfl, rfl, fun p hp => (by cases hp), fun r hr => (by cases hr), fun r hr => (by cases hr)⟩ rfl
  exact List.Perm.refl _
end
end Mine
namespace Mine
local macro_rules | `(tactic| walk_at "foc") => `(tactic| first | with_reducible exact Foc.here _ _ | (apply Foc.there; walk_at "foc"))
local macro_rules | `(tactic| walk_at "has") => `(tactic| first | with_reducible exact Has.here _ _ | assumption | (refine Has.there _ ?_; walk_at "has"))
local macro_rules | `(tactic| walk_at "rep") => `(tactic| first | with_reducible exact Rep.here _ _ _ | assumption | (apply Rep.there; walk_at "rep"))
local macro_rules | `(tactic| walk_at "perm") => `(tactic| first | with_reducible exact List.Perm.refl _ | (refine perm_step (by walk_at "foc") ?_; walk_at "perm"))
section
variable {w : World} {h₁ : Heap} {X : List Addr} {os : OsState} {dr : Drawn} {G : Array GenState} {cs cs' r : List Chunk} {s : Shared} {A : Around} {E : Value → Shared → Prop} {x gd a : Addr} {d u : Nat}
def AddU (G : Array GenState) (cs : List Chunk) (env : Env) (w : World) (h₁ : Heap) (X : List Addr) (os : OsState) (dr : Drawn) (l at0 it : Addr) (e0 : Nat) (ns : List Int) (x gd ga na aa : Addr) (eg : Nat) (vs : List Value) (s : Shared) : Prop :=
  ∃ (done todo : List Int) (nodes : List (Int × Addr)) (rows : List Row) (pool : List (Addr × Nat)) (en ea : Nat), ns = done ++ todo ∧ vs = intL todo ∧
    Ok (BB w h₁ X os dr) G (fr env [("self", .ref x), ("attr", .ref at0)] :: lit it l (intL ns) vs :: di (BB w h₁ X os dr) at0 [] e0 :: li l (intL ns) :: (ins x C_Graph gd :: idc (BB w h₁ X os dr) gd [("graph", ga), ("_node", na), ("_adj", aa)] :: di (BB w h₁ X os dr) ga [] eg :: di (BB w h₁ X os dr) na nodes en :: di (BB w h₁ X os dr) aa (adjL rows) ea :: ((rowsC (BB w h₁ X os dr) rows ++ poolC (BB w h₁ X os dr) pool) ++ cs))) s ∧
    nodes.map (·.1) = done ∧ rows.map (·.key) = done ∧ (∀ p ∈ nodes, ∃ e, (p.2, e) ∈ pool) ∧ (∀ r ∈ rows, r.ks = [])
theorem U_add_nodes (g : (BB w h₁ X os dr).Good) {ns : List Int} {l : Addr} {g0 : GS} {Q : Value → Shared → Prop} (h : Ok (BB w h₁ X os dr) G (li l (intL ns) :: (gU (BB w h₁ X os dr) C_Graph g0 ++ cs)) s) (hg : g0.rows = []) (hgk : g0.Ok) (nd : ns.Nodup) (hz : ns.length ≤ 100) (F : Fit (BB w h₁ X os dr) A (d + 2) (u + 6))
    (k : ∀ g' s', Ok (BB w h₁ X os dr) G (li l (intL ns) :: (gU (BB w h₁ X os dr) C_Graph g' ++ cs)) s' → g'.Ok → absR g'.rows = ns.map (fun n => (n, [])) → g'.x = g0.x → Q .none s') : wpAny (BB w h₁ X os dr).M A (call (.ref A_G_add_nodes) [.ref g0.x, .ref l]) Q E s := by
  obtain ⟨x, gd, ga, na, aa, eg, en, ea, nodes, rows, pool, pa, eq, prows⟩ := g0
  dsimp only at hg hgk ⊢
  subst hg
  have hn0 : nodes = [] := by have := hgk.keys; simpa using this
  subst hn0
  have D := D_G_add_nodes g
  refine call_code (code_enters (args := ⟨[.ref x, .ref l], []⟩) h F D (by kernel_rfl) (binds_kw (fun z => [("self", .ref x), ("nodes_for_adding", .ref l), ("attr", .ref z)]) h g (by intro z; kernel_rfl) fun at0 e0 s0 h0 => ?_))
  refine enters_of (vars := [("self", .ref x), ("nodes_for_adding", .ref l), ("attr", .ref at0)]) (cv := []) h0 g F (by intro z; kernel_rfl) (by intro z; kernel_rfl) (fun _ => ⟨rfl, List.nodup_nil⟩) fun A' L s1 F' h1 => ?_
  have I := D.inEnv g L
  show wpAny _ _ (execs (_ :: _) _) _ _ _
  refine x_cons (wpAny_For (x_ref l h1 I (by kernel_rfl) fun s2 h2 => l_iter (ps := intL ns) h2 (by walk_at "has") fun it s3 h3 => ?_))
  have h3 : Ok (BB w h₁ X os dr) G (fr (callEnvC fd_G_add_nodes L A_G_add_nodes) [("self", .ref x), ("attr", .ref at0)] :: lit it l (intL ns) (intL ns) :: di (BB w h₁ X os dr) at0 [] e0 :: li l (intL ns) :: (ins x C_Graph gd :: idc (BB w h₁ X os dr) gd [("graph", ga), ("_node", na), ("_adj", aa)] :: di (BB w h₁ X os dr) ga [] eg :: di (BB w h₁ X os dr) na [] en :: di (BB w h₁ X os dr) aa [] ea :: ((rowsC (BB w h₁ X os dr) [] ++ poolC (BB w h₁ X os dr) pool) ++ cs))) s3 :=
    (h3.swap).sub (by kernel_rfl)
  refine for_go (vs := intL ns) (AddU G cs (callEnvC fd_G_add_nodes L A_G_add_nodes) w h₁ X os dr l at0 it e0 ns x gd ga na aa eg) ?_ ?_ ⟨[], ns, [], [], pool, en, ea, rfl, rfl, h3, rfl, rfl, (fun p hp => by cases hp), (fun p hp => by cases hp)⟩
  · intro v vs s4 ⟨done, todo, nodes, rows, pool, en, ea, hns, hvs, h4, hk1, hk2, hk3, hk4⟩
    cases todo with
    | nil => cases hvs
    | cons n todo =>
      obtain ⟨rfl, rfl⟩ := List.cons.inj hvs
      refine (lit_iter l it (intL ns)).next h4 (by walk_at "rep") (by walk_at "has") fun u' s5 hu h5 => ⟨u', rfl, ?_⟩
      obtain ⟨t, rfl⟩ := untok_int hu
      have hnew : (nodes.map (·.1)).contains n = false := by
        rw [hk1, List.contains_eq_mem, decide_eq_false_iff_not]
        rw [hns] at nd
        exact fun hm => (List.nodup_append.mp nd).2.2 n hm n List.mem_cons_self rfl
      have hnewA : ((adjL rows).map (·.1)).contains n = false := by rw [adj_keys, hk2, ← hk1]; exact hnew
      have hlen : done.length ≤ 100 := by rw [hns, List.length_append] at hz; omega
      have hl1 : nodes.length ≤ 100 := by rw [← List.length_map (f := (·.1)), hk1]; exact hlen
      have hl2 : (adjL rows).length ≤ 100 := by rw [← List.length_map (f := (·.1)), adj_keys, hk2]; exact hlen
      refine wpAny_assign_Name (st_local h5 I rfl (by kernel_rfl) fun s6 h6 => ?_)
      show wpAny _ _ (execs (_ :: _) _) _ _ _
      refine x_cons (wpAny_Try_except ?_)
      refine x_cons (x_asg (wpAny_Compare1 (x_int n h6 I (by kernel_rfl) fun t s7 h7 => x_sa x na h7 I (by kernel_rfl) (by walk_at "has") (by walk_at "has") (by kernel_rfl) (by intro ts n; kernel_rfl) fun s8 h8 => d_notin h8 g (ks := nodes) (ep := en) (by walk_at "has") fun s9 h9 => ?_) rfl))
      rw [look_some_iff, hnew]
      refine st_local (p := .bool true) h9 I rfl (by kernel_rfl) fun s10 h10 => ?_
      refine x_cons (x_set (.ref at0) h10 I (by kernel_rfl) fun s11 h11 => ?_)
      refine x_nil (x_nil ?_)
      refine x_cons (x_if true h11 I (by kernel_rfl) fun s12 h12 => ?_)
      refine x_cons (x_if false h12 I (by kernel_rfl) fun s13 h13 => ?_)
      refine x_nil ?_
      refine x_cons (wpAny_Assign_Subscript (x_meth A_G_f4 x [] h13 I (by kernel_rfl) (by walk_at "has") (by walk_at "has") (by kernel_rfl) (by intro ts n; kernel_rfl) (by kernel_rfl) fun us s14 hus h14 => ?_) (by with_unfolding_all rfl))
      rw [List.map_eq_nil_iff.mp hus]
      refine call_fac h14 g F' (D_G_f4 g) (by kernel_rfl) (by kernel_rfl) (by intro z; kernel_rfl) fun a1 e1 s15 h15 => ?_
      refine x_sa x aa h15.swap I (by kernel_rfl) (by walk_at "has") (by walk_at "has") (by kernel_rfl) (by intro ts n; kernel_rfl) fun s16 h16 => x_int n h16 I (by kernel_rfl) fun t1 s17 h17 => ?_
      refine d_put (ks := adjL rows) (ep := ea) (a := a1) h17 (fun ep' => (by walk_at "rep")) (Nat.le_trans hl2 (by decide)) fun ea' s18 h18 => ?_
      rw [sto_new hnewA] at h18
      refine x_cons (wpAny_Assign_Subscript (x_meth A_G_f2 x [] h18 I (by kernel_rfl) (by walk_at "has") (by walk_at "has") (by kernel_rfl) (by intro ts n; kernel_rfl) (by kernel_rfl) fun us s19 hus h19 => ?_) (by with_unfolding_all rfl))
      rw [List.map_eq_nil_iff.mp hus]
      refine call_fac h19 g F' (D_G_f2 g) (by kernel_rfl) (by kernel_rfl) (by intro z; kernel_rfl) fun a2 e2 s20 h20 => ?_
      refine x_sa x na h20.swap I (by kernel_rfl) (by walk_at "has") (by walk_at "has") (by kernel_rfl) (by intro ts n; kernel_rfl) fun s21 h21 => x_int n h21 I (by kernel_rfl) fun t2 s22 h22 => ?_
      refine d_put (ks := nodes) (ep := en) (a := a2) h22 (fun ep' => (by walk_at "rep")) (Nat.le_trans hl1 (by decide)) fun en' s23 h23 => ?_
      rw [sto_new hnew] at h23
      refine x_nil ?_
      refine x_cons (wpAny_Expr_any (PyProof.Rows.MethodCall_ (PyProof.Rows.Subscript_ (x_sa x na h23 I (by kernel_rfl) (by walk_at "has") (by walk_at "has") (by kernel_rfl) (by intro ts n; kernel_rfl) fun s24 h24 => x_int n h24 I (by kernel_rfl) fun t3 s25 h25 => ?_))))
      refine d_item (ks := nodes ++ [(n, a2)]) (ep := en') h25 (by walk_at "has") (look_new hnew) fun s26 h26 => ?_
      refine m_dict (ep := e2) (ks := []) h26 (by walk_at "has") PySem.F.slot_dict_update PySem.F.type_dict_update ?_
      refine cw_builtin [.ref at0] h26 I (by kernel_rfl) fun us s27 hus h27 => ?_
      obtain ⟨v1, rfl, hu1⟩ := args1 hus
      cases untok_ref hu1
      have hne : a2 ≠ at0 := d_ne h27 (ks := []) (ks' := []) (ep := e2) (ep' := e0) (by walk_at "foc") (by walk_at "has")
      refine d_upd0 (ks := []) (ep := e2) (ep' := e0) h27 g (fun n => (by walk_at "rep")) (by walk_at "has") hne (Nat.zero_le _) fun e2' s28 h28 => ?_
      have h29 : Ok (BB w h₁ X os dr) G (fr (callEnvC fd_G_add_nodes L A_G_add_nodes) [("self", .ref x), ("attr", .ref at0)] :: lit it l (intL ns) (intL todo) :: di (BB w h₁ X os dr) at0 [] e0 :: li l (intL ns) :: ins x C_Graph gd :: idc (BB w h₁ X os dr) gd [("graph", ga), ("_node", na), ("_adj", aa)] :: di (BB w h₁ X os dr) ga [] eg :: di (BB w h₁ X os dr) na (nodes ++ [(n, a2)]) en' :: di (BB w h₁ X os dr) aa (adjL rows ++ [(n, a1)]) ea' :: di (BB w h₁ X os dr) a1 [] e1 :: di (BB w h₁ X os dr) a2 [] e2' :: ((rowsC (BB w h₁ X os dr) rows ++ poolC (BB w h₁ X os dr) pool) ++ cs)) s28 :=
        (h28.sub (vars' := [("self", .ref x), ("attr", .ref at0)]) (by kernel_rfl)).perm (by walk_at "perm")
      refine x_nil ⟨done ++ [n], todo, nodes ++ [(n, a2)], rows ++ [⟨n, a1, [], e1⟩], pool ++ [(a2, e2')], en', ea', by rw [hns]; simp, rfl, ?_, ?_, ?_, ?_, ?_⟩
      · have e : adjL (rows ++ [⟨n, a1, [], e1⟩]) = adjL rows ++ [(n, a1)] := by unfold adjL; simp
        rw [e]
        exact Ok.tail [_, _, _, _, _, _, _, _, _] h29 (tail_perm ⟨n, a1, [], e1⟩ (a2, e2'))
      · simp [hk1]
      · simp [hk2]
      · intro p hp
        rcases List.mem_append.mp hp with hp | hp
        · obtain ⟨e, he⟩ := hk3 p hp
          exact ⟨e, List.mem_append_left _ he⟩
        · rw [List.mem_singleton.mp hp]
          exact ⟨e2', by simp⟩
      · intro r hr
        rcases List.mem_append.mp hr with hr | hr
        · exact hk4 r hr
        · rw [List.mem_singleton.mp hr]
  · intro s4 ⟨done, todo, nodes, rows, pool, en, ea, hns, hvs, h4, hk1, hk2, hk3, hk4⟩
    cases todo with
    | cons n todo => cases hvs
    | nil =>
      rw [List.append_nil] at hns
      subst hns
      refine (lit_iter l it (intL ns)).done F'.handled h4 (by walk_at "foc") (by walk_at "has") fun s5 h5 => ⟨rfl, x_nil (x_nil ?_)⟩
      refine k ⟨x, gd, ga, na, aa, eg, en, ea, nodes, rows, pool, 0, 0, []⟩ s5 h5.drop.drop ⟨hk1.trans hk2.symm, hk3, fun r hr p hp => (by rw [hk4 r hr] at hp; cases hp)⟩ ?_ rfl
      rw [← hk2]
      unfold absR
      rw [List.map_map]
      exact List.map_congr_left fun r hr => by simp [hk4 r hr]
end
end Mine
namespace Mine
local macro_rules | `(tactic| walk_at "foc") => `(tactic| first | with_reducible exact Foc.here _ _ | (apply Foc.there; walk_at "foc"))
local macro_rules | `(tactic| walk_at "has") => `(tactic| first | with_reducible exact Has.here _ _ | assumption | (refine Has.there _ ?_; walk_at "has"))
local macro_rules | `(tactic| walk_at "rep") => `(tactic| first | with_reducible exact Rep.here _ _ _ | assumption | (apply Rep.there; walk_at "rep"))
local macro_rules | `(tactic| walk_at "perm") => `(tactic| first | with_reducible exact List.Perm.refl _ | (refine perm_step (by walk_at "foc") ?_; walk_at "perm"))
section
variable {w : World} {h₁ : Heap} {X : List Addr} {os : OsState} {dr : Drawn} {G : Array GenState} {cs cs' r : List Chunk} {s : Shared} {A : Around} {E : Value → Shared → Prop} {x gd a : Addr} {d u : Nat}
def AddD (G : Array GenState) (cs : List Chunk) (env : Env) (w : World) (h₁ : Heap) (X : List Addr) (os : OsState) (dr : Drawn) (l at0 it : Addr) (e0 : Nat) (ns : List Int) (x gd ga na aa pa : Addr) (eg : Nat) (vs : List Value) (s : Shared) : Prop :=
  ∃ (done todo : List Int) (nodes : List (Int × Addr)) (rows prows : List Row) (pool : List (Addr × Nat)) (en ea eq : Nat), ns = done ++ todo ∧ vs = intL todo ∧
    Ok (BB w h₁ X os dr) G (fr env [("self", .ref x), ("attr", .ref at0)] :: lit it l (intL ns) vs :: di (BB w h₁ X os dr) at0 [] e0 :: li l (intL ns) :: (ins x C_DiGraph gd :: idc (BB w h₁ X os dr) gd [("graph", ga), ("_node", na), ("_adj", aa), ("_succ", aa), ("_pred", pa)] :: di (BB w h₁ X os dr) ga [] eg :: di (BB w h₁ X os dr) na nodes en :: di (BB w h₁ X os dr) aa (adjL rows) ea :: di (BB w h₁ X os dr) pa (adjL prows) eq :: ((rowsC (BB w h₁ X os dr) rows ++ (rowsC (BB w h₁ X os dr) prows ++ poolC (BB w h₁ X os dr) pool)) ++ cs))) s ∧
    nodes.map (·.1) = done ∧ rows.map (·.key) = done ∧ prows.map (·.key) = done ∧ (∀ p ∈ nodes, ∃ e, (p.2, e) ∈ pool) ∧ (∀ r ∈ rows, r.ks = []) ∧ (∀ r ∈ prows, r.ks = [])
theorem D_add_nodes (g : (BB w h₁ X os dr).Good) {ns : List Int} {l : Addr} {g0 : GS} {Q : Value → Shared → Prop} (h : Ok (BB w h₁ X os dr) G (li l (intL ns) :: (gD (BB w h₁ X os dr) C_DiGraph g0 ++ cs)) s) (hg : g0.rows = []) (hgk : g0.OkD) (nd : ns.Nodup) (hz : ns.length ≤ 100) (F : Fit (BB w h₁ X os dr) A (d + 2) (u + 6))
    (k : ∀ g' s', Ok (BB w h₁ X os dr) G (li l (intL ns) :: (gD (BB w h₁ X os dr) C_DiGraph g' ++ cs)) s' → g'.OkD → absR g'.rows = ns.map (fun n => (n, [])) → absR g'.prows = ns.map (fun n => (n, [])) → g'.x = g0.x → Q .none s') : wpAny (BB w h₁ X os dr).M A (call (.ref A_D_add_nodes) [.ref g0.x, .ref l]) Q E s := by
  obtain ⟨x, gd, ga, na, aa, eg, en, ea, nodes, rows, pool, pa, eq, prows⟩ := g0
  dsimp only at hg hgk ⊢
  subst hg
  have hn0 : nodes = [] := by have := hgk.keys; simpa using this
  subst hn0
  have hp0 : prows = [] := by have := hgk.pkeys; simpa using this
  subst hp0
  have D := D_D_add_nodes g
  refine call_code (code_enters (args := ⟨[.ref x, .ref l], []⟩) h F D (by kernel_rfl) (binds_kw (fun z => [("self", .ref x), ("nodes_for_adding", .ref l), ("attr", .ref z)]) h g (by intro z; kernel_rfl) fun at0 e0 s0 h0 => ?_))
  refine enters_of (vars := [("self", .ref x), ("nodes_for_adding", .ref l), ("attr", .ref at0)]) (cv := []) h0 g F (by intro z; kernel_rfl) (by intro z; kernel_rfl) (fun _ => ⟨rfl, List.nodup_nil⟩) fun A' L s1 F' h1 => ?_
  have I := D.inEnv g L
  show wpAny _ _ (execs (_ :: _) _) _ _ _
  refine x_cons (wpAny_For (x_ref l h1 I (by kernel_rfl) fun s2 h2 => l_iter (ps := intL ns) h2 (by walk_at "has") fun it s3 h3 => ?_))
  have h3 : Ok (BB w h₁ X os dr) G (fr (callEnvC fd_D_add_nodes L A_D_add_nodes) [("self", .ref x), ("attr", .ref at0)] :: lit it l (intL ns) (intL ns) :: di (BB w h₁ X os dr) at0 [] e0 :: li l (intL ns) :: (ins x C_DiGraph gd :: idc (BB w h₁ X os dr) gd [("graph", ga), ("_node", na), ("_adj", aa), ("_succ", aa), ("_pred", pa)] :: di (BB w h₁ X os dr) ga [] eg :: di (BB w h₁ X os dr) na [] en :: di (BB w h₁ X os dr) aa [] ea :: di (BB w h₁ X os dr) pa [] eq :: ((rowsC (BB w h₁ X os dr) [] ++ (rowsC (BB w h₁ X os dr) [] ++ poolC (BB w h₁ X os dr) pool)) ++ cs))) s3 :=
    (h3.swap).sub (by kernel_rfl)
  refine for_go (vs := intL ns) (AddD G cs (callEnvC fd_D_add_nodes L A_D_add_nodes) w h₁ X os dr l at0 it e0 ns x gd ga na aa pa eg) ?_ ?_ ⟨[], ns, [], [], [], pool, en, ea, eq, rfl, rfl, h3, rfl, rfl, rfl, (fun p hp => by cases hp), (fun p hp => by cases hp), (fun p hp => by cases hp)⟩
  · intro v vs s4 ⟨done, todo, nodes, rows, prows, pool, en, ea, eq, hns, hvs, h4, hk1, hk2, hk2', hk3, hk4, hk4'⟩
    cases todo with
    | nil => cases hvs
    | cons n todo =>
      obtain ⟨rfl, rfl⟩ := List.cons.inj hvs
      refine (lit_iter l it (intL ns)).next h4 (by walk_at "rep") (by walk_at "has") fun u' s5 hu h5 => ⟨u', rfl, ?_⟩
      obtain ⟨t, rfl⟩ := untok_int hu
      have hnew : (nodes.map (·.1)).contains n = false := by
        rw [hk1, List.contains_eq_mem, decide_eq_false_iff_not]
        rw [hns] at nd
        exact fun hm => (List.nodup_append.mp nd).2.2 n hm n List.mem_cons_self rfl
      have hnewA : ((adjL rows).map (·.1)).contains n = false := by rw [adj_keys, hk2, ← hk1]; exact hnew
      have hnewP : ((adjL prows).map (·.1)).contains n = false := by rw [adj_keys, hk2', ← hk1]; exact hnew
      have hlen : done.length ≤ 100 := by rw [hns, List.length_append] at hz; omega
      have hl1 : nodes.length ≤ 100 := by rw [← List.length_map (f := (·.1)), hk1]; exact hlen
      have hl2 : (adjL rows).length ≤ 100 := by rw [← List.length_map (f := (·.1)), adj_keys, hk2]; exact hlen
      have hl3 : (adjL prows).length ≤ 100 := by rw [← List.length_map (f := (·.1)), adj_keys, hk2']; exact hlen
      refine wpAny_assign_Name (st_local h5 I rfl (by kernel_rfl) fun s6 h6 => ?_)
      show wpAny _ _ (execs (_ :: _) _) _ _ _
      refine x_cons (wpAny_Try_except ?_)
      refine x_cons (x_asg (wpAny_Compare1 (x_int n h6 I (by kernel_rfl) fun t s7 h7 => x_sa x na h7 I (by kernel_rfl) (by walk_at "has") (by walk_at "has") (by kernel_rfl) (by intro ts n; kernel_rfl) fun s8 h8 => d_notin h8 g (ks := nodes) (ep := en) (by walk_at "has") fun s9 h9 => ?_) rfl))
      rw [look_some_iff, hnew]
      refine st_local (p := .bool true) h9 I rfl (by kernel_rfl) fun s10 h10 => ?_
      refine x_cons (x_set (.ref at0) h10 I (by kernel_rfl) fun s11 h11 => ?_)
      refine x_nil (x_nil ?_)
      refine x_cons (x_if true h11 I (by kernel_rfl) fun s12 h12 => ?_)
      refine x_cons (x_if false h12 I (by kernel_rfl) fun s13 h13 => ?_)
      refine x_nil ?_
      refine x_cons (wpAny_Assign_Subscript (x_meth A_G_f4 x [] h13 I (by kernel_rfl) (by walk_at "has") (by walk_at "has") (by kernel_rfl) (by intro ts n; kernel_rfl) (by kernel_rfl) fun us s14 hus h14 => ?_) (by with_unfolding_all rfl))
      rw [List.map_eq_nil_iff.mp hus]
      refine call_fac h14 g F' (D_G_f4 g) (by kernel_rfl) (by kernel_rfl) (by intro z; kernel_rfl) fun a1 e1 s15 h15 => ?_
      refine x_sa x aa h15.swap I (by kernel_rfl) (by walk_at "has") (by walk_at "has") (by kernel_rfl) (by intro ts n; kernel_rfl) fun s16 h16 => x_int n h16 I (by kernel_rfl) fun t1 s17 h17 => ?_
      refine d_put (ks := adjL rows) (ep := ea) (a := a1) h17 (fun ep' => (by walk_at "rep")) (Nat.le_trans hl2 (by decide)) fun ea' s18 h18 => ?_
      rw [sto_new hnewA] at h18
      refine x_cons (wpAny_Assign_Subscript (x_meth A_G_f4 x [] h18 I (by kernel_rfl) (by walk_at "has") (by walk_at "has") (by kernel_rfl) (by intro ts n; kernel_rfl) (by kernel_rfl) fun us s14b hus h14b => ?_) (by with_unfolding_all rfl))
      rw [List.map_eq_nil_iff.mp hus]
      refine call_fac h14b g F' (D_G_f4 g) (by kernel_rfl) (by kernel_rfl) (by intro z; kernel_rfl) fun a3 e3 s15b h15b => ?_
      refine x_sa x pa h15b.swap I (by kernel_rfl) (by walk_at "has") (by walk_at "has") (by kernel_rfl) (by intro ts n; kernel_rfl) fun s16b h16b => x_int n h16b I (by kernel_rfl) fun t1b s17b h17b => ?_
      refine d_put (ks := adjL prows) (ep := eq) (a := a3) h17b (fun ep' => (by walk_at "rep")) (Nat.le_trans hl3 (by decide)) fun eq' s18b h18b => ?_
      rw [sto_new hnewP] at h18b
      refine x_cons (wpAny_Assign_Subscript (x_meth A_G_f2 x [] h18b I (by kernel_rfl) (by walk_at "has") (by walk_at "has") (by kernel_rfl) (by intro ts n; kernel_rfl) (by kernel_rfl) fun us s19 hus h19 => ?_) (by with_unfolding_all rfl))
      rw [List.map_eq_nil_iff.mp hus]
      refine call_fac h19 g F' (D_G_f2 g) (by kernel_rfl) (by kernel_rfl) (by intro z; kernel_rfl) fun a2 e2 s20 h20 => ?_
      refine x_sa x na h20.swap I (by kernel_rfl) (by walk_at "has") (by walk_at "has") (by kernel_rfl) (by intro ts n; kernel_rfl) fun s21 h21 => x_int n h21 I (by kernel_rfl) fun t2 s22 h22 => ?_
      refine d_put (ks := nodes) (ep := en) (a := a2) h22 (fun ep' => (by walk_at "rep")) (Nat.le_trans hl1 (by decide)) fun en' s23 h23 => ?_
      rw [sto_new hnew] at h23
      refine x_nil ?_
      refine x_cons (wpAny_Expr_any (PyProof.Rows.MethodCall_ (PyProof.Rows.Subscript_ (x_sa x na h23 I (by kernel_rfl) (by walk_at "has") (by walk_at "has") (by kernel_rfl) (by intro ts n; kernel_rfl) fun s24 h24 => x_int n h24 I (by kernel_rfl) fun t3 s25 h25 => ?_))))
      refine d_item (ks := nodes ++ [(n, a2)]) (ep := en') h25 (by walk_at "has") (look_new hnew) fun s26 h26 => ?_
      refine m_dict (ep := e2) (ks := []) h26 (by walk_at "has") PySem.F.slot_dict_update PySem.F.type_dict_update ?_
      refine cw_builtin [.ref at0] h26 I (by kernel_rfl) fun us s27 hus h27 => ?_
      obtain ⟨v1, rfl, hu1⟩ := args1 hus
      cases untok_ref hu1
      have hne : a2 ≠ at0 := d_ne h27 (ks := []) (ks' := []) (ep := e2) (ep' := e0) (by walk_at "foc") (by walk_at "has")
      refine d_upd0 (ks := []) (ep := e2) (ep' := e0) h27 g (fun n => (by walk_at "rep")) (by walk_at "has") hne (Nat.zero_le _) fun e2' s28 h28 => ?_
      have h29 : Ok (BB w h₁ X os dr) G (fr (callEnvC fd_D_add_nodes L A_D_add_nodes) [("self", .ref x), ("attr", .ref at0)] :: lit it l (intL ns) (intL todo) :: di (BB w h₁ X os dr) at0 [] e0 :: li l (intL ns) :: ins x C_DiGraph gd :: idc (BB w h₁ X os dr) gd [("graph", ga), ("_node", na), ("_adj", aa), ("_succ", aa), ("_pred", pa)] :: di (BB w h₁ X os dr) ga [] eg :: di (BB w h₁ X os dr) na (nodes ++ [(n, a2)]) en' :: di (BB w h₁ X os dr) aa (adjL rows ++ [(n, a1)]) ea' :: di (BB w h₁ X os dr) pa (adjL prows ++ [(n, a3)]) eq' :: di (BB w h₁ X os dr) a1 [] e1 :: di (BB w h₁ X os dr) a3 [] e3 :: di (BB w h₁ X os dr) a2 [] e2' :: ((rowsC (BB w h₁ X os dr) rows ++ (rowsC (BB w h₁ X os dr) prows ++ poolC (BB w h₁ X os dr) pool)) ++ cs)) s28 :=
        (h28.sub (vars' := [("self", .ref x), ("attr", .ref at0)]) (by kernel_rfl)).perm (by walk_at "perm")
      refine x_nil ⟨done ++ [n], todo, nodes ++ [(n, a2)], rows ++ [⟨n, a1, [], e1⟩], prows ++ [⟨n, a3, [], e3⟩], pool ++ [(a2, e2')], en', ea', eq', by rw [hns]; simp, rfl, ?_, ?_, ?_, ?_, ?_, ?_, ?_⟩
      · have e : adjL (rows ++ [⟨n, a1, [], e1⟩]) = adjL rows ++ [(n, a1)] := by unfold adjL; simp
        have e' : adjL (prows ++ [⟨n, a3, [], e3⟩]) = adjL prows ++ [(n, a3)] := by unfold adjL; simp
        rw [e, e']
        exact Ok.tail [_, _, _, _, _, _, _, _, _, _] h29 (tail_permD ⟨n, a1, [], e1⟩ ⟨n, a3, [], e3⟩ (a2, e2'))
      · simp [hk1]
      · simp [hk2]
      · simp [hk2']
      · intro p hp
        rcases List.mem_append.mp hp with hp | hp
        · obtain ⟨e, he⟩ := hk3 p hp
          exact ⟨e, List.mem_append_left _ he⟩
        · rw [List.mem_singleton.mp hp]
          exact ⟨e2', by simp⟩
      · intro r hr
        rcases List.mem_append.mp hr with hr | hr
        · exact hk4 r hr
        · rw [List.mem_singleton.mp hr]
      · intro r hr
        rcases List.mem_append.mp hr with hr | hr
        · exact hk4' r hr
        · rw [List.mem_singleton.mp hr]
  · intro s4 ⟨done, todo, nodes, rows, prows, pool, en, ea, eq, hns, hvs, h4, hk1, hk2, hk2', hk3, hk4, hk4'⟩
    cases todo with
    | cons n todo => cases hvs
    | nil =>
      rw [List.append_nil] at hns
      subst hns
      refine (lit_iter l it (intL ns)).done F'.handled h4 (by walk_at "foc") (by walk_at "has") fun s5 h5 => ⟨rfl, x_nil (x_nil ?_)⟩
      refine k ⟨x, gd, ga, na, aa, eg, en, ea, nodes, rows, pool, pa, eq, prows⟩ s5 h5.drop.drop ⟨hk1.trans hk2.symm, hk2'.trans hk2.symm, hk3, fun r hr p hp => (by rw [hk4 r hr] at hp; cases hp), fun r hr p hp => (by rw [hk4' r hr] at hp; cases hp)⟩ ?_ ?_ rfl
      · rw [← hk2]
        unfold absR
        rw [List.map_map]
        exact List.map_congr_left fun r hr => by simp [hk4 r hr]
      · rw [← hk2']
        unfold absR
        rw [List.map_map]
        exact List.map_congr_left fun r hr => by simp [hk4' r hr]
end
end Mine
namespace Mine
local macro_rules | `(tactic| walk_at "foc") => `(tactic| first | with_reducible exact Foc.here _ _ | (apply Foc.there; walk_at "foc"))
local macro_rules | `(tactic| walk_at "has") => `(tactic| first | with_reducible exact Has.here _ _ | assumption | (refine Has.there _ ?_; walk_at "has"))
local macro_rules | `(tactic| walk_at "rep") => `(tactic| first | with_reducible exact Rep.here _ _ _ | assumption | (apply Rep.there; walk_at "rep"))
local macro_rules | `(tactic| walk_at "perm") => `(tactic| first | with_reducible exact List.Perm.refl _ | (refine perm_step (by walk_at "foc") ?_; walk_at "perm"))
section
variable {w : World} {h₁ : Heap} {X : List Addr} {os : OsState} {dr : Drawn} {G : Array GenState} {cs cs' r : List Chunk} {s : Shared} {A : Around} {E : Value → Shared → Prop} {x gd a : Addr} {d u : Nat}
theorem U_add_edge (g : (BB w h₁ X os dr).Good) {g0 : GS} {k1 k2 : Int} {t1 t2 : Tok} {N : Nat} {Q : Value → Shared → Prop} (h : Ok (BB w h₁ X os dr) G (gU (BB w h₁ X os dr) C_Graph g0 ++ cs) s) (hg : g0.Ok) (hk1 : k1 ∈ g0.rows.map (·.key)) (hk2 : k2 ∈ g0.rows.map (·.key)) (hz : ∀ r ∈ g0.rows, r.ks.length ≤ N) (hN : N ≤ 1000) (F : Fit (BB w h₁ X os dr) A (d + 2) (u + 6))
    (k : ∀ g' s', Ok (BB w h₁ X os dr) G (gU (BB w h₁ X os dr) C_Graph g' ++ cs) s' → g'.Ok → absR g'.rows = updA (updA (absR g0.rows) k1 k2) k2 k1 → g'.x = g0.x → (∀ r ∈ g'.rows, r.ks.length ≤ N + 2) → Q .none s') : wpAny (BB w h₁ X os dr).M A (call (.ref A_G_add_edge) [.ref g0.x, .int k1 t1, .int k2 t2]) Q E s := by
  obtain ⟨x, gd, ga, na, aa, eg, en, ea, nodes, rows, pool, pa, eq, prows⟩ := g0
  obtain ⟨hg1, hg2, hg3⟩ := hg
  dsimp only at hg1 hg2 hg3 hk1 hk2 hz ⊢
  have D := D_G_add_edge g
  refine call_code (code_enters (args := ⟨[.ref x, .int k1 t1, .int k2 t2], []⟩) h F D (by kernel_rfl) (binds_kw (fun z => [("self", .ref x), ("u_of_edge", .int k1 t1), ("v_of_edge", .int k2 t2), ("attr", .ref z)]) h g (by intro z; kernel_rfl) fun at0 e0 s0 h0 => ?_))
  refine enters_of (vars := [("self", .ref x), ("u_of_edge", .int k1 0), ("v_of_edge", .int k2 0), ("attr", .ref at0)]) (cv := []) h0 g F (by intro z; kernel_rfl) (by intro z; kernel_rfl) (fun _ => ⟨rfl, List.nodup_nil⟩) fun A' L s1 F' h1 => ?_
  have I := D.inEnv g L
  show wpAny _ _ (execs (_ :: _) _) _ _ _
  refine x_cons (x_swap2P (.int k1 0) (.int k2 0) h1 I F'.handled (by kernel_rfl) (by kernel_rfl) fun s2 h2 => ?_)
  have h2 : Ok (BB w h₁ X os dr) G (fr (callEnvC fd_G_add_edge L A_G_add_edge) [("self", .ref x), ("u", .int k1 0), ("v", .int k2 0), ("attr", .ref at0)] :: di (BB w h₁ X os dr) at0 [] e0 :: ins x C_Graph gd :: idc (BB w h₁ X os dr) gd [("graph", ga), ("_node", na), ("_adj", aa)] :: di (BB w h₁ X os dr) ga [] eg :: di (BB w h₁ X os dr) na nodes en :: di (BB w h₁ X os dr) aa (adjL rows) ea :: ((rowsC (BB w h₁ X os dr) rows ++ poolC (BB w h₁ X os dr) pool) ++ cs)) s2 := h2.sub (by kernel_rfl)
  have nd : (rows.map (·.key)).Nodup := by rw [← adj_keys]; exact h2.dictNodup (d := aa) (ep := ea) (by walk_at "has")
  have in1 : (nodes.lookup k1).isSome = true := by rw [look_some_iff, hg1, List.contains_eq_mem]; exact decide_eq_true hk1
  have in2 : (nodes.lookup k2).isSome = true := by rw [look_some_iff, hg1, List.contains_eq_mem]; exact decide_eq_true hk2
  refine x_cons (wpAny_If (wpAny_isTrue_Compare1 (x_int k1 h2 I (by kernel_rfl) fun t s3 h3 => x_sa x na h3 I (by kernel_rfl) (by walk_at "has") (by walk_at "has") (by kernel_rfl) (by intro ts n; kernel_rfl) fun s4 h4 => d_notin h4 g (ks := nodes) (ep := en) (by walk_at "has") fun s5 h5 => ?_) rfl))
  rw [in1]
  refine wpAny_truthy_bool (x_nil ?_)
  refine x_cons (wpAny_If (wpAny_isTrue_Compare1 (x_int k2 h5 I (by kernel_rfl) fun t s3 h3 => x_sa x na h3 I (by kernel_rfl) (by walk_at "has") (by walk_at "has") (by kernel_rfl) (by intro ts n; kernel_rfl) fun s4 h4 => d_notin h4 g (ks := nodes) (ep := en) (by walk_at "has") fun s6 h6 => ?_) rfl))
  rw [in2]
  refine wpAny_truthy_bool (x_nil ?_)
  obtain ⟨ru, hru, rfl⟩ := row_of hk1
  have fru := has_row (b := (BB w h₁ X os dr)) (ps := poolC (BB w h₁ X os dr) pool) (cs := cs) hru
  refine x_cons (x_asg (PyProof.Rows.MethodCall_ (PyProof.Rows.Subscript_ (x_sa x aa h6 I (by kernel_rfl) (by walk_at "has") (by walk_at "has") (by kernel_rfl) (by intro ts n; kernel_rfl) fun s7 h7 => x_int ru.key h7 I (by kernel_rfl) fun t3 s8 h8 => d_item (ks := adjL rows) (ep := ea) h8 (by walk_at "has") (row_look nd hru) fun s9 h9 => ?_))))
  refine m_dict (ep := ru.ep) (ks := ru.ks) h9 (by walk_at "has") PySem.F.slot_dict_get PySem.F.type_dict_get ?_
  show wpAny _ _ (callWith _ (.builtin "dict.get") [.ref ru.at_] [(false, eval _ _), (false, eval _ _)] []) _ _ _
  refine d_get2 (h9.low_pt g (a := ru.at_) (φ := diP (BB w h₁ X os dr) ru.ks ru.ep) (by walk_at "has")) (x_int k2 h9 I (by kernel_rfl) fun t4 s10 h10 => x_meth A_G_f5 x [] h10 I (by kernel_rfl) (by walk_at "has") (by walk_at "has") (by kernel_rfl) (by intro ts n; kernel_rfl) (by kernel_rfl) fun us s11 hus h11 => ?_)
  rw [List.map_eq_nil_iff.mp hus]
  refine call_fac h11 g F' (D_G_f5 g) (by kernel_rfl) (by kernel_rfl) (by intro z; kernel_rfl) fun a1 e1 s12 h12 => ?_
  refine ⟨k2, t4, a1, _, _, ru.ks, ru.ep, rfl, rfl, h12, (by walk_at "has"), fun s13 h13 => ?_⟩
  have hdd : ∃ e, ((ru.ks.lookup k2).getD a1, e) ∈ pool ++ [(a1, e1)] := by
    cases hl : ru.ks.lookup k2 with
    | none => exact ⟨e1, by simp⟩
    | some a => obtain ⟨e, he⟩ := hg3 ru hru _ (mem_of_look hl); exact ⟨e, List.mem_append_left _ he⟩
  revert hdd
  generalize (ru.ks.lookup k2).getD a1 = dd
  intro ⟨edd, hdd⟩
  refine st_local h13.swap I rfl (by kernel_rfl) fun s14 h14 => ?_
  have hg2' : ∀ p ∈ nodes, ∃ e, (p.2, e) ∈ pool ++ [(a1, e1)] := fun p hp => let ⟨e, he⟩ := hg2 p hp; ⟨e, List.mem_append_left _ he⟩
  have hg3' : ∀ r ∈ rows, ∀ p ∈ r.ks, ∃ e, (p.2, e) ∈ pool ++ [(a1, e1)] := fun r hr p hp => let ⟨e, he⟩ := hg3 r hr p hp; ⟨e, List.mem_append_left _ he⟩
  have h15 : Ok (BB w h₁ X os dr) G (fr (callEnvC fd_G_add_edge L A_G_add_edge) [("self", .ref x), ("u", .int ru.key 0), ("v", .int k2 0), ("attr", .ref at0), ("datadict", .ref dd)] :: di (BB w h₁ X os dr) at0 [] e0 :: ins x C_Graph gd :: idc (BB w h₁ X os dr) gd [("graph", ga), ("_node", na), ("_adj", aa)] :: di (BB w h₁ X os dr) ga [] eg :: di (BB w h₁ X os dr) na nodes en :: di (BB w h₁ X os dr) aa (adjL rows) ea :: di (BB w h₁ X os dr) a1 [] e1 :: ((rowsC (BB w h₁ X os dr) rows ++ poolC (BB w h₁ X os dr) pool) ++ cs)) s14 := (h14.sub (by kernel_rfl)).perm (by walk_at "perm")
  have h15 := Ok.tail [_, _, _, _, _, _, _] h15 (pool_perm (rs := rowsC (BB w h₁ X os dr) rows) (pool := pool) (cs := cs) (a1, e1))
  simp only [List.cons_append, List.nil_append] at h15
  revert hg2' hg3' hdd h15
  generalize pool ++ [(a1, e1)] = pool1
  intro hdd hg2' hg3' h15
  have hpd := has_pool (b := (BB w h₁ X os dr)) (rs := rowsC (BB w h₁ X os dr) rows) (cs := cs) hdd
  refine x_cons (wpAny_Expr_any (x_bm dd [.ref at0] h15 I (by kernel_rfl) (fun s' Q' h' k => m_dict h' (ks := []) (ep := edd) (by walk_at "has") PySem.F.slot_dict_update PySem.F.type_dict_update k) fun us s16 hus h16 => ?_))
  obtain ⟨v1, rfl, hu1⟩ := args1 hus
  cases untok_ref hu1
  have hne : dd ≠ at0 := (d_ne h16 (a := at0) (a' := dd) (ks := []) (ks' := []) (ep := e0) (ep' := edd) (by walk_at "foc") (by walk_at "has")).symm
  obtain ⟨p1, p2, rfl⟩ := split_of hdd
  have hrp := fun n => rep_pool (b := (BB w h₁ X os dr)) (l₁ := p1) (l₂ := p2) (rs := rowsC (BB w h₁ X os dr) rows) (cs := cs) (dd, edd) (dd, n)
  refine d_upd0 (ks := []) (ep := edd) (ep' := e0) h16 g (fun n => by have := hrp n; walk_at "rep") (by walk_at "has") hne (Nat.zero_le _) fun edd' s17 h17 => ?_
  have hsub : ∀ a, (∃ e, (a, e) ∈ p1 ++ (dd, edd) :: p2) → ∃ e, (a, e) ∈ p1 ++ (dd, edd') :: p2 := by
    rintro a ⟨e, he⟩
    rcases List.mem_append.mp he with he | he
    · exact ⟨e, List.mem_append_left _ he⟩
    · rcases List.mem_cons.mp he with he | he
      · cases he; exact ⟨edd', by simp⟩
      · exact ⟨e, by simp [he]⟩
  have hdd2 : ∃ e, (dd, e) ∈ p1 ++ (dd, edd') :: p2 := ⟨edd', by simp⟩
  refine x_cons (wpAny_Assign_Subscript (x_ref dd h17 I (by kernel_rfl) fun s18 h18 => PyProof.Rows.Subscript_ (x_sa x aa h18 I (by kernel_rfl) (by walk_at "has") (by walk_at "has") (by kernel_rfl) (by intro ts n; kernel_rfl) fun s19 h19 => x_int ru.key h19 I (by kernel_rfl) fun t5 s20 h20 => d_item (ks := adjL rows) (ep := ea) h20 (by walk_at "has") (row_look nd hru) fun s21 h21 => x_int k2 h21 I (by kernel_rfl) fun t6 s22 h22 => ?_)) (by with_unfolding_all rfl))
  obtain ⟨l1, l2, hrows⟩ := split_of hru
  have hr1 := fun n => rep_row (b := (BB w h₁ X os dr)) (l₁ := l1) (l₂ := l2) (ps := poolC (BB w h₁ X os dr) (p1 ++ (dd, edd') :: p2)) (cs := cs) ru ⟨ru.key, ru.at_, sto ru.ks k2 dd, n⟩
  rw [← hrows] at hr1
  have hzu : ru.ks.length ≤ N := hz ru hru
  refine d_put (ks := ru.ks) (ep := ru.ep) (a := dd) h22 (fun n => by have := hr1 n; walk_at "rep") (Nat.le_trans (Nat.le_trans hzu hN) (by decide)) fun eu s23 h23 => ?_
  have hkeys := upd_keys (l₁ := l1) (l₂ := l2) (r := ru) (r' := ⟨ru.key, ru.at_, sto ru.ks k2 dd, eu⟩) rfl
  have hadj := upd_adj (l₁ := l1) (l₂ := l2) (r := ru) (r' := ⟨ru.key, ru.at_, sto ru.ks k2 dd, eu⟩) rfl rfl
  have habs := upd_rows (l₁ := l1) (l₂ := l2) (r := ru) (r' := ⟨ru.key, ru.at_, sto ru.ks k2 dd, eu⟩) (v := k2) (by rw [← hrows]; exact nd) rfl (sto_keys _ _ _)
  rw [← hrows] at hkeys hadj habs
  have hg3b : ∀ r ∈ l1 ++ ⟨ru.key, ru.at_, sto ru.ks k2 dd, eu⟩ :: l2, ∀ p ∈ r.ks, ∃ e, (p.2, e) ∈ p1 ++ (dd, edd') :: p2 := by
    intro r hr p hp
    rcases List.mem_append.mp hr with hr | hr
    · exact hsub _ (hg3' r (by rw [hrows]; exact List.mem_append_left _ hr) p hp)
    · rcases List.mem_cons.mp hr with rfl | hr
      · rcases sto_mem hp with hp | hp
        · exact hsub _ (hg3' ru hru p hp)
        · rw [hp]; exact hdd2
      · exact hsub _ (hg3' r (by rw [hrows]; exact List.mem_append_right _ (List.mem_cons_of_mem _ hr)) p hp)
  have hzb : ∀ r ∈ l1 ++ ⟨ru.key, ru.at_, sto ru.ks k2 dd, eu⟩ :: l2, r.ks.length ≤ N + 1 := by
    intro r hr
    rcases List.mem_append.mp hr with hr | hr
    · have := hz r (by rw [hrows]; exact List.mem_append_left _ hr); omega
    · rcases List.mem_cons.mp hr with rfl | hr
      · have := sto_len ru.ks k2 dd; show (sto ru.ks k2 dd).length ≤ _; omega
      · have := hz r (by rw [hrows]; exact List.mem_append_right _ (List.mem_cons_of_mem _ hr)); omega
  revert hkeys hadj habs hg3b hzb h23
  generalize l1 ++ ⟨ru.key, ru.at_, sto ru.ks k2 dd, eu⟩ :: l2 = rows2
  intro h23 hkeys hadj habs hg3b hzb
  rw [← hkeys] at hk2 nd
  rw [← hadj] at h23
  obtain ⟨rv, hrv, rfl⟩ := row_of hk2
  have frv := has_row (b := (BB w h₁ X os dr)) (ps := poolC (BB w h₁ X os dr) (p1 ++ (dd, edd') :: p2)) (cs := cs) hrv
  refine x_cons (wpAny_Assign_Subscript (x_ref dd h23 I (by kernel_rfl) fun s18 h18 => PyProof.Rows.Subscript_ (x_sa x aa h18 I (by kernel_rfl) (by walk_at "has") (by walk_at "has") (by kernel_rfl) (by intro ts n; kernel_rfl) fun s19 h19 => x_int rv.key h19 I (by kernel_rfl) fun t5 s20 h20 => d_item (ks := adjL rows2) (ep := ea) h20 (by walk_at "has") (row_look nd hrv) fun s21 h21 => x_int ru.key h21 I (by kernel_rfl) fun t6 s22 h22 => ?_)) (by with_unfolding_all rfl))
  obtain ⟨m1, m2, hrows2⟩ := split_of hrv
  have hr2 := fun n => rep_row (b := (BB w h₁ X os dr)) (l₁ := m1) (l₂ := m2) (ps := poolC (BB w h₁ X os dr) (p1 ++ (dd, edd') :: p2)) (cs := cs) rv ⟨rv.key, rv.at_, sto rv.ks ru.key dd, n⟩
  rw [← hrows2] at hr2
  have hzv : rv.ks.length ≤ N + 1 := hzb rv hrv
  refine d_put (ks := rv.ks) (ep := rv.ep) (a := dd) h22 (fun n => by have := hr2 n; walk_at "rep") (Nat.le_trans hzv (Nat.le_trans (Nat.add_le_add_right hN 1) (by decide))) fun ew s24 h24 => x_nil ?_
  have hkeys2 := upd_keys (l₁ := m1) (l₂ := m2) (r := rv) (r' := ⟨rv.key, rv.at_, sto rv.ks ru.key dd, ew⟩) rfl
  have hadj2 := upd_adj (l₁ := m1) (l₂ := m2) (r := rv) (r' := ⟨rv.key, rv.at_, sto rv.ks ru.key dd, ew⟩) rfl rfl
  have habs2 := upd_rows (l₁ := m1) (l₂ := m2) (r := rv) (r' := ⟨rv.key, rv.at_, sto rv.ks ru.key dd, ew⟩) (v := ru.key) (by rw [← hrows2]; exact nd) rfl (sto_keys _ _ _)
  rw [← hrows2] at hkeys2 hadj2 habs2
  rw [← hadj2] at h24
  refine k ⟨x, gd, ga, na, aa, eg, en, ea, nodes, m1 ++ ⟨rv.key, rv.at_, sto rv.ks ru.key dd, ew⟩ :: m2, p1 ++ (dd, edd') :: p2, pa, eq, prows⟩ s24 h24.drop.drop ⟨?_, fun p hp => hsub _ (hg2' p hp), ?_⟩ ?_ rfl ?_
  · exact hg1.trans (hkeys.symm.trans hkeys2.symm)
  · intro r hr p hp
    rcases List.mem_append.mp hr with hr | hr
    · exact hg3b r (by rw [hrows2]; exact List.mem_append_left _ hr) p hp
    · rcases List.mem_cons.mp hr with rfl | hr
      · rcases sto_mem hp with hp | hp
        · exact hg3b rv hrv p hp
        · rw [hp]; exact hdd2
      · exact hg3b r (by rw [hrows2]; exact List.mem_append_right _ (List.mem_cons_of_mem _ hr)) p hp
  · rw [habs2, habs]
  · intro r hr
    rcases List.mem_append.mp hr with hr | hr
    · have := hzb r (by rw [hrows2]; exact List.mem_append_left _ hr); omega
    · rcases List.mem_cons.mp hr with rfl | hr
      · have := sto_len rv.ks ru.key dd; show (sto rv.ks ru.key dd).length ≤ _; omega
      · have := hzb r (by rw [hrows2]; exact List.mem_append_right _ (List.mem_cons_of_mem _ hr)); omega
end
end Mine
namespace Mine
local macro_rules | `(tactic| walk_at "foc") => `(tactic| first | with_reducible exact Foc.here _ _ | (apply Foc.there; walk_at "foc"))
local macro_rules | `(tactic| walk_at "has") => `(tactic| first | with_reducible exact Has.here _ _ | assumption | (refine Has.there _ ?_; walk_at "has"))
local macro_rules | `(tactic| walk_at "rep") => `(tactic| first | with_reducible exact Rep.here _ _ _ | assumption | (apply Rep.there; walk_at "rep"))
local macro_rules | `(tactic| walk_at "perm") => `(tactic| first | with_reducible exact List.Perm.refl _ | (refine perm_step (by walk_at "foc") ?_; walk_at "perm"))
section
variable {w : World} {h₁ : Heap} {X : List Addr} {os : OsState} {dr : Drawn} {G : Array GenState} {cs cs' r : List Chunk} {s : Shared} {A : Around} {E : Value → Shared → Prop} {x gd a : Addr} {d u : Nat}
theorem D_add_edge (g : (BB w h₁ X os dr).Good) {g0 : GS} {k1 k2 : Int} {t1 t2 : Tok} {N : Nat} {Q : Value → Shared → Prop} (h : Ok (BB w h₁ X os dr) G (gD (BB w h₁ X os dr) C_DiGraph g0 ++ cs) s) (hg : g0.OkD) (hk1 : k1 ∈ g0.rows.map (·.key)) (hk2 : k2 ∈ g0.rows.map (·.key)) (hz : ∀ r ∈ g0.rows, r.ks.length ≤ N) (hz' : ∀ r ∈ g0.prows, r.ks.length ≤ N) (hN : N ≤ 1000) (F : Fit (BB w h₁ X os dr) A (d + 2) (u + 6))
    (k : ∀ g' s', Ok (BB w h₁ X os dr) G (gD (BB w h₁ X os dr) C_DiGraph g' ++ cs) s' → g'.OkD → absR g'.rows = updA (absR g0.rows) k1 k2 → absR g'.prows = updA (absR g0.prows) k2 k1 → g'.x = g0.x → (∀ r ∈ g'.rows, r.ks.length ≤ N + 1) → (∀ r ∈ g'.prows, r.ks.length ≤ N + 1) → Q .none s') : wpAny (BB w h₁ X os dr).M A (call (.ref A_D_add_edge) [.ref g0.x, .int k1 t1, .int k2 t2]) Q E s := by
  obtain ⟨x, gd, ga, na, aa, eg, en, ea, nodes, rows, pool, pa, eq, prows⟩ := g0
  obtain ⟨hg1, hgp, hg2, hg3, hg4⟩ := hg
  dsimp only at hg1 hgp hg2 hg3 hg4 hk1 hk2 hz hz' ⊢
  have D := D_D_add_edge g
  refine call_code (code_enters (args := ⟨[.ref x, .int k1 t1, .int k2 t2], []⟩) h F D (by kernel_rfl) (binds_kw (fun z => [("self", .ref x), ("u_of_edge", .int k1 t1), ("v_of_edge", .int k2 t2), ("attr", .ref z)]) h g (by intro z; kernel_rfl) fun at0 e0 s0 h0 => ?_))
  refine enters_of (vars := [("self", .ref x), ("u_of_edge", .int k1 0), ("v_of_edge", .int k2 0), ("attr", .ref at0)]) (cv := []) h0 g F (by intro z; kernel_rfl) (by intro z; kernel_rfl) (fun _ => ⟨rfl, List.nodup_nil⟩) fun A' L s1 F' h1 => ?_
  have I := D.inEnv g L
  show wpAny _ _ (execs (_ :: _) _) _ _ _
  refine x_cons (x_swap2P (.int k1 0) (.int k2 0) h1 I F'.handled (by kernel_rfl) (by kernel_rfl) fun s2 h2 => ?_)
  have h2 : Ok (BB w h₁ X os dr) G (fr (callEnvC fd_D_add_edge L A_D_add_edge) [("self", .ref x), ("u", .int k1 0), ("v", .int k2 0), ("attr", .ref at0)] :: di (BB w h₁ X os dr) at0 [] e0 :: ins x C_DiGraph gd :: idc (BB w h₁ X os dr) gd [("graph", ga), ("_node", na), ("_adj", aa), ("_succ", aa), ("_pred", pa)] :: di (BB w h₁ X os dr) ga [] eg :: di (BB w h₁ X os dr) na nodes en :: di (BB w h₁ X os dr) aa (adjL rows) ea :: di (BB w h₁ X os dr) pa (adjL prows) eq :: ((rowsC (BB w h₁ X os dr) rows ++ (rowsC (BB w h₁ X os dr) prows ++ poolC (BB w h₁ X os dr) pool)) ++ cs)) s2 := h2.sub (by kernel_rfl)
  have nd : (rows.map (·.key)).Nodup := by rw [← adj_keys]; exact h2.dictNodup (d := aa) (ep := ea) (by walk_at "has")
  have in1 : ((adjL rows).lookup k1).isSome = true := by rw [look_some_iff, adj_keys, List.contains_eq_mem]; exact decide_eq_true hk1
  have in2 : ((adjL rows).lookup k2).isSome = true := by rw [look_some_iff, adj_keys, List.contains_eq_mem]; exact decide_eq_true hk2
  refine x_cons (wpAny_If (wpAny_isTrue_Compare1 (x_int k1 h2 I (by kernel_rfl) fun t s3 h3 => x_sa x aa h3 I (by kernel_rfl) (by walk_at "has") (by walk_at "has") (by kernel_rfl) (by intro ts n; kernel_rfl) fun s4 h4 => d_notin h4 g (ks := adjL rows) (ep := ea) (by walk_at "has") fun s5 h5 => ?_) rfl))
  rw [in1]
  refine wpAny_truthy_bool (x_nil ?_)
  refine x_cons (wpAny_If (wpAny_isTrue_Compare1 (x_int k2 h5 I (by kernel_rfl) fun t s3 h3 => x_sa x aa h3 I (by kernel_rfl) (by walk_at "has") (by walk_at "has") (by kernel_rfl) (by intro ts n; kernel_rfl) fun s4 h4 => d_notin h4 g (ks := adjL rows) (ep := ea) (by walk_at "has") fun s6 h6 => ?_) rfl))
  rw [in2]
  refine wpAny_truthy_bool (x_nil ?_)
  obtain ⟨ru, hru, rfl⟩ := row_of hk1
  have fru := has_row (b := (BB w h₁ X os dr)) (ps := rowsC (BB w h₁ X os dr) prows ++ poolC (BB w h₁ X os dr) pool) (cs := cs) hru
  refine x_cons (x_asg (PyProof.Rows.MethodCall_ (PyProof.Rows.Subscript_ (x_sa x aa h6 I (by kernel_rfl) (by walk_at "has") (by walk_at "has") (by kernel_rfl) (by intro ts n; kernel_rfl) fun s7 h7 => x_int ru.key h7 I (by kernel_rfl) fun t3 s8 h8 => d_item (ks := adjL rows) (ep := ea) h8 (by walk_at "has") (row_look nd hru) fun s9 h9 => ?_))))
  refine m_dict (ep := ru.ep) (ks := ru.ks) h9 (by walk_at "has") PySem.F.slot_dict_get PySem.F.type_dict_get ?_
  show wpAny _ _ (callWith _ (.builtin "dict.get") [.ref ru.at_] [(false, eval _ _), (false, eval _ _)] []) _ _ _
  refine d_get2 (h9.low_pt g (a := ru.at_) (φ := diP (BB w h₁ X os dr) ru.ks ru.ep) (by walk_at "has")) (x_int k2 h9 I (by kernel_rfl) fun t4 s10 h10 => x_meth A_G_f5 x [] h10 I (by kernel_rfl) (by walk_at "has") (by walk_at "has") (by kernel_rfl) (by intro ts n; kernel_rfl) (by kernel_rfl) fun us s11 hus h11 => ?_)
  rw [List.map_eq_nil_iff.mp hus]
  refine call_fac h11 g F' (D_G_f5 g) (by kernel_rfl) (by kernel_rfl) (by intro z; kernel_rfl) fun a1 e1 s12 h12 => ?_
  refine ⟨k2, t4, a1, _, _, ru.ks, ru.ep, rfl, rfl, h12, (by walk_at "has"), fun s13 h13 => ?_⟩
  have hdd : ∃ e, ((ru.ks.lookup k2).getD a1, e) ∈ pool ++ [(a1, e1)] := by
    cases hl : ru.ks.lookup k2 with
    | none => exact ⟨e1, by simp⟩
    | some a => obtain ⟨e, he⟩ := hg3 ru hru _ (mem_of_look hl); exact ⟨e, List.mem_append_left _ he⟩
  revert hdd
  generalize (ru.ks.lookup k2).getD a1 = dd
  intro ⟨edd, hdd⟩
  refine st_local h13.swap I rfl (by kernel_rfl) fun s14 h14 => ?_
  have hg2' : ∀ p ∈ nodes, ∃ e, (p.2, e) ∈ pool ++ [(a1, e1)] := fun p hp => let ⟨e, he⟩ := hg2 p hp; ⟨e, List.mem_append_left _ he⟩
  have hg3' : ∀ r ∈ rows, ∀ p ∈ r.ks, ∃ e, (p.2, e) ∈ pool ++ [(a1, e1)] := fun r hr p hp => let ⟨e, he⟩ := hg3 r hr p hp; ⟨e, List.mem_append_left _ he⟩
  have h15 : Ok (BB w h₁ X os dr) G (fr (callEnvC fd_D_add_edge L A_D_add_edge) [("self", .ref x), ("u", .int ru.key 0), ("v", .int k2 0), ("attr", .ref at0), ("datadict", .ref dd)] :: di (BB w h₁ X os dr) at0 [] e0 :: ins x C_DiGraph gd :: idc (BB w h₁ X os dr) gd [("graph", ga), ("_node", na), ("_adj", aa), ("_succ", aa), ("_pred", pa)] :: di (BB w h₁ X os dr) ga [] eg :: di (BB w h₁ X os dr) na nodes en :: di (BB w h₁ X os dr) aa (adjL rows) ea :: di (BB w h₁ X os dr) pa (adjL prows) eq :: di (BB w h₁ X os dr) a1 [] e1 :: ((rowsC (BB w h₁ X os dr) rows ++ (rowsC (BB w h₁ X os dr) prows ++ poolC (BB w h₁ X os dr) pool)) ++ cs)) s14 := (h14.sub (by kernel_rfl)).perm (by walk_at "perm")
  have h15 := Ok.tail [_, _, _, _, _, _, _, _] h15 (pool_permD (rs := rowsC (BB w h₁ X os dr) rows) (qs := rowsC (BB w h₁ X os dr) prows) (pool := pool) (cs := cs) (a1, e1))
  simp only [List.cons_append, List.nil_append] at h15
  have hg4' : ∀ r ∈ prows, ∀ p ∈ r.ks, ∃ e, (p.2, e) ∈ pool ++ [(a1, e1)] := fun r hr p hp => let ⟨e, he⟩ := hg4 r hr p hp; ⟨e, List.mem_append_left _ he⟩
  revert hg2' hg3' hg4' hdd h15
  generalize pool ++ [(a1, e1)] = pool1
  intro hdd hg2' hg3' h15 hg4'
  have hpd := has_poolD (b := (BB w h₁ X os dr)) (rs := rowsC (BB w h₁ X os dr) rows) (qs := rowsC (BB w h₁ X os dr) prows) (cs := cs) hdd
  refine x_cons (wpAny_Expr_any (x_bm dd [.ref at0] h15 I (by kernel_rfl) (fun s' Q' h' k => m_dict h' (ks := []) (ep := edd) (by walk_at "has") PySem.F.slot_dict_update PySem.F.type_dict_update k) fun us s16 hus h16 => ?_))
  obtain ⟨v1, rfl, hu1⟩ := args1 hus
  cases untok_ref hu1
  have hne : dd ≠ at0 := (d_ne h16 (a := at0) (a' := dd) (ks := []) (ks' := []) (ep := e0) (ep' := edd) (by walk_at "foc") (by walk_at "has")).symm
  obtain ⟨p1, p2, rfl⟩ := split_of hdd
  have hrp := fun n => rep_poolD (b := (BB w h₁ X os dr)) (l₁ := p1) (l₂ := p2) (rs := rowsC (BB w h₁ X os dr) rows) (qs := rowsC (BB w h₁ X os dr) prows) (cs := cs) (dd, edd) (dd, n)
  refine d_upd0 (ks := []) (ep := edd) (ep' := e0) h16 g (fun n => by have := hrp n; walk_at "rep") (by walk_at "has") hne (Nat.zero_le _) fun edd' s17 h17 => ?_
  have hsub : ∀ a, (∃ e, (a, e) ∈ p1 ++ (dd, edd) :: p2) → ∃ e, (a, e) ∈ p1 ++ (dd, edd') :: p2 := by
    rintro a ⟨e, he⟩
    rcases List.mem_append.mp he with he | he
    · exact ⟨e, List.mem_append_left _ he⟩
    · rcases List.mem_cons.mp he with he | he
      · cases he; exact ⟨edd', by simp⟩
      · exact ⟨e, by simp [he]⟩
  have hdd2 : ∃ e, (dd, e) ∈ p1 ++ (dd, edd') :: p2 := ⟨edd', by simp⟩
  refine x_cons (wpAny_Assign_Subscript (x_ref dd h17 I (by kernel_rfl) fun s18 h18 => PyProof.Rows.Subscript_ (x_sa x aa h18 I (by kernel_rfl) (by walk_at "has") (by walk_at "has") (by kernel_rfl) (by intro ts n; kernel_rfl) fun s19 h19 => x_int ru.key h19 I (by kernel_rfl) fun t5 s20 h20 => d_item (ks := adjL rows) (ep := ea) h20 (by walk_at "has") (row_look nd hru) fun s21 h21 => x_int k2 h21 I (by kernel_rfl) fun t6 s22 h22 => ?_)) (by with_unfolding_all rfl))
  obtain ⟨l1, l2, hrows⟩ := split_of hru
  have hr1 := fun n => rep_row (b := (BB w h₁ X os dr)) (l₁ := l1) (l₂ := l2) (ps := rowsC (BB w h₁ X os dr) prows ++ poolC (BB w h₁ X os dr) (p1 ++ (dd, edd') :: p2)) (cs := cs) ru ⟨ru.key, ru.at_, sto ru.ks k2 dd, n⟩
  rw [← hrows] at hr1
  have hzu : ru.ks.length ≤ N := hz ru hru
  refine d_put (ks := ru.ks) (ep := ru.ep) (a := dd) h22 (fun n => by have := hr1 n; walk_at "rep") (Nat.le_trans (Nat.le_trans hzu hN) (by decide)) fun eu s23 h23 => ?_
  have hkeys := upd_keys (l₁ := l1) (l₂ := l2) (r := ru) (r' := ⟨ru.key, ru.at_, sto ru.ks k2 dd, eu⟩) rfl
  have hadj := upd_adj (l₁ := l1) (l₂ := l2) (r := ru) (r' := ⟨ru.key, ru.at_, sto ru.ks k2 dd, eu⟩) rfl rfl
  have habs := upd_rows (l₁ := l1) (l₂ := l2) (r := ru) (r' := ⟨ru.key, ru.at_, sto ru.ks k2 dd, eu⟩) (v := k2) (by rw [← hrows]; exact nd) rfl (sto_keys _ _ _)
  rw [← hrows] at hkeys hadj habs
  have hg3b : ∀ r ∈ l1 ++ ⟨ru.key, ru.at_, sto ru.ks k2 dd, eu⟩ :: l2, ∀ p ∈ r.ks, ∃ e, (p.2, e) ∈ p1 ++ (dd, edd') :: p2 := by
    intro r hr p hp
    rcases List.mem_append.mp hr with hr | hr
    · exact hsub _ (hg3' r (by rw [hrows]; exact List.mem_append_left _ hr) p hp)
    · rcases List.mem_cons.mp hr with rfl | hr
      · rcases sto_mem hp with hp | hp
        · exact hsub _ (hg3' ru hru p hp)
        · rw [hp]; exact hdd2
      · exact hsub _ (hg3' r (by rw [hrows]; exact List.mem_append_right _ (List.mem_cons_of_mem _ hr)) p hp)
  have hzb : ∀ r ∈ l1 ++ ⟨ru.key, ru.at_, sto ru.ks k2 dd, eu⟩ :: l2, r.ks.length ≤ N + 1 := by
    intro r hr
    rcases List.mem_append.mp hr with hr | hr
    · have := hz r (by rw [hrows]; exact List.mem_append_left _ hr); omega
    · rcases List.mem_cons.mp hr with rfl | hr
      · have := sto_len ru.ks k2 dd; show (sto ru.ks k2 dd).length ≤ _; omega
      · have := hz r (by rw [hrows]; exact List.mem_append_right _ (List.mem_cons_of_mem _ hr)); omega
  revert hkeys hadj habs hg3b hzb h23
  generalize l1 ++ ⟨ru.key, ru.at_, sto ru.ks k2 dd, eu⟩ :: l2 = rows2
  intro h23 hkeys hadj habs hg3b hzb
  rw [← hgp] at hk2
  have ndp : (prows.map (·.key)).Nodup := by rw [hgp]; exact nd
  rw [← hadj] at h23
  obtain ⟨rv, hrv, rfl⟩ := row_of hk2
  have frv := has_prow (b := (BB w h₁ X os dr)) (rs := rowsC (BB w h₁ X os dr) rows2) (ps := poolC (BB w h₁ X os dr) (p1 ++ (dd, edd') :: p2)) (cs := cs) hrv
  refine x_cons (wpAny_Assign_Subscript (x_ref dd h23 I (by kernel_rfl) fun s18 h18 => PyProof.Rows.Subscript_ (x_sa x pa h18 I (by kernel_rfl) (by walk_at "has") (by walk_at "has") (by kernel_rfl) (by intro ts n; kernel_rfl) fun s19 h19 => x_int rv.key h19 I (by kernel_rfl) fun t5 s20 h20 => d_item (ks := adjL prows) (ep := eq) h20 (by walk_at "has") (row_look ndp hrv) fun s21 h21 => x_int ru.key h21 I (by kernel_rfl) fun t6 s22 h22 => ?_)) (by with_unfolding_all rfl))
  obtain ⟨m1, m2, hrows2⟩ := split_of hrv
  have hr2 := fun n => rep_prow (b := (BB w h₁ X os dr)) (l₁ := m1) (l₂ := m2) (rs := rowsC (BB w h₁ X os dr) rows2) (ps := poolC (BB w h₁ X os dr) (p1 ++ (dd, edd') :: p2)) (cs := cs) rv ⟨rv.key, rv.at_, sto rv.ks ru.key dd, n⟩
  rw [← hrows2] at hr2
  have hzv : rv.ks.length ≤ N := hz' rv hrv
  refine d_put (ks := rv.ks) (ep := rv.ep) (a := dd) h22 (fun n => by have := hr2 n; walk_at "rep") (Nat.le_trans (Nat.le_trans hzv hN) (by decide)) fun ew s24 h24 => x_nil ?_
  have hkeys2 := upd_keys (l₁ := m1) (l₂ := m2) (r := rv) (r' := ⟨rv.key, rv.at_, sto rv.ks ru.key dd, ew⟩) rfl
  have hadj2 := upd_adj (l₁ := m1) (l₂ := m2) (r := rv) (r' := ⟨rv.key, rv.at_, sto rv.ks ru.key dd, ew⟩) rfl rfl
  have habs2 := upd_rows (l₁ := m1) (l₂ := m2) (r := rv) (r' := ⟨rv.key, rv.at_, sto rv.ks ru.key dd, ew⟩) (v := ru.key) (by rw [← hrows2]; exact ndp) rfl (sto_keys _ _ _)
  rw [← hrows2] at hkeys2 hadj2 habs2
  rw [← hadj2] at h24
  refine k ⟨x, gd, ga, na, aa, eg, en, ea, nodes, rows2, p1 ++ (dd, edd') :: p2, pa, eq, m1 ++ ⟨rv.key, rv.at_, sto rv.ks ru.key dd, ew⟩ :: m2⟩ s24 h24.drop.drop ⟨?_, ?_, fun p hp => hsub _ (hg2' p hp), hg3b, ?_⟩ habs habs2 rfl hzb ?_
  · exact hg1.trans hkeys.symm
  · exact hkeys2.trans (hgp.trans hkeys.symm)
  · intro r hr p hp
    rcases List.mem_append.mp hr with hr | hr
    · exact hsub _ (hg4' r (by rw [hrows2]; exact List.mem_append_left _ hr) p hp)
    · rcases List.mem_cons.mp hr with rfl | hr
      · rcases sto_mem hp with hp | hp
        · exact hsub _ (hg4' rv hrv p hp)
        · rw [hp]; exact hdd2
      · exact hsub _ (hg4' r (by rw [hrows2]; exact List.mem_append_right _ (List.mem_cons_of_mem _ hr)) p hp)
  · intro r hr
    rcases List.mem_append.mp hr with hr | hr
    · have := hz' r (by rw [hrows2]; exact List.mem_append_left _ hr); omega
    · rcases List.mem_cons.mp hr with rfl | hr
      · have := sto_len rv.ks ru.key dd; show (sto rv.ks ru.key dd).length ≤ _; omega
      · have := hz' r (by rw [hrows2]; exact List.mem_append_right _ (List.mem_cons_of_mem _ hr)); omega
end
end Mine
namespace Mine
def Run (M : Model) (A : Around) (P : End → Shared → Prop) (c : Code) (t : Sem Fin) (fs : List Frame) (s : Shared) : Prop :=
  ∀ Γ p, Γ.code = c → Γ.Woken A → ∃ e s', Runs M Γ p t fs s e s' ∧ P e s'
section
variable {M : Model} {A : Around} {P P' : End → Shared → Prop} {c : Code} {fs : List Frame} {s : Shared} {env : Env} {K : Flow → Sem Fin} {H : Value → Sem Fin} {gd : Bool → Bool} {lv : List Value → List Value}
theorem rn_mono {t : Sem Fin} (h : Run M A P c t fs s) (hp : ∀ e s', P e s' → P' e s') : Run M A P' c t fs s := fun Γ p hc hΓ =>
  let ⟨e, s', hr, he⟩ := h Γ p hc hΓ; ⟨e, s', hr, hp e s' he⟩
theorem rn_wrap {α : Type} {m : Sem α} {K : α → Sem Fin} {H : Value → Sem Fin} {gd lv}
    (h : wpAny M (A.over c fs) m (fun a s' => Run M A P c (K a) fs s') (fun x s' => Run M A P c (H x) fs s') s) : Run M A P c (m.wrap K H gd lv) fs s := by
  intro Γ p hc hΓ
  subst hc
  exact runs_wrap_of_wp K H gd lv m (h (Γ.over fs) p (hΓ.over fs)) (fun a p' s' h' => h' Γ p' rfl hΓ) (fun x p' s' h' => h' Γ p' rfl hΓ)
theorem rn_bw {α β : Type} {m : Sem α} {K : α → Sem β} {K' : β → Sem Fin} {H' : Value → Sem Fin} {gd lv}
    (h : wpAny M (A.over c fs) m (fun a s' => Run M A P c ((K a).wrap K' H' gd lv) fs s') (fun x s' => Run M A P c (H' x) fs s') s) : Run M A P c ((m >>= K).wrap K' H' gd lv) fs s := by
  rw [Sem.bind_eq_wrap', Sem.wrap_wrap]; exact rn_wrap h
theorem rn_at {p' : Pos} {k : Unit → Sem Fin} (h : Run M A P c (k ()) fs s) : Run M A P c (.at p' k) fs s :=
  rn_wrap (m := standAt p') (K := k) (H := .raise) (gd := id) (lv := id) (wpAny_standAt h)
theorem rn_point {l : List Value} {k : Unit → Sem Fin} (h : Run M A P c (k ()) fs s) : Run M A P c (.point l k) fs s :=
  rn_wrap (m := point) (K := k) (H := .raise) (gd := id) (lv := fun _ => l) (wpAny_point h)
theorem rn_call {c' : Code} {h g l} {k : Result → Sem Fin} (hc : ∀ p, Run M A P c' (M.den c') (.ret k h g l c p [] :: fs) s) : Run M A P c (.call c' h g l k) fs s := by
  intro Γ p e hΓ
  subst e
  obtain ⟨e, s', hr, he⟩ := hc p (Γ.goto c') p rfl (hΓ.goto c')
  exact ⟨e, s', runs_call_seg hr, he⟩
theorem rn_leaf {k h g l c₁ p₁ kp} (r : Result) (hk : Run M A P c₁ (k r) fs s) : Run M A P c (leafOf r) (.ret k h g l c₁ p₁ kp :: fs) s := by
  intro Γ p e hΓ
  subst e
  obtain ⟨e, s', hr, he⟩ := hk (Γ.goto c₁) p₁ rfl (hΓ.goto c₁)
  exact ⟨e, s', Runs.pop r hr, he⟩
theorem rn_again {c' : Code} (hq : c'.quiet = true) (hc : Run M A P c' (M.den c') fs s) : Run M A P c (.pure (.again c')) fs s := by
  intro Γ p e hΓ
  subst e
  obtain ⟨e, s', hr, he⟩ := hc (Γ.goto c') p rfl (hΓ.goto c')
  exact ⟨e, s', Runs.head (c₁ := c') (fun _ _ x => .again hq x) hr, he⟩
theorem rn_end (r : Result) (h : P (.ret r) s) : Run M A P c (leafOf r) [] s := by
  intro Γ p e _
  subst e
  exact ⟨.ret r, s, Runs.leaf r, h⟩
theorem rn_yield {v g l} {k : Resume → Sem Fin} (hfs : splitAtGen fs = none) (h : ∀ p, P (.susp v g l k c p fs) s) : Run M A P c (.yield v g l k) fs s := by
  intro Γ p e _
  subst e
  exact ⟨_, s, Runs.yield' fs hfs, h p⟩
theorem rn_nil (h : Run M A P c (K .next) fs s) : Run M A P c ((execs [] env).wrap K H gd lv) fs s := h
def seqK (env : Env) (rest : List Stmt) (K : Flow → Sem Fin) (H : Value → Sem Fin) (gd : Bool → Bool) (lv : List Value → List Value) : Flow → Sem Fin := fun f => match f with
  | .next => (execs rest env).wrap K H gd lv
  | f => K f
theorem rn_cons {st : Stmt} {rest : List Stmt} (h : Run M A P c ((exec st env).wrap (seqK env rest K H gd lv) H gd lv) fs s) :
    Run M A P c ((execs (st :: rest) env).wrap K H gd lv) fs s := by
  rw [execs_cons_wrap]
  rw [Sem.wrap_congr (exec st env) (K' := seqK env rest K H gd lv) (H' := H) gd lv (fun f => by cases f <;> rfl) (fun _ => rfl)]
  exact h
theorem rn_stmt {st : Stmt} (h : wpAny M (A.over c fs) (exec st env) (fun f s' => Run M A P c (K f) fs s') (fun x s' => Run M A P c (H x) fs s') s) : Run M A P c ((exec st env).wrap K H gd lv) fs s := rn_wrap h
theorem rn_Yield {e : PySem.Expr} {ypos pos : Pos} (hfs : splitAtGen fs = none)
    (h : wpAny M (A.over c fs) (eval e env) (fun v s' => ∀ p g l k, (g = gd false) → (∀ (P' : End → Shared → Prop) s'', Run M A P' c (K .next) fs s'' → Run M A P' c (k (.send .none)) fs s'') → P (.susp v g l k c p fs) s')
      (fun x s' => Run M A P c (H x) fs s') s) (hco : env.scope.isCoroutine = false := by rfl) (hi : interactive env = false := by rfl) :
    Run M A P c ((exec (.Expr (.Yield (some e) ypos) pos) env).wrap K H gd lv) fs s := by
  rw [exec_Expr env _ pos hi rfl]
  show Run M A P c (.at pos fun _ => ((eval e env >>= fun v => (standAt ypos >>= fun _ => yieldOut env v)) >>= fun x =>
    dropValue (.Yield (some e) ypos) pos x).wrap K H gd lv) fs s
  have hy : ∀ v, yieldOut env v = yieldValue v := fun v => by simp only [yieldOut, hco, Bool.false_eq_true, if_false]
  simp only [hy]
  refine rn_at ?_
  rw [Sem.bind_eq_wrap', Sem.bind_eq_wrap', Sem.wrap_wrap, Sem.wrap_wrap]
  refine rn_wrap (wpAny_mono h (fun v s' h' => ?_) fun _ _ x => x)
  refine rn_at (rn_yield hfs fun p => h' p _ _ _ ?_ fun P' s'' hx => ?_)
  · rfl
  · exact hx
theorem rn_If {test : PySem.Expr} {body orelse : List Stmt} {pos : Pos}
    (h : wpAny M (A.over c fs) (isTrue test env (eval test env)) (fun t s' => Run M A P c ((execs (if t then body else orelse) env).wrap K H gd lv) fs s') (fun x s' => Run M A P c (H x) fs s') s) :
    Run M A P c ((exec (.If test body orelse pos) env).wrap K H gd lv) fs s := by
  rw [exec_If]
  refine rn_bw (wpAny_standAt (rn_bw (wpAny_mono h (fun t s' h' => ?_) fun _ _ e => e)))
  cases t <;> exact h'
def backK (env : Env) (K : Flow → Sem Fin) (H : Value → Sem Fin) (gd : Bool → Bool) (lv : List Value → List Value) (r : Result) : Sem Fin :=
  ((match r with | .ok f => (.pure f : Sem Flow) | .error e => .raise e).onRaise fun (x : Value) => do
    if (← field x 1) == Value.none then unsupported "frame.own-activation:exception-without-traceback"
    setFlight x env.frame).wrap K H gd lv
theorem backK_ok {f : Flow} : backK env K H gd lv (.ok f) = K f := rfl
theorem rn_For {target iter : PySem.Expr} {body orelse : List Stmt} {pos : Pos}
    (h : wpAny M (A.over c fs) (eval iter env) (fun x s₁ => wpAny M (A.over c fs) (pyIter x) (fun it s₂ => ∀ p, Run M A P (.forLoop target it body orelse env) (M.den (.forLoop target it body orelse env))
      (.ret (backK env K H gd lv) none (gd false) (lv []) c p [] :: fs) s₂) (fun x s' => Run M A P c (H x) fs s') s₁) (fun x s' => Run M A P c (H x) fs s') s)
    (hs : ∀ x, foldedSetIterable iter env x = pure x := by intro _; rfl) :
    Run M A P c ((exec (.For target iter body orelse pos) env).wrap K H gd lv) fs s := by
  rw [exec_For]
  refine rn_bw (wpAny_standAt (rn_bw (wpAny_mono h (fun x s₁ h₁ => ?_) fun _ _ e => e)))
  rw [hs]
  refine rn_bw (wpAny_pure (rn_bw (wpAny_standAt (rn_bw (wpAny_holding (wpAny_mono h₁ (fun it s₂ h₂ => ?_) fun _ _ e => e))))))
  exact rn_call h₂
theorem rn_While {test : PySem.Expr} {body orelse : List Stmt} {pos : Pos}
    (h : ∀ p, Run M A P (.whileLoop test body orelse env) (M.den (.whileLoop test body orelse env)) (.ret (backK env K H gd lv) none (gd false) (lv []) c p [] :: fs) s) :
    Run M A P c ((exec (.While test body orelse pos) env).wrap K H gd lv) fs s := rn_at (rn_call h)
end
section
variable {prog : Program} {w : World} {A : Around} {P : End → Shared → Prop} {fs : List Frame} {s : Shared} {env : Env}
theorem rn_block {body : List Stmt} (h : Run (model prog w) A P (.block body env) ((execs body env).wrap (fun f => .pure (.done f)) (noteH env) id id) fs s) :
    Run (model prog w) A P (.block body env) ((model prog w).den (.block body env)) fs s := by
  show Run _ A P _ (((execs body env).onRaise (fun x => do noteFrame x env; theTreesLotGoes x)) >>= _) fs s
  rw [Sem.onRaise_eq_wrap, Sem.bind_eq_wrap', Sem.wrap_wrap]
  rw [Sem.wrap_congr (execs body env) _ _ (K' := fun f => (.pure (.done f) : Sem Fin)) (H' := noteH env) (fun f => by rfl)
    (fun e => by
      show Sem.wrap _ _ _ _ ((do noteFrame e env; theTreesLotGoes e : Sem Unit).bind fun _ => .raise e) = _
      rw [Sem.bind_eq_wrap, Sem.wrap_wrap]; rfl)]
  exact h
theorem rn_forLoop {target : PySem.Expr} {it : Value} {body orelse : List Stmt}
    (h : wpAny (model prog w) (A.over (.forLoop target it body orelse env) fs) (pyNext it) (fun r s' => match r with
        | none => Run (model prog w) A P (.block orelse env) ((execs orelse env).wrap (fun f => .pure (.done f)) (noteH env) id id) fs s'
        | some v => wpAny (model prog w) (A.over (.forLoop target it body orelse env) fs) (assign target env v) (fun _ s'' => Run (model prog w) A P (.forLoop target it body orelse env) ((execs body env).wrap (loopK (.forLoop target it body orelse env)) (noteH env) id id) fs s'')
            (fun x s'' => Run (model prog w) A P (.forLoop target it body orelse env) (noteH env x) fs s'') s')
      (fun x s' => Run (model prog w) A P (.forLoop target it body orelse env) (noteH env x) fs s') s)
    (ht : ∀ v, letOwnedTupleGo target it v = pure () := by intro _; rfl) :
    Run (model prog w) A P (.forLoop target it body orelse env) ((model prog w).den (.forLoop target it body orelse env)) fs s := by
  show Run _ A P _ ((forTurn target it body orelse env).onRaise (fun x => do noteFrame x env; theTreesLotGoes x)) fs s
  unfold forTurn
  have hH : ∀ e : Value, ((do noteFrame e env; theTreesLotGoes e : Sem Unit).bind fun _ => (.raise e : Sem Fin)) = noteH env e := fun e => by rw [Sem.bind_eq_wrap]; rfl
  rw [Sem.onRaise_eq_wrap]
  rw [Sem.wrap_congr _ _ _ (K' := .pure) (H' := noteH env) (fun _ => rfl) hH]
  refine rn_bw (wpAny_standAt (rn_bw (wpAny_onRaise (wpAny_mono h (fun r s' h' => ?_) fun x s' h' => wpAny_standAt h'))))
  cases r with
  | none => exact rn_again rfl (rn_block h')
  | some v =>
    refine rn_bw ?_
    rw [ht v]
    refine wpAny_pure (rn_bw (wpAny_mono h' (fun _ s'' h'' => ?_) fun _ _ e => e))
    rw [Sem.bind_eq_wrap', Sem.wrap_wrap]
    rw [Sem.wrap_congr (execs body env) _ _ (K' := loopK (.forLoop target it body orelse env)) (H' := noteH env) (fun f => by cases f <;> rfl) (fun e => by rfl)]
    exact h''
theorem rn_whileLoop {test : PySem.Expr} {body : List Stmt}
    (h : wpAny (model prog w) (A.over (.whileLoop test body [] env) fs) (isTrue test env (eval test env)) (fun b s' =>
        if b = true then Run (model prog w) A P (.whileLoop test body [] env) ((execs body env).wrap (loopK (.whileLoop test body [] env)) (noteH env) id id) fs s'
        else Run (model prog w) A P (.whileLoop test body [] env) (.pure (.done .next)) fs s')
      (fun x s' => Run (model prog w) A P (.whileLoop test body [] env) (noteH env x) fs s') s) :
    Run (model prog w) A P (.whileLoop test body [] env) ((model prog w).den (.whileLoop test body [] env)) fs s := by
  show Run _ A P _ ((whileTurn test body [] env).onRaise (fun x => do noteFrame x env; theTreesLotGoes x)) fs s
  unfold whileTurn
  have hH : ∀ e : Value, ((do noteFrame e env; theTreesLotGoes e : Sem Unit).bind fun _ => (.raise e : Sem Fin)) = noteH env e := fun e => by rw [Sem.bind_eq_wrap]; rfl
  rw [Sem.onRaise_eq_wrap]
  rw [Sem.wrap_congr _ _ _ (K' := .pure) (H' := noteH env) (fun _ => rfl) hH]
  refine rn_bw (wpAny_mono h (fun b s' hb => ?_) fun x s' hx => hx)
  cases b with
  | true =>
    rw [if_pos rfl] at hb
    show Run _ A P _ (Sem.wrap _ _ _ _ (if true = true then _ else _)) fs s'
    rw [if_pos rfl, Sem.bind_eq_wrap', Sem.wrap_wrap]
    rw [Sem.wrap_congr (execs body env) _ _ (K' := loopK (.whileLoop test body [] env)) (H' := noteH env) (fun f => by cases f <;> rfl) (fun e => by rfl)]
    exact hb
  | false =>
    rw [if_neg Bool.false_ne_true] at hb
    exact hb
def retK : Flow → Sem Fin := fun f => match f with
  | .ret v => .pure (.done (.ret v))
  | _ => .pure (.done (.ret .none))
def leaveH (env : Env) : Value → Sem Fin := fun e => (leaving env e).wrap (fun _ => .raise e) .raise id id
theorem rn_func {body : List Stmt}
    (h : Run (model prog w) A P (.func body env) ((execs body env).wrap retK (leaveH env) id id) fs s) :
    Run (model prog w) A P (.func body env) ((model prog w).den (.func body env)) fs s := by
  show Run _ A P _ (.point [] fun _ => ((execs body env).onRaise (leaving env)) >>= _) fs s
  refine rn_point ?_
  rw [Sem.onRaise_eq_wrap, Sem.bind_eq_wrap', Sem.wrap_wrap]
  rw [Sem.wrap_congr (execs body env) _ _ (K' := retK) (H' := leaveH env) (fun f => by cases f <;> rfl)
    (fun e => by rw [Sem.bind_eq_wrap, Sem.wrap_wrap]; rfl)]
  exact h
end
def GsRun (M : Model) (A : Around) (P : End → Shared → Prop) (gs : GenState) (r : Resume) (s : Shared) : Prop := match gs with
  | .fresh c => r = .send .none ∧ Run M A P c (M.den c) [] s
  | .suspended k _ c _ fs _ => Run M A P c (k r) fs s
  | _ => False
theorem resume_run {M : Model} {A : Around} {P : End → Shared → Prop} {E : Value → Shared → Prop} {s : Shared} {g : Nat} {gs : GenState} {r : Resume} {l : List Value} {α : Type} {k : GenResult → Sem α} {Q : α → Shared → Prop}
    (hg : s.gens[g]? = some gs) (hgo : GsRun M A P gs r (s.setGen g .running)) (hq : ∀ e s₁, P e s₁ → e.quiet = true)
    (h : ∀ e s₁, P e s₁ → wpAny M A (k e.result) Q E (s₁.setGen g e.genState)) : wpAny M A (.resume g r l k) Q E s := by
  intro Γ p hΓ
  rw [Sem.wp_resume]
  cases gs with
  | fresh c =>
    obtain ⟨rfl, hs⟩ := hgo
    obtain ⟨e₁, s₁, hr, he⟩ := hs (Γ.wake c p) p rfl (hΓ.wake c p)
    exact ⟨_, _, by unfold Wakes; rw [hg]; exact ⟨e₁, s₁, hr, hq e₁ s₁ he, rfl, rfl⟩, h e₁ s₁ he Γ p hΓ⟩
  | suspended k₀ l₀ c₀ p₀ fs₀ cl =>
    obtain ⟨e₁, s₁, hr, he⟩ := hgo (Γ.wake c₀ p) p₀ rfl (hΓ.wake c₀ p)
    exact ⟨_, _, by unfold Wakes; rw [hg]; exact ⟨e₁, s₁, hr, hq e₁ s₁ he, rfl, rfl⟩, h e₁ s₁ he Γ p hΓ⟩
  | running => exact hgo.elim
  | finished => exact hgo.elim
theorem next_run {prog : Program} {w : World} {A : Around} {P : End → Shared → Prop} {E : Value → Shared → Prop} {s : Shared} {a : Addr} {g : Nat} {gs : GenState} {Q : Option Value → Shared → Prop}
    (hl : s.heap.NoLimit) (hroom : A.depth < recursionLimit) (hg : s.heap.IsGen a g) (hgs : s.gens[g]? = some gs) (hgo : GsRun (model prog w) A.in1 P gs (.send .none) (s.setGen g .running))
    (hP : ∀ e s₁, P e s₁ → e.quiet = true ∧ ((∃ v, e.result = .yielded v ∧ Q (some v) (s₁.setGen g e.genState)) ∨
      (e.result = .returned .none ∧ e.genState = .finished ∧ HA A s₁.heap ∧ ∀ h', (∀ b o, s₁.heap.get? b = some o → h'.get? b = some o) → Q none { s₁.setGen g .finished with heap := h' }))) :
    wpAny (model prog w) A (pyNext (.ref a)) Q E s := by
  unfold pyNext
  refine wpAny_bind (wpAny_attempt (wpAny_callSpecial?_slot (name := Str.ofString "__next__") hg.typeIs slot_gen_next
    (wpAny_call_entry slot_gen_next hg.typeIs entry_gen_next ?_ (args_gen_next _))))
  show wpAny _ _ (Builtin.Generator.genWake (.ref a) (.send .none)) _ _ s
  unfold Builtin.Generator.genWake
  refine wpAny_bind (wpAny_holding (wpAny_genNumber hg (wpAny_bind (wpAny_genState hgs ?_))))
  cases gs with
  | running => exact hgo.elim
  | finished => exact hgo.elim
  | _ =>
    refine wpAny_bind (wpAny_roomToWake hl hroom ?_)
    show wpAny _ _ (.resume g (.send .none) [] _) _ _ s
    refine resume_run hgs hgo (fun e s₁ he => (hP e s₁ he).1) (fun e s₁ he => ?_)
    rcases (hP e s₁ he).2 with ⟨v, hv, hq⟩ | ⟨hr, hf, hH, hq⟩
    · rw [hv]
      exact wpAny_pure ⟨v, rfl, wpAny_pure hq⟩
    · rw [hr, hf]
      show wpAny _ _ (newExc (.type "StopIteration") [] >>= _) _ _ _
      refine wpAny_bind (wpAny_mono (stop_new (A := A.in1) hH fun h' e hk he => ?_) (fun e s1 h => wpAny_bind (h _ _)) fun _ _ e => e)
      refine wpAny_bind (wpAny_isInstance (T := "StopIteration") (b := true) he isSubtype_stop ?_)
      exact wpAny_pure (hq _ hk)
end Mine
namespace Mine
local macro_rules | `(tactic| walk_at "foc") => `(tactic| first | with_reducible exact Foc.here _ _ | (apply Foc.there; walk_at "foc"))
local macro_rules | `(tactic| walk_at "has") => `(tactic| first | with_reducible exact Has.here _ _ | assumption | (refine Has.there _ ?_; walk_at "has"))
local macro_rules | `(tactic| walk_at "rep") => `(tactic| first | with_reducible exact Rep.here _ _ _ | assumption | (apply Rep.there; walk_at "rep"))
local macro_rules | `(tactic| walk_at "perm") => `(tactic| first | with_reducible exact List.Perm.refl _ | (refine perm_step (by walk_at "foc") ?_; walk_at "perm"))
abbrev Item (τ : Type) := τ → Value → Chunk → Prop
def Gen {τ : Type} (b : Base) (A : Around) (W : List Chunk → Prop) (Z : Chunk → Prop) (it : Item τ) : List τ → Chunk → GenState → Prop
  | [], D, gs => ∀ (G : Array GenState) (F : List Chunk) (s : Shared), Ok b G (D :: F) s → W F → GsRun b.M A (fun e s' => e = .ret (.ok (.ret .none)) ∧ ∃ z, Z z ∧ Ok b G (z :: F) s') gs (.send .none) s
  | t :: ts, D, gs => ∀ (G : Array GenState) (F : List Chunk) (s : Shared), Ok b G (D :: F) s → W F → GsRun b.M A (fun e s' => e.quiet = true ∧ ∃ v c D', e.result = .yielded v ∧ it t v c ∧ Ok b G (c :: D' :: F) s' ∧ Gen b A W Z it ts D' e.genState) gs (.send .none) s
def Post {τ : Type} (b : Base) (A : Around) (W : List Chunk → Prop) (Z : Chunk → Prop) (it : Item τ) (G : Array GenState) (F : List Chunk) : List τ → End → Shared → Prop
  | [], e, s' => e = .ret (.ok (.ret .none)) ∧ ∃ z, Z z ∧ Ok b G (z :: F) s'
  | t :: ts, e, s' => e.quiet = true ∧ ∃ v c D', e.result = .yielded v ∧ it t v c ∧ Ok b G (c :: D' :: F) s' ∧ Gen b A W Z it ts D' e.genState
theorem gen_of {τ : Type} {b : Base} {A : Around} {W : List Chunk → Prop} {Z : Chunk → Prop} {it : Item τ} {ts : List τ} {D : Chunk} {gs : GenState} (h : ∀ G F s, Ok b G (D :: F) s → W F → GsRun b.M A (Post b A W Z it G F ts) gs (.send .none) s) : Gen b A W Z it ts D gs := by
  cases ts with
  | nil => exact h
  | cons t ts => exact h
def goP (n : Nat) (o : Obj) : Prop := ∃ nm qn, o.cls = .type "generator" ∧ o.data = .fields #[.int n 0, nm, qn] ∧ o.slots = #[]
def go (a : Addr) (n : Nat) : Chunk := pt a (goP n)
section
variable {b : Base} {G : Array GenState} {F F' cs : List Chunk} {D c : Chunk} {s : Shared} {A : Around} {E : Value → Shared → Prop} {a : Addr} {n d u : Nat} {gs : GenState} {W : List Chunk → Prop} {Z : Chunk → Prop} {τ : Type} {it : Item τ}
theorem Ok.gens' {G' : Array GenState} (h : Ok b G cs s) (e : s.gens = G → G' = G') : Ok b G' cs { s with gens := G' } := ⟨h.st, rfl, h.os, h.drawn⟩
theorem gen_next {t : τ} {ts : List τ} {Q : Option Value → Shared → Prop} (h : Ok b G (D :: F) s) (g : b.Good) (Fi : Fit b A (d + 1) u) (f : Has F (go a n)) (hgs : G[n]? = some gs) (w : W F) (S : Gen b A.in1 W Z it (t :: ts) D gs)
    (k : ∀ v c D' gs' s', it t v c → Ok b (G.setIfInBounds n gs') (c :: D' :: F) s' → Gen b A.in1 W Z it ts D' gs' → Q (some v) s') : wpAny b.M A (pyNext (.ref a)) Q E s := by
  obtain ⟨o, e, nm, qn, h1, h2, h3⟩ := h.has (.there _ f)
  have hG : s.gens[n]? = some gs := by rw [h.gens]; exact hgs
  have hr : Ok b (G.setIfInBounds n .running) (D :: F) (s.setGen n .running) := ⟨h.st, by show (s.gens.setIfInBounds n .running) = _; rw [h.gens], h.os, h.drawn⟩
  refine next_run (h.nolimit g) Fi.room ⟨o, nm, qn, e, h1, h2, h3⟩ hG (S _ F _ hr w) fun e s₁ ⟨hq, v, c, D', hv, hi, h', S'⟩ => ⟨hq, .inl ⟨v, hv, k v c D' _ _ hi ⟨h'.st, ?_, h'.os, h'.drawn⟩ S'⟩⟩
  show s₁.gens.setIfInBounds n _ = _
  rw [h'.gens, Array.setIfInBounds_setIfInBounds]
theorem gen_end {Q : Option Value → Shared → Prop} (h : Ok b G (D :: F) s) (g : b.Good) (Fi : Fit b A (d + 1) u) (f : Has F (go a n)) (hgs : G[n]? = some gs) (w : W F) (S : Gen b A.in1 W Z it [] D gs)
    (k : ∀ z s', Z z → Ok b (G.setIfInBounds n .finished) (z :: F) s' → Q none s') : wpAny b.M A (pyNext (.ref a)) Q E s := by
  obtain ⟨o, e, nm, qn, h1, h2, h3⟩ := h.has (.there _ f)
  have hG : s.gens[n]? = some gs := by rw [h.gens]; exact hgs
  have hr : Ok b (G.setIfInBounds n .running) (D :: F) (s.setGen n .running) := ⟨h.st, by show (s.gens.setIfInBounds n .running) = _; rw [h.gens], h.os, h.drawn⟩
  refine next_run (h.nolimit g) Fi.room ⟨o, nm, qn, e, h1, h2, h3⟩ hG (S _ F _ hr w) fun e s₁ ⟨he, z, hz, h'⟩ => ⟨by rw [he]; rfl, .inr ⟨by rw [he]; rfl, by rw [he]; rfl, Fi.handled.at h', fun hh hk => k z _ hz ?_⟩⟩
  refine ⟨h'.st.keeps hk, ?_, h'.os, h'.drawn⟩
  show s₁.gens.setIfInBounds n _ = _
  rw [h'.gens, Array.setIfInBounds_setIfInBounds]
end
end Mine
namespace Mine
local macro_rules | `(tactic| walk_at "foc") => `(tactic| first | with_reducible exact Foc.here _ _ | (apply Foc.there; walk_at "foc"))
local macro_rules | `(tactic| walk_at "has") => `(tactic| first | with_reducible exact Has.here _ _ | assumption | (refine Has.there _ ?_; walk_at "has"))
local macro_rules | `(tactic| walk_at "rep") => `(tactic| first | with_reducible exact Rep.here _ _ _ | assumption | (apply Rep.there; walk_at "rep"))
local macro_rules | `(tactic| walk_at "perm") => `(tactic| first | with_reducible exact List.Perm.refl _ | (refine perm_step (by walk_at "foc") ?_; walk_at "perm"))
inductive Items {τ : Type} (it : Item τ) : List τ → List Value → List Chunk → Prop
  | nil : Items it [] [] []
  | cons {t : τ} {ts : List τ} {v : Value} {vs : List Value} {c : Chunk} {cs : List Chunk} : it t v c → Items it ts vs cs → Items it (t :: ts) (untok v :: vs) (c :: cs)
theorem Items.len {τ : Type} {it : Item τ} {ts : List τ} {vs : List Value} {cs : List Chunk} (h : Items it ts vs cs) : vs.length = ts.length := by
  induction h with
  | nil => rfl
  | cons _ _ ih => simp [ih]
section
variable {b : Base} {G : Array GenState} {F cs : List Chunk} {D c : Chunk} {s : Shared} {A : Around} {E : Value → Shared → Prop} {a S : Addr} {n d u : Nat} {gs : GenState} {W : List Chunk → Prop} {τ : Type} {it : Item τ}
theorem li_push {ps : List Value} {v : Value} {res : Value} {I : Value} {R : Result → Shared → Prop} (h : Ok b G (li S ps :: cs) s) (hz : ps.length ≤ 100000)
    (k : ∀ s', Ok b G (li S (ps ++ [untok v]) :: cs) s' → codeAny b.M A (.builtin "list.extend.loop" ⟨[.ref S, I, res], []⟩) R s') :
    wpAny b.M A.in1 (updateSeq S (·.push v) >>= fun _ => again (.builtin "list.extend.loop" ⟨[.ref S, I, res], []⟩))
      (fun fin s' => match fin with | .done f => R (.ok f) s' | .again c' => c'.quiet = true ∧ codeAny b.M A c' R s') (fun e s' => R (.error e) s') s := by
  obtain ⟨vs, m, e, q⟩ := h.list (.here _ _)
  have hl : vs.length = ps.length := by rw [← q, List.length_map]
  refine wpAny_bind ?_
  refine wpAny_updateSeq e rfl (wpAny_pure ⟨plainId_quiet PySem.F.plain_extend_loop _, k _ (h.set (t := s.toks) (Heap.SameBut.update ..) ⟨_, Heap.get?_update_self _ e rfl, vs ++ [v], m + 1, ?_, ?_⟩)⟩) ?_ ?_
  · simp [Obj.mapSeq]
  · rw [List.map_append, q]; rfl
  · rw [List.size_toArray, hl]; exact Nat.le_trans hz (by decide)
  · show (vs.toArray.push v).size ≤ sizeLine + 1
    rw [Array.size_push, List.size_toArray, hl]; exact Nat.le_trans (Nat.add_le_add_right hz 1) (by decide)
structure Strm {τ : Type} (b : Base) (A : Around) (W : List Chunk → Prop) (it : Item τ) (a : Addr) (St : List τ → Array GenState → Chunk → Prop) (Dn : Array GenState → Chunk → Prop) : Prop where
  next : ∀ {G : Array GenState} {F : List Chunk} {D : Chunk} {s : Shared} {E : Value → Shared → Prop} {t : τ} {ts : List τ} {Q : Option Value → Shared → Prop}, Ok b G (D :: F) s → W F → St (t :: ts) G D →
    (∀ v c D' G' s', it t v c → St ts G' D' → Ok b G' (c :: D' :: F) s' → Q (some v) s') → wpAny b.M A (pyNext (.ref a)) Q E s
  done : ∀ {G : Array GenState} {F : List Chunk} {D : Chunk} {s : Shared} {E : Value → Shared → Prop} {Q : Option Value → Shared → Prop}, Ok b G (D :: F) s → W F → St [] G D →
    (∀ G' z s', Dn G' z → Ok b G' (z :: F) s' → Q none s') → wpAny b.M A (pyNext (.ref a)) Q E s
theorem extend_gen {St : List τ → Array GenState → Chunk → Prop} {Dn : Array GenState → Chunk → Prop} (res : Value) (hWm : ∀ c F, W F → W (c :: F)) (Z : Strm b A.in1 W it a St Dn) : ∀ (ts : List τ) {G : Array GenState} {F : List Chunk} {D : Chunk} {s : Shared} {ps : List Value} {R : Result → Shared → Prop},
    Ok b G (li S ps :: D :: F) s → W F → St ts G D → ps.length + ts.length ≤ 100000 →
    (∀ vals chs G' z s', Items it ts vals chs → Dn G' z → Ok b G' (li S (ps ++ vals) :: (chs.reverse ++ z :: F)) s' → R (.ok (.ret res)) s') → codeAny b.M A (.builtin "list.extend.loop" ⟨[.ref S, .ref a, res], []⟩) R s := by
  intro ts
  induction ts with
  | nil =>
    intro G F D s ps R h w S' hz k
    refine codeAny_builtin PySem.F.entry_extend_loop ?_
    rw [Around.under_plainId PySem.F.plain_extend_loop _]
    show wpAny _ A.in1 (pyNext (.ref a) >>= _) _ _ s
    refine wpAny_bind (Z.done h.swap (hWm _ _ w) S' fun G' z s' hd h' => ?_)
    have := k [] [] G' z s' .nil hd (by rw [List.append_nil]; exact h'.swap)
    exact wpAny_pure this
  | cons t ts ih =>
    intro G F D s ps R h w S' hz k
    refine codeAny_builtin PySem.F.entry_extend_loop ?_
    rw [Around.under_plainId PySem.F.plain_extend_loop _]
    show wpAny _ A.in1 (pyNext (.ref a) >>= _) _ _ s
    refine wpAny_bind (Z.next h.swap (hWm _ _ w) S' fun v c D' G' s' hi S'' h' => ?_)
    have h2 : Ok b G' (li S ps :: D' :: c :: F) s' := h'.perm ((List.Perm.swap _ _ _).trans ((List.Perm.cons _ (List.Perm.swap _ _ _)).trans (List.Perm.swap _ _ _)) |>.trans (List.Perm.cons _ (List.Perm.refl _)))
    have hz1 : ps.length ≤ 100000 := by omega
    refine li_push h2 hz1 fun s'' h'' => ?_
    refine ih h'' (hWm _ _ w) S'' (by rw [List.length_append]; simp only [List.length_cons, List.length_nil] at hz ⊢; omega) fun vals chs G'' z s3 hI hd h3 => ?_
    refine k (untok v :: vals) (c :: chs) G'' z s3 (.cons hi hI) hd ?_
    rw [List.append_assoc] at h3
    have e : (c :: chs).reverse ++ z :: F = chs.reverse ++ c :: z :: F := by simp
    rw [e]
    have p : (chs.reverse ++ z :: c :: F).Perm (chs.reverse ++ c :: z :: F) := List.Perm.append_left _ (List.Perm.swap _ _ _)
    exact h3.perm (List.Perm.cons _ p)
theorem list_gen {St : List τ → Array GenState → Chunk → Prop} {Dn : Array GenState → Chunk → Prop} (hWm : ∀ c F, W F → W (c :: F)) {ts : List τ} {Q : Value → Shared → Prop} (h : Ok b G (D :: F) s) (f : Has F (go a n)) (w : W F) (Z : Strm b A.in1.in1 W it a St Dn) (S' : St ts G D) (hz : ts.length ≤ 100000)
    (k : ∀ S vals chs G' z s', Items it ts vals chs → Dn G' z → Ok b G' (li S vals :: (chs.reverse ++ z :: F)) s' → Q (.ref S) s') : wpAny b.M A (call (.type "list") [.ref a]) Q E s := by
  refine callType_codes (Q₁ := fun obj s₁ => obj = .ref s.heap.objs.size ∧ s₁ = { s with heap := s.heap.push { cls := .type "list", data := .seq #[] } }) PySem.F.called_list (PySem.F.typeCall_list_1 _) PySem.F.entry_list_init
    (code_list_new _ ⟨rfl, rfl⟩) fun obj s₁ h₁ => ?_
  obtain ⟨rfl, rfl⟩ := h₁
  have h1 : Ok b G (li s.heap.objs.size [] :: D :: F) { s with heap := s.heap.push { cls := .type "list", data := .seq #[] } } := l_new' (vs := []) (t := s.toks) h rfl
  have hT : ∀ {cs : List Chunk} {s : Shared} {G : Array GenState}, Ok b G cs s → Has cs (go a n) → s.TypeIs (.ref a) "generator" := by
    intro cs s G h f
    obtain ⟨o, e, nm, qn, hc, hd, hs⟩ := h.has f
    exact ⟨o, e, hc⟩
  revert h1
  generalize s.heap.objs.size = S
  generalize ({ s with heap := s.heap.push { cls := .type "list", data := .seq #[] } } : Shared) = s1
  intro h1
  obtain ⟨vs, m, e, q⟩ := h1.list (.here _ _)
  have hvs : vs = [] := List.map_eq_nil_iff.mp q
  subst hvs
  refine ⟨⟨_, e, rfl⟩, PySem.F.args_list_init_2 _ _, ?_⟩
  show wpAny _ A.in1.in1 (do let old ← Builtin.List.listItems (.ref S); Builtin.List.listUpdate (.ref S) (fun _ => #[]); letGo old.toList.reverse; Builtin.List.listExtendWith (.ref S) (.ref a) .none) _ _ s1
  refine wpAny_bind ?_
  unfold Builtin.List.listItems
  refine wpAny_bind (wpAny_seqItems e rfl (wpAny_pure ?_))
  show wpAny _ A.in1.in1 (updateSeq S (fun _ => #[]) >>= fun _ => letGo (#[] : Array Value).toList.reverse >>= fun _ => Builtin.List.listExtendWith (.ref S) (.ref a) .none) _ _ s1
  refine wpAny_bind (wpAny_updateSeq e rfl ?_)
  have h2 : Ok b G (li S [] :: D :: F) { s1 with heap := s1.heap.update S (Obj.mapSeq fun _ => #[]) } := h1.set (t := s1.toks) (Heap.SameBut.update ..) ⟨_, Heap.get?_update_self _ e rfl, [], m, by simp [Obj.mapSeq], rfl⟩
  revert h2
  generalize ({ s1 with heap := s1.heap.update S (Obj.mapSeq fun _ => #[]) } : Shared) = s2
  intro h2
  refine wpAny_bind (wpAny_letGo ?_)
  unfold Builtin.List.listExtendWith
  have hty := hT h2 (.there _ (.there _ f))
  have hne : S ≠ a := Ok.ne h2 (.there _ f)
  refine wpAny_bind (wpAny_typeOf hty ?_)
  have e1 : Builtin.List.listSameRef (.ref S) (.ref a) = false := by simp [Builtin.List.listSameRef, hne]
  have e2 : (Value.type "generator" == Value.type "list") = false := by decide
  have e3 : (Value.type "generator" == Value.type "tuple") = false := by decide
  simp only [e1, e2, e3, Bool.or_false, Bool.false_eq_true, if_false]
  obtain ⟨og, eg, nm, qn, hc, hd, hs⟩ := h2.has (.there _ (.there _ f))
  refine wpAny_bind (wpAny_pyIter_gen ⟨og, nm, qn, eg, hc, hd, hs⟩ ?_)
  refine wpAny_bind (wpAny_holding ?_)
  unfold Builtin.List.listLengthHint
  refine wpAny_bind (wpAny_specialOf hty PySem.F.gen_no_len ?_)
  show wpAny _ A.in1.in1 (specialOf (Value.ref a) (Str.ofString "__length_hint__") >>= _) _ _ _
  refine wpAny_bind (wpAny_specialOf hty PySem.F.gen_no_hint ?_)
  refine wpAny_pure ?_
  show wpAny _ A.in1.in1 (rule "list.extend.makes-room" >>= fun _ => Builtin.List.listTouch (.ref S) >>= fun _ =>
    again (.builtin "list.extend.loop" ⟨[.ref S, .ref a, .none], []⟩)) _ _ _
  refine wpAny_bind (wpAny_rule ?_)
  obtain ⟨vs, m, e, q⟩ := h2.list (.here _ _)
  have hvs : vs = [] := List.map_eq_nil_iff.mp q
  subst hvs
  refine wpAny_bind ?_
  show wpAny _ A.in1.in1 (updateSeq S (·.push .none) >>= fun _ => updateSeq S (·.pop)) _ _ _
  refine wpAny_bind (wpAny_updateSeq e rfl ?_)
  have h3 : Ok b G (li S [.none] :: D :: F) { s2 with heap := s2.heap.update S (Obj.mapSeq (·.push .none)) } := h2.set (t := s2.toks) (Heap.SameBut.update ..) ⟨_, Heap.get?_update_self _ e rfl, [.none], m + 1, by simp [Obj.mapSeq], rfl⟩
  revert h3
  generalize ({ s2 with heap := s2.heap.update S (Obj.mapSeq (·.push .none)) } : Shared) = s3
  intro h3
  obtain ⟨vs, m, e, q⟩ := h3.list (.here _ _)
  obtain ⟨v0, rfl, hv0⟩ := args1 q
  refine wpAny_updateSeq (hz := by show 1 ≤ sizeLine; decide) (_hz' := by show 0 ≤ sizeLine + 1; decide) e rfl ?_
  have h4 : Ok b G (li S [] :: D :: F) { s3 with heap := s3.heap.update S (Obj.mapSeq (·.pop)) } := h3.set (t := s3.toks) (Heap.SameBut.update ..) ⟨_, Heap.get?_update_self _ e rfl, [], m + 1, by simp [Obj.mapSeq], rfl⟩
  refine wpAny_pure ⟨plainId_quiet PySem.F.plain_extend_loop _, ?_⟩
  refine extend_gen .none hWm Z ts h4 w S' (by simpa using hz) fun vals chs G' z s' hI hd h' => ?_
  exact ⟨rfl, k S vals chs G' z s' hI hd h'⟩
def AllFin (G : Array GenState) : Prop := ∀ x ∈ G, x = .finished
theorem AllFin.push {G : Array GenState} (h : AllFin G) : AllFin (G.push .finished) := by
  intro x hx
  rcases Array.mem_push.mp hx with hx | rfl
  · exact h x hx
  · rfl
theorem push_set {α : Type} (G0 : Array α) (x y : α) : (G0.push x).setIfInBounds G0.size y = G0.push y := by
  apply Array.ext_getElem?
  intro i
  rw [Array.getElem?_setIfInBounds, Array.getElem?_push, Array.getElem?_push]
  by_cases h : i = G0.size
  · subst h; simp
  · rw [if_neg h, if_neg h, if_neg (fun e => h e.symm)]
theorem gen_strm {Z : Chunk → Prop} (g : b.Good) (Fi : Fit b A (d + 1) u) {G0 : Array GenState} (hG : AllFin G0) (hn : n = G0.size) (f : ∀ F, W F → Has F (go a n)) :
    Strm b A W it a (fun ts G D => ∃ gs, G = G0.push gs ∧ Gen b A.in1 W Z it ts D gs) (fun G z => AllFin G ∧ Z z) where
  next := by
    rintro G F D s E t ts Q h w ⟨gs, rfl, S'⟩ k
    subst hn
    refine gen_next h g Fi (f F w) (by simp) w S' fun v c D' gs' s' hi h' S'' => k v c D' _ s' hi ⟨gs', rfl, S''⟩ ?_
    have e : (G0.push gs).setIfInBounds G0.size gs' = G0.push gs' := push_set _ _ _
    rw [e] at h'; exact h'
  done := by
    rintro G F D s E Q h w ⟨gs, rfl, S'⟩ k
    subst hn
    refine gen_end h g Fi (f F w) (by simp) w S' fun z s' hz h' => k _ z s' ⟨hG.push, hz⟩ ?_
    have e : (G0.push gs).setIfInBounds G0.size .finished = G0.push .finished := push_set _ _ _
    rw [e] at h'; exact h'
end
end Mine
namespace Mine
local macro_rules | `(tactic| walk_at "foc") => `(tactic| first | with_reducible exact Foc.here _ _ | (apply Foc.there; walk_at "foc"))
local macro_rules | `(tactic| walk_at "has") => `(tactic| first | with_reducible exact Has.here _ _ | assumption | (refine Has.there _ ?_; walk_at "has"))
local macro_rules | `(tactic| walk_at "rep") => `(tactic| first | with_reducible exact Rep.here _ _ _ | assumption | (apply Rep.there; walk_at "rep"))
local macro_rules | `(tactic| walk_at "perm") => `(tactic| first | with_reducible exact List.Perm.refl _ | (refine perm_step (by walk_at "foc") ?_; walk_at "perm"))
theorem nodup_len : ∀ {l m : List Int}, l.Nodup → (∀ x ∈ l, x ∈ m) → l.length ≤ m.length
  | [], m, _, _ => Nat.zero_le _
  | x :: l, m, nd, hs => by
    rw [List.nodup_cons] at nd
    have hx := hs x List.mem_cons_self
    have h := nodup_len (l := l) (m := m.erase x) nd.2 fun y hy => (List.mem_erase_of_ne fun (e : y = x) => nd.1 (e ▸ hy)).mpr (hs y (List.mem_cons_of_mem _ hy))
    rw [List.length_erase_of_mem hx] at h
    have : 0 < m.length := List.length_pos_of_mem hx
    rw [List.length_cons]; omega
abbrev Trow := Int × Int × Str
inductive Ctl
  | O (vis starts : List Int)
  | W (vis starts : List Int) (start : Int) (stk : List (Int × List Int))
  | F (vis starts : List Int) (start p : Int) (cs : List Int) (stk : List (Int × List Int))
inductive Go (ch : Int → List Int) (lim : Int) : Ctl → List Trow → Prop
  | o_nil {vis} : Go ch lim (.O vis []) []
  | o_skip {vis x ss r} : vis.contains x = true → Go ch lim (.O vis ss) r → Go ch lim (.O vis (x :: ss)) r
  | o_new {vis x ss r} : vis.contains x = false → Go ch lim (.W (vis ++ [x]) ss x [(x, ch x)]) r → Go ch lim (.O vis (x :: ss)) ((x, x, "forward") :: r)
  | w_nil {vis x ss r} : Go ch lim (.O vis ss) r → Go ch lim (.W vis ss x []) ((x, x, "reverse") :: r)
  | w_go {vis x ss p cs stk r} : Go ch lim (.F vis ss x p cs stk) r → Go ch lim (.W vis ss x ((p, cs) :: stk)) r
  | f_non {vis x ss p c cs stk r} : vis.contains c = true → Go ch lim (.F vis ss x p cs stk) r → Go ch lim (.F vis ss x p (c :: cs) stk) ((p, c, "nontree") :: r)
  | f_fwd {vis x ss p c cs stk r} : vis.contains c = false → (stk.length : Int) + 1 < lim → Go ch lim (.W (vis ++ [c]) ss x ((c, ch c) :: (p, cs) :: stk)) r → Go ch lim (.F vis ss x p (c :: cs) stk) ((p, c, "forward") :: r)
  | f_lim {vis x ss p c cs stk r} : vis.contains c = false → ¬ (stk.length : Int) + 1 < lim → Go ch lim (.F (vis ++ [c]) ss x p cs stk) r → Go ch lim (.F vis ss x p (c :: cs) stk) ((p, c, "forward") :: (p, c, "reverse-depth_limit") :: r)
  | f_pop0 {vis x ss p r} : Go ch lim (.W vis ss x []) r → Go ch lim (.F vis ss x p [] []) r
  | f_pop {vis x ss p q qs stk r} : Go ch lim (.W vis ss x ((q, qs) :: stk)) r → Go ch lim (.F vis ss x p [] ((q, qs) :: stk)) ((q, p, "reverse") :: r)
def rowI : Item Trow := fun t v c => ∃ a, v = .ref a ∧ c = tu a [.int t.1 0, .int t.2.1 0, .str t.2.2 0]
def HasAll (Ws cs : List Chunk) : Prop := ∀ c ∈ Ws, Has cs c
theorem HasAll.there {Ws cs : List Chunk} {c : Chunk} (h : HasAll Ws cs) : HasAll Ws (c :: cs) := fun d hd => .there _ (h d hd)
theorem HasAll.right {Ws cs l : List Chunk} (h : HasAll Ws cs) : HasAll Ws (l ++ cs) := fun d hd => .app_right (h d hd)
structure Kid (b : Base) (Ws : List Chunk) (it : Addr) (c : List Value → Chunk) : Prop where
  iter : IsIter b (.ref it) c (HasAll Ws)
  self : ∀ {G : Array GenState} {cs : List Chunk} {s : Shared} {A : Around} {E : Value → Shared → Prop} {vs : List Value} {Q : Value → Shared → Prop}, Ok b G cs s → Has cs (c vs) → Q (.ref it) s → wpAny b.M A (pyIter (.ref it)) Q E s
  iterB : ∀ {G : Array GenState} {cs : List Chunk} {s : Shared} {A : Around} {E : Value → Shared → Prop} {vs : List Value} {Q : Value → Shared → Prop}, Ok b G cs s → Has cs (c vs) → (∀ s', Ok b G cs s' → Q (.ref it) s') → wpAny b.M A (call (.builtin "iter") [.ref it]) Q E s
structure Kids (b : Base) (Ws : List Chunk) (env : Env) (cv : Cv) (gc : Addr) (kc : Chunk) (ch : Int → List Int) (N : Int → Prop) (d u : Nat) : Prop where
  call : ∀ {G : Array GenState} {cs : List Chunk} {s : Shared} {A : Around} {E : Value → Shared → Prop} {vars : List (Str × Value)} {e : PySem.Expr} {n : Int} {pos : Pos} {Q : Value → Shared → Prop}, Fit b A d u → N n →
    Ok b G (fr env vars cv :: cs) s → Has cs kc → HasAll Ws cs → evs env b.gl vars cv [e] = some [.int n 0] → (∀ it c s', Kid b Ws it c → Ok b G (fr env vars cv :: c (intL (ch n)) :: cs) s' → Q (.ref it) s') →
    wpAny b.M A (callWith pos (.ref gc) [] (backTo pos (starEach [e] env)) []) Q E s
def forB : Stmt → List Stmt | .For _ _ b _ _ => b | _ => []
def forE : Stmt → List Stmt | .For _ _ _ e _ => e | _ => []
def forT : Stmt → PySem.Expr | .For t _ _ _ _ => t | _ => .Constant .none 0 ⟨0, 0, 0, 0⟩
def whB : Stmt → List Stmt | .While _ b _ _ => b | _ => []
def whT : Stmt → PySem.Expr | .While t _ _ _ => t | _ => .Constant .none 0 ⟨0, 0, 0, 0⟩
abbrev stPass : Stmt := .Pass ⟨0, 0, 0, 0⟩
noncomputable def DB : List Stmt := fbodyL [3]
noncomputable def oB : List Stmt := forB (DB.getD 4 stPass)
noncomputable def oT : PySem.Expr := forT (DB.getD 4 stPass)
noncomputable def wB : List Stmt := whB (oB.getD 5 stPass)
noncomputable def wT : PySem.Expr := whT (oB.getD 5 stPass)
noncomputable def iB : List Stmt := forB (wB.getD 1 stPass)
noncomputable def iE : List Stmt := forE (wB.getD 1 stPass)
noncomputable def iT : PySem.Expr := forT (wB.getD 1 stPass)
noncomputable abbrev env0 (L : Addr) : Env := callEnvC fd_dfs L A_dfs
noncomputable def F1 (env : Env) (p : Pos) : Frame := .ret (backK env (seqK env [] retK (leaveH env) id id) (leaveH env) id id) none false [] (.func DB env) p []
noncomputable def c1 (env : Env) (oi : Addr) : Code := .forLoop oT (.ref oi) oB [] env
noncomputable def F2 (env : Env) (oi : Addr) (p : Pos) : Frame := .ret (backK env (seqK env (oB.drop 6) (loopK (c1 env oi)) (noteH env) id id) (noteH env) id id) none false [] (c1 env oi) p []
noncomputable def c2 (env : Env) : Code := .whileLoop wT wB [] env
noncomputable def F3 (env : Env) (p : Pos) : Frame := .ret (backK env (seqK env [] (loopK (c2 env)) (noteH env) id id) (noteH env) id id) none false [] (c2 env) p []
noncomputable def c3 (env : Env) (it : Addr) : Code := .forLoop iT (.ref it) iB iE env
structure Ent where
  node : Int
  tup : Addr
  it : Addr
  c : List Value → Chunk
  rest : List Int
def entC (e : Ent) : List Chunk := [tu e.tup [.int e.node 0, .ref e.it], e.c (intL e.rest)]
def entsC (es : List Ent) : List Chunk := es.flatMap entC
def entV (es : List Ent) : List (Int × List Int) := es.map fun e => (e.node, e.rest)
def entL (es : List Ent) : List Value := es.reverse.map fun e => .ref e.tup
section
variable {w : World} {h₁ : Heap} {X : List Addr} {os : OsState} {dr : Drawn} {G : Array GenState} {cs cs' F : List Chunk} {s : Shared} {A : Around} {E : Value → Shared → Prop} {x gd a : Addr} {d u : Nat}
structure Walk (w : World) (h₁ : Heap) (X : List Addr) (os : OsState) (dr : Drawn) (Ws : List Chunk) (Z : Chunk → Prop) (L : Addr) (cv : Cv) (gc : Addr) (kc : Chunk) (ch : Int → List Int) (ns : List Int) (lim : Int) (oi : Addr) (co : List Value → Chunk) (A : Around) (d u : Nat) : Prop where
  good : (BB w h₁ X os dr).Good
  fit : Fit (BB w h₁ X os dr) A (d + 3) (u + 10)
  kids : Kids (BB w h₁ X os dr) Ws (env0 L) cv gc kc ch (fun n => n ∈ ns) d u
  closed : ∀ n ∈ ns, ∀ m ∈ ch n, m ∈ ns
  outer : IsIter (BB w h₁ X os dr) (.ref oi) co (HasAll Ws)
  small : ns.length ≤ 1000
  fin : Z kc
abbrev vars0 (lim : Int) (gc va : Addr) (l : List (Str × Value)) : List (Str × Value) := ("depth_limit", .int lim 0) :: ("get_children", .ref gc) :: ("visited", .ref va) :: l
noncomputable abbrev varsW (lim : Int) (gc va : Addr) (x : Int) (sa : Addr) (n : Nat) (l : List (Str × Value)) : List (Str × Value) := vars0 lim gc va (("start", .int x 0) :: ("stack", .ref sa) :: ("depth_now", .int n 0) :: l)
structure InvV (ns vis ss : List Int) : Prop where
  vsub : ∀ v ∈ vis, v ∈ ns
  vnd : vis.Nodup
  ssub : ∀ v ∈ ss, v ∈ ns
structure InvE (w : World) (h₁ : Heap) (X : List Addr) (os : OsState) (dr : Drawn) (Ws : List Chunk) (ns vis : List Int) (es : List Ent) : Prop where
  rest : ∀ e ∈ es, ∀ v ∈ e.rest, v ∈ ns
  kid : ∀ e ∈ es, Kid (BB w h₁ X os dr) Ws e.it e.c
  nd : (es.map (·.node)).Nodup
  sub : ∀ e ∈ es, e.node ∈ vis
noncomputable def plO (w : World) (h₁ : Heap) (X : List Addr) (os : OsState) (dr : Drawn) (L : Addr) (cv : Cv) (lim : Int) (gc va : Addr) (kc : Chunk) (co : List Value → Chunk) (vis ss : List Int) : List Chunk :=
  [fr (env0 L) (vars0 lim gc va []) cv, kc, co (intL ss), se (BB w h₁ X os dr) va vis]
noncomputable def plW (w : World) (h₁ : Heap) (X : List Addr) (os : OsState) (dr : Drawn) (L : Addr) (cv : Cv) (lim : Int) (gc va : Addr) (kc : Chunk) (co : List Value → Chunk) (vis ss : List Int) (x : Int) (sa : Addr) (es : List Ent) (l : List (Str × Value)) : List Chunk :=
  fr (env0 L) (varsW lim gc va x sa es.length l) cv :: kc :: co (intL ss) :: se (BB w h₁ X os dr) va vis :: li sa (entL es) :: entsC es
theorem Ok.flat {b : Base} {pl : List Chunk} (h : Ok b G (pl ++ F) s) : Ok b G (pl.flatten :: F) s := by
  have e : (pl ++ F).flatten = (pl.flatten :: F).flatten := by simp
  exact ⟨⟨h.st.old, e ▸ h.st.off, e ▸ h.st.nodup, e ▸ h.st.at_⟩, h.gens, h.os, h.drawn⟩
theorem Ok.unflat {b : Base} {pl : List Chunk} (h : Ok b G (pl.flatten :: F) s) : Ok b G (pl ++ F) s := by
  have e : (pl ++ F).flatten = (pl.flatten :: F).flatten := by simp
  exact ⟨⟨h.st.old, e ▸ h.st.off, e ▸ h.st.nodup, e ▸ h.st.at_⟩, h.gens, h.os, h.drawn⟩
theorem y_step {Ws : List Chunk} {Z : Chunk → Prop} {t : Trow} {r : List Trow} {c : Code} {fs : List Frame} {t0 : Sem Fin} {p : Pos} {g : Bool} {l : List Value} {k : Resume → Sem Fin} (pl : List Chunk) (hf : fs.all plainF = true) (h : Ok (BB w h₁ X os dr) G (tu a [.int t.1 0, .int t.2.1 0, .str t.2.2 0] :: (pl ++ F)) s)
    (hk : ∀ G' F' s'', Ok (BB w h₁ X os dr) G' (pl ++ F') s'' → HasAll Ws F' → Run (BB w h₁ X os dr).M A (Post (BB w h₁ X os dr) A (HasAll Ws) Z rowI G' F' r) c t0 fs s'')
    (hg : g = false) (hkk : ∀ (P' : End → Shared → Prop) s'', Run (BB w h₁ X os dr).M A P' c t0 fs s'' → Run (BB w h₁ X os dr).M A P' c (k (.send .none)) fs s'') : Post (BB w h₁ X os dr) A (HasAll Ws) Z rowI G F (t :: r) (.susp (.ref a) g l k c p fs) s := by
  refine ⟨?_, .ref a, _, pl.flatten, rfl, ⟨a, rfl, rfl⟩, ?_, gen_of fun G' F' s'' h' w' => hkk _ _ (hk G' F' s'' h'.unflat w')⟩
  · show (!(g || fs.any Frame.guarded)) = true
    rw [hg, guard_plain hf]; rfl
  · exact (Ok.flat (pl := pl) h.drop |> fun _ => (by
      have := Ok.flat (pl := tu a [.int t.1 0, .int t.2.1 0, .str t.2.2 0] :: pl) (F := F) h
      exact (Ok.app this)))
end
end Mine
namespace Mine
local macro_rules | `(tactic| walk_at "foc") => `(tactic| first | with_reducible exact Foc.here _ _ | (apply Foc.there; walk_at "foc"))
local macro_rules | `(tactic| walk_at "has") => `(tactic| first | with_reducible exact Has.here _ _ | assumption | (refine Has.there _ ?_; walk_at "has"))
local macro_rules | `(tactic| walk_at "rep") => `(tactic| first | with_reducible exact Rep.here _ _ _ | assumption | (apply Rep.there; walk_at "rep"))
local macro_rules | `(tactic| walk_at "perm") => `(tactic| first | with_reducible exact List.Perm.refl _ | (refine perm_step (by walk_at "foc") ?_; walk_at "perm"))
section
variable {w : World} {h₁ : Heap} {X : List Addr} {os : OsState} {dr : Drawn} {Ws : List Chunk} {Z : Chunk → Prop} {L : Addr} {cv : Cv} {gc va : Addr} {kc : Chunk} {ch : Int → List Int} {ns : List Int} {lim : Int} {oi : Addr} {co : List Value → Chunk} {A : Around} {d u : Nat}
def At (w : World) (h₁ : Heap) (X : List Addr) (os : OsState) (dr : Drawn) (Ws : List Chunk) (Z : Chunk → Prop) (L : Addr) (cv : Cv) (gc va : Addr) (kc : Chunk) (ns : List Int) (lim : Int) (oi : Addr) (co : List Value → Chunk) (A : Around) : Ctl → List Trow → Prop
  | .O vis ss, r => ∀ (G : Array GenState) (F : List Chunk) (s : Shared) (p1 : Pos), InvV ns vis ss → Ok (BB w h₁ X os dr) G (plO w h₁ X os dr L cv lim gc va kc co vis ss ++ F) s → HasAll Ws F →
      Run (BB w h₁ X os dr).M A (Post (BB w h₁ X os dr) A (HasAll Ws) Z rowI G F r) (c1 (env0 L) oi) ((BB w h₁ X os dr).M.den (c1 (env0 L) oi)) [F1 (env0 L) p1] s
  | .W vis ss x stk, r => ∀ (G : Array GenState) (F : List Chunk) (s : Shared) (es : List Ent) (sa : Addr) (p1 p2 : Pos), entV es = stk → InvV ns vis ss → InvE w h₁ X os dr Ws ns vis es → Ok (BB w h₁ X os dr) G (plW w h₁ X os dr L cv lim gc va kc co vis ss x sa es [] ++ F) s → HasAll Ws F →
      Run (BB w h₁ X os dr).M A (Post (BB w h₁ X os dr) A (HasAll Ws) Z rowI G F r) (c2 (env0 L)) ((BB w h₁ X os dr).M.den (c2 (env0 L))) [F2 (env0 L) oi p2, F1 (env0 L) p1] s
  | .F vis ss x p cs stk, r => ∀ (G : Array GenState) (F : List Chunk) (s : Shared) (e : Ent) (es : List Ent) (sa : Addr) (p1 p2 p3 : Pos), e.node = p → e.rest = cs → entV es = stk → InvV ns vis ss → InvE w h₁ X os dr Ws ns vis (e :: es) →
      Ok (BB w h₁ X os dr) G (plW w h₁ X os dr L cv lim gc va kc co vis ss x sa (e :: es) [("parent", .int p 0)] ++ F) s → HasAll Ws F →
      Run (BB w h₁ X os dr).M A (Post (BB w h₁ X os dr) A (HasAll Ws) Z rowI G F r) (c3 (env0 L) e.it) ((BB w h₁ X os dr).M.den (c3 (env0 L) e.it)) [F3 (env0 L) p3, F2 (env0 L) oi p2, F1 (env0 L) p1] s
theorem fit1 (K : Walk w h₁ X os dr Ws Z L cv gc kc ch ns lim oi co A d u) (p1 : Pos) : Fit (BB w h₁ X os dr) (A.over (c1 (env0 L) oi) [F1 (env0 L) p1]) (d + 2) (u + 7) := over_fit (x := 1) (y := 3) K.fit rfl (by kernel_rfl)
theorem fit2 (K : Walk w h₁ X os dr Ws Z L cv gc kc ch ns lim oi co A d u) (p1 p2 : Pos) : Fit (BB w h₁ X os dr) (A.over (c2 (env0 L)) [F2 (env0 L) oi p2, F1 (env0 L) p1]) (d + 2) (u + 7) := over_fit (x := 1) (y := 3) K.fit rfl (by kernel_rfl)
theorem fit3 (K : Walk w h₁ X os dr Ws Z L cv gc kc ch ns lim oi co A d u) (it : Addr) (p1 p2 p3 : Pos) : Fit (BB w h₁ X os dr) (A.over (c3 (env0 L) it) [F3 (env0 L) p3, F2 (env0 L) oi p2, F1 (env0 L) p1]) (d + 2) (u + 7) := over_fit (x := 1) (y := 3) K.fit rfl (by kernel_rfl)
theorem in0 (g : (BB w h₁ X os dr).Good) (L : Addr) : In (BB w h₁ X os dr) (env0 L) := (D_dfs g).inEnv g L
theorem vis_len (K : Walk w h₁ X os dr Ws Z L cv gc kc ch ns lim oi co A d u) {vis ss : List Int} (hv : InvV ns vis ss) : vis.length ≤ 1000 := Nat.le_trans (nodup_len hv.vnd hv.vsub) K.small
theorem vis_small (K : Walk w h₁ X os dr Ws Z L cv gc kc ch ns lim oi co A d u) {vis ss : List Int} (hv : InvV ns vis ss) : vis.length < scanBound := Nat.lt_of_le_of_lt (vis_len K hv) (by decide)
theorem vis_small1 (K : Walk w h₁ X os dr Ws Z L cv gc kc ch ns lim oi co A d u) {vis ss : List Int} (hv : InvV ns vis ss) : vis.length + 1 < scanBound := Nat.lt_of_le_of_lt (Nat.add_le_add_right (vis_len K hv) 1) (by decide)
theorem vis_add {vis ss : List Int} {x : Int} (hv : InvV ns vis ss) (hx : x ∈ ns) (hn : vis.contains x = false) : InvV ns (vis ++ [x]) ss := by
  rw [List.contains_eq_mem, decide_eq_false_iff_not] at hn
  refine ⟨fun v hm => ?_, ?_, hv.ssub⟩
  · rcases List.mem_append.mp hm with hm | hm
    · exact hv.vsub v hm
    · rw [List.mem_singleton.mp hm]; exact hx
  · rw [List.nodup_append]
    refine ⟨hv.vnd, by simp, fun a ha b hb => ?_⟩
    rw [List.mem_singleton.mp hb]
    exact fun e => hn (e ▸ ha)
theorem es_len (K : Walk w h₁ X os dr Ws Z L cv gc kc ch ns lim oi co A d u) {vis ss : List Int} {es : List Ent} (hv : InvV ns vis ss) (he : InvE w h₁ X os dr Ws ns vis es) : es.length ≤ 1000 := by
  rw [← List.length_map (f := Ent.node)]
  refine Nat.le_trans (nodup_len he.nd fun y hy => ?_) (vis_len K hv)
  obtain ⟨e, he', rfl⟩ := List.mem_map.mp hy
  exact he.sub e he'
theorem at_o_nil (K : Walk w h₁ X os dr Ws Z L cv gc kc ch ns lim oi co A d u) (vis : List Int) : At w h₁ X os dr Ws Z L cv gc va kc ns lim oi co A (.O vis []) [] := by
  intro G F s p1 hv h hW
  have h : Ok (BB w h₁ X os dr) G (fr (env0 L) (vars0 lim gc va []) cv :: kc :: co [] :: se (BB w h₁ X os dr) va vis :: F) s := h
  refine rn_forLoop (K.outer.done (fit1 K p1).handled h (by walk_at "foc") hW.there.there.there.there fun s1 h1 => ?_)
  refine rn_nil (rn_leaf (.ok .next) (rn_end (.ok (.ret .none)) ⟨rfl, kc, K.fin, ?_⟩))
  exact h1.drop.drop1
theorem at_o_skip (K : Walk w h₁ X os dr Ws Z L cv gc kc ch ns lim oi co A d u) {vis ss : List Int} {x : Int} {r : List Trow} (hx : vis.contains x = true)
    (ih : At w h₁ X os dr Ws Z L cv gc va kc ns lim oi co A (.O vis ss) r) : At w h₁ X os dr Ws Z L cv gc va kc ns lim oi co A (.O vis (x :: ss)) r := by
  intro G F s p1 hv h hW
  have I := in0 K.good L
  have h : Ok (BB w h₁ X os dr) G (fr (env0 L) (vars0 lim gc va []) cv :: kc :: co (.int x 0 :: intL ss) :: se (BB w h₁ X os dr) va vis :: F) s := h
  have hz := vis_small K hv
  refine rn_forLoop (K.outer.next h (by walk_at "rep") hW.there.there.there.there fun v s1 hu h1 => ?_)
  obtain ⟨t, rfl⟩ := untok_int hu
  refine wpAny_assign_Name (st_local h1 I rfl (by kernel_rfl) fun s2 h2 => ?_)
  show Run _ _ _ _ ((execs (_ :: _) _).wrap _ _ _ _) _ _
  refine rn_cons (rn_If (wpAny_isTrue_Compare1 (x_int x h2 I (by kernel_rfl) fun t s3 h3 => x_ref va h3 I (by kernel_rfl) fun s4 h4 => s_in h4 (by walk_at "has") hz fun s5 h5 => ?_) rfl))
  rw [hx]
  refine wpAny_truthy_bool (rn_cons (rn_stmt (wpAny_Continue ?_)))
  refine rn_again rfl (ih G F s5 p1 ⟨hv.vsub, hv.vnd, fun v hm => hv.ssub v (List.mem_cons_of_mem _ hm)⟩ (h5.sub (by kernel_rfl)) hW)
theorem at_o_new (K : Walk w h₁ X os dr Ws Z L cv gc kc ch ns lim oi co A d u) {vis ss : List Int} {x : Int} {r : List Trow} (hx : vis.contains x = false)
    (ih : At w h₁ X os dr Ws Z L cv gc va kc ns lim oi co A (.W (vis ++ [x]) ss x [(x, ch x)]) r) : At w h₁ X os dr Ws Z L cv gc va kc ns lim oi co A (.O vis (x :: ss)) ((x, x, "forward") :: r) := by
  intro G F s p1 hv h hW
  have I := in0 K.good L
  have hxn : x ∈ ns := hv.ssub x List.mem_cons_self
  have h : Ok (BB w h₁ X os dr) G (fr (env0 L) (vars0 lim gc va []) cv :: kc :: co (.int x 0 :: intL ss) :: se (BB w h₁ X os dr) va vis :: F) s := h
  refine rn_forLoop (K.outer.next h (by walk_at "rep") hW.there.there.there.there fun v s1 hu h1 => ?_)
  obtain ⟨t, rfl⟩ := untok_int hu
  refine wpAny_assign_Name (st_local h1 I rfl (by kernel_rfl) fun s2 h2 => ?_)
  show Run _ _ _ _ ((execs (_ :: _) _).wrap _ _ _ _) _ _
  refine rn_cons (rn_If (wpAny_isTrue_Compare1 (x_int x h2 I (by kernel_rfl) fun t s3 h3 => x_ref va h3 I (by kernel_rfl) fun s4 h4 => s_in h4 (by walk_at "has") (vis_small K hv) fun s5 h5 => ?_) rfl))
  rw [hx]
  refine wpAny_truthy_bool (rn_nil ?_)
  refine rn_cons (rn_Yield rfl (x_tupleP [.int x 0, .int x 0, .str "forward" 0] h5 I (by kernel_rfl) fun a s6 h6 p g l k hg hkk => ?_))
  refine y_step (t := (x, x, "forward")) [fr (env0 L) (vars0 lim gc va [("start", .int x 0)]) cv, kc, co (intL ss), se (BB w h₁ X os dr) va vis] rfl (h6.sub (vars' := vars0 lim gc va [("start", .int x 0)]) (by kernel_rfl)).swap (fun G' F' s7 h7 hW' => ?_) hg hkk
  have h7 : Ok (BB w h₁ X os dr) G' (fr (env0 L) (vars0 lim gc va [("start", .int x 0)]) cv :: kc :: co (intL ss) :: se (BB w h₁ X os dr) va vis :: F') s7 := h7
  show Run _ _ _ _ ((execs (_ :: _) _).wrap _ _ _ _) _ _
  refine rn_cons (rn_stmt (wpAny_Expr_any (x_bm va [.int x 0] h7 I (by kernel_rfl) (fun s' Q' h' k => m_set h' (xs := vis) (by walk_at "has") PySem.F.slot_set_add PySem.F.type_set_add k) fun us s8 hus h8 => ?_)))
  obtain ⟨v1, rfl, hu1⟩ := args1 hus
  obtain ⟨t1, rfl⟩ := untok_int hu1
  refine s_add (xs := vis) h8 (by walk_at "rep") hx (vis_small1 K hv) fun s9 h9 => ?_
  show Run _ _ _ _ ((execs (_ :: _) _).wrap _ _ _ _) _ _
  refine rn_cons (rn_stmt (x_asg (x_list (G := G') ?_)))
  refine sp_cons (x_tuple (G := G') ?_)
  refine sp_cons (x_ev (.int x 0) h9 I (by kernel_rfl) fun v2 s10 hv2 h10 => ?_)
  refine sp_cons (wpAny_Call_NameR (x_ref gc h10 I (by kernel_rfl) fun s11 h11 => ?_))
  refine K.kids.call (n := x) ((fit1 K p1).mono (by omega) (by omega)) hxn h11 (by walk_at "has") hW'.there.there.there (by kernel_rfl) fun it c s12 hkid h12 => ?_
  refine sp_nil ⟨_, [.int x 0, .ref it], by rw [List.map_cons, hv2]; rfl, by simp, h12, fun tp s13 h13 => ?_⟩
  refine sp_nil ⟨_, [.ref tp], rfl, by simp, h13, fun sa s14 h14 => ?_⟩
  have h14 : Ok (BB w h₁ X os dr) G' (fr (env0 L) _ cv :: li sa [.ref tp] :: tu tp [.int x 0, .ref it] :: c (intL (ch x)) :: kc :: co (intL ss) :: se (BB w h₁ X os dr) va (vis ++ [x]) :: F') s14 := h14.perm (by walk_at "perm")
  refine st_local h14 I rfl (by kernel_rfl) fun s15 h15 => ?_
  show Run _ _ _ _ ((execs (_ :: _) _).wrap _ _ _ _) _ _
  refine rn_cons (rn_stmt (x_set (.int 1 0) h15 I (by kernel_rfl) fun s16 h16 => ?_))
  show Run _ _ _ _ ((execs (_ :: _) _).wrap _ _ _ _) _ _
  refine rn_cons (rn_While fun p2 => ?_)
  have hi : InvE w h₁ X os dr Ws ns (vis ++ [x]) [⟨x, tp, it, c, ch x⟩] :=
    ⟨fun e he v hm => by rw [List.mem_singleton.mp he] at hm; exact K.closed x hxn v hm, fun e he => by rw [List.mem_singleton.mp he]; exact hkid, by simp, fun e he => by rw [List.mem_singleton.mp he]; simp⟩
  refine ih G' F' s16 [⟨x, tp, it, c, ch x⟩] sa p1 p2 rfl (vis_add ⟨hv.vsub, hv.vnd, fun v hm => hv.ssub v (List.mem_cons_of_mem _ hm)⟩ hxn hx) hi ?_ hW'
  have h17 : Ok (BB w h₁ X os dr) G' (fr (env0 L) (varsW lim gc va x sa 1 []) cv :: kc :: co (intL ss) :: se (BB w h₁ X os dr) va (vis ++ [x]) :: li sa [.ref tp] :: tu tp [.int x 0, .ref it] :: c (intL (ch x)) :: F') s16 := (h16.sub (vars' := varsW lim gc va x sa 1 []) (by kernel_rfl)).perm (by walk_at "perm")
  exact h17
theorem at_w_nil (K : Walk w h₁ X os dr Ws Z L cv gc kc ch ns lim oi co A d u) {vis ss : List Int} {x : Int} {r : List Trow}
    (ih : At w h₁ X os dr Ws Z L cv gc va kc ns lim oi co A (.O vis ss) r) : At w h₁ X os dr Ws Z L cv gc va kc ns lim oi co A (.W vis ss x []) ((x, x, "reverse") :: r) := by
  intro G F s es sa p1 p2 hes hv he h hW
  have I := in0 K.good L
  have hes : es = [] := by unfold entV at hes; simpa using hes
  subst hes
  have h : Ok (BB w h₁ X os dr) G (fr (env0 L) (varsW lim gc va x sa 0 []) cv :: kc :: co (intL ss) :: se (BB w h₁ X os dr) va vis :: li sa [] :: F) s := h
  refine rn_whileLoop (PyProof.Rows.isTrue_plain (x_ref sa h I (by kernel_rfl) fun s1 h1 => l_truthy (ps := []) h1 (by walk_at "has") (by decide) fun s2 h2 => ?_) (by with_unfolding_all rfl))
  show if false = true then _ else _
  rw [if_neg Bool.false_ne_true]
  refine rn_leaf (.ok .next) ?_
  show Run _ _ _ _ ((execs (_ :: _) _).wrap _ _ _ _) _ _
  refine rn_cons (rn_Yield rfl (x_tupleP [.int x 0, .int x 0, .str "reverse" 0] h2 I (by kernel_rfl) fun a s6 h6 p g l k hg hkk => ?_))
  have h6 : Ok (BB w h₁ X os dr) G (li sa [] :: tu a [.int x 0, .int x 0, .str "reverse" 0] :: fr (env0 L) (vars0 lim gc va []) cv :: kc :: co (intL ss) :: se (BB w h₁ X os dr) va vis :: F) s6 := (h6.sub (vars' := vars0 lim gc va []) (by kernel_rfl)).perm (by walk_at "perm")
  refine y_step (t := (x, x, "reverse")) [fr (env0 L) (vars0 lim gc va []) cv, kc, co (intL ss), se (BB w h₁ X os dr) va vis] rfl h6.drop (fun G' F' s7 h7 hW' => ?_) hg hkk
  exact rn_again (c' := c1 (env0 L) oi) rfl (ih G' F' s7 p1 hv h7 hW')
theorem at_w_go (K : Walk w h₁ X os dr Ws Z L cv gc kc ch ns lim oi co A d u) {vis ss : List Int} {x p : Int} {cs : List Int} {stk : List (Int × List Int)} {r : List Trow}
    (ih : At w h₁ X os dr Ws Z L cv gc va kc ns lim oi co A (.F vis ss x p cs stk) r) : At w h₁ X os dr Ws Z L cv gc va kc ns lim oi co A (.W vis ss x ((p, cs) :: stk)) r := by
  intro G F s es sa p1 p2 hes hv he h hW
  have I := in0 K.good L
  have hlen := es_len K hv he
  cases es with
  | nil => cases hes
  | cons e es =>
    obtain ⟨h1', h2'⟩ := List.cons.inj hes
    obtain ⟨hp, hc⟩ := Prod.mk.inj h1'
    have hL : entL (e :: es) = entL es ++ [.ref e.tup] := by unfold entL; simp
    have h : Ok (BB w h₁ X os dr) G (fr (env0 L) (varsW lim gc va x sa (e :: es).length []) cv :: kc :: co (intL ss) :: se (BB w h₁ X os dr) va vis :: li sa (entL (e :: es)) :: tu e.tup [.int e.node 0, .ref e.it] :: e.c (intL e.rest) :: (entsC es ++ F)) s := h
    have hsz : (entL (e :: es)).length < 2 ^ 62 := by
      unfold entL; rw [List.length_map, List.length_reverse]; exact Nat.lt_of_le_of_lt hlen (by decide)
    refine rn_whileLoop (PyProof.Rows.isTrue_plain (x_ref sa h I (by kernel_rfl) fun s1 h1 => l_truthy (ps := entL (e :: es)) h1 (by walk_at "has") hsz fun s2 h2 => ?_) (by with_unfolding_all rfl))
    have ht : (!(entL (e :: es)).isEmpty) = true := by rw [hL]; simp
    rw [ht, if_pos rfl]
    show Run _ _ _ _ ((execs (_ :: _) _).wrap _ _ _ _) _ _
    refine rn_cons (rn_stmt (PyProof.Rows.Assign_Tuple (PyProof.Rows.Subscript_ (x_ref sa h2 I (by kernel_rfl) fun s3 h3 => x_neg 1 h3 I (by kernel_rfl) fun t s4 h4 => l_last (.ref e.tup) h4 (ps := entL (e :: es)) (by walk_at "has") rfl (by rw [hL]; simp) fun v hv' => ?_)) (by with_unfolding_all rfl) (by with_unfolding_all rfl)))
    cases untok_ref hv'
    refine u_two (p₁ := .int e.node 0) (p₂ := .ref e.it) h4 I (fit2 K p1 p2).handled (by walk_at "has") (by kernel_rfl) fun s5 h5 => ?_
    show Run _ _ _ _ ((execs (_ :: _) _).wrap _ _ _ _) _ _
    refine rn_cons (rn_For (x_ref e.it h5 I (by kernel_rfl) fun s6 h6 => (he.kid e List.mem_cons_self).self (vs := intL e.rest) h6 (by walk_at "has") fun p3 => ?_))
    have h7 : Ok (BB w h₁ X os dr) G (fr (env0 L) (varsW lim gc va x sa (e :: es).length [("parent", .int p 0)]) cv :: kc :: co (intL ss) :: se (BB w h₁ X os dr) va vis :: li sa (entL (e :: es)) :: tu e.tup [.int e.node 0, .ref e.it] :: e.c (intL e.rest) :: (entsC es ++ F)) s6 := h6.sub (by rw [← hp]; kernel_rfl)
    exact ih G F s6 e es sa p1 p2 p3 hp hc h2' hv he h7 hW
end
end Mine
namespace Mine
local macro_rules | `(tactic| walk_at "foc") => `(tactic| first | with_reducible exact Foc.here _ _ | (apply Foc.there; walk_at "foc"))
local macro_rules | `(tactic| walk_at "has") => `(tactic| first | with_reducible exact Has.here _ _ | assumption | (refine Has.there _ ?_; walk_at "has"))
local macro_rules | `(tactic| walk_at "rep") => `(tactic| first | with_reducible exact Rep.here _ _ _ | assumption | (apply Rep.there; walk_at "rep"))
local macro_rules | `(tactic| walk_at "perm") => `(tactic| first | with_reducible exact List.Perm.refl _ | (refine perm_step (by walk_at "foc") ?_; walk_at "perm"))
section
variable {w : World} {h₁ : Heap} {X : List Addr} {os : OsState} {dr : Drawn} {Ws : List Chunk} {Z : Chunk → Prop} {L : Addr} {cv : Cv} {gc va : Addr} {kc : Chunk} {ch : Int → List Int} {ns : List Int} {lim : Int} {oi : Addr} {co : List Value → Chunk} {A : Around} {d u : Nat}
theorem fitB (K : Walk w h₁ X os dr Ws Z L cv gc kc ch ns lim oi co A d u) (p1 p2 p3 : Pos) : Fit (BB w h₁ X os dr) (A.over (.block iE (env0 L)) [F3 (env0 L) p3, F2 (env0 L) oi p2, F1 (env0 L) p1]) (d + 2) (u + 7) := over_fit (x := 1) (y := 3) K.fit rfl (by kernel_rfl)
theorem entL_next (e : Ent) (es : List Ent) (cs : List Int) : entL (e :: es) = entL ({ e with rest := cs } :: es) := by unfold entL; simp
theorem inv_next {vis : List Int} {e : Ent} {es : List Ent} {c : Int} {cs : List Int} (he : InvE w h₁ X os dr Ws ns vis (e :: es)) (hc : e.rest = c :: cs) (vis' : List Int) (hs : ∀ v ∈ vis, v ∈ vis') : InvE w h₁ X os dr Ws ns vis' ({ e with rest := cs } :: es) := by
  refine ⟨fun f hf v hm => ?_, fun f hf => ?_, he.nd, fun f hf => ?_⟩
  · rcases List.mem_cons.mp hf with rfl | hf
    · exact he.rest e List.mem_cons_self v (by rw [hc]; exact List.mem_cons_of_mem _ hm)
    · exact he.rest f (List.mem_cons_of_mem _ hf) v hm
  · rcases List.mem_cons.mp hf with rfl | hf
    · exact he.kid e List.mem_cons_self
    · exact he.kid f (List.mem_cons_of_mem _ hf)
  · rcases List.mem_cons.mp hf with rfl | hf
    · exact hs _ (he.sub e List.mem_cons_self)
    · exact hs _ (he.sub f (List.mem_cons_of_mem _ hf))
theorem at_f_non (K : Walk w h₁ X os dr Ws Z L cv gc kc ch ns lim oi co A d u) {vis ss : List Int} {x p c : Int} {cs : List Int} {stk : List (Int × List Int)} {r : List Trow} (hx : vis.contains c = true)
    (ih : At w h₁ X os dr Ws Z L cv gc va kc ns lim oi co A (.F vis ss x p cs stk) r) : At w h₁ X os dr Ws Z L cv gc va kc ns lim oi co A (.F vis ss x p (c :: cs) stk) ((p, c, "nontree") :: r) := by
  intro G F s e es sa p1 p2 p3 hp hc hst hv he h hW
  have I := in0 K.good L
  have h : Ok (BB w h₁ X os dr) G (fr (env0 L) (varsW lim gc va x sa (es.length + 1) [("parent", .int p 0)]) cv :: kc :: co (intL ss) :: se (BB w h₁ X os dr) va vis :: li sa (entL (e :: es)) :: tu e.tup [.int e.node 0, .ref e.it] :: e.c (.int c 0 :: intL cs) :: (entsC es ++ F)) s := by
    have h : Ok (BB w h₁ X os dr) G (fr (env0 L) (varsW lim gc va x sa (es.length + 1) [("parent", .int p 0)]) cv :: kc :: co (intL ss) :: se (BB w h₁ X os dr) va vis :: li sa (entL (e :: es)) :: tu e.tup [.int e.node 0, .ref e.it] :: e.c (intL e.rest) :: (entsC es ++ F)) s := h
    rw [hc] at h; exact h
  refine rn_forLoop ((he.kid e List.mem_cons_self).iter.next h (by walk_at "rep") (hW.right (l := entsC es)).there.there.there.there.there.there.there fun v s1 hu h1 => ?_)
  obtain ⟨t, rfl⟩ := untok_int hu
  refine wpAny_assign_Name (st_local h1 I rfl (by kernel_rfl) fun s2 h2 => ?_)
  show Run _ _ _ _ ((execs (_ :: _) _).wrap _ _ _ _) _ _
  refine rn_cons (rn_If (wpAny_isTrue_Compare1 (x_int c h2 I (by kernel_rfl) fun t s3 h3 => x_ref va h3 I (by kernel_rfl) fun s4 h4 => s_in h4 (by walk_at "has") (vis_small K hv) fun s5 h5 => ?_) rfl))
  rw [hx]
  refine wpAny_truthy_bool (rn_cons (rn_Yield rfl (x_tupleP [.int p 0, .int c 0, .str "nontree" 0] h5 I (by kernel_rfl) fun a s6 h6 pp g l k hg hkk => ?_)))
  rw [entL_next e es cs] at h6
  refine y_step (t := (p, c, "nontree")) (plW w h₁ X os dr L cv lim gc va kc co vis ss x sa ({ e with rest := cs } :: es) [("parent", .int p 0)]) rfl (h6.sub (vars' := varsW lim gc va x sa (es.length + 1) [("parent", .int p 0)]) (by kernel_rfl)).swap (fun G' F' s7 h7 hW' => ?_) hg hkk
  exact rn_again (c' := c3 (env0 L) e.it) rfl (ih G' F' s7 { e with rest := cs } es sa p1 p2 p3 hp rfl hst hv (inv_next he hc vis fun _ h => h) h7 hW')
theorem at_f_lim (K : Walk w h₁ X os dr Ws Z L cv gc kc ch ns lim oi co A d u) {vis ss : List Int} {x p c : Int} {cs : List Int} {stk : List (Int × List Int)} {r : List Trow} (hx : vis.contains c = false) (hl : ¬ (stk.length : Int) + 1 < lim)
    (ih : At w h₁ X os dr Ws Z L cv gc va kc ns lim oi co A (.F (vis ++ [c]) ss x p cs stk) r) : At w h₁ X os dr Ws Z L cv gc va kc ns lim oi co A (.F vis ss x p (c :: cs) stk) ((p, c, "forward") :: (p, c, "reverse-depth_limit") :: r) := by
  intro G F s e es sa p1 p2 p3 hp hc hst hv he h hW
  have I := in0 K.good L
  have hcn : c ∈ ns := he.rest e List.mem_cons_self c (by rw [hc]; exact List.mem_cons_self)
  have hlen : stk.length = es.length := by rw [← hst]; unfold entV; rw [List.length_map]
  have h : Ok (BB w h₁ X os dr) G (fr (env0 L) (varsW lim gc va x sa (es.length + 1) [("parent", .int p 0)]) cv :: kc :: co (intL ss) :: se (BB w h₁ X os dr) va vis :: li sa (entL (e :: es)) :: tu e.tup [.int e.node 0, .ref e.it] :: e.c (.int c 0 :: intL cs) :: (entsC es ++ F)) s := by
    have h : Ok (BB w h₁ X os dr) G (fr (env0 L) (varsW lim gc va x sa (es.length + 1) [("parent", .int p 0)]) cv :: kc :: co (intL ss) :: se (BB w h₁ X os dr) va vis :: li sa (entL (e :: es)) :: tu e.tup [.int e.node 0, .ref e.it] :: e.c (intL e.rest) :: (entsC es ++ F)) s := h
    rw [hc] at h; exact h
  refine rn_forLoop ((he.kid e List.mem_cons_self).iter.next h (by walk_at "rep") (hW.right (l := entsC es)).there.there.there.there.there.there.there fun v s1 hu h1 => ?_)
  obtain ⟨t, rfl⟩ := untok_int hu
  refine wpAny_assign_Name (st_local h1 I rfl (by kernel_rfl) fun s2 h2 => ?_)
  show Run _ _ _ _ ((execs (_ :: _) _).wrap _ _ _ _) _ _
  refine rn_cons (rn_If (wpAny_isTrue_Compare1 (x_int c h2 I (by kernel_rfl) fun t s3 h3 => x_ref va h3 I (by kernel_rfl) fun s4 h4 => s_in h4 (by walk_at "has") (vis_small K hv) fun s5 h5 => ?_) rfl))
  rw [hx]
  refine wpAny_truthy_bool ?_
  show Run _ _ _ _ ((execs (_ :: _) _).wrap _ _ _ _) _ _
  refine rn_cons (rn_Yield rfl (x_tupleP [.int p 0, .int c 0, .str "forward" 0] h5 I (by kernel_rfl) fun a s6 h6 pp g l k hg hkk => ?_))
  rw [entL_next e es cs] at h6
  refine y_step (t := (p, c, "forward")) (plW w h₁ X os dr L cv lim gc va kc co vis ss x sa ({ e with rest := cs } :: es) [("parent", .int p 0), ("child", .int c 0)]) rfl (h6.sub (vars' := varsW lim gc va x sa (es.length + 1) [("parent", .int p 0), ("child", .int c 0)]) (by kernel_rfl)).swap (fun G' F' s7 h7 hW' => ?_) hg hkk
  have h7 : Ok (BB w h₁ X os dr) G' (fr (env0 L) (varsW lim gc va x sa (es.length + 1) [("parent", .int p 0), ("child", .int c 0)]) cv :: kc :: co (intL ss) :: se (BB w h₁ X os dr) va vis :: li sa (entL ({ e with rest := cs } :: es)) :: tu e.tup [.int e.node 0, .ref e.it] :: e.c (intL cs) :: (entsC es ++ F')) s7 := h7
  show Run _ _ _ _ ((execs (_ :: _) _).wrap _ _ _ _) _ _
  refine rn_cons (rn_stmt (wpAny_Expr_any (x_bm va [.int c 0] h7 I (by kernel_rfl) (fun s' Q' h' k => m_set h' (xs := vis) (by walk_at "has") PySem.F.slot_set_add PySem.F.type_set_add k) fun us s8 hus h8 => ?_)))
  obtain ⟨v1, rfl, hu1⟩ := args1 hus
  obtain ⟨t1, rfl⟩ := untok_int hu1
  refine s_add (xs := vis) h8 (by walk_at "rep") hx (vis_small1 K hv) fun s9 h9 => ?_
  show Run _ _ _ _ ((execs (_ :: _) _).wrap _ _ _ _) _ _
  refine rn_cons (rn_If (isTrue_of (c := decide (((es.length + 1 : Nat) : Int) < lim)) h9 I (by kernel_rfl) rfl fun s10 h10 => ?_))
  have hd : decide (((es.length + 1 : Nat) : Int) < lim) = false := decide_eq_false (by rw [← hlen]; push_cast; exact hl)
  rw [hd]
  show Run _ _ _ _ ((execs (_ :: _) _).wrap _ _ _ _) _ _
  refine rn_cons (rn_Yield rfl (x_tupleP [.int p 0, .int c 0, .str "reverse-depth_limit" 0] h10 I (by kernel_rfl) fun a s11 h11 pp g l k hg hkk => ?_))
  refine y_step (t := (p, c, "reverse-depth_limit")) (plW w h₁ X os dr L cv lim gc va kc co (vis ++ [c]) ss x sa ({ e with rest := cs } :: es) [("parent", .int p 0)]) rfl (h11.sub (vars' := varsW lim gc va x sa (es.length + 1) [("parent", .int p 0)]) (by kernel_rfl)).swap (fun G' F' s7 h7 hW' => ?_) hg hkk
  exact rn_again (c' := c3 (env0 L) e.it) rfl (ih G' F' s7 { e with rest := cs } es sa p1 p2 p3 hp rfl hst (vis_add hv hcn hx) (inv_next he hc _ fun _ h => List.mem_append_left _ h) h7 hW')
theorem at_f_fwd (K : Walk w h₁ X os dr Ws Z L cv gc kc ch ns lim oi co A d u) {vis ss : List Int} {x p c : Int} {cs : List Int} {stk : List (Int × List Int)} {r : List Trow} (hx : vis.contains c = false) (hl : (stk.length : Int) + 1 < lim)
    (ih : At w h₁ X os dr Ws Z L cv gc va kc ns lim oi co A (.W (vis ++ [c]) ss x ((c, ch c) :: (p, cs) :: stk)) r) : At w h₁ X os dr Ws Z L cv gc va kc ns lim oi co A (.F vis ss x p (c :: cs) stk) ((p, c, "forward") :: r) := by
  intro G F s e es sa p1 p2 p3 hp hc hst hv he h hW
  have I := in0 K.good L
  have hcn : c ∈ ns := he.rest e List.mem_cons_self c (by rw [hc]; exact List.mem_cons_self)
  have hlen : stk.length = es.length := by rw [← hst]; unfold entV; rw [List.length_map]
  have hes := es_len K hv he
  have h : Ok (BB w h₁ X os dr) G (fr (env0 L) (varsW lim gc va x sa (es.length + 1) [("parent", .int p 0)]) cv :: kc :: co (intL ss) :: se (BB w h₁ X os dr) va vis :: li sa (entL (e :: es)) :: tu e.tup [.int e.node 0, .ref e.it] :: e.c (.int c 0 :: intL cs) :: (entsC es ++ F)) s := by
    have h : Ok (BB w h₁ X os dr) G (fr (env0 L) (varsW lim gc va x sa (es.length + 1) [("parent", .int p 0)]) cv :: kc :: co (intL ss) :: se (BB w h₁ X os dr) va vis :: li sa (entL (e :: es)) :: tu e.tup [.int e.node 0, .ref e.it] :: e.c (intL e.rest) :: (entsC es ++ F)) s := h
    rw [hc] at h; exact h
  refine rn_forLoop ((he.kid e List.mem_cons_self).iter.next h (by walk_at "rep") (hW.right (l := entsC es)).there.there.there.there.there.there.there fun v s1 hu h1 => ?_)
  obtain ⟨t, rfl⟩ := untok_int hu
  refine wpAny_assign_Name (st_local h1 I rfl (by kernel_rfl) fun s2 h2 => ?_)
  show Run _ _ _ _ ((execs (_ :: _) _).wrap _ _ _ _) _ _
  refine rn_cons (rn_If (wpAny_isTrue_Compare1 (x_int c h2 I (by kernel_rfl) fun t s3 h3 => x_ref va h3 I (by kernel_rfl) fun s4 h4 => s_in h4 (by walk_at "has") (vis_small K hv) fun s5 h5 => ?_) rfl))
  rw [hx]
  refine wpAny_truthy_bool ?_
  show Run _ _ _ _ ((execs (_ :: _) _).wrap _ _ _ _) _ _
  refine rn_cons (rn_Yield rfl (x_tupleP [.int p 0, .int c 0, .str "forward" 0] h5 I (by kernel_rfl) fun a s6 h6 pp g l k hg hkk => ?_))
  rw [entL_next e es cs] at h6
  refine y_step (t := (p, c, "forward")) (plW w h₁ X os dr L cv lim gc va kc co vis ss x sa ({ e with rest := cs } :: es) [("parent", .int p 0), ("child", .int c 0)]) rfl (h6.sub (vars' := varsW lim gc va x sa (es.length + 1) [("parent", .int p 0), ("child", .int c 0)]) (by kernel_rfl)).swap (fun G' F' s7 h7 hW' => ?_) hg hkk
  have h7 : Ok (BB w h₁ X os dr) G' (fr (env0 L) (varsW lim gc va x sa (es.length + 1) [("parent", .int p 0), ("child", .int c 0)]) cv :: kc :: co (intL ss) :: se (BB w h₁ X os dr) va vis :: li sa (entL ({ e with rest := cs } :: es)) :: tu e.tup [.int e.node 0, .ref e.it] :: e.c (intL cs) :: (entsC es ++ F')) s7 := h7
  show Run _ _ _ _ ((execs (_ :: _) _).wrap _ _ _ _) _ _
  refine rn_cons (rn_stmt (wpAny_Expr_any (x_bm va [.int c 0] h7 I (by kernel_rfl) (fun s' Q' h' k => m_set h' (xs := vis) (by walk_at "has") PySem.F.slot_set_add PySem.F.type_set_add k) fun us s8 hus h8 => ?_)))
  obtain ⟨v1, rfl, hu1⟩ := args1 hus
  obtain ⟨t1, rfl⟩ := untok_int hu1
  refine s_add (xs := vis) h8 (by walk_at "rep") hx (vis_small1 K hv) fun s9 h9 => ?_
  show Run _ _ _ _ ((execs (_ :: _) _).wrap _ _ _ _) _ _
  refine rn_cons (rn_If (isTrue_of (c := decide (((es.length + 1 : Nat) : Int) < lim)) h9 I (by kernel_rfl) rfl fun s10 h10 => ?_))
  have hd : decide (((es.length + 1 : Nat) : Int) < lim) = true := decide_eq_true (by rw [← hlen]; push_cast; exact hl)
  rw [hd]
  show Run _ _ _ _ ((execs (_ :: _) _).wrap _ _ _ _) _ _
  refine rn_cons (rn_stmt (wpAny_Expr_any (PyProof.Rows.MethodCall_ (x_ref sa h10 I (by kernel_rfl) fun s11 h11 => m_list (ps := entL ({ e with rest := cs } :: es)) h11 (by walk_at "has") PySem.F.slot_list_append PySem.F.type_list_append ?_) (by with_unfolding_all rfl))))
  refine PyProof.Rows.callWith_method1 (sp_cons (x_tuple (G := G') (sp_cons (x_ev (.int c 0) h11 I (by kernel_rfl) fun v2 s12 hv2 h12 => ?_))))
  refine sp_cons (wpAny_Call_NameR (x_ev (.builtin "iter") h12 I (by kernel_rfl) fun v3 s13 hv3 h13 => ?_))
  rw [untok_builtin hv3]
  refine PyProof.Rows.callWith_method1 (sp_cons (wpAny_Call_NameR (x_ref gc h13 I (by kernel_rfl) fun s14 h14 => ?_)))
  refine K.kids.call (n := c) ((fit3 K e.it p1 p2 p3).mono (by omega) (by omega)) hcn h14 (by walk_at "has") (hW'.right (l := entsC es)).there.there.there.there.there.there (by kernel_rfl) fun it kk s15 hkid h15 => ?_
  refine sp_nil (hkid.iterB (vs := intL (ch c)) h15 (by walk_at "has") fun s16 h16 => ?_)
  refine sp_nil ⟨_, [.int c 0, .ref it], by rw [List.map_cons, hv2]; rfl, by simp, h16, fun tp s17 h17 => ?_⟩
  refine sp_nil ?_
  have hsz : (entL ({ e with rest := cs } :: es)).length ≤ sizeLine := by
    unfold entL; rw [List.length_map, List.length_reverse]; exact Nat.le_trans hes (by decide)
  refine l_append (v := .ref tp) (p := .ref tp) (ps := entL ({ e with rest := cs } :: es)) h17 rfl (by walk_at "rep") hsz fun s18 h18 => ?_
  have hL : entL ({ e with rest := cs } :: es) ++ [.ref tp] = entL (⟨c, tp, it, kk, ch c⟩ :: { e with rest := cs } :: es) := by unfold entL; simp
  rw [hL] at h18
  show Run _ _ _ _ ((execs (_ :: _) _).wrap _ _ _ _) _ _
  refine rn_cons (rn_stmt (x_iadd ((es.length + 1 : Nat) : Int) 1 h18.swap I (by kernel_rfl) fun s19 h19 => ?_))
  refine rn_cons (rn_stmt (wpAny_Break ?_))
  refine rn_leaf (.ok .next) (rn_again (c' := c2 (env0 L)) rfl ?_)
  have hcv : ¬ c ∈ vis := by rw [List.contains_eq_mem, decide_eq_false_iff_not] at hx; exact hx
  have hi := inv_next he hc (vis ++ [c]) fun _ h => List.mem_append_left _ h
  have hi2 : InvE w h₁ X os dr Ws ns (vis ++ [c]) (⟨c, tp, it, kk, ch c⟩ :: { e with rest := cs } :: es) := by
    refine ⟨fun f hf v hm => ?_, fun f hf => ?_, ?_, fun f hf => ?_⟩
    · rcases List.mem_cons.mp hf with rfl | hf
      · exact K.closed c hcn v hm
      · exact hi.rest f hf v hm
    · rcases List.mem_cons.mp hf with rfl | hf
      · exact hkid
      · exact hi.kid f hf
    · rw [List.map_cons, List.nodup_cons]
      refine ⟨fun hm => hcv ?_, hi.nd⟩
      obtain ⟨f, hf, hfe⟩ := List.mem_map.mp hm
      have hfe : f.node = c := hfe
      rcases List.mem_cons.mp hf with rfl | hf
      · rw [← hfe]; exact he.sub e List.mem_cons_self
      · rw [← hfe]; exact he.sub f (List.mem_cons_of_mem _ hf)
    · rcases List.mem_cons.mp hf with rfl | hf
      · simp
      · exact hi.sub f hf
  have h20 : Ok (BB w h₁ X os dr) G' (fr (env0 L) (varsW lim gc va x sa (es.length + 1 + 1) []) cv :: kc :: co (intL ss) :: se (BB w h₁ X os dr) va (vis ++ [c]) :: li sa (entL (⟨c, tp, it, kk, ch c⟩ :: { e with rest := cs } :: es)) :: tu tp [.int c 0, .ref it] :: kk (intL (ch c)) :: tu e.tup [.int e.node 0, .ref e.it] :: e.c (intL cs) :: (entsC es ++ F')) s19 :=
    (h19.sub (vars' := varsW lim gc va x sa (es.length + 1 + 1) []) (by kernel_rfl)).perm (by walk_at "perm")
  refine ih G' F' s19 (⟨c, tp, it, kk, ch c⟩ :: { e with rest := cs } :: es) sa p1 p2 ?_ (vis_add hv hcn hx) hi2 h20 hW'
  show (c, ch c) :: (e.node, cs) :: entV es = _
  rw [hp, hst]
theorem at_f_pop0 (K : Walk w h₁ X os dr Ws Z L cv gc kc ch ns lim oi co A d u) {vis ss : List Int} {x p : Int} {r : List Trow}
    (ih : At w h₁ X os dr Ws Z L cv gc va kc ns lim oi co A (.W vis ss x []) r) : At w h₁ X os dr Ws Z L cv gc va kc ns lim oi co A (.F vis ss x p [] []) r := by
  intro G F s e es sa p1 p2 p3 hp hc hst hv he h hW
  have I := in0 K.good L
  have hes : es = [] := by unfold entV at hst; simpa using hst
  subst hes
  have h : Ok (BB w h₁ X os dr) G (fr (env0 L) (varsW lim gc va x sa 1 [("parent", .int p 0)]) cv :: kc :: co (intL ss) :: se (BB w h₁ X os dr) va vis :: li sa [.ref e.tup] :: tu e.tup [.int e.node 0, .ref e.it] :: e.c [] :: F) s := by
    have h : Ok (BB w h₁ X os dr) G (fr (env0 L) (varsW lim gc va x sa 1 [("parent", .int p 0)]) cv :: kc :: co (intL ss) :: se (BB w h₁ X os dr) va vis :: li sa [.ref e.tup] :: tu e.tup [.int e.node 0, .ref e.it] :: e.c (intL e.rest) :: F) s := h
    rw [hc] at h; exact h
  refine rn_forLoop ((he.kid e List.mem_cons_self).iter.done (fit3 K e.it p1 p2 p3).handled h (by walk_at "foc") hW.there.there.there.there.there.there.there fun s1 h1 => ?_)
  show Run _ _ _ _ ((execs (_ :: _) _).wrap _ _ _ _) _ _
  refine rn_cons (rn_stmt (wpAny_Expr_any (x_bm sa [] h1 I (by kernel_rfl) (fun s' Q' h' k => m_list h' (ps := [.ref e.tup]) (by walk_at "has") PySem.F.slot_list_pop PySem.F.type_list_pop k) fun us s2 hus h2 => ?_)))
  rw [List.map_eq_nil_iff.mp hus]
  refine l_pop (ps := []) (p := .ref e.tup) h2 (.there _ (.there _ (.there _ (.there _ (.here _ _ _))))) (by decide) fun v s3 hv3 h3 => ?_
  show Run _ _ _ _ ((execs (_ :: _) _).wrap _ _ _ _) _ _
  refine rn_cons (rn_stmt (x_isub 1 1 h3 I (by kernel_rfl) fun s4 h4 => ?_))
  refine rn_cons (rn_If (PyProof.Rows.isTrue_plain (x_ref sa h4 I (by kernel_rfl) fun s5 h5 => l_truthy (ps := []) h5 (by walk_at "has") (by decide) fun s6 h6 => ?_) (by with_unfolding_all rfl)))
  refine rn_nil (rn_leaf (.ok .next) (rn_again (c' := c2 (env0 L)) rfl ?_))
  refine ih G F s6 [] sa p1 p2 rfl hv ⟨fun f hf => (by cases hf), fun f hf => (by cases hf), by simp, fun f hf => (by cases hf)⟩ ?_ hW
  have h7 : Ok (BB w h₁ X os dr) G (tu e.tup [.int e.node 0, .ref e.it] :: fr (env0 L) (varsW lim gc va x sa 0 []) cv :: kc :: co (intL ss) :: se (BB w h₁ X os dr) va vis :: li sa [] :: F) s6 := (h6.sub (vars' := varsW lim gc va x sa 0 []) (by kernel_rfl)).perm (by walk_at "perm")
  exact h7.drop
theorem at_f_pop (K : Walk w h₁ X os dr Ws Z L cv gc kc ch ns lim oi co A d u) {vis ss : List Int} {x p q : Int} {qs : List Int} {stk : List (Int × List Int)} {r : List Trow}
    (ih : At w h₁ X os dr Ws Z L cv gc va kc ns lim oi co A (.W vis ss x ((q, qs) :: stk)) r) : At w h₁ X os dr Ws Z L cv gc va kc ns lim oi co A (.F vis ss x p [] ((q, qs) :: stk)) ((q, p, "reverse") :: r) := by
  intro G F s e es sa p1 p2 p3 hp hc hst hv he h hW
  have I := in0 K.good L
  have hes := es_len K hv he
  cases es with
  | nil => cases hst
  | cons f es =>
    have hst0 := hst
    obtain ⟨h1', h2'⟩ := List.cons.inj hst
    obtain ⟨hq, hqs⟩ := Prod.mk.inj h1'
    have hL : entL (e :: f :: es) = entL (f :: es) ++ [.ref e.tup] := by unfold entL; simp
    have hL2 : entL (f :: es) = entL es ++ [.ref f.tup] := by unfold entL; simp
    have h : Ok (BB w h₁ X os dr) G (fr (env0 L) (varsW lim gc va x sa (es.length + 1 + 1) [("parent", .int p 0)]) cv :: kc :: co (intL ss) :: se (BB w h₁ X os dr) va vis :: li sa (entL (f :: es) ++ [.ref e.tup]) :: tu e.tup [.int e.node 0, .ref e.it] :: e.c [] :: tu f.tup [.int f.node 0, .ref f.it] :: f.c (intL f.rest) :: (entsC es ++ F)) s := by
      have h : Ok (BB w h₁ X os dr) G (fr (env0 L) (varsW lim gc va x sa (es.length + 1 + 1) [("parent", .int p 0)]) cv :: kc :: co (intL ss) :: se (BB w h₁ X os dr) va vis :: li sa (entL (e :: f :: es)) :: tu e.tup [.int e.node 0, .ref e.it] :: e.c (intL e.rest) :: tu f.tup [.int f.node 0, .ref f.it] :: f.c (intL f.rest) :: (entsC es ++ F)) s := h
      rw [hc, hL] at h; exact h
    have hsz : (entL (f :: es)).length + 1 ≤ sizeLine := by
      unfold entL; rw [List.length_map, List.length_reverse]; exact Nat.le_trans hes (by decide)
    have hsz2 : (entL (f :: es)).length < 2 ^ 62 := by
      have h0 : (entL (f :: es)).length ≤ 1000 := by unfold entL; rw [List.length_map, List.length_reverse]; exact Nat.le_trans (Nat.le_succ _) hes
      exact Nat.lt_of_le_of_lt h0 (by decide)
    refine rn_forLoop ((he.kid e List.mem_cons_self).iter.done (fit3 K e.it p1 p2 p3).handled h (by walk_at "foc") (hW.right (l := entsC es)).there.there.there.there.there.there.there.there.there fun s1 h1 => ?_)
    show Run _ _ _ _ ((execs (_ :: _) _).wrap _ _ _ _) _ _
    refine rn_cons (rn_stmt (wpAny_Expr_any (x_bm sa [] h1 I (by kernel_rfl) (fun s' Q' h' k => m_list h' (ps := entL (f :: es) ++ [.ref e.tup]) (by walk_at "has") PySem.F.slot_list_pop PySem.F.type_list_pop k) fun us s2 hus h2 => ?_)))
    rw [List.map_eq_nil_iff.mp hus]
    refine l_pop (ps := entL (f :: es)) (p := .ref e.tup) h2 (by walk_at "rep") hsz fun v s3 hv3 h3 => ?_
    show Run _ _ _ _ ((execs (_ :: _) _).wrap _ _ _ _) _ _
    refine rn_cons (rn_stmt (x_isub ((es.length + 1 + 1 : Nat) : Int) 1 h3 I (by kernel_rfl) fun s4 h4 => ?_))
    have e1 : ((es.length + 1 + 1 : Nat) : Int) - 1 = ((es.length + 1 : Nat) : Int) := by omega
    rw [e1] at h4
    refine rn_cons (rn_If (PyProof.Rows.isTrue_plain (x_ref sa h4 I (by kernel_rfl) fun s5 h5 => l_truthy (ps := entL (f :: es)) h5 (by walk_at "has") hsz2 fun s6 h6 => ?_) (by with_unfolding_all rfl)))
    have ht : (!(entL (f :: es)).isEmpty) = true := by rw [hL2]; simp
    rw [ht]
    show Run _ _ _ _ ((execs (_ :: _) _).wrap _ _ _ _) _ _
    refine rn_cons (rn_Yield rfl (x_tuple (G := G) ?_))
    refine sp_cons (PyProof.Rows.Subscript_ (PyProof.Rows.Subscript_ (x_ref sa h6 I (by kernel_rfl) fun s7 h7 => x_neg 1 h7 I (by kernel_rfl) fun t s8 h8 => l_last (.ref f.tup) h8 (ps := entL (f :: es)) (by walk_at "has") rfl (by rw [hL2]; simp) fun v hv' => ?_)))
    cases untok_ref hv'
    refine x_int 0 h8 I (by kernel_rfl) fun t2 s9 h9 => t_item (.int q 0) (ps := [.int f.node 0, .ref f.it]) h9 (by walk_at "has") (by decide) (by decide) (by rw [← hq]; rfl) fun v4 hv4 => ?_
    refine sp_cons (x_ev (.int p 0) h9 I (by kernel_rfl) fun v5 s10 hv5 h10 => sp_cons (x_ev (.str "reverse" 0) h10 I (by kernel_rfl) fun v6 s11 hv6 h11 => sp_nil ⟨_, [.int q 0, .int p 0, .str "reverse" 0], by rw [List.map_cons, List.map_cons, List.map_cons, hv4, hv5, hv6]; rfl, by simp, h11, fun a s12 h12 => ?_⟩))
    intro pp g l k hg hkk
    have h13 : Ok (BB w h₁ X os dr) G (tu e.tup [.int e.node 0, .ref e.it] :: tu a [.int q 0, .int p 0, .str "reverse" 0] :: fr (env0 L) (varsW lim gc va x sa (es.length + 1) []) cv :: kc :: co (intL ss) :: se (BB w h₁ X os dr) va vis :: li sa (entL (f :: es)) :: tu f.tup [.int f.node 0, .ref f.it] :: f.c (intL f.rest) :: (entsC es ++ F)) s12 := (h12.swap.sub (vars' := varsW lim gc va x sa (es.length + 1) []) (by kernel_rfl)).perm (by walk_at "perm")
    refine y_step (t := (q, p, "reverse")) (plW w h₁ X os dr L cv lim gc va kc co vis ss x sa (f :: es) []) rfl h13.drop (fun G' F' s7 h7 hW' => ?_) hg hkk
    refine rn_leaf (.ok .next) (rn_again (c' := c2 (env0 L)) rfl ?_)
    refine ih G' F' s7 (f :: es) sa p1 p2 hst0 hv ⟨fun x hx => he.rest x (List.mem_cons_of_mem _ hx), fun x hx => he.kid x (List.mem_cons_of_mem _ hx), ?_, fun x hx => he.sub x (List.mem_cons_of_mem _ hx)⟩ h7 hW'
    have := he.nd
    rw [List.map_cons, List.nodup_cons] at this
    exact this.2
theorem walk_run (K : Walk w h₁ X os dr Ws Z L cv gc kc ch ns lim oi co A d u) {c : Ctl} {r : List Trow} (h : Go ch lim c r) : At w h₁ X os dr Ws Z L cv gc va kc ns lim oi co A c r := by
  induction h with
  | o_nil => exact at_o_nil K _
  | o_skip hx _ ih => exact at_o_skip K hx ih
  | o_new hx _ ih => exact at_o_new K hx ih
  | w_nil _ ih => exact at_w_nil K ih
  | w_go _ ih => exact at_w_go K ih
  | f_non hx _ ih => exact at_f_non K hx ih
  | f_fwd hx hl _ ih => exact at_f_fwd K hx hl ih
  | f_lim hx hl _ ih => exact at_f_lim K hx hl ih
  | f_pop0 _ ih => exact at_f_pop0 K ih
  | f_pop _ ih => exact at_f_pop K ih
end
end Mine
namespace Mine
local macro_rules | `(tactic| walk_at "foc") => `(tactic| first | with_reducible exact Foc.here _ _ | (apply Foc.there; walk_at "foc"))
local macro_rules | `(tactic| walk_at "has") => `(tactic| first | with_reducible exact Has.here _ _ | assumption | (refine Has.there _ ?_; walk_at "has"))
local macro_rules | `(tactic| walk_at "rep") => `(tactic| first | with_reducible exact Rep.here _ _ _ | assumption | (apply Rep.there; walk_at "rep"))
local macro_rules | `(tactic| walk_at "perm") => `(tactic| first | with_reducible exact List.Perm.refl _ | (refine perm_step (by walk_at "foc") ?_; walk_at "perm"))
theorem iter_entry : entryFor table "iter" = some Builtin.«iter» := entryFor_of_fast (by kernel_rfl)
theorem iter_kind : builtinKind "iter" = none := by decide +kernel
theorem iter_plain : plainId "iter" = true := by decide +kernel
theorem iter_args (a : Value) : argsOk "iter" ⟨[a], []⟩ := by unfold argsOk; kernel_rfl
section
variable {b : Base} {G : Array GenState} {cs cs' r : List Chunk} {s : Shared} {A : Around} {E : Value → Shared → Prop} {env : Env} {vars : List (Str × Value)} {cv : Cv} {x C gd f : Addr} {fs : List (Str × Addr)}
theorem call_iter {v : Value} {Q : Value → Shared → Prop} (h : wpAny b.M A.in1 (pyIter v) Q E s) : wpAny b.M A (call (.builtin "iter") [v]) Q E s := by
  refine Calls.call_function_entry iter_kind iter_plain iter_entry (iter_args v) ?_
  unfold Builtin.«iter»
  refine wpAny_bind (m := someArgs "iter" 1 2 _) (wpAny_pure ?_)
  exact wpAny_bind (wpAny_mono h (fun v s' hq => wpAny_pure ⟨v, rfl, hq⟩) fun _ _ e => e)
def HasNext (v : Value) (s : Shared) : Prop := ∃ T r, s.TypeIs v T ∧ typeLookup (.type T) "__next__" = pure (some r)
theorem iter_inst {Q : Value → Shared → Prop} (h : Ok b G cs s) (g : b.Good) (fi : Has cs (ins x C gd)) (fd : Has cs (idc b gd fs)) (hs : findIn b.K (.ref C) "__iter__" = some (some (.ref f))) (hf : isFn b.K (.ref f) = true)
    (hq : wpAny b.M A (call (.ref f) [.ref x]) (fun v s' => HasNext v s' ∧ Q v s') E s) : wpAny b.M A (pyIter (.ref x)) Q E s := by
  obtain ⟨ts, n, I, -⟩ := h.inst fi fd
  have X := h.kin g
  unfold pyIter
  refine wpAny_bind (wpAny_bind (I.type.here ((looks_findIn X hs).here ?_)))
  show wpAny _ _ (callSpecialIfBoundUnlessNone? (.ref x) "__iter__" _ >>= _) _ _ _
  refine wpAny_bind ?_
  simp only [callSpecialIfBoundUnlessNone?, bindSpecialIfBound?]
  have fin : ∀ (v : Value) (s' : Shared), HasNext v s' ∧ Q v s' → wpAny b.M A (do match ← specialOf v "__next__" with
      | none => rule "iter.non-iterator"; raiseError "TypeError" s!"iter() returned non-iterator of type '{← typeNameOf v}'"
      | some _ => pure v) Q E s' := fun v s' ⟨⟨T, r, hT, hl⟩, hq⟩ => wpAny_bind (wpAny_specialOf hT hl (wpAny_pure hq))
  refine wpAny_holding (wpAny_bind (wpAny_bind (wpAny_bind (I.type.here ((looks_findIn X hs).here ?_)))))
  refine wpAny_bind (wpAny_askSetting (wpAny_ite ?_))
  have go : wpAny b.M A (call (.ref f) [.ref x] >>= fun v => pure (some v)) (fun o s' => wpAny b.M A (match o with
      | some it => (do match ← specialOf it "__next__" with
        | none => rule "iter.non-iterator"; raiseError "TypeError" s!"iter() returned non-iterator of type '{← typeNameOf it}'"
        | some _ => pure it)
      | none => (do match ← bindSpecialIfBound? (.ref x) "__getitem__" with
        | none => rule "iter.not-iterable"; raiseError "TypeError" s!"'{← typeNameOf (.ref x)}' object is not iterable"
        | some _ => rule "iter.getitem-fallback"; newFields "iterator" [.ref x, ← mkInt 0])) Q E s') E s :=
    wpAny_bind (wpAny_mono hq (fun v s' hv => wpAny_pure (fin v s' hv)) fun _ _ e => e)
  split
  · exact wpAny_bind ((bind_fn X _ (beq_iff_eq.mp hf)).here (wpAny_pure (by exact go)))
  · exact wpAny_tryCatch (wpAny_bind ((bind_fn X _ (beq_iff_eq.mp hf)).here (wpAny_pure (by exact go))))
theorem len_inst {Q : Value → Shared → Prop} (h : Ok b G cs s) (g : b.Good) (fi : Has cs (ins x C gd)) (fd : Has cs (idc b gd fs)) (hs : findIn b.K (.ref C) "__len__" = some (some (.ref f))) (hf : isFn b.K (.ref f) = true)
    (hq : wpAny b.M A.in1 (call (.ref f) [.ref x]) (fun v s' => ∃ n t, v = .int n t ∧ 0 ≤ n ∧ n < 2 ^ 63 ∧ Q (.int n s'.toks) { s' with toks := s'.toks + 1 }) E s) : wpAny b.M A (call (.builtin "len") [.ref x]) Q E s := by
  obtain ⟨ts, n, I, -⟩ := h.inst fi fd
  have X := h.kin g
  refine Calls.call_function_entry kind_len plain_len entry_len (args_len1 _) ?_
  unfold Builtin.«len»
  refine wpAny_bind (m := oneArg "len" _) (wpAny_pure ?_)
  refine wpAny_bind (m := callSpecial? (.ref x) (Str.ofString "__len__")) (special_fn X I hs (beq_iff_eq.mp hf) (wpAny_mono hq (fun r s' hr => ?_) fun _ _ y => y))
  obtain ⟨n, u, rfl, h0, h1, hq⟩ := hr
  refine wpAny_bind (wpAny_holding (wpAny_pure ?_))
  refine wpAny_bind (wpAny_letGo ?_)
  show wpAny _ _ (if n < 0 then _ else _) _ _ _
  rw [if_neg (by omega)]
  show wpAny _ _ (if n ≥ 2 ^ 63 then _ else _) _ _ _
  rw [if_neg (by omega)]
  exact wpAny_bind (wpAny_mkInt (wpAny_pure ⟨_, rfl, hq⟩))
theorem dit_next {it d : Addr} {kk : List Int} {ep : Nat} {vs : List Value} (h : Ok b G cs s) (f : Has cs (dit it d kk ep vs)) : HasNext (.ref it) s := by
  obtain ⟨o, e, i, hc, -⟩ := h.has f
  exact ⟨"dict_keyiterator", _, ⟨o, e, hc⟩, PySem.F.slot_dict_keyiterator_next.lookup⟩
end
end Mine
namespace Mine
local macro_rules | `(tactic| walk_at "foc") => `(tactic| first | with_reducible exact Foc.here _ _ | (apply Foc.there; walk_at "foc"))
local macro_rules | `(tactic| walk_at "has") => `(tactic| first | with_reducible exact Has.here _ _ | assumption | (refine Has.there _ ?_; walk_at "has"))
local macro_rules | `(tactic| walk_at "rep") => `(tactic| first | with_reducible exact Rep.here _ _ _ | assumption | (apply Rep.there; walk_at "rep"))
local macro_rules | `(tactic| walk_at "perm") => `(tactic| first | with_reducible exact List.Perm.refl _ | (refine perm_step (by walk_at "foc") ?_; walk_at "perm"))
section
variable {b : Base} {G : Array GenState} {cs cs' r : List Chunk} {s : Shared} {A : Around} {E : Value → Shared → Prop} {env : Env} {vars : List (Str × Value)} {cv : Cv} {x C gd f q : Addr} {fs : List (Str × Addr)}
def moP (f x : Addr) (o : Obj) : Prop := o = methodObj (.ref f) (.ref x)
def mo (q f x : Addr) : Chunk := pt q (moP f x)
theorem a_bound {name : Str} {Q : Value → Shared → Prop} (f : Addr) (h : Ok b G cs s) (g : b.Good) (fi : Has cs (ins x C gd)) (fd : Has cs (idc b gd fs))
    (hc : (findIn b.K (.ref C) "__getattribute__", findIn b.K (.ref C) "__getattr__", typeIn b.K (.ref f)) = (some (some (.builtin "object.__getattribute__")), some none, some (.type "function")))
    (hf : ∀ ts n, findObj b.K C (some (idObj b.w fs ts n)) name = some (.bind (.builtin "function.__get__") (.ref f))) (k : ∀ q s', Ok b G (mo q f x :: cs) s' → Q (.ref q) s') : wpAny b.M A (getAttr (.ref x) name true) Q E s := by
  simp only [Prod.mk.injEq] at hc
  obtain ⟨h1, h2, h3⟩ := hc
  obtain ⟨ts, n, I, -⟩ := h.inst fi fd
  have X := h.kin g
  refine get_bind X I h1 (hf ts n) h2 (wpAny_call (fn_get (K := b.K) (s := { s with toks := s.toks + 1 }) X h3 ?_))
  refine handed_on rfl (k _ _ (h.alloc (t := s.toks + 1) rfl rfl))
theorem mo_call {es : List PySem.Expr} {us₀ : List Value} {pos : Pos} {Q : Value → Shared → Prop} (h : Ok b G (fr env vars cv :: cs) s) (I : In b env) (fm : Has cs (mo q f x)) (hf : fnIn b.K f = true) (hq : evs env b.gl vars cv es = some us₀)
    (k : ∀ us s', us.map untok = us₀ → Ok b G (fr env vars cv :: cs) s' → codeAny b.M A (.call (.ref f) ⟨.ref x :: us, []⟩) (retR Q E) s') : wpAny b.M A (callWith pos (.ref q) [] (backTo pos (starEach es env)) []) Q E s := by
  have hpl : ((backTo pos (starEach es env)).any (·.1) || ([] : List (Option Str × Sem Value)).any (·.1.isNone)) = false := by rw [plain_any hq]; rfl
  refine callWith_of (P := MethP b.K q f (.ref x)) hpl (keeps_M hf) (evalArgs_ev h I hq fun us s' hus h' => ?_)
  obtain ⟨o, e, rfl⟩ := h'.has (.there _ fm)
  exact ⟨⟨e, h'.kin I.good⟩, call_code (method_call e (k us s' hus h'))⟩
end
section
variable {w : World} {h₁ : Heap} {X : List Addr} {os : OsState} {dr : Drawn} {G : Array GenState} {cs cs' F : List Chunk} {s : Shared} {A : Around} {E : Value → Shared → Prop} {x gd a C na aa : Addr} {d u : Nat} {fs : List (Str × Addr)} {nodes : List (Int × Addr)} {rows : List Row} {en ea : Nat}
inductive Kd (na aa : Addr) : Addr → List (Str × Addr) → Addr → Prop
  | U (ga : Addr) : Kd na aa C_Graph [("graph", ga), ("_node", na), ("_adj", aa)] A_G_nbrs
  | D (ga pa : Addr) : Kd na aa C_DiGraph [("graph", ga), ("_node", na), ("_adj", aa), ("_succ", aa), ("_pred", pa)] A_D_nbrs
def grW (b : Base) (x C gd : Addr) (fs : List (Str × Addr)) (na aa : Addr) (nodes : List (Int × Addr)) (en : Nat) (rows : List Row) (ea : Nat) : List Chunk :=
  ins x C gd :: idc b gd fs :: di b na nodes en :: di b aa (adjL rows) ea :: rowsC b rows
structure GView (b : Base) (cs : List Chunk) (x C gd : Addr) (fs : List (Str × Addr)) (na aa : Addr) (nodes : List (Int × Addr)) (en : Nat) (rows : List Row) (ea : Nat) : Prop where
  ins : Has cs (ins x C gd)
  idc : Has cs (idc b gd fs)
  node : Has cs (di b na nodes en)
  adj : Has cs (di b aa (adjL rows) ea)
  row : ∀ r ∈ rows, Has cs (di b r.at_ r.ks r.ep)
theorem GView.there {b : Base} {c : Chunk} (v : GView b cs x C gd fs na aa nodes en rows ea) : GView b (c :: cs) x C gd fs na aa nodes en rows ea := ⟨.there _ v.ins, .there _ v.idc, .there _ v.node, .there _ v.adj, fun r h => .there _ (v.row r h)⟩
theorem gview_of {b : Base} (h : HasAll (grW b x C gd fs na aa nodes en rows ea) cs) : GView b cs x C gd fs na aa nodes en rows ea :=
  ⟨h _ (by simp [grW]), h _ (by simp [grW]), h _ (by simp [grW]), h _ (by simp [grW]), fun r hr => h _ (by
    unfold grW rowsC
    exact List.mem_cons_of_mem _ (List.mem_cons_of_mem _ (List.mem_cons_of_mem _ (List.mem_cons_of_mem _ (List.mem_map.mpr ⟨r, hr, rfl⟩)))))⟩
theorem g_iter (g : (BB w h₁ X os dr).Good) {nb : Addr} {R : Result → Shared → Prop} (K : Kd na aa C fs nb) (h : Ok (BB w h₁ X os dr) G cs s) (V : GView (BB w h₁ X os dr) cs x C gd fs na aa nodes en rows ea) (F : Fit (BB w h₁ X os dr) A (d + 1) (u + 3))
    (k : ∀ it s', Ok (BB w h₁ X os dr) G (dit it na (nodes.map (·.1)) en (nodes.map fun p => .int p.1 0) :: cs) s' → R (.ok (.ret (.ref it))) s') : codeAny (BB w h₁ X os dr).M A (.call (.ref A_G_iter) ⟨[.ref x], []⟩) R s := by
  have D := D_G_iter g
  refine code_fn [("self", .ref x)] [("self", .ref x)] [] h g F D (by kernel_rfl) (by kernel_rfl) (by intro z; kernel_rfl) (by intro z; kernel_rfl) (fun _ => ⟨rfl, List.nodup_nil⟩) fun A' L s1 F' h1 => ?_
  have I := D.inEnv g L
  have V1 := V.there (c := fr (callEnvC fd_G_iter L A_G_iter) [("self", .ref x)] [])
  have fi := V1.ins
  have fd := V1.idc
  show wpAny _ _ (execs (_ :: _) _) _ _ _
  refine x_cons (wpAny_Return_some (wpAny_Call_NameR (x_ev (.builtin "iter") h1 I (by kernel_rfl) fun v s2 hv h2 => ?_)))
  rw [untok_builtin hv]
  refine PyProof.Rows.callWith_method1 (sp_cons (x_sa (C := C) (gd := gd) (fs := fs) x na h2 I (by kernel_rfl) fi fd (by cases K <;> kernel_rfl) (by cases K <;> (intro ts n; kernel_rfl)) fun s3 h3 => sp_nil (call_iter ?_)))
  exact d_iter h3 g V1.node fun it s4 h4 => k it s4 (h4.swap.drop)
theorem g_len (g : (BB w h₁ X os dr).Good) {nb : Addr} {Q : Value → Shared → Prop} (K : Kd na aa C fs nb) (h : Ok (BB w h₁ X os dr) G cs s) (V : GView (BB w h₁ X os dr) cs x C gd fs na aa nodes en rows ea) (F : Fit (BB w h₁ X os dr) A (d + 1) (u + 3)) (hz : nodes.length ≤ 1000)
    (k : ∀ t s', Ok (BB w h₁ X os dr) G cs s' → Q (.int nodes.length t) s') : wpAny (BB w h₁ X os dr).M A (call (.ref A_G_len) [.ref x]) Q E s := by
  have D := D_G_len g
  refine call_fn [("self", .ref x)] [("self", .ref x)] [] h g F D (by kernel_rfl) (by kernel_rfl) (by intro z; kernel_rfl) (by intro z; kernel_rfl) (fun _ => ⟨rfl, List.nodup_nil⟩) fun A' L s1 F' h1 => ?_
  have I := D.inEnv g L
  have V1 := V.there (c := fr (callEnvC fd_G_len L A_G_len) [("self", .ref x)] [])
  have fi := V1.ins
  have fd := V1.idc
  show wpAny _ _ (execs (_ :: _) _) _ _ _
  refine x_cons (wpAny_Return_some (wpAny_Call_NameR (x_ev (.builtin "len") h1 I (by kernel_rfl) fun v s2 hv h2 => ?_)))
  rw [untok_builtin hv]
  refine PyProof.Rows.callWith_method1 (sp_cons (x_sa (C := C) (gd := gd) (fs := fs) x na h2 I (by kernel_rfl) fi fd (by cases K <;> kernel_rfl) (by cases K <;> (intro ts n; kernel_rfl)) fun s3 h3 => sp_nil ?_))
  exact d_len h3 g V1.node (Nat.lt_of_le_of_lt hz (by decide)) fun t s4 h4 => k t s4 h4.drop
theorem u_nbrs (g : (BB w h₁ X os dr).Good) {R : Result → Shared → Prop} {ga : Addr} {rr : Row} {t : Tok} (h : Ok (BB w h₁ X os dr) G cs s) (V : GView (BB w h₁ X os dr) cs x C_Graph gd [("graph", ga), ("_node", na), ("_adj", aa)] na aa nodes en rows ea) (F : Fit (BB w h₁ X os dr) A (d + 1) (u + 3)) (hr : rr ∈ rows)
    (k : ∀ it s', Ok (BB w h₁ X os dr) G (dit it rr.at_ (rr.ks.map (·.1)) rr.ep (rr.ks.map fun p => .int p.1 0) :: cs) s' → R (.ok (.ret (.ref it))) s') : codeAny (BB w h₁ X os dr).M A (.call (.ref A_G_nbrs) ⟨[.ref x, .int rr.key t], []⟩) R s := by
  have D := D_G_nbrs g
  refine code_fn [("self", .ref x), ("n", .int rr.key t)] [("self", .ref x), ("n", .int rr.key 0)] [] h g F D (by kernel_rfl) (by kernel_rfl) (by intro z; kernel_rfl) (by intro z; kernel_rfl) (fun _ => ⟨rfl, List.nodup_nil⟩) fun A' L s1 F' h1 => ?_
  have I := D.inEnv g L
  have V1 := V.there (c := fr (callEnvC fd_G_nbrs L A_G_nbrs) [("self", .ref x), ("n", .int rr.key 0)] [])
  have nd : (rows.map (·.key)).Nodup := by rw [← adj_keys]; exact h.dictNodup V.adj
  have fi := V1.ins
  have fd := V1.idc
  show wpAny _ _ (execs (_ :: _) _) _ _ _
  refine x_cons (wpAny_Try_except ?_)
  refine x_cons (wpAny_Return_some (wpAny_Call_NameR (x_ev (.builtin "iter") h1 I (by kernel_rfl) fun v s2 hv h2 => ?_)))
  rw [untok_builtin hv]
  refine PyProof.Rows.callWith_method1 (sp_cons (PyProof.Rows.Subscript_ (x_sa (C := C_Graph) (gd := gd) (fs := [("graph", ga), ("_node", na), ("_adj", aa)]) x aa h2 I (by kernel_rfl) fi fd (by kernel_rfl) (by intro ts n; kernel_rfl) fun s3 h3 => x_int rr.key h3 I (by kernel_rfl) fun t s4 h4 => d_item (ks := adjL rows) (ep := ea) h4 V1.adj (row_look nd hr) fun s5 h5 => ?_)))
  refine sp_nil (call_iter (d_iter h5 g (V1.row rr hr) fun it s6 h6 => ?_))
  exact k it s6 h6.swap.drop
theorem d_nbrs (g : (BB w h₁ X os dr).Good) {R : Result → Shared → Prop} {ga pa : Addr} {rr : Row} {t : Tok} (h : Ok (BB w h₁ X os dr) G cs s) (V : GView (BB w h₁ X os dr) cs x C_DiGraph gd [("graph", ga), ("_node", na), ("_adj", aa), ("_succ", aa), ("_pred", pa)] na aa nodes en rows ea) (F : Fit (BB w h₁ X os dr) A (d + 1) (u + 3)) (hr : rr ∈ rows)
    (k : ∀ it s', Ok (BB w h₁ X os dr) G (dit it rr.at_ (rr.ks.map (·.1)) rr.ep (rr.ks.map fun p => .int p.1 0) :: cs) s' → R (.ok (.ret (.ref it))) s') : codeAny (BB w h₁ X os dr).M A (.call (.ref A_D_nbrs) ⟨[.ref x, .int rr.key t], []⟩) R s := by
  have D := D_D_nbrs g
  refine code_fn [("self", .ref x), ("n", .int rr.key t)] [("self", .ref x), ("n", .int rr.key 0)] [] h g F D (by kernel_rfl) (by kernel_rfl) (by intro z; kernel_rfl) (by intro z; kernel_rfl) (fun _ => ⟨rfl, List.nodup_nil⟩) fun A' L s1 F' h1 => ?_
  have I := D.inEnv g L
  have V1 := V.there (c := fr (callEnvC fd_D_nbrs L A_D_nbrs) [("self", .ref x), ("n", .int rr.key 0)] [])
  have nd : (rows.map (·.key)).Nodup := by rw [← adj_keys]; exact h.dictNodup V.adj
  have fi := V1.ins
  have fd := V1.idc
  show wpAny _ _ (execs (_ :: _) _) _ _ _
  refine x_cons (wpAny_Try_except ?_)
  refine x_cons (wpAny_Return_some (wpAny_Call_NameR (x_ev (.builtin "iter") h1 I (by kernel_rfl) fun v s2 hv h2 => ?_)))
  rw [untok_builtin hv]
  refine PyProof.Rows.callWith_method1 (sp_cons (PyProof.Rows.Subscript_ (x_sa (C := C_DiGraph) (gd := gd) (fs := [("graph", ga), ("_node", na), ("_adj", aa), ("_succ", aa), ("_pred", pa)]) x aa h2 I (by kernel_rfl) fi fd (by kernel_rfl) (by intro ts n; kernel_rfl) fun s3 h3 => x_int rr.key h3 I (by kernel_rfl) fun t s4 h4 => d_item (ks := adjL rows) (ep := ea) h4 V1.adj (row_look nd hr) fun s5 h5 => ?_)))
  refine sp_nil (call_iter (d_iter h5 g (V1.row rr hr) fun it s6 h6 => ?_))
  exact k it s6 h6.swap.drop
theorem g_nbrs (g : (BB w h₁ X os dr).Good) {nb : Addr} {R : Result → Shared → Prop} {rr : Row} {t : Tok} (K : Kd na aa C fs nb) (h : Ok (BB w h₁ X os dr) G cs s) (V : GView (BB w h₁ X os dr) cs x C gd fs na aa nodes en rows ea) (F : Fit (BB w h₁ X os dr) A (d + 1) (u + 3)) (hr : rr ∈ rows)
    (k : ∀ it s', Ok (BB w h₁ X os dr) G (dit it rr.at_ (rr.ks.map (·.1)) rr.ep (rr.ks.map fun p => .int p.1 0) :: cs) s' → R (.ok (.ret (.ref it))) s') : codeAny (BB w h₁ X os dr).M A (.call (.ref nb) ⟨[.ref x, .int rr.key t], []⟩) R s := by
  cases K with
  | U ga => exact u_nbrs g h V F hr k
  | D ga pa => exact d_nbrs g h V F hr k
def chOf (rows : List Row) (n : Int) : List Int := ((absR rows).lookup n).getD []
theorem ch_row {rows : List Row} {r : Row} (nd : (rows.map (·.key)).Nodup) (h : r ∈ rows) : chOf rows r.key = r.ks.map (·.1) := by
  unfold chOf
  rw [lookup_of_mem (ks := absR rows) (by rw [abs_keys]; exact nd) (List.mem_map.mpr ⟨r, h, rfl⟩)]; rfl
theorem dit_kid {b : Base} {Ws : List Chunk} {d it : Addr} {ks : List (Int × Addr)} {ep : Nat} (h : di b d ks ep ∈ Ws) : Kid b Ws it (dit it d (ks.map (·.1)) ep) where
  iter := ⟨fun h' f w k => (dit_iter d it ks ep).next h' f (w _ h) k, fun hh h' f w k => (dit_iter d it ks ep).done hh h' f (w _ h) k⟩
  self := fun h' f q => dit_self h' f q
  iterB := fun h' f q => call_iter (dit_self h' f (q _ h'))
theorem kids_plain (g : (BB w h₁ X os dr).Good) {nb q : Addr} {L : Addr} {cv : Cv} {Ws : List Chunk} (K : Kd na aa C fs nb) (hW : ∀ c ∈ grW (BB w h₁ X os dr) x C gd fs na aa nodes en rows ea, c ∈ Ws) (nd : (rows.map (·.key)).Nodup) :
    Kids (BB w h₁ X os dr) Ws (env0 L) cv q (mo q nb x) (chOf rows) (fun n => n ∈ rows.map (·.key)) 1 3 where
  call := by
    intro G cs s A E vars e n pos Q F hn h fk hWs hq k
    obtain ⟨r, hr, rfl⟩ := row_of hn
    have I := in0 g L
    refine mo_call h I fk (by cases K <;> kernel_rfl) hq fun us s' hus h' => ?_
    obtain ⟨v, rfl, hv⟩ := args1 hus
    obtain ⟨t, rfl⟩ := untok_int hv
    refine g_nbrs (d := 0) (u := 0) g K h' (gview_of fun c hc => .there _ (hWs c (hW c hc))) F hr fun it s'' h'' => ?_
    have e1 : (r.ks.map fun p => Value.int p.1 0) = intL (chOf rows r.key) := by rw [ch_row nd hr]; unfold intL; rw [List.map_map]; rfl
    rw [e1] at h''
    refine k it _ s'' (dit_kid (ks := r.ks) (hW _ ?_)) h''.swap
    unfold grW rowsC
    exact List.mem_cons_of_mem _ (List.mem_cons_of_mem _ (List.mem_cons_of_mem _ (List.mem_cons_of_mem _ (List.mem_map.mpr ⟨r, hr, rfl⟩))))
end
end Mine
namespace Mine
local macro_rules | `(tactic| walk_at "foc") => `(tactic| first | with_reducible exact Foc.here _ _ | (apply Foc.there; walk_at "foc"))
local macro_rules | `(tactic| walk_at "has") => `(tactic| first | with_reducible exact Has.here _ _ | assumption | (refine Has.there _ ?_; walk_at "has"))
local macro_rules | `(tactic| walk_at "rep") => `(tactic| first | with_reducible exact Rep.here _ _ _ | assumption | (apply Rep.there; walk_at "rep"))
local macro_rules | `(tactic| walk_at "perm") => `(tactic| first | with_reducible exact List.Perm.refl _ | (refine perm_step (by walk_at "foc") ?_; walk_at "perm"))
section
variable {b : Base} {G : Array GenState} {cs cs' r : List Chunk} {s : Shared} {A : Around} {E : Value → Shared → Prop} {env : Env} {vars : List (Str × Value)} {cv : Cv} {d u : Nat}
theorem code_gen {f : Addr} {fd : FuncData} {body : List Stmt} {us : List Value} {kw : List (Str × Value)} {R : Result → Shared → Prop} (binds vars : List (Str × Value)) (cv : Cv) (h : Ok b G cs s) (g : b.Good) (F : Fit b A d u) (D : IsDef b f fd body)
    (hb : peek b.K ⟨b.prog, b.w.params⟩ (bindArgs fd ⟨us, kw⟩) = some binds) (hg : fd.scope.isGenerator = true)
    (hk : ∀ z, bindsOk fd z binds = true) (hv : ∀ z, SubM vars (bindL (callEnvC fd z f).kindOf binds fun _ => none)) (hc : ∀ z, cvOk (callEnvC fd z f) (bindC (callEnvC fd z f).kindOf binds fun _ => none) cv)
    (k : ∀ ga L s', Ok b (G.push (.fresh (.func body (callEnvC fd L f)))) (go ga G.size :: fr (callEnvC fd L f) vars cv :: cs) s' → R (.ok (.ret (.ref ga))) s') : codeAny b.M A (.call (.ref f) ⟨us, kw⟩) R s := by
  obtain ⟨o, ho, hd⟩ := D.at_
  refine codeAny_call_generator F.room (h.old D.off ho) hd D.co hg D.body (D.codeRec h) (wpAny_peek (h.kin g) hb ?_)
  rw [D.clo]
  refine wpAny_newFunctionEnv_cells D.kind (bindsOk_get (hk _)) fun env he s' x => ?_
  subst he
  have h' : Ok b G (fr (callEnvC fd s.heap.objs.size f) vars cv :: cs) s' := h.inCall rfl rfl x (hv _) (hc _)
  refine ⟨(h.nolimit g).keeps x.toInCall.keep, k _ s.heap.objs.size _ ?_⟩
  have hsz : s'.gens.size = G.size := by rw [h'.gens]
  have h2 := h'.alloc (o := { cls := .type "generator", data := .fields #[.int s'.gens.size 0, .str fd.name s'.toks, .str fd.qualname (s'.toks + 1)] }) (t := s'.toks + 1 + 1) (φ := goP G.size) rfl ⟨_, _, rfl, by rw [hsz], rfl⟩
  exact ⟨h2.st, by rw [← h'.gens]; rfl, h2.os, h2.drawn⟩
def lot (it l : Addr) (ps vs : List Value) : Chunk := lit it l ps vs ++ li l ps
theorem lot_iter (it l : Addr) (ps : List Value) (W : List Chunk → Prop) : IsIter b (.ref it) (lot it l ps) W where
  next := by
    intro G cs cs' s A E v vs Q h f w k
    obtain ⟨r, p, p'⟩ := f.split
    refine (lit_iter l it ps).next (Ok.app (h.perm p)) (.here _ _ _) (.there _ (.here _ _)) fun u s' hu h' => k u s' hu ?_
    exact (Ok.unapp (c := lit it l ps vs) h').perm p'.symm
  done := by
    intro G cs cs' s A E Q hh h f w k
    have p := f.perm
    refine (lit_iter l it ps).done hh (Ok.app (h.perm p)) (.here _ _) (.there _ (.here _ _)) fun s' h' => k s' ?_
    exact h'.drop
theorem lot_self {it l : Addr} {ps vs : List Value} {Q : Value → Shared → Prop} (h : Ok b G cs s) (f : Has cs (lot it l ps vs)) (k : Q (.ref it) s) : wpAny b.M A (pyIter (.ref it)) Q E s := by
  obtain ⟨r, p⟩ := f.split
  exact lit_self (Ok.app (h.perm p)) (.here _ _) k
end
section
variable {w : World} {h₁ : Heap} {X : List Addr} {os : OsState} {dr : Drawn} {G : Array GenState} {cs cs' F : List Chunk} {s : Shared} {A : Around} {E : Value → Shared → Prop} {x gd a C na aa : Addr} {d u : Nat} {fs : List (Str × Addr)} {nodes : List (Int × Addr)} {rows : List Row} {en ea : Nat} {L : Addr} {Ws : List Chunk} {lim : Int}
def srcV : Option Int → Value | none => .none | some n => .int n 0
def startsOf (nodes : List (Int × Addr)) : Option Int → List Int | none => nodes.map (·.1) | some n => [n]
def limOf (nodes : List (Int × Addr)) : Option Int → Int | none => nodes.length | some n => n
abbrev cv0 (x : Addr) (sn : Value) : Cv := [("G", some (.ref x)), ("sort_neighbors", some sn)]
theorem fitF (F : Fit (BB w h₁ X os dr) A (d + 1) (u + 3)) : Fit (BB w h₁ X os dr) (A.over (.func DB (env0 L)) []) d u := over_fit (x := 1) (y := 3) F rfl (by kernel_rfl)
structure MkGc (w : World) (h₁ : Heap) (X : List Addr) (os : OsState) (dr : Drawn) (Ws : List Chunk) (Z : Chunk → Prop) (L x : Addr) (sn : Value) (tb : Chunk) (ch : Int → List Int) (N : Int → Prop) : Prop where
  make : ∀ {G : Array GenState} {T : List Chunk} {s : Shared} {A : Around} {E : Value → Shared → Prop} {lim : Int} {nv : Value} {Q : Unit → Shared → Prop}, HH (BB w h₁ X os dr) A → Ok (BB w h₁ X os dr) G (fr (env0 L) [("depth_limit", .int lim 0), ("nodes", nv)] (cv0 x sn) :: tb :: T) s → HasAll Ws T →
    (∀ gc kc s', Kids (BB w h₁ X os dr) Ws (env0 L) (cv0 x sn) gc kc ch N 5 10 → Z kc → Ok (BB w h₁ X os dr) G (fr (env0 L) [("get_children", .ref gc), ("depth_limit", .int lim 0), ("nodes", nv)] (cv0 x sn) :: kc :: T) s' → Q () s') →
    wpAny (BB w h₁ X os dr).M A (exec (DB.getD 2 stPass) (env0 L)) (fun f s' => f = .next ∧ Q () s') E s
theorem Kids.mono {b : Base} {Ws : List Chunk} {env : Env} {cv : Cv} {gc : Addr} {kc : Chunk} {ch : Int → List Int} {N : Int → Prop} {d u d' u' : Nat} (K : Kids b Ws env cv gc kc ch N d u) (hd : d ≤ d') (hu : u ≤ u') : Kids b Ws env cv gc kc ch N d' u' :=
  ⟨fun F => K.call (F.mono hd hu)⟩
theorem mk_plain (g : (BB w h₁ X os dr).Good) {Z : Chunk → Prop} {nb : Addr} (K : Kd na aa C fs nb) (hW : ∀ c ∈ grW (BB w h₁ X os dr) x C gd fs na aa nodes en rows ea, c ∈ Ws) (nd : (rows.map (·.key)).Nodup) (hZ : ∀ z, Z z) :
    MkGc w h₁ X os dr Ws Z L x .none [] (chOf rows) (fun n => n ∈ rows.map (·.key)) where
  make := by
    intro G T s A E lim nv Q hh h hWT k
    have I := in0 g L
    have h2 : Ok (BB w h₁ X os dr) G (fr (env0 L) [("depth_limit", .int lim 0), ("nodes", nv)] (cv0 x .none) :: T) s := h.drop1
    have V : GView (BB w h₁ X os dr) T x C gd fs na aa nodes en rows ea := gview_of fun c hc => hWT c (hW c hc)
    show wpAny _ _ (exec (.Assign _ _ _) _) _ _ _
    refine x_asg (PyProof.Rows.IfExp_ (isTrue_of (c := true) h2 I (by kernel_rfl) rfl fun s3 h3 => ?_))
    show wpAny _ _ (eval (.Attribute _ _ _) _) _ _ _
    refine x_attr x h3 I (by kernel_rfl) fun s4 h4 => a_bound nb h4 g (C := C) (gd := gd) (fs := fs) (.there _ V.ins) (.there _ V.idc) (by cases K <;> kernel_rfl) (by cases K <;> (intro ts n; kernel_rfl)) fun q s5 h5 => ?_
    refine st_local h5.swap I rfl (by kernel_rfl) fun s6 h6 => ⟨rfl, k q (mo q nb x) s6 ((kids_plain g K hW nd).mono (by decide) (by decide)) (hZ _) h6⟩
theorem dfs_gen (g : (BB w h₁ X os dr).Good) {Z : Chunk → Prop} {sn : Value} {tb : Chunk} {ch : Int → List Int} {nb : Addr} {src dl : Option Int} {rs : List Trow} (MG : MkGc w h₁ X os dr Ws Z L x sn tb ch (fun n => n ∈ rows.map (·.key))) (K : Kd na aa C fs nb) (hW : ∀ c ∈ grW (BB w h₁ X os dr) x C gd fs na aa nodes en rows ea, c ∈ Ws) (hnk : nodes.map (·.1) = rows.map (·.key)) (nd : (rows.map (·.key)).Nodup) (hz : nodes.length ≤ 1000)
    (hcl : ∀ n ∈ rows.map (·.key), ∀ m ∈ ch n, m ∈ rows.map (·.key)) (hs : ∀ n, src = some n → n ∈ rows.map (·.key)) (F : Fit (BB w h₁ X os dr) A (d + 10) (u + 20))
    (hgo : Go ch (limOf nodes dl) (.O [] (startsOf nodes src)) rs) : Gen (BB w h₁ X os dr) A (HasAll Ws) Z rowI rs (fr (env0 L) [("source", srcV src), ("depth_limit", srcV dl)] (cv0 x sn) ++ tb) (.fresh (.func DB (env0 L))) := by
  refine gen_of fun G F' s h w' => ⟨rfl, rn_func ?_⟩
  have h : Ok (BB w h₁ X os dr) G (fr (env0 L) [("source", srcV src), ("depth_limit", srcV dl)] (cv0 x sn) :: tb :: F') s := Ok.app h
  have I := in0 g L
  have Ff : Fit (BB w h₁ X os dr) (A.over (.func DB (env0 L)) []) (d + 9) (u + 17) := fitF F
  show Run _ _ _ _ ((execs (_ :: _) _).wrap _ _ _ _) _ _
  have step1 : ∀ (k : ∀ (nv : Value) (xs : List Chunk) s', Ok (BB w h₁ X os dr) G (fr (env0 L) [("depth_limit", srcV dl), ("nodes", nv)] (cv0 x sn) :: xs ++ (tb :: F')) s' → ((src = none ∧ nv = .ref x ∧ xs = []) ∨ (∃ n l, src = some n ∧ nv = .ref l ∧ xs = [li l [.int n 0]])) → Run (BB w h₁ X os dr).M A (Post (BB w h₁ X os dr) A (HasAll Ws) Z rowI G F' rs) (.func DB (env0 L)) ((execs (DB.drop 1) (env0 L)).wrap retK (leaveH (env0 L)) id id) [] s'),
      Run (BB w h₁ X os dr).M A (Post (BB w h₁ X os dr) A (HasAll Ws) Z rowI G F' rs) (.func DB (env0 L)) ((execs DB (env0 L)).wrap retK (leaveH (env0 L)) id id) [] s := by
    intro k
    show Run _ _ _ _ ((execs (_ :: _) _).wrap _ _ _ _) _ _
    cases src with
    | none =>
      refine rn_cons (rn_If (isTrue_of (c := true) h I (by kernel_rfl) rfl fun s1 h1 => ?_))
      show Run _ _ _ _ ((execs (_ :: _) _).wrap _ _ _ _) _ _
      refine rn_cons (rn_stmt (x_set (.ref x) h1 I (by kernel_rfl) fun s2 h2 => ?_))
      exact k (.ref x) [] s2 (h2.sub (by kernel_rfl)) (.inl ⟨rfl, rfl, rfl⟩)
    | some n =>
      refine rn_cons (rn_If (isTrue_of (c := false) h I (by kernel_rfl) rfl fun s1 h1 => ?_))
      show Run _ _ _ _ ((execs (_ :: _) _).wrap _ _ _ _) _ _
      refine rn_cons (rn_stmt (x_asg (x_listP [.int n 0] h1 I (by kernel_rfl) fun l s2 h2 => st_local h2 I rfl (by kernel_rfl) fun s3 h3 => ?_)))
      exact k (.ref l) [li l [.int n 0]] s3 (h3.sub (by kernel_rfl)) (.inr ⟨n, l, rfl, rfl, rfl⟩)
  refine step1 fun nv xs s1 h1 hnv => ?_
  clear step1 h
  have step2 : ∀ (T : List Chunk) s1, HasAll Ws T → Ok (BB w h₁ X os dr) G (fr (env0 L) [("depth_limit", srcV dl), ("nodes", nv)] (cv0 x sn) :: tb :: T) s1 →
      (∀ q kc va s', Kids (BB w h₁ X os dr) Ws (env0 L) (cv0 x sn) q kc ch (fun n => n ∈ rows.map (·.key)) 5 10 → Z kc → Ok (BB w h₁ X os dr) G (fr (env0 L) (vars0 (limOf nodes dl) q va [("nodes", nv)]) (cv0 x sn) :: kc :: se (BB w h₁ X os dr) va [] :: T) s' → Run (BB w h₁ X os dr).M A (Post (BB w h₁ X os dr) A (HasAll Ws) Z rowI G F' rs) (.func DB (env0 L)) ((execs (DB.drop 4) (env0 L)).wrap retK (leaveH (env0 L)) id id) [] s') →
      Run (BB w h₁ X os dr).M A (Post (BB w h₁ X os dr) A (HasAll Ws) Z rowI G F' rs) (.func DB (env0 L)) ((execs (DB.drop 1) (env0 L)).wrap retK (leaveH (env0 L)) id id) [] s1 := by
    intro T s1 hWx h1 k
    have V : GView (BB w h₁ X os dr) T x C gd fs na aa nodes en rows ea := gview_of fun c hc => hWx c (hW c hc)
    have step3 : ∀ s2, Ok (BB w h₁ X os dr) G (fr (env0 L) [("depth_limit", .int (limOf nodes dl) 0), ("nodes", nv)] (cv0 x sn) :: tb :: T) s2 →
        Run (BB w h₁ X os dr).M A (Post (BB w h₁ X os dr) A (HasAll Ws) Z rowI G F' rs) (.func DB (env0 L)) ((execs (DB.drop 2) (env0 L)).wrap retK (leaveH (env0 L)) id id) [] s2 := by
      intro s2 h2
      show Run _ _ _ _ ((execs (_ :: _) _).wrap _ _ _ _) _ _
      refine rn_cons (rn_stmt (wpAny_mono (MG.make (Q := fun _ s' => Run (BB w h₁ X os dr).M A (Post (BB w h₁ X os dr) A (HasAll Ws) Z rowI G F' rs) (.func DB (env0 L)) ((execs (DB.drop 3) (env0 L)).wrap retK (leaveH (env0 L)) id id) [] s') Ff.handled h2 hWx fun q kc s6 hkids hz6 h6 => ?_) (fun f s' ⟨hf, hr⟩ => by subst hf; exact hr) fun _ _ e => e))
      show Run _ _ _ _ ((execs (_ :: _) _).wrap _ _ _ _) _ _
      refine rn_cons (rn_stmt (x_asg (wpAny_Call_NameR (x_ev (.type "set") h6 I (by kernel_rfl) fun v s7 hv h7 => ?_))))
      rw [untok_type hv]
      refine PyProof.Rows.callWith_type0 (s_new h7 fun va s8 h8 => st_local h8.swap I rfl (by kernel_rfl) fun s9 h9 => ?_)
      refine k q kc va s9 hkids hz6 ?_
      have h10 : Ok (BB w h₁ X os dr) G (fr (env0 L) (vars0 (limOf nodes dl) q va [("nodes", nv)]) (cv0 x sn) :: se (BB w h₁ X os dr) va [] :: kc :: T) s9 := h9.sub (by kernel_rfl)
      exact h10.foc (.there _ (.there _ (.here _ _))) |>.swap
    show Run _ _ _ _ ((execs (_ :: _) _).wrap _ _ _ _) _ _
    cases dl with
    | none =>
      refine rn_cons (rn_If (isTrue_of (c := true) h1 I (by kernel_rfl) rfl fun s2 h2 => ?_))
      show Run _ _ _ _ ((execs (_ :: _) _).wrap _ _ _ _) _ _
      refine rn_cons (rn_stmt (x_asg (wpAny_Call_NameR (x_ev (.builtin "len") h2 I (by kernel_rfl) fun v s3 hv h3 => ?_))))
      rw [untok_builtin hv]
      refine PyProof.Rows.callWith_method1 (sp_cons (x_ref x h3 I (by kernel_rfl) fun s4 h4 => sp_nil ?_))
      refine len_inst (f := A_G_len) (C := C) (gd := gd) (fs := fs) h4 g (.there _ (.there _ V.ins)) (.there _ (.there _ V.idc)) (by cases K <;> kernel_rfl) (by kernel_rfl) (g_len (d := d + 8) (u := u + 13) g K h4 (V.there.there) Ff.in1 hz fun t s5 h5 => ⟨_, t, rfl, Int.natCast_nonneg _, by have : nodes.length < 2 ^ 63 := Nat.lt_of_le_of_lt hz (by decide); omega, ?_⟩)
      refine st_local (h5.toks _) I rfl (by kernel_rfl) fun s6 h6 => ?_
      exact step3 s6 (h6.sub (by kernel_rfl))
    | some n =>
      refine rn_cons (rn_If (isTrue_of (c := false) h1 I (by kernel_rfl) rfl fun s2 h2 => ?_))
      exact step3 s2 h2
  have hns : ∀ v ∈ startsOf nodes src, v ∈ rows.map (·.key) := by
    intro v hv
    cases src with
    | none => rw [← hnk]; exact hv
    | some n => rw [List.mem_singleton.mp hv]; exact hs n rfl
  have hsm : (rows.map (·.key)).length ≤ 1000 := by rw [← hnk, List.length_map]; exact hz
  have hv0 : InvV (rows.map (·.key)) [] (startsOf nodes src) := ⟨fun v hv => (by cases hv), List.nodup_nil, hns⟩
  have hF13 : Fit (BB w h₁ X os dr) A (5 + 3) (10 + 10) := F.mono (by omega) (by omega)
  rcases hnv with ⟨rfl, rfl, rfl⟩ | ⟨n, l, rfl, rfl, rfl⟩
  · refine step2 F' s1 w' h1 fun q kc va s2 hkids hz6 h2 => ?_
    have V : GView (BB w h₁ X os dr) F' x C gd fs na aa nodes en rows ea := gview_of fun c hc => w' c (hW c hc)
    have V2 := (V.there (c := se (BB w h₁ X os dr) va [])).there (c := kc)
    show Run _ _ _ _ ((execs (_ :: _) _).wrap _ _ _ _) _ _
    refine rn_cons (rn_For (x_ref x h2 I (by kernel_rfl) fun s3 h3 => iter_inst (f := A_G_iter) (C := C) (gd := gd) (fs := fs) h3 g (.there _ V2.ins) (.there _ V2.idc) (by cases K <;> kernel_rfl) (by kernel_rfl) (call_code (g_iter (d := d) (u := u) g K h3 V2.there (Ff.mono (by omega) (by omega)) fun it s4 h4 => ⟨dit_next h4 (.here _ _), fun p1 => ?_⟩))))
    have e1 : (nodes.map fun p => Value.int p.1 0) = intL (startsOf nodes none) := by unfold intL startsOf; rw [List.map_map]; rfl
    rw [e1] at h4
    have K' : Walk w h₁ X os dr Ws Z L (cv0 x sn) q (kc) ch (rows.map (·.key)) (limOf nodes dl) it (dit it na (nodes.map (·.1)) en) A 5 10 :=
      ⟨g, hF13, hkids, hcl, (dit_kid (ks := nodes) (hW _ (by simp [grW]))).iter, hsm, hz6⟩
    have h5 : Ok (BB w h₁ X os dr) G (fr (env0 L) (vars0 (limOf nodes dl) q va []) (cv0 x sn) :: kc :: dit it na (nodes.map (·.1)) en (intL (startsOf nodes none)) :: se (BB w h₁ X os dr) va [] :: F') s4 :=
      (h4.swap.sub (vars' := vars0 (limOf nodes dl) q va []) (by kernel_rfl)).perm (by walk_at "perm")
    exact walk_run K' hgo G F' s4 p1 hv0 h5 w'
  · refine step2 (li l [.int n 0] :: F') s1 w'.there (h1.perm (.cons _ (List.Perm.swap _ _ _))) fun q kc va s2 hkids hz6 h2 => ?_
    show Run _ _ _ _ ((execs (_ :: _) _).wrap _ _ _ _) _ _
    refine rn_cons (rn_For (x_ref l h2 I (by kernel_rfl) fun s3 h3 => l_iter (ps := [.int n 0]) h3 (by walk_at "has") fun it s4 h4 p1 => ?_))
    have K' : Walk w h₁ X os dr Ws Z L (cv0 x sn) q (kc) ch (rows.map (·.key)) (limOf nodes dl) it (lot it l [.int n 0]) A 5 10 :=
      ⟨g, hF13, hkids, hcl, lot_iter _ _ _ _, hsm, hz6⟩
    have h5 : Ok (BB w h₁ X os dr) G (lit it l [.int n 0] [.int n 0] :: li l [.int n 0] :: fr (env0 L) (vars0 (limOf nodes dl) q va []) (cv0 x sn) :: kc :: se (BB w h₁ X os dr) va [] :: F') s4 :=
      (h4.swap.sub (vars' := vars0 (limOf nodes dl) q va []) (by kernel_rfl)).perm (by walk_at "perm")
    have h6 : Ok (BB w h₁ X os dr) G (lot it l [.int n 0] (intL (startsOf nodes (some n))) :: fr (env0 L) (vars0 (limOf nodes dl) q va []) (cv0 x sn) :: kc :: se (BB w h₁ X os dr) va [] :: F') s4 := Ok.unapp (c := lit it l [.int n 0] [.int n 0]) h5
    have h7 : Ok (BB w h₁ X os dr) G (fr (env0 L) (vars0 (limOf nodes dl) q va []) (cv0 x sn) :: kc :: lot it l [.int n 0] (intL (startsOf nodes (some n))) :: se (BB w h₁ X os dr) va [] :: F') s4 := h6.perm (by walk_at "perm")
    exact walk_run K' hgo G F' s4 p1 hv0 h7 w'
end
end Mine
namespace Mine
local macro_rules | `(tactic| walk_at "foc") => `(tactic| first | with_reducible exact Foc.here _ _ | (apply Foc.there; walk_at "foc"))
local macro_rules | `(tactic| walk_at "has") => `(tactic| first | with_reducible exact Has.here _ _ | assumption | (refine Has.there _ ?_; walk_at "has"))
local macro_rules | `(tactic| walk_at "rep") => `(tactic| first | with_reducible exact Rep.here _ _ _ | assumption | (apply Rep.there; walk_at "rep"))
local macro_rules | `(tactic| walk_at "perm") => `(tactic| first | with_reducible exact List.Perm.refl _ | (refine perm_step (by walk_at "foc") ?_; walk_at "perm"))
def ctP (ps₀ : Array Value) (o : Obj) : Prop := ∃ more, o = { cls := .none, data := .fields (ps₀ ++ more) } ∧ TriplesOk (ps₀ ++ more).toList
def ct (P : Addr) (ps₀ : Array Value) : Chunk := pt P (ctP ps₀)
def codeOk (K : Frag) (c P : Addr) : Bool := match K.lookup c with
  | some ⟨.type n, _, .fields vs, _⟩ => n == "code" && vs.getD 11 .none == .ref P && (match vs.getD 18 .none with | .str _ _ => true | _ => false) && (match vs.getD 7 .none with | .int _ _ => true | _ => false) &&
      (match vs.getD 9 .none with | .bool _ => true | _ => false) && (match vs.getD 10 .none with | .int _ _ => true | _ => false) && vs[11]? == some (.ref P) && c != P
  | _ => false
theorem code_of {K : Frag} {h : Heap} {c P : Addr} {ps : Array Value} (X : K.In h) (e : codeOk K c P = true) (hP : h.get? P = some { cls := .none, data := .fields ps }) (ht : TriplesOk ps.toList) : h.IsCode c P ps ∧ h.TableAt c P ps := by
  unfold codeOk at e
  split at e
  · rename_i n d vs sl ho
    simp only [Bool.and_eq_true, beq_iff_eq, bne_iff_ne] at e
    obtain ⟨⟨⟨⟨⟨⟨⟨e1, e2⟩, e3⟩, e4⟩, e5⟩, e6⟩, e7⟩, e8⟩ := e
    subst e1
    obtain ⟨f, tf, h3⟩ : ∃ f tf, vs.getD 18 .none = .str f tf := by
      revert e3; split
      · rename_i a b q; exact fun _ => ⟨_, _, q⟩
      · intro e; cases e
    obtain ⟨fl, tg, h4⟩ : ∃ f tf, vs.getD 7 .none = .int f tf := by
      revert e4; split
      · rename_i a b q; exact fun _ => ⟨_, _, q⟩
      · intro e; cases e
    obtain ⟨b, h5⟩ : ∃ f, vs.getD 9 .none = .bool f := by
      revert e5; split
      · rename_i a q; exact fun _ => ⟨_, q⟩
      · intro e; cases e
    obtain ⟨tx, tt, h6⟩ : ∃ f tf, vs.getD 10 .none = .int f tf := by
      revert e6; split
      · rename_i a b q; exact fun _ => ⟨_, _, q⟩
      · intro e; cases e
    exact ⟨⟨_, vs, f, tf, fl, tg, b, tx, tt, _, X _ _ ho, rfl, e2, h3, h4, h5, h6, hP, rfl, ht, e8⟩, ⟨⟨_, vs, X _ _ ho, rfl, rfl, e7⟩, hP⟩⟩
  · cases e
section
variable {b : Base} {G : Array GenState} {cs cs' r : List Chunk} {s : Shared} {A : Around} {E : Value → Shared → Prop} {env : Env} {c P a : Addr} {ps₀ : Array Value} {φ ψ : Obj → Prop}
theorem Ok.repx {h' : Heap} {t : Nat} (h : Ok b G cs s) (f : Rep cs (pt a φ) (pt a ψ) cs') (hs : Heap.ExtBut a s.heap h') (hq : ∃ o, h'.get? a = some o ∧ ψ o) : Ok b G cs' { s with heap := h', toks := t } := by
  obtain ⟨r, p, p'⟩ := f.split
  have S := (h.perm p).st
  have nd := S.nodup
  have e : ∀ χ : Obj → Prop, (pt a χ :: r).flatten = (a, χ) :: r.flatten := fun χ => by simp [pt]
  rw [e] at nd
  simp only [List.map_cons, List.nodup_cons] at nd
  have hoff := S.off (a, φ) (by rw [e]; exact List.mem_cons_self)
  have S' : St b.h b.X h' (pt a ψ :: r) := by
    refine ⟨fun x o hx ho => ?_, fun x hx => ?_, by rw [e]; simpa using nd, fun x hx => ?_⟩
    · have hne : x ≠ a := by
        rintro rfl
        rcases hoff with q | q
        · exact hx q
        · rw [q] at ho; cases ho
      exact hs x o hne (S.old x o hx ho)
    · rw [e] at hx
      rcases List.mem_cons.mp hx with rfl | hx
      · exact hoff
      · exact S.off x (by rw [e]; exact List.mem_cons_of_mem _ hx)
    · rw [e] at hx
      rcases List.mem_cons.mp hx with rfl | hx
      · exact hq
      · obtain ⟨o, ho, q⟩ := S.at_ x (by rw [e]; exact List.mem_cons_of_mem _ hx)
        exact ⟨o, hs _ _ (fun q' => nd.1 (q' ▸ List.mem_map_of_mem hx)) ho, q⟩
  exact Ok.perm ⟨S', h.gens, h.os, h.drawn⟩ p'.symm
theorem x_gcode {pos : Pos} {q : Str} {sc : Scope} {Q : Value → Shared → Prop} (h : Ok b G cs s) (g : b.Good) (hc : env.code = .ref c) (hk : codeOk b.K c P = true) (f : Rep cs (ct P ps₀) (ct P ps₀) cs) (k : ∀ code s', Ok b G cs s' → Q code s') :
    wpAny b.M A (genexprCode env pos q sc) Q E s := by
  obtain ⟨o, e, more, rfl, ht⟩ := h.has f.has
  obtain ⟨hC, hT⟩ := code_of (h.kin g) hk e ht
  cases hf : codeAmong pos (ps₀ ++ more).toList with
  | some c' => exact wpAny_genexprCode_hit hc hC hf (k c' s h)
  | none =>
    refine wpAny_genexprCodeX hc hC hT hf fun c' h' tk hx _ _ hC' _ hT' _ => k _ _ (h.repx (t := tk) f hx ⟨_, hT'.2, more ++ #[rawInt pos.line, rawInt pos.col, .ref c'], ?_, ?_⟩)
    · rw [Array.append_assoc]
    · obtain ⟨_, _, _, _, _, _, _, _, _, op, _, _, _, _, _, _, _, hop, hpd, htr, _⟩ := hC'
      rw [← Array.append_assoc]; exact htr
end
end Mine
namespace Mine
local macro_rules | `(tactic| walk_at "foc") => `(tactic| first | with_reducible exact Foc.here _ _ | (apply Foc.there; walk_at "foc"))
local macro_rules | `(tactic| walk_at "has") => `(tactic| first | with_reducible exact Has.here _ _ | assumption | (refine Has.there _ ?_; walk_at "has"))
local macro_rules | `(tactic| walk_at "rep") => `(tactic| first | with_reducible exact Rep.here _ _ _ | assumption | (apply Rep.there; walk_at "rep"))
local macro_rules | `(tactic| walk_at "perm") => `(tactic| first | with_reducible exact List.Perm.refl _ | (refine perm_step (by walk_at "foc") ?_; walk_at "perm"))
def retE : Stmt → PySem.Expr | .Return (some e) _ => e | _ => .Constant .none 0 ⟨0, 0, 0, 0⟩
def geElt : PySem.Expr → PySem.Expr | .GeneratorExp e _ _ _ => e | e => e
def geComp : PySem.Expr → Comprehension | .GeneratorExp _ (g :: _) _ _ => g | e => ⟨e, e, [], 0⟩
def geScope (sc : Scope) : PySem.Expr → Scope | .GeneratorExp _ _ s _ => s | _ => sc
def gePos : PySem.Expr → Pos | .GeneratorExp _ _ _ p => p | _ => ⟨0, 0, 0, 0⟩
noncomputable def pE : PySem.Expr := retE ((fbodyL [2]).getD 1 stPass)
noncomputable def pT : PySem.Expr := (geComp pE).target
noncomputable def pI : PySem.Expr := (geComp pE).iter
noncomputable def pIfs : List PySem.Expr := (geComp pE).ifs
noncomputable def pElt : PySem.Expr := geElt pE
noncomputable def pSc : Scope := geScope (fscope [2]) pE
noncomputable def pEx : PySem.Expr := .GeneratorExp pElt [⟨pT, pI, pIfs, 0⟩] pSc (gePos pE)
section
variable {w : World} {h₁ : Heap} {X : List Addr} {os : OsState} {dr : Drawn} {G : Array GenState} {cs cs' F : List Chunk} {s : Shared} {A : Around} {E : Value → Shared → Prop} {x gd a C na aa ga : Addr} {d u : Nat} {fs : List (Str × Addr)} {nodes : List (Int × Addr)} {rows : List Row} {en ea : Nat} {L : Addr} {Ws : List Chunk} {lim : Int} {src dl : Option Int} {sn : Value}
noncomputable abbrev envP (L : Addr) : Env := callEnvC fd_post L A_post
noncomputable abbrev envX (L C : Addr) (code : Value) : Env := genEnv pSc [] C code builtinsNs (envP L)
noncomputable def cxS (L C : Addr) (code : Value) (ga : Addr) : Code := .compStart pEx 0 (.ref ga) .none (envX L C code)
noncomputable def cxL (L C : Addr) (code : Value) (ga : Addr) : Code := .compLoop pEx 0 (.ref ga) .none (envX L C code)
theorem dfs_call (g : (BB w h₁ X os dr).Good) {us : List Value} {kw : List (Str × Value)} {Q : Value → Shared → Prop} (v1 v2 v3 : Value) (h : Ok (BB w h₁ X os dr) G cs s) (F : Fit (BB w h₁ X os dr) A d u)
    (hb : peek (BB w h₁ X os dr).K ⟨(BB w h₁ X os dr).prog, (BB w h₁ X os dr).w.params⟩ (bindArgs fd_dfs ⟨us, kw⟩) = some [(("G" : Str), Value.ref x), (("source" : Str), v1), (("depth_limit" : Str), v2), (("sort_neighbors" : Str), v3)]) (hv1 : untok v1 = srcV src) (hv2 : untok v2 = srcV dl) (hv3 : untok v3 = sn)
    (k : ∀ ga L s', Ok (BB w h₁ X os dr) (G.push (.fresh (.func DB (env0 L)))) (go ga G.size :: fr (env0 L) [("source", srcV src), ("depth_limit", srcV dl)] (cv0 x sn) :: cs) s' → Q (.ref ga) s') : wpAny (BB w h₁ X os dr).M A (call (.ref A_dfs) us kw) Q E s := by
  rw [← hv1, ← hv2, ← hv3] at k
  exact call_code (code_gen _ [("source", untok v1), ("depth_limit", untok v2)] (cv0 x (untok v3)) h g F (D_dfs g) hb (by kernel_rfl) (by intro z; kernel_rfl) (by intro z; kernel_rfl) (fun z => ⟨by kernel_rfl, by show List.Nodup [("G" : Str), ("sort_neighbors" : Str)]; decide +kernel⟩) fun ga L s' h' => k ga L s' h')
theorem gx_make (g : (BB w h₁ X os dr).Good) {Q : Value → Shared → Prop} {vars : List (Str × Value)} (h : Ok (BB w h₁ X os dr) G (fr (envP L) vars [] :: ct T_post #[] :: cs) s) (F : Fit (BB w h₁ X os dr) A d u) (hv : ev (envP L) GL vars [] 9 pI = some (.ref ga)) (f : Has cs (go ga a))
    (k : ∀ gx C code s', Ok (BB w h₁ X os dr) (G.push (.fresh (cxS L C code ga))) (go gx G.size :: fr (envX L C code) [(".0", .ref ga)] [] :: fr (envP L) vars [] :: ct T_post #[] :: cs) s' → Q (.ref gx) s') : wpAny (BB w h₁ X os dr).M A (eval pE (envP L)) Q E s := by
  have I : In (BB w h₁ X os dr) (envP L) := (D_post g).inEnv g L
  show wpAny _ _ (eval (.GeneratorExp pElt [⟨pT, pI, pIfs, 0⟩] pSc (gePos pE)) _) _ _ _
  refine wpAny_GeneratorExp_make (cl := []) (by kernel_rfl) (by kernel_rfl) (fun y hy => ?_) (by kernel_rfl) (by kernel_rfl) F.room (x_ref ga h I hv fun s1 h1 => ?_) (fun _ => (by kernel_rfl))
  · have : (pSc.names.all fun y => y.2 != .cell) = true := by kernel_rfl
    simpa using List.all_eq_true.mp this y hy
  obtain ⟨o, e, nm, qn, hc, hd, hs⟩ := h1.has (.there _ (.there _ f))
  refine wpAny_pyIter_gen ⟨o, nm, qn, e, hc, hd, hs⟩ ⟨h1.nolimit g, ?_⟩
  refine x_gcode (c := CO_post) (P := T_post) (ps₀ := #[]) h1 g (by kernel_rfl) (by kernel_rfl) (.there _ (.here _ _ _)) fun code s2 h2 => ?_
  refine wpAny_peek (r := builtinsNs) (h2.kin g) (by kernel_rfl) fun h' hn hsb => ?_
  have hk : ∀ b o, s2.heap.get? b = some o → h'.get? b = some o := fun b o e => hsb.extBut b o (Nat.ne_of_lt (Heap.lt_size e)) (Heap.get?_push_of_some _ e)
  have h3 : Ok (BB w h₁ X os dr) G (pt s2.heap.objs.size (nsP [(".0", .ref ga)]) :: fr (envP L) vars [] :: ct T_post #[] :: cs) { s2 with heap := h', toks := s2.toks } :=
    h2.enter (t := s2.toks) hk (Nat.le_refl _) (nsP_of_ns hn fun y v q => by
      rw [List.lookup_cons] at q
      by_cases hy : y = ".0"
      · subst hy; simp only [beq_self_eq_true] at q; cases q; exact ⟨_, if_pos rfl, rfl⟩
      · rw [beq_eq_false_iff_ne.mpr hy] at q; cases q)
  have hsz : s2.gens.size = G.size := by rw [h2.gens]
  have h4 := h3.alloc (o := { cls := .type "generator", data := .fields #[.int s2.gens.size 0, .str "<genexpr>" (s2.toks + 1), .str ((envP L).qual ++ "<genexpr>") (s2.toks + 1 + 1)] }) (t := s2.toks + 1 + 1 + 1) (φ := goP G.size) rfl ⟨_, _, rfl, by rw [hsz], rfl⟩
  exact k _ s2.heap.objs.size code _ ⟨h4.st, by rw [← h2.gens]; rfl, h4.os, h4.drawn⟩
end
end Mine
namespace Mine
local macro_rules | `(tactic| walk_at "foc") => `(tactic| first | with_reducible exact Foc.here _ _ | (apply Foc.there; walk_at "foc"))
local macro_rules | `(tactic| walk_at "has") => `(tactic| first | with_reducible exact Has.here _ _ | assumption | (refine Has.there _ ?_; walk_at "has"))
local macro_rules | `(tactic| walk_at "rep") => `(tactic| first | with_reducible exact Rep.here _ _ _ | assumption | (apply Rep.there; walk_at "rep"))
local macro_rules | `(tactic| walk_at "perm") => `(tactic| first | with_reducible exact List.Perm.refl _ | (refine perm_step (by walk_at "foc") ?_; walk_at "perm"))
def revs (rows : List Trow) : List Int := rows.filterMap fun r => if r.2.2 == ("reverse" : Str) then some r.2.1 else none
def intI : Item Int := fun t v c => untok v = .int t 0 ∧ c = []
section
variable {w : World} {h₁ : Heap} {X : List Addr} {os : OsState} {dr : Drawn} {G : Array GenState} {cs cs' F : List Chunk} {s : Shared} {A : Around} {E : Value → Shared → Prop} {C ga : Addr} {d u n1 : Nat} {L : Addr} {Ws : List Chunk} {Z : Chunk → Prop} {code : Value}
noncomputable abbrev AX (A : Around) (L C : Addr) (code : Value) (ga : Addr) : Around := (A.over (cxL L C code ga) []).in1
def GX (w : World) (h₁ : Heap) (X : List Addr) (os : OsState) (dr : Drawn) (A : Around) (Ws : List Chunk) (Z : Chunk → Prop) (L C : Addr) (code : Value) (ga : Addr) (n1 : Nat) : List Int → GenState → Prop
  | [], gs2 => ∀ (rows : List Trow) (G0 : Array GenState) (gs1 : GenState) (D1 : Chunk) (F : List Chunk) (s : Shared), revs rows = [] → n1 = G0.size → Ok (BB w h₁ X os dr) ((G0.push gs1).push .running) (fr (envX L C code) [(".0", .ref ga)] [] :: go ga n1 :: D1 :: F) s →
      Gen (BB w h₁ X os dr) (AX A L C code ga) (HasAll Ws) Z rowI rows D1 gs1 → HasAll Ws F → GsRun (BB w h₁ X os dr).M A (fun e s' => e.quiet = true ∧ e.result = .returned .none ∧ e.genState = .finished ∧ ∃ z, Z z ∧ Ok (BB w h₁ X os dr) ((G0.push .finished).push .running) (z :: F) s') gs2 (.send .none) s
  | t :: ts, gs2 => ∀ (rows : List Trow) (G0 : Array GenState) (gs1 : GenState) (D1 : Chunk) (F : List Chunk) (s : Shared), revs rows = t :: ts → n1 = G0.size → Ok (BB w h₁ X os dr) ((G0.push gs1).push .running) (fr (envX L C code) [(".0", .ref ga)] [] :: go ga n1 :: D1 :: F) s →
      Gen (BB w h₁ X os dr) (AX A L C code ga) (HasAll Ws) Z rowI rows D1 gs1 → HasAll Ws F → GsRun (BB w h₁ X os dr).M A (fun e s' => e.quiet = true ∧ ∃ v rows' gs1' D1', e.result = .yielded v ∧ untok v = .int t 0 ∧ revs rows' = ts ∧ Gen (BB w h₁ X os dr) (AX A L C code ga) (HasAll Ws) Z rowI rows' D1' gs1' ∧
        Ok (BB w h₁ X os dr) ((G0.push gs1').push .running) (fr (envX L C code) [(".0", .ref ga)] [] :: go ga n1 :: D1' :: F) s' ∧ GX w h₁ X os dr A Ws Z L C code ga n1 ts e.genState) gs2 (.send .none) s
def PX (w : World) (h₁ : Heap) (X : List Addr) (os : OsState) (dr : Drawn) (A : Around) (Ws : List Chunk) (Z : Chunk → Prop) (L C : Addr) (code : Value) (ga : Addr) (n1 : Nat) (G0 : Array GenState) (F : List Chunk) : List Int → End → Shared → Prop
  | [], e, s' => e.quiet = true ∧ e.result = .returned .none ∧ e.genState = .finished ∧ ∃ z, Z z ∧ Ok (BB w h₁ X os dr) ((G0.push .finished).push .running) (z :: F) s'
  | t :: ts, e, s' => e.quiet = true ∧ ∃ v rows' gs1' D1', e.result = .yielded v ∧ untok v = .int t 0 ∧ revs rows' = ts ∧ Gen (BB w h₁ X os dr) (AX A L C code ga) (HasAll Ws) Z rowI rows' D1' gs1' ∧
        Ok (BB w h₁ X os dr) ((G0.push gs1').push .running) (fr (envX L C code) [(".0", .ref ga)] [] :: go ga n1 :: D1' :: F) s' ∧ GX w h₁ X os dr A Ws Z L C code ga n1 ts e.genState
theorem gx_of {ts : List Int} {gs2 : GenState} (h : ∀ (rows : List Trow) (G0 : Array GenState) (gs1 : GenState) (D1 : Chunk) (F : List Chunk) (s : Shared), revs rows = ts → n1 = G0.size → Ok (BB w h₁ X os dr) ((G0.push gs1).push .running) (fr (envX L C code) [(".0", .ref ga)] [] :: go ga n1 :: D1 :: F) s →
      Gen (BB w h₁ X os dr) (AX A L C code ga) (HasAll Ws) Z rowI rows D1 gs1 → HasAll Ws F → GsRun (BB w h₁ X os dr).M A (PX w h₁ X os dr A Ws Z L C code ga n1 G0 F ts) gs2 (.send .none) s) : GX w h₁ X os dr A Ws Z L C code ga n1 ts gs2 := by
  cases ts with
  | nil => exact h
  | cons t ts => exact h
theorem inX (g : (BB w h₁ X os dr).Good) (L C : Addr) (code : Value) : In (BB w h₁ X os dr) (envX L C code) := ⟨g, (by kernel_rfl), rfl, rfl⟩
theorem push2_set {α : Type} (G0 : Array α) (x y z : α) : ((G0.push x).push z).setIfInBounds G0.size y = (G0.push y).push z := by
  apply Array.ext_getElem?
  intro i
  rw [Array.getElem?_setIfInBounds, Array.getElem?_push, Array.getElem?_push, Array.getElem?_push, Array.getElem?_push]
  simp only [Array.size_push]
  by_cases h : i = G0.size
  · subst h; simp; omega
  · rw [if_neg h, if_neg h, if_neg (fun e => h e.symm)]
theorem get_push2 {α : Type} (G0 : Array α) (x z : α) : ((G0.push x).push z)[G0.size]? = some x := by
  rw [Array.getElem?_push, Array.getElem?_push]; simp
theorem own_gen {b : Base} {T : PySem.Expr} {elts : List PySem.Expr} {kk : Nat} {tp : Pos} {t : Addr} {Q : Unit → Shared → Prop} (h : Ok b G cs s) (f : Has cs (go ga n1)) (k : Q () s) : wpAny b.M A (letOwnedTupleGo (.Tuple elts kk tp) (.ref ga) (.ref t)) Q E s := by
  obtain ⟨o, e, nm, qn, hc, hd, hs⟩ := h.has f
  unfold letOwnedTupleGo
  refine wpAny_bind (wpAny_load e ?_)
  rw [hc, hd]
  exact wpAny_pure k
theorem gx_loop' (g : (BB w h₁ X os dr).Good) (Fi : Fit (BB w h₁ X os dr) A (d + 4) (u + 10)) (ts : List Int) (outer : ∀ t ts', ts = t :: ts' → ∀ (rows : List Trow) (G0 : Array GenState) (gs1 : GenState) (D1 : Chunk) (F : List Chunk) (s : Shared), revs rows = ts' → n1 = G0.size →
    Ok (BB w h₁ X os dr) ((G0.push gs1).push .running) (fr (envX L C code) [(".0", .ref ga)] [] :: go ga n1 :: D1 :: F) s → Gen (BB w h₁ X os dr) (AX A L C code ga) (HasAll Ws) Z rowI rows D1 gs1 → HasAll Ws F →
    Run (BB w h₁ X os dr).M A (PX w h₁ X os dr A Ws Z L C code ga n1 G0 F ts') (cxL L C code ga) ((BB w h₁ X os dr).M.den (cxL L C code ga)) [] s) : ∀ (rows : List Trow) (G0 : Array GenState) (gs1 : GenState) (D1 : Chunk) (F : List Chunk) (s : Shared), revs rows = ts → n1 = G0.size →
    Ok (BB w h₁ X os dr) ((G0.push gs1).push .running) (fr (envX L C code) [(".0", .ref ga)] [] :: go ga n1 :: D1 :: F) s → Gen (BB w h₁ X os dr) (AX A L C code ga) (HasAll Ws) Z rowI rows D1 gs1 → HasAll Ws F →
    Run (BB w h₁ X os dr).M A (PX w h₁ X os dr A Ws Z L C code ga n1 G0 F ts) (cxL L C code ga) ((BB w h₁ X os dr).M.den (cxL L C code ga)) [] s := by
  have I := inX g L C code
  have Fo : Fit (BB w h₁ X os dr) (A.over (cxL L C code ga) []) (d + 3) (u + 7) := over_fit (x := 1) (y := 3) Fi rfl (by kernel_rfl)
  intro rows
  induction rows with
  | nil =>
    intro G0 gs1 D1 F s hts hn h S1 hW
    subst hts; subst hn
    show Run _ _ _ _ ((compTurn _ 0 _ _ _).onRaise (leaving _)) [] s
    rw [show compTurn pEx 0 (.ref ga) .none (envX L C code) = _ from compTurn_gen _ _ _ _ _ _ _ _ _, Sem.onRaise_eq_wrap]
    refine rn_bw (wpAny_standAt (rn_bw ?_))
    refine gen_end (d := d + 2) (u := u + 7) (F := fr (envX L C code) [(".0", .ref ga)] [] :: go ga G0.size :: F) (h.perm (by walk_at "perm")) g Fo (by walk_at "has") (get_push2 _ _ _) hW.there.there S1 fun z s1 hz h1 => ?_
    rw [push2_set] at h1
    exact rn_end (.ok .next) ⟨rfl, rfl, rfl, z, hz, h1.drop1.drop1⟩
  | cons r rows ih =>
    intro G0 gs1 D1 F s hts hn h S1 hW
    show Run _ _ _ _ ((compTurn _ 0 _ _ _).onRaise (leaving _)) [] s
    rw [show compTurn pEx 0 (.ref ga) .none (envX L C code) = _ from compTurn_gen _ _ _ _ _ _ _ _ _, Sem.onRaise_eq_wrap]
    refine rn_bw (wpAny_standAt (rn_bw ?_))
    refine gen_next (d := d + 2) (u := u + 7) (F := fr (envX L C code) [(".0", .ref ga)] [] :: go ga n1 :: F) (h.perm (by walk_at "perm")) g Fo (by walk_at "has") (by rw [hn]; exact get_push2 _ _ _) hW.there.there S1 fun v c D' gs' s1 hi h1 S2 => ?_
    obtain ⟨tp, rfl, rfl⟩ := hi
    rw [hn, push2_set, ← hn] at h1
    have h1 : Ok (BB w h₁ X os dr) ((G0.push gs').push .running) (fr (envX L C code) [(".0", .ref ga)] [] :: tu tp [.int r.1 0, .int r.2.1 0, .str r.2.2 0] :: D' :: go ga n1 :: F) s1 := h1.perm (by walk_at "perm")
    refine rn_bw (own_gen (T := pT) h1 (n1 := n1) (by walk_at "has") (rn_bw ?_))
    refine u_three (p₁ := .int r.1 0) (p₂ := .int r.2.1 0) (p₃ := .str r.2.2 0) h1 I Fo.handled (by walk_at "has") (by kernel_rfl) fun s2 h2 => ?_
    refine rn_bw ?_
    show wpAny _ _ (forIn [_] true _) _ _ _
    rw [List.forIn_cons]
    refine wpAny_bind ?_
    simp only [if_true]
    refine wpAny_bind (isTrue_of (c := r.2.2 == ("reverse" : Str)) h2 I (by kernel_rfl) rfl fun s3 h3 => wpAny_pure ?_)
    show wpAny _ _ (forIn [] _ _) _ _ _
    rw [List.forIn_nil]
    refine wpAny_pure ?_
    have h4 : Ok (BB w h₁ X os dr) ((G0.push gs').push .running) (fr (envX L C code) [(".0", .ref ga), ("v", .int r.2.1 0)] [] :: tu tp [.int r.1 0, .int r.2.1 0, .str r.2.2 0] :: D' :: go ga n1 :: F) s3 := h3.sub (by kernel_rfl)
    have hrev : revs (r :: rows) = if r.2.2 == ("reverse" : Str) then r.2.1 :: revs rows else revs rows := by
      unfold revs
      rw [List.filterMap_cons]
      cases r.2.2 == ("reverse" : Str) <;> rfl
    rw [hrev] at hts
    cases hc : r.2.2 == ("reverse" : Str) with
    | false =>
      rw [hc] at hts
      simp only [Bool.false_eq_true, if_false] at hts ⊢
      have h5 : Ok (BB w h₁ X os dr) ((G0.push gs').push .running) (tu tp [.int r.1 0, .int r.2.1 0, .str r.2.2 0] :: fr (envX L C code) [(".0", .ref ga)] [] :: go ga n1 :: D' :: F) s3 := (h4.sub (vars' := [(".0", .ref ga)]) (by kernel_rfl)).perm (by walk_at "perm")
      exact rn_again (c' := cxL L C code ga) rfl (ih G0 gs' D' F s3 hts hn h5.drop S2 hW)
    | true =>
      rw [hc] at hts
      simp only [if_true] at hts ⊢
      subst hts
      have hy : ∀ v, yieldOut (envX L C code) v = yieldValue v := fun v => by
        have hco : (envX L C code).scope.isCoroutine = false := by kernel_rfl
        simp only [yieldOut, hco, Bool.false_eq_true, if_false]
      simp only [hy]
      rw [Sem.bind_eq_wrap', Sem.bind_eq_wrap', Sem.wrap_wrap, Sem.wrap_wrap]
      refine rn_wrap (x_int r.2.1 h4 I (by kernel_rfl) fun t5 s5 h5 => ?_)
      refine rn_at (rn_yield rfl fun p => ?_)
      have h6 : Ok (BB w h₁ X os dr) ((G0.push gs').push .running) (tu tp [.int r.1 0, .int r.2.1 0, .str r.2.2 0] :: fr (envX L C code) [(".0", .ref ga)] [] :: go ga n1 :: D' :: F) s5 := (h5.sub (vars' := [(".0", .ref ga)]) (by kernel_rfl)).perm (by walk_at "perm")
      refine ⟨rfl, .int r.2.1 t5, rows, gs', D', rfl, rfl, rfl, S2, h6.drop, gx_of fun rows' G0' gs1' D1' F' s' hr hn' h' S' hW' => ?_⟩
      exact rn_again (c' := cxL L C code ga) rfl (outer r.2.1 (revs rows) rfl rows' G0' gs1' D1' F' s' hr hn' h' S' hW')
theorem gx_loop (g : (BB w h₁ X os dr).Good) (Fi : Fit (BB w h₁ X os dr) A (d + 4) (u + 10)) : ∀ (ts : List Int) (rows : List Trow) (G0 : Array GenState) (gs1 : GenState) (D1 : Chunk) (F : List Chunk) (s : Shared), revs rows = ts → n1 = G0.size →
    Ok (BB w h₁ X os dr) ((G0.push gs1).push .running) (fr (envX L C code) [(".0", .ref ga)] [] :: go ga n1 :: D1 :: F) s → Gen (BB w h₁ X os dr) (AX A L C code ga) (HasAll Ws) Z rowI rows D1 gs1 → HasAll Ws F →
    Run (BB w h₁ X os dr).M A (PX w h₁ X os dr A Ws Z L C code ga n1 G0 F ts) (cxL L C code ga) ((BB w h₁ X os dr).M.den (cxL L C code ga)) [] s
  | [] => gx_loop' g Fi [] fun t ts' e => (by cases e)
  | t :: ts => gx_loop' g Fi (t :: ts) fun t' ts' e => by
    cases e
    exact gx_loop g Fi ts
end
end Mine
namespace Mine
local macro_rules | `(tactic| walk_at "foc") => `(tactic| first | with_reducible exact Foc.here _ _ | (apply Foc.there; walk_at "foc"))
local macro_rules | `(tactic| walk_at "has") => `(tactic| first | with_reducible exact Has.here _ _ | assumption | (refine Has.there _ ?_; walk_at "has"))
local macro_rules | `(tactic| walk_at "rep") => `(tactic| first | with_reducible exact Rep.here _ _ _ | assumption | (apply Rep.there; walk_at "rep"))
local macro_rules | `(tactic| walk_at "perm") => `(tactic| first | with_reducible exact List.Perm.refl _ | (refine perm_step (by walk_at "foc") ?_; walk_at "perm"))
section
variable {w : World} {h₁ : Heap} {X : List Addr} {os : OsState} {dr : Drawn} {G : Array GenState} {cs cs' F : List Chunk} {s : Shared} {A : Around} {E : Value → Shared → Prop} {C ga gx : Addr} {d u n1 : Nat} {L : Addr} {Ws : List Chunk} {Z : Chunk → Prop} {code : Value}
theorem gx_start (g : (BB w h₁ X os dr).Good) (Fi : Fit (BB w h₁ X os dr) A (d + 4) (u + 10)) (ts : List Int) : GX w h₁ X os dr A Ws Z L C code ga n1 ts (.fresh (cxS L C code ga)) := by
  refine gx_of fun rows G0 gs1 D1 F s hr hn h S1 hW => ⟨rfl, ?_⟩
  have loop := gx_loop g Fi ts rows G0 gs1 D1 F s hr hn h S1 hW
  show Run _ _ _ _ ((compStart pEx 0 (.ref ga) .none (envX L C code)).onRaise (leaving _)) [] s
  unfold compStart
  rw [Sem.onRaise_eq_wrap]
  show Run _ _ _ _ ((ask >>= _).wrap _ _ _ _) [] s
  refine rn_bw (wpAny_askSetting ?_)
  obtain ⟨o, e, nm, qn, hc, hd, hs⟩ := h.has (.there _ (.here _ _))
  split
  · exact rn_again (c' := cxL L C code ga) rfl loop
  · refine rn_bw (wpAny_rule ?_)
    show Run _ _ _ _ ((standAt _ >>= _).wrap _ _ _ _) [] s
    exact rn_bw (wpAny_standAt (rn_bw (wpAny_pyIter_gen ⟨o, nm, qn, e, hc, hd, hs⟩ (rn_again (c' := cxL L C code ga) rfl loop))))
theorem push_push_set {α : Type} (G0 : Array α) (x y z : α) : ((G0.push x).push y).setIfInBounds (G0.size + 1) z = (G0.push x).push z := by
  have := push_set (G0.push x) y z
  rwa [Array.size_push] at this
theorem get_push_push {α : Type} (G0 : Array α) (x z : α) : ((G0.push x).push z)[G0.size + 1]? = some z := by
  have e : (G0.push x).size = G0.size + 1 := Array.size_push ..
  rw [← e, Array.getElem?_push, if_pos rfl]
def StX (w : World) (h₁ : Heap) (X : List Addr) (os : OsState) (dr : Drawn) (A : Around) (Ws : List Chunk) (Z : Chunk → Prop) (L C : Addr) (code : Value) (ga : Addr) (G0 : Array GenState) (ts : List Int) (G : Array GenState) (D : Chunk) : Prop :=
  ∃ gs1 gs2 rows D1, G = (G0.push gs1).push gs2 ∧ D = [fr (envX L C code) [(".0", .ref ga)] [], go ga G0.size, D1].flatten ∧ revs rows = ts ∧ Gen (BB w h₁ X os dr) (AX A L C code ga) (HasAll Ws) Z rowI rows D1 gs1 ∧ GX w h₁ X os dr A Ws Z L C code ga G0.size ts gs2
theorem gx_strm (g : (BB w h₁ X os dr).Good) (Fi : Fit (BB w h₁ X os dr) A (d + 1) u) {G0 : Array GenState} (hG : AllFin G0) (W : List Chunk → Prop) (hW : ∀ F, W F → HasAll Ws F) (f : ∀ F, W F → Has F (go gx (G0.size + 1))) :
    Strm (BB w h₁ X os dr) A W intI gx (StX w h₁ X os dr A.in1 Ws Z L C code ga G0) (fun G z => AllFin G ∧ Z z) where
  next := by
    rintro G F D s E t ts Q h wF ⟨gs1, gs2, rows, D1, rfl, rfl, hr, S1, S2⟩ k
    obtain ⟨o, e, nm, qn, e1, e2, e3⟩ := h.has (.there _ (f F wF))
    have hr' : Ok (BB w h₁ X os dr) ((G0.push gs1).push .running) (fr (envX L C code) [(".0", .ref ga)] [] :: go ga G0.size :: D1 :: F) (s.setGen (G0.size + 1) .running) :=
      Ok.unflat (pl := [fr (envX L C code) [(".0", .ref ga)] [], go ga G0.size, D1]) ⟨h.st, by show (s.gens.setIfInBounds (G0.size + 1) .running) = _; rw [h.gens, push_push_set], h.os, h.drawn⟩
    refine next_run (h.nolimit g) Fi.room ⟨o, nm, qn, e, e1, e2, e3⟩ (by rw [h.gens]; exact get_push_push _ _ _) (S2 rows G0 gs1 D1 F _ hr rfl hr' S1 (hW F wF)) fun e s₁ ⟨hq, v, rows', gs1', D1', hv, hu, hr2, S3, h3, S4⟩ => ⟨hq, .inl ⟨v, hv, ?_⟩⟩
    refine k v [] _ ((G0.push gs1').push e.genState) _ ⟨hu, rfl⟩ ⟨gs1', _, rows', D1', rfl, rfl, hr2, S3, S4⟩ (Ok.nilc ?_)
    have h4 := Ok.flat (pl := [fr (envX L C code) [(".0", .ref ga)] [], go ga G0.size, D1']) h3
    exact ⟨h4.st, by show (s₁.gens.setIfInBounds (G0.size + 1) _) = _; rw [h4.gens, push_push_set], h4.os, h4.drawn⟩
  done := by
    rintro G F D s E Q h wF ⟨gs1, gs2, rows, D1, rfl, rfl, hr, S1, S2⟩ k
    obtain ⟨o, e, nm, qn, e1, e2, e3⟩ := h.has (.there _ (f F wF))
    have hr' : Ok (BB w h₁ X os dr) ((G0.push gs1).push .running) (fr (envX L C code) [(".0", .ref ga)] [] :: go ga G0.size :: D1 :: F) (s.setGen (G0.size + 1) .running) :=
      Ok.unflat (pl := [fr (envX L C code) [(".0", .ref ga)] [], go ga G0.size, D1]) ⟨h.st, by show (s.gens.setIfInBounds (G0.size + 1) .running) = _; rw [h.gens, push_push_set], h.os, h.drawn⟩
    refine next_run (h.nolimit g) Fi.room ⟨o, nm, qn, e, e1, e2, e3⟩ (by rw [h.gens]; exact get_push_push _ _ _) (S2 rows G0 gs1 D1 F _ hr rfl hr' S1 (hW F wF)) fun e s₁ ⟨hq, hv, hf, z, hz, h3⟩ => ⟨hq, .inr ⟨hv, hf, Fi.handled.at h3, fun h' hk => k ((G0.push .finished).push .finished) z _ ⟨hG.push.push, hz⟩ ?_⟩⟩
    exact ⟨h3.st.keeps hk, by show (s₁.gens.setIfInBounds (G0.size + 1) _) = _; rw [h3.gens, push_push_set], h3.os, h3.drawn⟩
end
end Mine
namespace Mine
local macro_rules | `(tactic| walk_at "foc") => `(tactic| first | with_reducible exact Foc.here _ _ | (apply Foc.there; walk_at "foc"))
local macro_rules | `(tactic| walk_at "has") => `(tactic| first | with_reducible exact Has.here _ _ | assumption | (refine Has.there _ ?_; walk_at "has"))
local macro_rules | `(tactic| walk_at "rep") => `(tactic| first | with_reducible exact Rep.here _ _ _ | assumption | (apply Rep.there; walk_at "rep"))
local macro_rules | `(tactic| walk_at "perm") => `(tactic| first | with_reducible exact List.Perm.refl _ | (refine perm_step (by walk_at "foc") ?_; walk_at "perm"))
def rgP (a b c : Int) (o : Obj) : Prop := ∃ t u v, o = { cls := .type "range", dict := none, data := .fields #[.int a t, .int b u, .int c v], slots := #[] }
def rg (r : Addr) (a b c : Int) : Chunk := pt r (rgP a b c)
def rgi (a c : Int) : Nat → List Value
  | 0 => []
  | n + 1 => .int a 0 :: rgi (a + c) c n
def ritP (c : Int) (vs : List Value) (o : Obj) : Prop := ∃ (x : Int) (n : Nat), o = { cls := .type "range_iterator", dict := none, data := .fields #[rawInt x, rawInt n, rawInt c], slots := #[] } ∧ vs = rgi x c n
def rit (it : Addr) (c : Int) (vs : List Value) : Chunk := pt it (ritP c vs)
section
variable {b : Base} {G : Array GenState} {cs cs' : List Chunk} {s : Shared} {A : Around} {E : Value → Shared → Prop} {x y c : Int}
theorem r_new1 {t : Tok} {Q : Value → Shared → Prop} (h : Ok b G cs s) (k : ∀ r s', Ok b G (rg r 0 y 1 :: cs) s' → Q (.ref r) s') : wpAny b.M A (call (.type "range") [.int y t]) Q E s :=
  call_range_1 (k _ _ (h.alloc rfl ⟨_, _, _, rfl⟩))
theorem r_new3 {t u v : Tok} {Q : Value → Shared → Prop} (h : Ok b G cs s) (hc : c ≠ 0) (hp : Builtin.divisionGoesByPylong (y - x) c = false) (k : ∀ r s', Ok b G (rg r x y c :: cs) s' → Q (.ref r) s') :
    wpAny b.M A (call (.type "range") [.int x t, .int y u, .int c v]) Q E s :=
  call_range_3 hc (k _ _ (h.alloc rfl ⟨_, _, _, rfl⟩)) (.inl hp)
theorem r_iter {r : Addr} {n : Nat} {Q : Value → Shared → Prop} (h : Ok b G cs s) (f : Has cs (rg r x y c)) (hs : Builtin.Range.small x y c = true) (hn : Builtin.Range.rangeSize x y c = (n : Int))
    (k : ∀ it s', Ok b G (rit it c (rgi x c n) :: cs) s' → Q (.ref it) s') : wpAny b.M A (pyIter (.ref r)) Q E s := by
  obtain ⟨o, e, t, u, v, rfl⟩ := h.has f
  exact wpAny_pyIter_range e hs (k _ _ (h.alloc (t := s.toks) rfl ⟨x, n, by rw [hn], rfl⟩))
theorem rit_iter (it : Addr) (c : Int) : IsIter b (.ref it) (rit it c) (fun _ => True) where
  next := by
    intro G cs cs' s A E v vs Q h f w k
    obtain ⟨o, e, x, n, rfl, hv⟩ := h.has f.has
    cases n with
    | zero => cases hv
    | succ n =>
      obtain ⟨rfl, rfl⟩ := List.cons.inj hv
      refine wpAny_pyNext_range_item (x := x) (left := ((n + 1 : Nat) : Int)) (step := c) e (by omega) fun h' hit hs => k _ _ rfl (h.rep f hs ⟨_, hit, x + c, n, ?_, rfl⟩)
      rw [show (((n + 1 : Nat) : Int) - 1) = (n : Int) from by omega]
  done := by
    intro G cs cs' s A E Q hh h f w k
    obtain ⟨o, e, x, n, rfl, hv⟩ := h.has f.has
    cases n with
    | succ n => cases hv
    | zero => exact range_end (x := x) (left := ((0 : Nat) : Int)) (step := c) (hh.at h) e (by decide) fun h' hs => k _ (h.lose (t := s.toks) f hs)
end
end Mine
namespace Mine
local macro_rules | `(tactic| walk_at "foc") => `(tactic| first | with_reducible exact Foc.here _ _ | (apply Foc.there; walk_at "foc"))
local macro_rules | `(tactic| walk_at "has") => `(tactic| first | with_reducible exact Has.here _ _ | assumption | (refine Has.there _ ?_; walk_at "has"))
local macro_rules | `(tactic| walk_at "rep") => `(tactic| first | with_reducible exact Rep.here _ _ _ | assumption | (apply Rep.there; walk_at "rep"))
local macro_rules | `(tactic| walk_at "perm") => `(tactic| first | with_reducible exact List.Perm.refl _ | (refine perm_step (by walk_at "foc") ?_; walk_at "perm"))
section
variable {b : Base} {G : Array GenState} {r cs : List Chunk} {s : Shared} {A : Around} {E : Value → Shared → Prop} {env : Env} {vars : List (Str × Value)} {cv : Cv} {ps : List Value}
theorem x_pushT {cs' : Addr → List Chunk} (st : Addr) (tri : List Value) {o : PySem.Expr} {elts : List PySem.Expr} {kk : Nat} {apos tpos cpos epos : Pos} {pl : Sem Bool} {Q : Flow → Shared → Prop} (h : Ok b G (fr env vars cv :: cs) s) (I : In b env)
    (q : (ev env b.gl vars cv 9 o, evs env b.gl vars cv elts, tri.length.ble 1000) = (some (.ref st), some tri, true)) (f : ∀ a, Rep cs (li st ps) (li st (ps ++ [.ref a])) (cs' a)) (hz : ps.length ≤ 100000)
    (k : ∀ a s', Ok b G (fr env vars cv :: tu a tri :: cs' a) s' → Q .next s')
    (he : eval (.Call (.Attribute o "append" apos) [.Tuple elts kk tpos] [] cpos) env = (do
      let ov ← eval o env
      standAt apos.atName
      let (f, first) ← holding [ov] (getMethod ov "append" pl)
      callWith cpos f first (backTo cpos (starEach [.Tuple elts kk tpos] env)) []) := by with_unfolding_all rfl)
    (hi : interactive env = false := by with_unfolding_all rfl) (hs : swapsWith (.Call (.Attribute o "append" apos) [.Tuple elts kk tpos] [] cpos) none epos.line env = pure false := by with_unfolding_all rfl) :
    wpAny b.M A (exec (.Expr (.Call (.Attribute o "append" apos) [.Tuple elts kk tpos] [] cpos) epos) env) Q E s := by
  simp only [Prod.mk.injEq] at q
  obtain ⟨q1, q2, q3⟩ := q
  refine wpAny_Expr_any (PyProof.Rows.MethodCall_ (x_ref st h I q1 fun s1 h1 => m_list (ps := ps) h1 (.there _ (f 0).has) PySem.F.slot_list_append PySem.F.type_list_append ?_) he) hi hs
  refine PyProof.Rows.callWith_method1 ?_
  refine sp_cons (x_tupleP tri h1 I (by rw [q2, q3]) fun a s2 h2 => sp_nil ?_)
  exact l_append (v := .ref a) (p := .ref a) h2 rfl (.there _ (.there _ (f a))) (Nat.le_trans hz (by decide)) fun s3 h3 => k a s3 h3
theorem x_push {cs' : List Chunk} (st : Addr) (p : Value) {o e : PySem.Expr} {apos cpos epos : Pos} {pl : Sem Bool} {Q : Flow → Shared → Prop} (h : Ok b G (fr env vars cv :: cs) s) (I : In b env)
    (q : (ev env b.gl vars cv 9 o, evs env b.gl vars cv [e]) = (some (.ref st), some [p])) (f : Rep cs (li st ps) (li st (ps ++ [p])) cs') (hz : ps.length ≤ 100000)
    (k : ∀ s', Ok b G (fr env vars cv :: cs') s' → Q .next s')
    (he : eval (.Call (.Attribute o "append" apos) [e] [] cpos) env = (do
      let ov ← eval o env
      standAt apos.atName
      let (f, first) ← holding [ov] (getMethod ov "append" pl)
      callWith cpos f first (backTo cpos (starEach [e] env)) []) := by with_unfolding_all rfl)
    (hi : interactive env = false := by with_unfolding_all rfl) (hs : swapsWith (.Call (.Attribute o "append" apos) [e] [] cpos) none epos.line env = pure false := by with_unfolding_all rfl) :
    wpAny b.M A (exec (.Expr (.Call (.Attribute o "append" apos) [e] [] cpos) epos) env) Q E s := by
  refine wpAny_Expr_any (x_bm st [p] h I q (fun s' Q' h' k => m_list (ps := ps) h' (.there _ f.has) PySem.F.slot_list_append PySem.F.type_list_append k) (fun us s1 hus h1 => ?_) he) hi hs
  obtain ⟨v1, rfl, hu1⟩ := args1 hus
  exact l_append (v := v1) (p := p) h1 hu1 (.there _ f) (Nat.le_trans hz (by decide)) fun s3 h3 => k s3 h3
theorem x_isIn {e₁ e₂ : PySem.Expr} {whole : Sem Value} {pos : Pos} {o : Int} {l : Addr} {xs : List Int} {Q : Bool → Shared → Prop} (h : Ok b G (fr env vars cv :: cs) s) (I : In b env) (q : (ev env b.gl vars cv 9 e₁, ev env b.gl vars cv 9 e₂) = (some (.int o 0), some (.ref l)))
    (f : Has cs (li l (intL xs))) (k : ∀ s', Ok b G (fr env vars cv :: cs) s' → Q (xs.contains o) s') (hb : behindInMarks .In e₂ = false := by rfl) : wpAny b.M A (isTrue (.Compare e₁ [.In] [e₂] pos) env whole) Q E s := by
  obtain ⟨q1, q2⟩ := Prod.mk.inj q
  exact wpAny_isTrue_Compare1 (x_int o h I q1 fun t s1 h1 => x_ref l h1 I q2 fun s2 h2 => l_in (xs := xs) h2 (.there _ f) (wpAny_truthy_bool (k s2 h2))) hb
theorem x_isNotIn {e₁ e₂ : PySem.Expr} {whole : Sem Value} {pos : Pos} {o : Int} {l : Addr} {xs : List Int} {Q : Bool → Shared → Prop} (h : Ok b G (fr env vars cv :: cs) s) (I : In b env) (q : (ev env b.gl vars cv 9 e₁, ev env b.gl vars cv 9 e₂) = (some (.int o 0), some (.ref l)))
    (f : Has cs (li l (intL xs))) (k : ∀ s', Ok b G (fr env vars cv :: cs) s' → Q (!xs.contains o) s') (hb : behindInMarks .NotIn e₂ = false := by rfl) : wpAny b.M A (isTrue (.Compare e₁ [.NotIn] [e₂] pos) env whole) Q E s := by
  obtain ⟨q1, q2⟩ := Prod.mk.inj q
  exact wpAny_isTrue_Compare1 (x_int o h I q1 fun t s1 h1 => x_ref l h1 I q2 fun s2 h2 => l_notin (xs := xs) h2 (.there _ f) (wpAny_truthy_bool (k s2 h2))) hb
end
theorem intL_snoc (xs : List Int) (x : Int) : intL xs ++ [.int x 0] = intL (xs ++ [x]) := by unfold intL; simp
theorem intL_len (xs : List Int) : (intL xs).length = xs.length := List.length_map _
theorem rev_snoc {α : Type} (l F : List α) (x : α) : x :: (l.reverse ++ F) = (l ++ [x]).reverse ++ F := by simp
end Mine
namespace Mine
local macro_rules | `(tactic| walk_at "foc") => `(tactic| first | with_reducible exact Foc.here _ _ | (apply Foc.there; walk_at "foc"))
local macro_rules | `(tactic| walk_at "has") => `(tactic| first | with_reducible exact Has.here _ _ | assumption | (refine Has.there _ ?_; walk_at "has"))
local macro_rules | `(tactic| walk_at "rep") => `(tactic| first | with_reducible exact Rep.here _ _ _ | assumption | (apply Rep.there; walk_at "rep"))
local macro_rules | `(tactic| walk_at "perm") => `(tactic| first | with_reducible exact List.Perm.refl _ | (refine perm_step (by walk_at "foc") ?_; walk_at "perm"))
def clOf (sc : Scope) (env : Env) : List (Str × Addr) := ((sc.names.filter fun p => p.2 == .free).map fun p => (p.1, (env.cells.lookup p.1).getD 0)).reverse
def cvIn (sc : Scope) (cv : Cv) : Cv := cv.filter fun p => sc.names.lookup p.1 == some .free
def cvOut (sc : Scope) (cv : Cv) : Cv := cv.filter fun p => !(sc.names.lookup p.1 == some .free)
abbrev cEnv (sc : Scope) (env : Env) (C : Addr) : Env := compEnvC sc (clOf sc env) C env
def scB (sc : Scope) : Bool := (sc.names.all fun p => p.2 != .cell) && (sc.kind == .function) && (sc.names.all fun p => p.2 != .local || sc.names.lookup p.1 == some .local)
abbrev scOk (sc : Scope) (env : Env) (cvi : Cv) : Prop := (scB sc, cvi.map fun p => (clOf sc env).lookup p.1) = (true, cvi.map fun p => env.cells.lookup p.1)
section
variable {b : Base} {G : Array GenState} {cs cs' r : List Chunk} {s : Shared} {A : Around} {E : Value → Shared → Prop} {env : Env} {vars : List (Str × Value)} {cv cvi cvr : Cv} {sc : Scope} {C : Addr}
theorem Ok.flatPerm (h : Ok b G cs s) (p : cs.flatten.Perm cs'.flatten) : Ok b G cs' s :=
  ⟨⟨h.st.old, fun x hx => h.st.off x (p.mem_iff.mpr hx), (p.map _).nodup_iff.mp h.st.nodup, fun x hx => h.st.at_ x (p.mem_iff.mpr hx)⟩, h.gens, h.os, h.drawn⟩
theorem cells_same (h : scOk sc env cvi) : cellsC (cEnv sc env C) cvi = cellsC env cvi := by
  have h2 := (Prod.mk.inj h).2
  unfold cellsC
  refine List.map_congr_left fun p hp => ?_
  have := List.map_inj_left.mp h2 p hp
  show (((clOf sc env).lookup p.1).getD 0, _) = _
  rw [this]
theorem cv_perm : (cellsC env cv).Perm (cellsC env (cvOut sc cv) ++ cellsC env (cvIn sc cv)) := by
  unfold cellsC cvIn cvOut
  rw [← List.map_append]
  refine List.Perm.map _ ?_
  exact ((List.perm_append_comm).trans (List.filter_append_perm _ _)).symm
theorem Ok.cvsplit (h : Ok b G (fr env vars cv :: cs) s) (x : scOk sc env cvi) (hi : cvIn sc cv = cvi) (hr : cvOut sc cv = cvr) : Ok b G (fr env vars cvr :: cellsC (cEnv sc env C) cvi :: cs) s := by
  subst hi hr
  rw [cells_same x]
  refine h.flatPerm ?_
  simp only [List.flatten_cons, fr, List.cons_append]
  refine List.Perm.cons _ ?_
  rw [← List.append_assoc]
  exact List.Perm.append_right _ cv_perm
theorem Ok.cvjoin (h : Ok b G (fr env vars cvr :: cellsC (cEnv sc env C) cvi :: cs) s) (x : scOk sc env cvi) (hi : cvIn sc cv = cvi) (hr : cvOut sc cv = cvr) : Ok b G (fr env vars cv :: cs) s := by
  subst hi hr
  rw [cells_same x] at h
  refine h.flatPerm ?_
  simp only [List.flatten_cons, fr, List.cons_append]
  refine List.Perm.cons _ ?_
  rw [← List.append_assoc]
  exact (List.Perm.append_right _ cv_perm).symm
theorem fr_cells {env' : Env} {vars' : List (Str × Value)} (h : Ok b G (pt env'.locals (nsP vars') :: cellsC env' cvi :: cs) s) : Ok b G (fr env' vars' cvi :: cs) s := h.unframe
theorem x_comp (cv : Cv) {e : PySem.Expr} {pos : Pos} {newAcc first : Sem Value} {g : Comprehension} {gs : List Comprehension} {Q : Value → Shared → Prop} (cvi cvr : Cv) (gd : b.Good)
    (hcl : clausesOf e = g :: gs) (hs : ∀ x, foldedSetIterable g.iter env x = pure x) (hclos : closureFor sc env = pure (clOf sc env)) (hx : scOk sc env cvi) (hcv : (cvIn sc cv, cvOut sc cv) = (cvi, cvr))
    (h : wpAny b.M A first (fun x s₁ => wpAny b.M A (pyIter x) (fun it s₂ => wpAny b.M A newAcc (fun acc s₃ => ∃ vars cs, Ok b G (fr env vars cv :: cs) s₃ ∧
      ∀ C s₄, Ok b G (fr (cEnv sc env C) [] cvi :: fr env vars cvr :: cs) s₄ → codeAny b.M A (.compStart e 0 it acc (cEnv sc env C)) (fun r s₅ => match r with
        | .ok _ => ∃ vars' cs', Ok b G (fr (cEnv sc env C) vars' cvi :: fr env vars cvr :: cs') s₅ ∧ ∀ s₆, Ok b G (fr env vars cv :: cs') s₆ → Q acc s₆
        | .error _ => False) s₄) E s₂) E s₁) E s) :
    wpAny b.M A (comprehension e sc env pos newAcc false first) Q E s := by
  obtain ⟨hi, hr⟩ := Prod.mk.inj hcv
  have hx' := (Prod.mk.inj hx).1
  unfold scB at hx'
  simp only [Bool.and_eq_true] at hx'
  obtain ⟨⟨h1, h2⟩, h3⟩ := hx'
  have hcell : ∀ y ∈ sc.names, y.2 ≠ .cell := fun y hy => by simpa using List.all_eq_true.mp h1 y hy
  have hkind : sc.kind = .function := by simpa using h2
  have hnames : ∀ y ∈ sc.names, y.2 = .local → sc.names.lookup y.1 = some .local := fun y hy hl => by
    have := List.all_eq_true.mp h3 y hy
    rw [hl] at this
    simpa using this
  refine wpAny_comprehension_free (use := none) hcl hs hclos hkind hnames (wpAny_mono h (fun x s₁ h₁ => wpAny_mono h₁ (fun it s₂ h₂ => wpAny_mono h₂ (fun acc s₃ h₃ => ?_) fun _ _ e => e) fun _ _ e => e) fun _ _ e => e)
  obtain ⟨vars, cs, h₃, k⟩ := h₃
  refine wpAny_newFunctionEnv hcell (by intro y hy; simp at hy) (fun h' hn hsb => ?_) hkind
  have hk : ∀ b o, s₃.heap.get? b = some o → h'.get? b = some o := fun b o e => hsb.extBut b o (Nat.ne_of_lt (Heap.lt_size e)) (Heap.get?_push_of_some _ e)
  have h4 : Ok b G (pt s₃.heap.objs.size (nsP []) :: fr env vars cv :: cs) { s₃ with heap := h', toks := s₃.toks + ([] : List (Str × Value)).length } :=
    h₃.enter hk (Nat.le_refl _) (nsP_of_ns hn fun y v q => by cases q)
  have h5 := (h4.swap.cvsplit (C := s₃.heap.objs.size) hx hi hr).perm (cs' := pt s₃.heap.objs.size (nsP []) :: cellsC (cEnv sc env s₃.heap.objs.size) cvi :: fr env vars cvr :: cs) (by walk_at "perm")
  refine codeAny_mono (k s₃.heap.objs.size _ (fr_cells (env' := cEnv sc env s₃.heap.objs.size) h5)) fun r s₅ hr' => ?_
  cases r with
  | error x => exact hr'.elim
  | ok f =>
    obtain ⟨vars', cs', h₅, kq⟩ := hr'
    have h6 := h₅.frame
    obtain ⟨o, e, hp⟩ := h6.st.get
    obtain ⟨m, N, _⟩ := frame_ns hp e
    refine ⟨m, N, fun h'' hs'' => kq _ ?_⟩
    have h7 : Ok b G (cellsC (cEnv sc env s₃.heap.objs.size) cvi :: fr env vars cvr :: cs') { s₅ with heap := h'', toks := s₅.toks } := Ok.lose h6 (.here _ _) hs''.extBut
    exact h7.swap.cvjoin hx hi hr
theorem x_inC (gd : b.Good) (I : In b env) (hk : (cEnv sc env C).scope.kind = .function) : In b (cEnv sc env C) := ⟨gd, hk, I.env.globals, I.env.builtins⟩
end
end Mine
namespace Mine
local macro_rules | `(tactic| walk_at "foc") => `(tactic| first | with_reducible exact Foc.here _ _ | (apply Foc.there; walk_at "foc"))
local macro_rules | `(tactic| walk_at "has") => `(tactic| first | with_reducible exact Has.here _ _ | assumption | (refine Has.there _ ?_; walk_at "has"))
local macro_rules | `(tactic| walk_at "rep") => `(tactic| first | with_reducible exact Rep.here _ _ _ | assumption | (apply Rep.there; walk_at "rep"))
local macro_rules | `(tactic| walk_at "perm") => `(tactic| first | with_reducible exact List.Perm.refl _ | (refine perm_step (by walk_at "foc") ?_; walk_at "perm"))
section
variable {b : Base} {G : Array GenState} {cs cs' r : List Chunk} {s : Shared} {A : Around} {E : Value → Shared → Prop} {env env' : Env} {R : Result → Shared → Prop} {it acc : Value}
abbrev tests (ifs : List PySem.Expr) (env : Env) : Sem Bool := forIn ifs true fun c r => if r = true then do let ok ← isTrue c env (eval c env); pure (ForInStep.yield ok) else pure (ForInStep.yield r)
theorem t_nil {Q : Bool → Shared → Prop} (h : Q true s) : wpAny b.M A (tests [] env) Q E s := wpAny_tests_nil h
theorem t_one {c : PySem.Expr} {Q : Bool → Shared → Prop} (h : wpAny b.M A (isTrue c env (eval c env)) Q E s) : wpAny b.M A (tests [c] env) Q E s := wpAny_tests_one h
theorem lc_run {elt target iter : PySem.Expr} {ifs : List PySem.Expr} {sc : Scope} {pos : Pos} (Inv : List Value → Shared → Prop)
    (self : ∀ vs s (Q : Value → Shared → Prop), Inv vs s → Q it s → wpAny b.M A (pyIter it) Q (notedBy b.M A env' fun e s' => R (.error e) s') s)
    (item : ∀ v vs s, Inv (v :: vs) s → wpAny b.M A (pyNext it) (fun r s₁ => ∃ u, r = some u ∧ wpAny b.M A (letOwnedTupleGo target it u) (fun _ s₁ => wpAny b.M A (assign target env' u) (fun _ s₂ => wpAny b.M A (tests ifs env') (fun ok s₃ =>
      if ok = true then wpAny b.M A (eval elt env') (fun x s₄ => wpAny b.M A (call (.builtin "list.append") [acc, x]) (fun _ s₅ => Inv vs s₅) (notedBy b.M A env' fun e s' => R (.error e) s') s₄) (notedBy b.M A env' fun e s' => R (.error e) s') s₃
      else Inv vs s₃) (notedBy b.M A env' fun e s' => R (.error e) s') s₂) (notedBy b.M A env' fun e s' => R (.error e) s') s₁) (notedBy b.M A env' fun e s' => R (.error e) s') s₁) (notedBy b.M A env' fun e s' => R (.error e) s') s)
    (done : ∀ s, Inv [] s → wpAny b.M A (pyNext it) (fun r s₁ => r = none ∧ R (.ok .next) s₁) (notedBy b.M A env' fun e s' => R (.error e) s') s) {vs : List Value} (h : Inv vs s) :
    codeAny b.M A (.compStart (.ListComp elt [⟨target, iter, ifs, 0⟩] sc pos) 0 it acc env') R s := by
  have loop : ∀ s, Inv vs s → codeAny b.M A (.compLoop (.ListComp elt [⟨target, iter, ifs, 0⟩] sc pos) 0 it acc env') R s := fun s h => by
    refine codeAny_loop rfl (fun n s => ∃ vs, vs.length = n ∧ Inv vs s) (fun n s ⟨vs, hn, hI⟩ => ?_) vs.length ⟨vs, rfl, h⟩
    show wpAny _ A ((compTurn (.ListComp elt [⟨target, iter, ifs, 0⟩] sc pos) 0 it acc env').onRaise (fun x => do noteFrame x env'; theTreesLotGoes x)) _ _ s
    refine wpAny_noted ?_
    rw [compTurn_list]
    refine wpAny_bind (wpAny_standAt (wpAny_bind ?_))
    cases vs with
    | nil =>
      refine wpAny_mono (done s hI) (fun r s₁ ⟨hr, h₁⟩ => ?_) fun _ _ e => e
      subst hr; exact wpAny_pure h₁
    | cons v vs =>
      refine wpAny_mono (item v vs s hI) (fun r s₁ ⟨u, hr, h₁⟩ => ?_) fun _ _ e => e
      subst hr
      have hlt : vs.length < n := by rw [← hn]; simp
      refine wpAny_bind (wpAny_mono h₁ (fun _ s₁ h₁ => wpAny_bind (wpAny_mono h₁ (fun _ s₂ h₂ => wpAny_bind (wpAny_mono h₂ (fun ok s₃ h₃ => ?_) fun _ _ h' => h')) fun _ _ h' => h')) fun _ _ h' => h')
      cases ok with
      | false => exact wpAny_pure ⟨rfl, _, hlt, vs, rfl, h₃⟩
      | true => exact wpAny_bind (wpAny_bind (wpAny_mono h₃ (fun x s₄ h₄ => wpAny_bind (wpAny_mono h₄ (fun _ s₅ h₅ => wpAny_pure (wpAny_pure ⟨rfl, _, hlt, vs, rfl, h₅⟩)) fun _ _ h' => h')) fun _ _ h' => h'))
  exact codeAny_compStart_list (loop s h) (self vs s _ h (loop s h))
theorem dc_run {kx vx target iter : PySem.Expr} {ifs : List PySem.Expr} {sc : Scope} {pos : Pos} {D : Addr} (Inv : List Value → Shared → Prop)
    (self : ∀ vs s (Q : Value → Shared → Prop), Inv vs s → Q it s → wpAny b.M A (pyIter it) Q (notedBy b.M A env' fun e s' => R (.error e) s') s)
    (item : ∀ v vs s, Inv (v :: vs) s → wpAny b.M A (pyNext it) (fun r s₁ => ∃ u, r = some u ∧ wpAny b.M A (letOwnedTupleGo target it u) (fun _ s₁ => wpAny b.M A (assign target env' u) (fun _ s₂ => wpAny b.M A (tests ifs env') (fun ok s₃ =>
      if ok = true then wpAny b.M A (eval kx env') (fun kv s₄ => wpAny b.M A (eval vx env') (fun vv s₅ => wpAny b.M A (dictSet D kv vv) (fun _ s₅ => Inv vs s₅) (notedBy b.M A env' fun e s' => R (.error e) s') s₅) (notedBy b.M A env' fun e s' => R (.error e) s') s₄) (notedBy b.M A env' fun e s' => R (.error e) s') s₃
      else Inv vs s₃) (notedBy b.M A env' fun e s' => R (.error e) s') s₂) (notedBy b.M A env' fun e s' => R (.error e) s') s₁) (notedBy b.M A env' fun e s' => R (.error e) s') s₁) (notedBy b.M A env' fun e s' => R (.error e) s') s)
    (done : ∀ s, Inv [] s → wpAny b.M A (pyNext it) (fun r s₁ => r = none ∧ R (.ok .next) s₁) (notedBy b.M A env' fun e s' => R (.error e) s') s) {vs : List Value} (h : Inv vs s) :
    codeAny b.M A (.compStart (.DictComp kx vx [⟨target, iter, ifs, 0⟩] sc pos) 0 it (.ref D) env') R s := by
  have loop : ∀ s, Inv vs s → codeAny b.M A (.compLoop (.DictComp kx vx [⟨target, iter, ifs, 0⟩] sc pos) 0 it (.ref D) env') R s := fun s h => by
    refine codeAny_loop rfl (fun n s => ∃ vs, vs.length = n ∧ Inv vs s) (fun n s ⟨vs, hn, hI⟩ => ?_) vs.length ⟨vs, rfl, h⟩
    show wpAny _ A ((compTurn (.DictComp kx vx [⟨target, iter, ifs, 0⟩] sc pos) 0 it (.ref D) env').onRaise (fun x => do noteFrame x env'; theTreesLotGoes x)) _ _ s
    refine wpAny_noted ?_
    rw [compTurn_dict]
    refine wpAny_bind (wpAny_standAt (wpAny_bind ?_))
    cases vs with
    | nil =>
      refine wpAny_mono (done s hI) (fun r s₁ ⟨hr, h₁⟩ => ?_) fun _ _ e => e
      subst hr; exact wpAny_pure h₁
    | cons v vs =>
      refine wpAny_mono (item v vs s hI) (fun r s₁ ⟨u, hr, h₁⟩ => ?_) fun _ _ e => e
      subst hr
      have hlt : vs.length < n := by rw [← hn]; simp
      refine wpAny_bind (wpAny_mono h₁ (fun _ s₁ h₁ => wpAny_bind (wpAny_mono h₁ (fun _ s₂ h₂ => wpAny_bind (wpAny_mono h₂ (fun ok s₃ h₃ => ?_) fun _ _ h' => h')) fun _ _ h' => h')) fun _ _ h' => h')
      cases ok with
      | false => exact wpAny_pure ⟨rfl, _, hlt, vs, rfl, h₃⟩
      | true =>
        exact wpAny_bind (wpAny_bind (wpAny_mono h₃ (fun kv s₄ h₄ => wpAny_bind (wpAny_holding (wpAny_mono h₄ (fun vv s₅ h₅ => wpAny_bind (wpAny_standAt (wpAny_holding (wpAny_mono h₅ (fun _ s₆ h₆ => wpAny_pure ⟨rfl, _, hlt, vs, rfl, h₆⟩) fun _ _ h' => h')))) fun _ _ h' => h'))) fun _ _ h' => h'))
  exact codeAny_compStart_dict (loop s h) (self vs s _ h (loop s h))
theorem own_name {x : Str} {px : Pos} {u : Value} {Q : Unit → Shared → Prop} (h : Q () s) : wpAny b.M A (letOwnedTupleGo (.Name x px) it u) Q E s := wpAny_pure h
theorem own_lit {it l : Addr} {ps vs : List Value} {T : PySem.Expr} {u : Value} {Q : Unit → Shared → Prop} (h : Ok b G cs s) (f : Has cs (lit it l ps vs)) (k : Q () s) : wpAny b.M A (letOwnedTupleGo T (.ref it) u) Q E s := by
  obtain ⟨o, e, i, hc, hd, -⟩ := h.has f
  have go : wpAny b.M A (do
      let (.ref r, .ref a) := (Value.ref it, u) | return
      let o ← load r
      match o.cls, o.data with
      | .type n, .fields vs =>
        if ["enumerate", "zip", "dict_itemiterator", "dict_reverseitemiterator", "odict_iterator", "itertools.zip_longest", "itertools.pairwise"].contains n && vs[0]? == some (rawInt a) then
          rule "for.unpacks-the-owned-tuple"
          updateField r 0 .none
      | _, _ => pure () : Sem Unit) Q E s := by
    cases u <;> first | exact wpAny_pure k | skip
    refine wpAny_bind (wpAny_load e ?_)
    rw [hc, hd]
    refine wpAny_ite ?_
    rw [if_neg (by simp)]
    exact wpAny_pure k
  unfold letOwnedTupleGo
  cases T <;> first | exact go | exact wpAny_pure k
theorem d_set {d a : Addr} {ks : List (Int × Addr)} {ep : Nat} {k : Int} {t : Tok} {cs' : Nat → List Chunk} {Q : Unit → Shared → Prop} (h : Ok b G cs s) (f : ∀ ep', Rep cs (di b d ks ep) (di b d (sto ks k a) ep') (cs' ep')) (hz : ks.length ≤ sizeLine) (q : ∀ ep' s', Ok b G (cs' ep') s' → Q () s') : wpAny b.M A (dictSet d (.int k t) (.ref a)) Q E s := by
  refine wpAny_dictSet_pairs (hsz := by rw [kv_len]; exact hz) (intKind_is b.prog b.w _ _) (h.dictAt (f 0).has).dictOf fun h' hm hs => ?_
  rw [kv_stored] at hm
  obtain ⟨ep', hq⟩ := diP_of hm
  exact q ep' _ (h.rep (t := s.toks + 1) (f ep') hs hq)
theorem for_goT {env : Env} {target : PySem.Expr} {body orelse : List Stmt} {it : Value} {R : Result → Shared → Prop} (Inv : List Value → Shared → Prop)
    (item : ∀ v vs s, Inv (v :: vs) s → wpAny b.M A (pyNext it) (fun r s₁ => ∃ u, r = some u ∧ wpAny b.M A (letOwnedTupleGo target it u) (fun _ s₁ => wpAny b.M A (assign target env u) (fun _ s₂ => wpAny b.M A (execs body env) (fun f s₃ => match f with
        | .next | .cont => Inv vs s₃ | .brk => R (.ok .next) s₃ | .ret v => R (.ok (.ret v)) s₃) (notedBy b.M A env fun e s' => R (.error e) s') s₂) (notedBy b.M A env fun e s' => R (.error e) s') s₁) (notedBy b.M A env fun e s' => R (.error e) s') s₁) (notedBy b.M A env fun e s' => R (.error e) s') s)
    (done : ∀ s, Inv [] s → wpAny b.M A (pyNext it) (fun r s₁ => r = none ∧ wpAny b.M A (execs orelse env) (fun f s₃ => R (.ok f) s₃) (notedBy b.M A env fun e s' => R (.error e) s') s₁) (notedBy b.M A env fun e s' => R (.error e) s') s)
    {vs : List Value} (h : Inv vs s) : codeAny b.M A (.forLoop target it body orelse env) R s := by
  refine codeAny_loop' rfl (fun n s => ∃ vs, vs.length = n ∧ Inv vs s) (fun n s ⟨vs, hn, hI⟩ => ?_) vs.length ⟨vs, rfl, h⟩
  show wpAny _ A ((forTurn target it body orelse env).onRaise (fun x => do noteFrame x env; theTreesLotGoes x)) _ _ s
  refine wpAny_noted ?_
  simp only [forTurn]
  cases vs with
  | nil =>
    refine wpAny_bind (wpAny_standAt (wpAny_bind (wpAny_onRaise (wpAny_mono (done s hI) (fun r s₁ ⟨hr, h₁⟩ => ?_) fun _ _ h' => wpAny_standAt h'))))
    subst hr; exact wpAny_pure (.inr ⟨rfl, codeAny_block h₁⟩)
  | cons v vs =>
    refine wpAny_bind (wpAny_standAt (wpAny_bind (wpAny_onRaise (wpAny_mono (item v vs s hI) (fun r s₁ ⟨u, hr, h₁⟩ => ?_) fun _ _ h' => wpAny_standAt h'))))
    subst hr
    have hlt : vs.length < n := by rw [← hn]; simp
    refine wpAny_bind (wpAny_mono h₁ (fun _ s₁ h₁ => wpAny_bind (wpAny_mono h₁ (fun _ s₂ h₂ => wpAny_bind (wpAny_mono h₂ (fun f s₃ h₃ => ?_) fun _ _ h' => h')) fun _ _ h' => h')) fun _ _ h' => h')
    cases f with
    | next => exact wpAny_pure (.inl ⟨rfl, _, hlt, vs, rfl, h₃⟩)
    | cont => exact wpAny_pure (.inl ⟨rfl, _, hlt, vs, rfl, h₃⟩)
    | brk => exact wpAny_pure h₃
    | ret v => exact wpAny_pure h₃
end
end Mine
namespace Mine
local macro_rules | `(tactic| walk_at "foc") => `(tactic| first | with_reducible exact Foc.here _ _ | (apply Foc.there; walk_at "foc"))
local macro_rules | `(tactic| walk_at "has") => `(tactic| first | with_reducible exact Has.here _ _ | assumption | (refine Has.there _ ?_; walk_at "has"))
local macro_rules | `(tactic| walk_at "rep") => `(tactic| first | with_reducible exact Rep.here _ _ _ | assumption | (apply Rep.there; walk_at "rep"))
local macro_rules | `(tactic| walk_at "perm") => `(tactic| first | with_reducible exact List.Perm.refl _ | (refine perm_step (by walk_at "foc") ?_; walk_at "perm"))
open PySem.SeqAt PySem.MeetsSeq
section
variable {b : Base} {G : Array GenState} {cs cs' r : List Chunk} {s : Shared} {A : Around} {E : Value → Shared → Prop} {l l' : Addr} {xs ys : List Int} {d u : Nat}
theorem Ok.isList {ps : List Value} (h : Ok b G cs s) (f : Has cs (li l ps)) : ∃ vs : List Value, s.heap.IsList l vs.toArray ∧ vs.map untok = ps := by
  obtain ⟨vs, n, e, q⟩ := h.list f
  exact ⟨vs, ⟨_, e, rfl, n, rfl⟩, q⟩
theorem Ok.isTuple {ps : List Value} (h : Ok b G cs s) (f : Has cs (tu l ps)) : ∃ vs : List Value, s.heap.IsTuple l vs.toArray ∧ vs.map untok = ps := by
  obtain ⟨vs, n, e, q⟩ := h.tup f
  exact ⟨vs, ⟨_, e, rfl, n, rfl⟩, q⟩
theorem ints_at {vs : List Value} (q : vs.map untok = intL xs) {j : Nat} (h1 : j < vs.toArray.size) : ∃ t, vs.toArray[j] = .int (xs[j]?.getD 0) t := by
  have hl : vs.length = xs.length := by rw [← List.length_map (f := untok), q, List.length_map]
  have h1' : j < vs.length := by simpa using h1
  have hx : j < xs.length := by omega
  have e : (vs.map untok)[j]? = (intL xs)[j]? := by rw [q]
  unfold intL at e
  rw [List.getElem?_map, List.getElem?_map, List.getElem?_eq_getElem h1', List.getElem?_eq_getElem hx] at e
  obtain ⟨t, ht⟩ := untok_int (Option.some.inj e)
  exact ⟨t, by simp [hx, ht]⟩
theorem all_eq_ints {vs us : List Value} (q : vs.map untok = intL xs) (q' : us.map untok = intL ys) (hs : vs.toArray.size = us.toArray.size) : ((List.range vs.toArray.size).all fun j => xs[j]?.getD 0 == ys[j]?.getD 0) = (xs == ys) := by
  have hl : vs.length = xs.length := by rw [← List.length_map (f := untok), q, List.length_map]
  have hl' : us.length = ys.length := by rw [← List.length_map (f := untok), q', List.length_map]
  have hs' : xs.length = ys.length := by simp only [List.size_toArray] at hs; omega
  rw [Bool.eq_iff_iff, List.all_eq_true, beq_iff_eq]
  constructor
  · intro h
    apply List.ext_getElem hs'
    intro j h1 h2
    have := h j (by simp; omega)
    simpa [h1, h2] using this
  · rintro rfl j _; simp
theorem rc_ints (h : Ok b G cs s) (f : Has cs (li l (intL xs))) (f' : Has cs (li l' (intL ys))) (hu : A.units < cLine) : RcAt A s (.ref l) (.ref l') (xs == ys) := by
  obtain ⟨vs, H, q⟩ := h.isList f
  obtain ⟨us, H', q'⟩ := h.isList f'
  have hl : vs.length = xs.length := by rw [← List.length_map (f := untok), q, List.length_map]
  have hl' : us.length = ys.length := by rw [← List.length_map (f := untok), q', List.length_map]
  by_cases hs : vs.toArray.size = us.toArray.size
  · rw [← all_eq_ints q q' hs]
    refine RcAt.lists H H' hs hu fun j h1 h2 => ?_
    obtain ⟨t, e⟩ := ints_at q h1
    obtain ⟨t', e'⟩ := ints_at q' h2
    rw [e, e']
    exact (EqGives.int _ _ _ _).at _ _
  · have e : (xs == ys) = false := by
      rw [beq_eq_false_iff_ne]; rintro rfl; exact hs (by simp; omega)
    rw [e]
    exact RcAt.lists_lengths H H' (by simpa using hs) hu
theorem rcn_ints (h : Ok b G cs s) (f : Has cs (li l (intL xs))) (f' : Has cs (li l' (intL ys))) (hu : A.units < cLine) : RcNeAt A s (.ref l) (.ref l') (!(xs == ys)) := by
  obtain ⟨vs, H, q⟩ := h.isList f
  obtain ⟨us, H', q'⟩ := h.isList f'
  have hl : vs.length = xs.length := by rw [← List.length_map (f := untok), q, List.length_map]
  have hl' : us.length = ys.length := by rw [← List.length_map (f := untok), q', List.length_map]
  by_cases hs : vs.toArray.size = us.toArray.size
  · rw [← all_eq_ints q q' hs]
    refine RcNeAt.lists H H' hs hu fun j h1 h2 => ?_
    obtain ⟨t, e⟩ := ints_at q h1
    obtain ⟨t', e'⟩ := ints_at q' h2
    rw [e, e']
    exact (EqGives.int _ _ _ _).at _ _
  · have e : (xs == ys) = false := by
      rw [beq_eq_false_iff_ne]; rintro rfl; exact hs (by simp; omega)
    rw [e]
    exact RcNeAt.lists_lengths H H' (by simpa using hs) hu
theorem c_eq_ints {Q : Value → Shared → Prop} (h : Ok b G cs s) (f : Has cs (li l (intL xs))) (f' : Has cs (li l' (intL ys))) (hu : A.units < cLine) (k : Q (.bool (xs == ys)) s) : wpAny b.M A (compareOp .Eq (.ref l) (.ref l')) Q E s := rc_ints h f f' hu _ _ _ _ k
theorem c_ne_ints {Q : Value → Shared → Prop} (h : Ok b G cs s) (f : Has cs (li l (intL xs))) (f' : Has cs (li l' (intL ys))) (hu : A.units < cLine) (k : Q (.bool (!(xs == ys))) s) : wpAny b.M A (compareOp .NotEq (.ref l) (.ref l')) Q E s := rcn_ints h f f' hu _ _ _ _ k
theorem all_true (n : Nat) : ((List.range n).all fun _ => true) = true := by rw [List.all_eq_true]; intro _ _; rfl
theorem Items.at {τ : Type} {it : Item τ} {ts : List τ} {ps : List Value} {chs : List Chunk} (h : Items it ts ps chs) : ∀ {j : Nat} {p : Value}, ps[j]? = some p → ∃ t v c, ts[j]? = some t ∧ untok v = p ∧ c ∈ chs ∧ it t v c := by
  induction h with
  | nil => intro j p e; simp at e
  | @cons t ts v vs c cs hi _ ih =>
    intro j p e
    cases j with
    | zero => simp at e; exact ⟨t, v, c, rfl, e, List.mem_cons_self, hi⟩
    | succ j =>
      obtain ⟨t', v', c', h1, h2, h3, h4⟩ := ih (j := j) (p := p) (by simpa using e)
      exact ⟨t', v', c', by simpa using h1, h2, List.mem_cons_of_mem _ h3, h4⟩
theorem rows_at {rs : List Trow} {ps qs : List Value} {c₁ c₂ : List Chunk} (h : Ok b G cs s) (i₁ : Items rowI rs ps c₁) (i₂ : Items rowI rs qs c₂) (w₁ : HasAll c₁ cs) (w₂ : HasAll c₂ cs) (hu : A.units + 1 < cLine)
    {vs us : List Value} (q : vs.map untok = ps) (q' : us.map untok = qs) {j : Nat} (h1 : j < vs.toArray.size) (h2 : j < us.toArray.size) : EqAt A.in1 s vs.toArray[j] us.toArray[j] true := by
  have h1' : j < vs.length := by simpa using h1
  have h2' : j < us.length := by simpa using h2
  obtain ⟨t, v, c, e1, e2, e3, a, rfl, rfl⟩ := i₁.at (j := j) (p := untok vs[j]) (by rw [← q]; simp [h1'])
  obtain ⟨t', v', c', e1', e2', e3', a', rfl, rfl⟩ := i₂.at (j := j) (p := untok us[j]) (by rw [← q']; simp [h2'])
  rw [e1] at e1'
  cases e1'
  have ev : vs.toArray[j] = .ref a := by simpa using untok_ref e2.symm
  have eu : us.toArray[j] = .ref a' := by simpa using untok_ref e2'.symm
  rw [ev, eu]
  by_cases hne : a = a'
  · subst hne; exact EqAt.same _
  · obtain ⟨ws, H, p⟩ := h.isTuple (w₁ _ e3)
    obtain ⟨ws', H', p'⟩ := h.isTuple (w₂ _ e3')
    obtain ⟨x1, x2, x3, rfl, a1, a2, a3⟩ := args3 p
    obtain ⟨y1, y2, y3, rfl, b1, b2, b3⟩ := args3 p'
    obtain ⟨_, rfl⟩ := untok_int a1; obtain ⟨_, rfl⟩ := untok_int a2; obtain ⟨_, rfl⟩ := untok_str a3
    obtain ⟨_, rfl⟩ := untok_int b1; obtain ⟨_, rfl⟩ := untok_int b2; obtain ⟨_, rfl⟩ := untok_str b3
    refine EqAt.of_refs hne ?_
    have := RcAt.tuples (A := A.in1) (e := fun _ => true) H H' hu fun j g1 g2 => ?_
    · simpa [all_true] using this
    · match j, g1 with
      | 0, _ => simpa using (EqGives.int t.1 t.1 _ _).at _ _
      | 1, _ => simpa using (EqGives.int t.2.1 t.2.1 _ _).at _ _
      | 2, _ => simpa using (PySem.SeqRoads2.EqGives.str t.2.2 t.2.2 _ _).at _ _
      | n + 3, g => exact absurd g (by simp)
theorem c_ne_rows {rs : List Trow} {ps qs : List Value} {c₁ c₂ : List Chunk} {Q : Value → Shared → Prop} (h : Ok b G cs s) (f : Has cs (li l ps)) (f' : Has cs (li l' qs)) (i₁ : Items rowI rs ps c₁) (i₂ : Items rowI rs qs c₂) (w₁ : HasAll c₁ cs) (w₂ : HasAll c₂ cs)
    (hu : A.units + 1 < cLine) (k : Q (.bool false) s) : wpAny b.M A (compareOp .NotEq (.ref l) (.ref l')) Q E s := by
  obtain ⟨vs, H, q⟩ := h.isList f
  obtain ⟨us, H', q'⟩ := h.isList f'
  have e : vs.length = us.length := by have h1 := congrArg List.length q; have h2 := congrArg List.length q'; rw [List.length_map] at h1 h2; rw [h1, h2, i₁.len, i₂.len]
  have := RcNeAt.lists (A := A) (e := fun _ => true) H H' (by simpa using e) (by omega) fun j h1 h2 => rows_at h i₁ i₂ w₁ w₂ hu q q' h1 h2
  refine this _ _ _ _ ?_
  rw [all_true]
  exact k
end
end Mine
namespace Mine
local macro_rules | `(tactic| walk_at "foc") => `(tactic| first | with_reducible exact Foc.here _ _ | (apply Foc.there; walk_at "foc"))
local macro_rules | `(tactic| walk_at "has") => `(tactic| first | with_reducible exact Has.here _ _ | assumption | (refine Has.there _ ?_; walk_at "has"))
local macro_rules | `(tactic| walk_at "rep") => `(tactic| first | with_reducible exact Rep.here _ _ _ | assumption | (apply Rep.there; walk_at "rep"))
local macro_rules | `(tactic| walk_at "perm") => `(tactic| first | with_reducible exact List.Perm.refl _ | (refine perm_step (by walk_at "foc") ?_; walk_at "perm"))
def srt (ns : List Int) : List Int := ns.mergeSort (fun a b => decide (a ≤ b))
theorem srt_perm (ns : List Int) : (srt ns).Perm ns := List.mergeSort_perm _ _
theorem srt_pw (ns : List Int) : (srt ns).Pairwise (· ≤ ·) := by
  have := List.pairwise_mergeSort (le := fun (a b : Int) => decide (a ≤ b)) (fun a b c h1 h2 => by simp at *; omega) (fun a b => by simp; omega) ns
  exact this.imp fun h => by simpa using h
theorem srt_eq {ns ns' : List Int} (h : ns'.Perm ns) (p : ns'.Pairwise (· ≤ ·)) : ns' = srt ns :=
  List.Perm.eq_of_pairwise (le := (· ≤ ·)) (fun _ _ _ _ h1 h2 => Int.le_antisymm h1 h2) p (srt_pw ns) (h.trans (srt_perm ns).symm)
theorem srt_congr {ns ns' : List Int} (h : ns'.Perm ns) : srt ns' = srt ns := srt_eq ((srt_perm ns').trans h) (srt_pw ns')
theorem srt_len (ns : List Int) : (srt ns).length = ns.length := (srt_perm ns).length_eq
def srtB (b : Bool) (ns : List Int) : List Int := if b then (srt ns).reverse else srt ns
theorem srtB_perm (b : Bool) (ns : List Int) : (srtB b ns).Perm ns := by
  cases b
  · exact srt_perm ns
  · exact (List.reverse_perm _).trans (srt_perm ns)
theorem srtB_congr {b : Bool} {ns ns' : List Int} (h : ns'.Perm ns) : srtB b ns' = srtB b ns := by unfold srtB; rw [srt_congr h]
theorem srtB_len (b : Bool) (ns : List Int) : (srtB b ns).length = ns.length := (srtB_perm b ns).length_eq
theorem srtB_eq {b : Bool} {ns ns' : List Int} (h : ns'.Perm ns) (p : Ordered b ns') : ns' = srtB b ns := by
  cases b with
  | false => exact srt_eq h p
  | true =>
    have p' : ns'.Pairwise (· ≥ ·) := p
    have h2 : ns'.reverse = srt ns := srt_eq ((List.reverse_perm _).trans h) (by rw [List.pairwise_reverse]; exact p')
    show ns' = (srt ns).reverse
    rw [← h2, List.reverse_reverse]
theorem intsAre_iff : ∀ {vs : List Value} {ns : List Int}, vs.map untok = intL ns → IntsAre vs ns
  | [], [], _ => .nil
  | [], _ :: _, h => by cases h
  | _ :: _, [], h => by cases h
  | v :: vs, n :: ns, h => by
    have h' : untok v :: vs.map untok = .int n 0 :: intL ns := h
    injection h' with h1 h2
    obtain ⟨t, rfl⟩ := untok_int h1
    exact .cons n t (intsAre_iff h2)
theorem of_intsAre {vs : List Value} {ns : List Int} (h : IntsAre vs ns) : vs.map untok = intL ns := by
  induction h with
  | nil => rfl
  | cons n t _ ih => show untok _ :: List.map untok _ = .int n 0 :: intL _; rw [ih]; rfl
theorem items_int {ts : List Int} {vals : List Value} {chs : List Chunk} (h : Items intI ts vals chs) : vals = intL ts ∧ ∀ c ∈ chs, c = [] := by
  induction h with
  | nil => exact ⟨rfl, fun _ h => by cases h⟩
  | @cons t ts v vs c cs hi _ ih =>
    have hi' : untok v = .int t 0 ∧ c = [] := hi
    obtain ⟨h1, h2⟩ := hi'
    refine ⟨by show untok _ :: _ = .int _ 0 :: intL _; rw [h1, ih.1], fun c hc => ?_⟩
    rcases List.mem_cons.mp hc with rfl | hc
    · exact h2
    · exact ih.2 c hc
section
variable {b : Base} {G : Array GenState} {cs cs' F : List Chunk} {s : Shared} {A : Around} {E : Value → Shared → Prop} {l it d : Addr} {ns : List Int}
theorem Ok.nils {chs : List Chunk} {c : Chunk} (h : Ok b G (c :: (chs.reverse ++ F)) s) (hn : ∀ x ∈ chs, x = []) : Ok b G (c :: F) s := by
  refine h.flatPerm ?_
  have : chs.reverse.flatten = [] := List.flatten_eq_nil_iff.mpr fun x hx => hn x (List.mem_reverse.mp hx)
  simp [this]
theorem l_sort {bb : Bool} {kw : List (Str × Value)} {Q : Value → Shared → Prop} (hk : (kw = [] ∧ bb = false) ∨ kw = [(Str.ofString "reverse", .bool bb)]) (h : Ok b G cs s) (f : Rep cs (li l (intL ns)) (li l (intL (srtB bb ns))) cs') (hl : ns.length < 64)
    (k : ∀ s', Ok b G cs' s' → Q .none s') : wpAny b.M A (call (.builtin "list.sort") [.ref l] kw) Q E s := by
  obtain ⟨vs, n, hoL, q⟩ := h.list f.has
  have hI := intsAre_iff q
  have hlen : vs.length = ns.length := by rw [← List.length_map (f := untok), q, List.length_map]
  have fin : ∀ (out : Array Value) (ns' : List Int), IntsAre out.toList ns' → ns'.Perm ns → Ordered bb ns' → Q .none { s with heap := sortedHeap s.heap l vs out } := by
    intro out ns' a1 a2 a3
    refine k _ ?_
    obtain ⟨e, he⟩ := sortedHeap_at (out := out) hoL
    have := srtB_eq a2 a3
    subst this
    exact Ok.repx (t := s.toks) h f (fun x o hx ho => (sortedHeap_old hx (Heap.lt_size ho)).trans ho) ⟨_, he, out.toList, e, rfl, of_intsAre a1⟩
  rcases hk with ⟨rfl, rfl⟩ | rfl
  · exact wpAny_call_entry slot_list_sort ⟨_, hoL, rfl⟩ entry_list_sort (list_sort_tree hoL hI (by omega) fun out ns' a1 a2 a3 => ⟨_, rfl, fin out ns' a1 a2 a3⟩) (args_list_sort _)
  · exact wpAny_call_entry_kw slot_list_sort ⟨_, hoL, rfl⟩ entry_list_sort (list_sort_tree_rev hoL hI (by omega) fun out ns' a1 a2 a3 => ⟨_, rfl, fin out ns' a1 a2 a3⟩) (args_list_sort_rev _ _)
theorem x_sorted {bb : Bool} {kw : List (Str × Value)} {x : Value} {Q : Value → Shared → Prop} (hk : (kw = [] ∧ bb = false) ∨ kw = [(Str.ofString "reverse", .bool bb)])
    (h : wpAny b.M A.in1 (collect x) (fun vs s₁ => ∃ cs ns, vs.map untok = intL ns ∧ ns.length < 64 ∧ Ok b G cs s₁ ∧ ∀ l s₂, Ok b G (li l (intL (srtB bb ns)) :: cs) s₂ → Q (.ref l) s₂) E s) :
    wpAny b.M A (call (.builtin "sorted") [x] kw) Q E s := by
  have main : wpAny b.M A.in1 (collect x >>= fun vs => newList vs >>= fun l => holding [l] (call (.builtin "list.sort") [l] kw) >>= fun _ => ret l) (fun f s' => ∃ v, f = .done (.ret v) ∧ Q v s') E s := by
    refine wpAny_bind (wpAny_mono h (fun vs s₁ ⟨cs, ns, hv, hl, h₁, k⟩ => ?_) fun _ _ e => e)
    have hlen : vs.length = ns.length := by rw [← List.length_map (f := untok), hv, List.length_map]
    refine wpAny_bind (wpAny_newList ?_ (by rw [hlen, sizeLine_eq]; omega))
    have h2 : Ok b G (li s₁.heap.objs.size (intL ns) :: cs) { s₁ with heap := s₁.heap.push { cls := .type "list", data := .seq vs.toArray }, toks := s₁.toks } := l_new' h₁ hv
    exact wpAny_bind (wpAny_holding (l_sort hk h2 (.here _ _ _) hl fun s' h' => wpAny_pure ⟨_, rfl, k _ _ h'⟩))
  rcases hk with ⟨rfl, rfl⟩ | rfl
  · exact Calls.call_function_entry kind_sorted plain_sorted entry_sorted (args_sorted1 _) (wpAny_bind (m := checkCount "sorted" 1 1 _) (wpAny_pure main))
  · exact call_function_entry_kw kind_sorted plain_sorted entry_sorted (args_sorted_rev _ _) (wpAny_bind (m := checkCount "sorted" 1 1 _) (wpAny_pure main))
theorem c_list {Q : List Value → Shared → Prop} (h : Ok b G cs s) (f : Has cs (li l (intL ns))) (hz : ns.length ≤ 1000) (k : ∀ vs s', vs.map untok = intL ns → Ok b G cs s' → Q vs s') : wpAny b.M A (collect (.ref l)) Q E s := by
  obtain ⟨vs, H, q⟩ := h.isList f
  have hlen : vs.length = ns.length := by rw [← List.length_map (f := untok), q, List.length_map]
  refine collect_list (hsz := by rw [hlen, sizeLine_eq]; omega) H (k vs _ q (h.keeps (t := s.toks) fun x o e => ?_))
  rw [Heap.get?_update_ne _ _ _ _ (Nat.ne_of_lt (Heap.lt_size e))]
  exact Heap.get?_push_of_some _ e
theorem dki_no_len : typeLookup (.type "dict_keyiterator") (Str.ofString "__len__") = pure none := by rw [typeLookup_type, builtinLookup_eq_fast]; kernel_rfl
theorem dki_sub : isSubtype (.type "dict_keyiterator") (.type "dict_keyiterator") = pure true := by rw [isSubtype_type]; kernel_rfl
theorem hint_dki {Q : Bool → Shared → Prop} (hT : s.TypeIs (.ref it) "dict_keyiterator") (k : Q false s) : wpAny b.M A (Builtin.List.listLengthHint (.ref it)) Q E s := by
  unfold Builtin.List.listLengthHint
  refine wpAny_bind (wpAny_specialOf hT dki_no_len ?_)
  show wpAny _ _ (specialOf (Value.ref it) (Str.ofString "__length_hint__") >>= _) _ _ _
  refine wpAny_bind (wpAny_specialOf hT PySem.F.slot_dict_keyiterator_length_hint.lookup ?_)
  have e : splitId "dict_keyiterator.__length_hint__" = some ("dict_keyiterator", "__length_hint__") := by decide +kernel
  simp only [e]
  refine wpAny_bind (wpAny_isInstance hT dki_sub ?_)
  simp only [Bool.not_true, Bool.false_eq_true, if_false]
  refine wpAny_ite_split (fun _ => ?_) (fun hn => absurd (by decide +kernel) hn)
  exact wpAny_pure k
theorem it_strm {c : List Value → Chunk} {W : List Chunk → Prop} {G0 : Array GenState} (I : IsIter b (.ref it) c W) (hWm : ∀ x F, W F → W (x :: F)) (hh : HH b A) :
    Strm b A W intI it (fun ts G D => G = G0 ∧ D = c (intL ts)) (fun G z => G = G0 ∧ z = []) where
  next := by
    rintro G F D s E t ts Q h w ⟨rfl, rfl⟩ k
    exact I.next (vs := intL ts) h (.here _ _ _) (hWm _ _ w) fun u s' hu h' => k u [] _ _ s' ⟨hu, rfl⟩ ⟨rfl, rfl⟩ h'.nilc
  done := by
    rintro G F D s E Q h w ⟨rfl, rfl⟩ k
    exact I.done hh h (.here _ _) (hWm _ _ w) fun s' h' => k _ [] s' ⟨rfl, rfl⟩ h'.nilc
theorem c_iter {c : List Value → Chunk} {W : List Chunk → Prop} {Q : List Value → Shared → Prop} (hh : HH b A) (I : IsIter b (.ref it) c W) (hWm : ∀ x F, W F → W (x :: F))
    (self : ∀ {cs : List Chunk} {s : Shared} {A : Around} {E : Value → Shared → Prop} {Q : Value → Shared → Prop}, Ok b G cs s → Has cs (c (intL ns)) → Q (.ref it) s → wpAny b.M A (pyIter (.ref it)) Q E s)
    (hT : ∀ {cs : List Chunk} {s : Shared}, Ok b G cs s → Has cs (c (intL ns)) → s.TypeIs (.ref it) "dict_keyiterator") (hne : ∀ {l ps cs} {s : Shared}, Ok b G (li l ps :: c (intL ns) :: cs) s → l ≠ it)
    (h : Ok b G (c (intL ns) :: F) s) (w : W F) (hz : ns.length ≤ 1000) (k : ∀ vs s', vs.map untok = intL ns → Ok b G F s' → Q vs s') : wpAny b.M A (collect (.ref it)) Q E s := by
  unfold collect
  refine wpAny_bind (wpAny_runValue (codeAny_builtin entry_proto_collect' ?_))
  rw [Around.under_plainId PySem.F.plain_proto_collect _]
  show wpAny _ A.in1 (newList [] >>= fun l => again (.builtin "list.__iadd__" ⟨[l, .ref it], []⟩)) _ _ s
  refine wpAny_bind (wpAny_newList ?_ (by rw [sizeLine_eq]; decide))
  have h1 : Ok b G (li s.heap.objs.size [] :: c (intL ns) :: F) { s with heap := s.heap.push { cls := .type "list", data := .seq ([] : List Value).toArray }, toks := s.toks } := l_new' h rfl
  refine wpAny_pure ⟨plainId_quiet PySem.F.plain_list_iadd _, codeAny_builtin entry_list_iadd' ?_⟩
  rw [Around.under_plainId PySem.F.plain_list_iadd _]
  revert h1
  generalize s.heap.objs.size = S
  generalize ({ s with heap := s.heap.push { cls := .type "list", data := .seq ([] : List Value).toArray }, toks := s.toks } : Shared) = s1
  intro h1
  show wpAny _ A.in1 (Builtin.List.listExtendWith (.ref S) (.ref it) (.ref S)) _ _ s1
  unfold Builtin.List.listExtendWith
  have hty := hT h1 (.there _ (.here _ _))
  refine wpAny_bind (wpAny_typeOf hty ?_)
  have e1 : Builtin.List.listSameRef (.ref S) (.ref it) = false := by simp [Builtin.List.listSameRef, hne h1]
  have e2 : (Value.type "dict_keyiterator" == Value.type "list") = false := by decide
  have e3 : (Value.type "dict_keyiterator" == Value.type "tuple") = false := by decide
  simp only [e1, e2, e3, Bool.or_false, Bool.false_eq_true, if_false]
  refine wpAny_bind (self h1 (.there _ (.here _ _)) ?_)
  refine wpAny_bind (wpAny_holding (hint_dki hty ?_))
  have loop : codeAny b.M A (.builtin "list.extend.loop" ⟨[.ref S, .ref it, .ref S], []⟩) (fun r s' => match r with
      | .ok (.ret v) => wpAny b.M A (match v with | .ref a => (do let o ← load a; match o.data with | .seq xs _ => pure xs.toList | _ => unsupported "internal:collect" : Sem (List Value)) | _ => unsupported "internal:collect") Q E s'
      | .ok _ => False | .error e => E e s') s1 := by
    refine extend_gen (.ref S) hWm (it_strm (G0 := G) (A := A.in1) I hWm hh) ns h1 w ⟨rfl, rfl⟩ (by simp; omega) fun vals chs G' z s' hI hd h' => ?_
    obtain ⟨e1, e2⟩ := items_int hI
    subst e1
    obtain ⟨rfl, rfl⟩ := hd
    obtain ⟨vs, n, e, q⟩ := (h'.nils e2).list (.here _ _)
    show wpAny _ _ (load S >>= _) _ _ _
    refine wpAny_bind (wpAny_load e ?_)
    exact wpAny_pure (k vs _ (by simpa using q) (h'.nils e2).drop.drop)
  refine wpAny_ite_split (fun hc => absurd hc (by decide +kernel)) (fun _ => ?_)
  exact wpAny_pure ⟨plainId_quiet PySem.F.plain_extend_loop _, codeAny_mono loop fun r s' hr => hr⟩
end
end Mine
namespace Mine
local macro_rules | `(tactic| walk_at "foc") => `(tactic| first | with_reducible exact Foc.here _ _ | (apply Foc.there; walk_at "foc"))
local macro_rules | `(tactic| walk_at "has") => `(tactic| first | with_reducible exact Has.here _ _ | assumption | (refine Has.there _ ?_; walk_at "has"))
local macro_rules | `(tactic| walk_at "rep") => `(tactic| first | with_reducible exact Rep.here _ _ _ | assumption | (apply Rep.there; walk_at "rep"))
local macro_rules | `(tactic| walk_at "perm") => `(tactic| first | with_reducible exact List.Perm.refl _ | (refine perm_step (by walk_at "foc") ?_; walk_at "perm"))
section
variable {b : Base} {G : Array GenState} {cs cs' F : List Chunk} {s : Shared} {A : Around} {E : Value → Shared → Prop} {env : Env} {vars : List (Str × Value)} {cv : Cv}
theorem kwall_ev : ∀ (kws : List Keyword) {pos : Pos} {s : Shared} {vs : List Value} {Q : List Value → Shared → Prop}, Ok b G (fr env vars cv :: cs) s → In b env → evs env b.gl vars cv (kws.map (·.value)) = some vs →
    (∀ us s', us.map untok = vs → Ok b G (fr env vars cv :: cs) s' → Q us s') → wpAny b.M A (evalAll ((backToKw pos (keywordEach kws env)).map (·.2))) Q E s
  | [], pos, s, vs, Q, h, I, q, k => by
    cases q
    exact wpAny_evalAll_nil (k [] s rfl h)
  | ⟨n, e, p⟩ :: r, pos, s, vs, Q, h, I, q, k => by
    have q : evs env b.gl vars cv (e :: r.map (·.value)) = some vs := q
    simp only [evs] at q
    cases hs : isStar e with
    | true => rw [hs] at q; cases q
    | false =>
      rw [hs] at q
      simp only [Bool.false_eq_true, if_false] at q
      cases hv : ev env b.gl vars cv 9 e with
      | none => rw [hv] at q; cases q
      | some v =>
        cases hw : evs env b.gl vars cv (r.map (·.value)) with
        | none => rw [hv, hw] at q; cases q
        | some ws =>
          rw [hv, hw] at q
          cases q
          show wpAny b.M A (evalAll ((do let v ← eval e env; standAt pos; pure v) :: (backToKw pos (keywordEach r env)).map (·.2))) Q E s
          exact wpAny_evalAll_cons (wpAny_bind (ev_sound' 9 e hv h I fun u s' hu h' => wpAny_bind (wpAny_standAt (wpAny_pure (kwall_ev r h' I hw fun us s'' hus h'' => k (u :: us) s'' (by rw [List.map_cons, hu, hus]) h'')))))
theorem x_callk (vs kvs : List Value) {nm : List Str} {f : Addr} {fd : FuncData} {body : List Stmt} {x : Str} {np pos : Pos} {e : PySem.Expr} {es : List PySem.Expr} {kws : List Keyword} {Q : Value → Shared → Prop} (h : Ok b G (fr env vars cv :: cs) s) (I : In b env)
    (D : IsDef b f fd body) (q : (ev env b.gl vars cv 9 (.Name x np), evs env b.gl vars cv (e :: es), evs env b.gl vars cv (kws.map (·.value))) = (some (.ref f), some vs, some kvs))
    (k : ∀ us ks s', us.map untok = vs → ks.map untok = kvs → Ok b G (fr env vars cv :: cs) s' → wpAny b.M A (call (.ref f) us (nm.zip ks)) Q E s')
    (hn : (backToKw pos (keywordEach kws env)).filterMap (·.1) = nm := by rfl) (hall : (backToKw pos (keywordEach kws env)).all (·.1.isSome) = true := by rfl)
    (hst : starEach (e :: es) env = (false, eval e env) :: starEach es env := by rfl) : wpAny b.M A (eval (.Call (.Name x np) (e :: es) kws pos) env) Q E s := by
  simp only [Prod.mk.injEq] at q
  obtain ⟨q1, q2, q3⟩ := q
  obtain ⟨o, ho, hd⟩ := D.at_
  refine wpAny_Call_Name_kw (ev_sound' 9 _ q1 h I fun u s' hu h' => ?_)
  rw [untok_ref hu]
  refine callWith_def_kw (o := o) (fd := fd) hd (evalArgs_kw2 hall (spliced_ev _ h' I q2 fun us s2 hus h2 => kwall_ev kws h2 I q3 fun ks s3 hks h3 => ⟨h3.old D.off ho, ?_⟩) hst)
  rw [hn]
  exact k us ks s3 hus hks h3
theorem x_callbk (i : String) (vs kvs : List Value) {nm : List Str} {x : Str} {np pos : Pos} {e : PySem.Expr} {es : List PySem.Expr} {kws : List Keyword} {Q : Value → Shared → Prop} (h : Ok b G (fr env vars cv :: cs) s) (I : In b env)
    (q : (ev env b.gl vars cv 9 (.Name x np), evs env b.gl vars cv (e :: es), evs env b.gl vars cv (kws.map (·.value))) = (some (.builtin i), some vs, some kvs))
    (k : ∀ us ks s', us.map untok = vs → ks.map untok = kvs → Ok b G (fr env vars cv :: cs) s' → wpAny b.M A (call (.builtin i) us (nm.zip ks)) Q E s')
    (hn : (backToKw pos (keywordEach kws env)).filterMap (·.1) = nm := by rfl) (hall : (backToKw pos (keywordEach kws env)).all (·.1.isSome) = true := by rfl) (hkw : (backToKw pos (keywordEach kws env)).any (·.1.isNone) = false := by rfl)
    (hst : backTo pos (starEach (e :: es) env) = (false, eval e env) :: backTo pos (starEach es env) := by rfl) : wpAny b.M A (eval (.Call (.Name x np) (e :: es) kws pos) env) Q E s := by
  simp only [Prod.mk.injEq] at q
  obtain ⟨q1, q2, q3⟩ := q
  refine wpAny_Call_Name_kw (ev_sound' 9 _ q1 h I fun u s' hu h' => ?_)
  rw [untok_builtin hu]
  refine callWith_kw (spliced_ev _ h' I q2 fun us s2 hus h2 => kwall_ev kws h2 I q3 fun ks s3 hks h3 => ?_) hst (plain_any q2) hall hkw
  rw [hn]
  exact k us ks s3 hus hks h3
end
end Mine
namespace Mine
local macro_rules | `(tactic| walk_at "foc") => `(tactic| first | with_reducible exact Foc.here _ _ | (apply Foc.there; walk_at "foc"))
local macro_rules | `(tactic| walk_at "has") => `(tactic| first | with_reducible exact Has.here _ _ | assumption | (refine Has.there _ ?_; walk_at "has"))
local macro_rules | `(tactic| walk_at "rep") => `(tactic| first | with_reducible exact Rep.here _ _ _ | assumption | (apply Rep.there; walk_at "rep"))
local macro_rules | `(tactic| walk_at "perm") => `(tactic| first | with_reducible exact List.Perm.refl _ | (refine perm_step (by walk_at "foc") ?_; walk_at "perm"))
section
variable {w : World} {h₁ : Heap} {X : List Addr} {os : OsState} {dr : Drawn} {G : Array GenState} {cs cs' F : List Chunk} {s : Shared} {A : Around} {E : Value → Shared → Prop} {x gd a C na aa : Addr} {d u : Nat} {fs : List (Str × Addr)} {nodes : List (Int × Addr)} {rows : List Row} {en ea : Nat} {L : Addr} {lim : Int}
  {Z : Chunk → Prop} {sn : Value} {tb : Chunk} {ch : Int → List Int} {nb : Addr} {src dl : Option Int} {rs : List Trow}
structure WalkOk (w : World) (h₁ : Heap) (X : List Addr) (os : OsState) (dr : Drawn) (x gd na aa C : Addr) (fs : List (Str × Addr)) (nodes : List (Int × Addr)) (en : Nat) (rows : List Row) (ea : Nat) (nb : Addr) (Z : Chunk → Prop) (sn : Value) (tb : Chunk) (ch : Int → List Int) (src dl : Option Int) (rs : List Trow) : Prop where
  kd : Kd na aa C fs nb
  mkg : ∀ (L : Addr) (Ws : List Chunk), (∀ c ∈ grW (BB w h₁ X os dr) x C gd fs na aa nodes en rows ea, c ∈ Ws) → MkGc w h₁ X os dr Ws Z L x sn tb ch (fun n => n ∈ rows.map (·.key))
  hnk : nodes.map (·.1) = rows.map (·.key)
  nd : (rows.map (·.key)).Nodup
  hz : nodes.length ≤ 1000
  hcl : ∀ n ∈ rows.map (·.key), ∀ m ∈ ch n, m ∈ rows.map (·.key)
  hs : ∀ n, src = some n → n ∈ rows.map (·.key)
  hgo : Go ch (limOf nodes dl) (.O [] (startsOf nodes src)) rs
  len : rs.length ≤ 100000
theorem mid_perm {α : Type} (l : List α) (a b c : α) (F : List α) : (a :: (l ++ b :: c :: F)).Perm (c :: a :: (l ++ b :: F)) := by
  have h1 : (l ++ b :: c :: F).Perm (c :: (l ++ b :: F)) := by
    have e1 : l ++ b :: c :: F = (l ++ [b]) ++ c :: F := by simp
    have e2 : l ++ b :: F = (l ++ [b]) ++ F := by simp
    rw [e1, e2]; exact List.perm_middle
  exact (List.Perm.cons _ h1).trans (List.Perm.swap _ _ _)
theorem lab_list (g : (BB w h₁ X os dr).Good) (K : WalkOk w h₁ X os dr x gd na aa C fs nodes en rows ea nb Z sn tb ch src dl rs) {us : List Value} {kw : List (Str × Value)} {v1 v2 v3 : Value} {Q : Value → Shared → Prop}
    (hb : peek (BB w h₁ X os dr).K ⟨(BB w h₁ X os dr).prog, (BB w h₁ X os dr).w.params⟩ (bindArgs fd_dfs ⟨us, kw⟩) = some [(("G" : Str), Value.ref x), (("source" : Str), v1), (("depth_limit" : Str), v2), (("sort_neighbors" : Str), v3)]) (hv1 : untok v1 = srcV src) (hv2 : untok v2 = srcV dl) (hv3 : untok v3 = sn)
    (Fi : Fit (BB w h₁ X os dr) A (d + 20) (u + 40)) (h : Ok (BB w h₁ X os dr) G (tb :: F) s) (hG : AllFin G) (hWF : HasAll (grW (BB w h₁ X os dr) x C gd fs na aa nodes en rows ea) F)
    (k : ∀ S vals chs G' z s', Items rowI rs vals chs → AllFin G' → Z z → Ok (BB w h₁ X os dr) G' (li S vals :: (chs.reverse ++ z :: F)) s' → Q (.ref S) s') : wpAny (BB w h₁ X os dr).M A (call (.ref A_dfs) us kw) (fun v s₁ => wpAny (BB w h₁ X os dr).M A (call (.type "list") [v]) Q E s₁) E s := by
  refine dfs_call g v1 v2 v3 h Fi hb hv1 hv2 hv3 fun ga L s1 h1 => ?_
  have hW : ∀ c ∈ grW (BB w h₁ X os dr) x C gd fs na aa nodes en rows ea, c ∈ go ga G.size :: grW (BB w h₁ X os dr) x C gd fs na aa nodes en rows ea := fun c hc => List.mem_cons_of_mem _ hc
  have h2 : Ok (BB w h₁ X os dr) (G.push (.fresh (.func DB (env0 L)))) ((fr (env0 L) [("source", srcV src), ("depth_limit", srcV dl)] (cv0 x sn) ++ tb) :: go ga G.size :: F) s1 := Ok.unapp (h1.perm (cs' := fr (env0 L) [("source", srcV src), ("depth_limit", srcV dl)] (cv0 x sn) :: tb :: go ga G.size :: F) (by walk_at "perm"))
  have hWF' : HasAll (go ga G.size :: grW (BB w h₁ X os dr) x C gd fs na aa nodes en rows ea) (go ga G.size :: F) := fun c hc => by
    rcases List.mem_cons.mp hc with rfl | hc
    · exact .here _ _
    · exact .there _ (hWF c hc)
  have S := gen_strm (b := (BB w h₁ X os dr)) (A := A.in1.in1) (W := HasAll (go ga G.size :: grW (BB w h₁ X os dr) x C gd fs na aa nodes en rows ea)) (it := rowI) (a := ga) (n := G.size) (Z := Z) (d := d + 15) (u := u + 30) g (Fit.in1 (Fit.in1 (Fi.mono (by omega) (by omega)))) hG rfl fun F w => w _ List.mem_cons_self
  refine list_gen (ts := rs) (fun c F w => w.there) h2 (.here _ _) hWF' S ⟨_, rfl, dfs_gen g (K.mkg L _ hW) K.kd hW K.hnk K.nd K.hz K.hcl K.hs (d := d) (u := u) (Fit.in1 (Fit.in1 (Fit.in1 (Fi.mono (by omega) (by omega))))) K.hgo⟩ K.len fun S vals chs G' z s' hI hd h3 => ?_
  exact k S vals chs G' z s' hI hd.1 hd.2 (h3.perm (mid_perm _ _ _ _ _)).drop
theorem fitX (L C : Addr) (code : Value) (ga : Addr) (F : Fit (BB w h₁ X os dr) A (d + 1) (u + 4)) : Fit (BB w h₁ X os dr) (AX A L C code ga) d u := Fit.in1 (over_fit (x := 1) (y := 3) (F.mono (d' := d + 1) (u' := u + 1 + 3) (by omega) (by omega)) rfl (by kernel_rfl))
theorem post_list (g : (BB w h₁ X os dr).Good) (K : WalkOk w h₁ X os dr x gd na aa C fs nodes en rows ea nb Z sn tb ch src dl rs) {us : List Value} {kw : List (Str × Value)} {v1 v2 v3 : Value} {Q : Value → Shared → Prop}
    (hb : peek (BB w h₁ X os dr).K ⟨(BB w h₁ X os dr).prog, (BB w h₁ X os dr).w.params⟩ (bindArgs fd_post ⟨us, kw⟩) = some [(("G" : Str), Value.ref x), (("source" : Str), v1), (("depth_limit" : Str), v2), (("sort_neighbors" : Str), v3)]) (hv1 : untok v1 = srcV src) (hv2 : untok v2 = srcV dl) (hv3 : untok v3 = sn)
    (Fi : Fit (BB w h₁ X os dr) A (d + 30) (u + 60)) (h : Ok (BB w h₁ X os dr) G (ct T_post #[] :: tb :: F) s) (hG : AllFin G) (hWF : HasAll (grW (BB w h₁ X os dr) x C gd fs na aa nodes en rows ea) F)
    (k : ∀ S G' z s', AllFin G' → Z z → Ok (BB w h₁ X os dr) G' (li S (intL (revs rs)) :: ct T_post #[] :: z :: F) s' → Q (.ref S) s') : wpAny (BB w h₁ X os dr).M A (call (.ref A_post) us kw) (fun v s₁ => wpAny (BB w h₁ X os dr).M A (call (.type "list") [v]) Q E s₁) E s := by
  have D := D_post g
  have Dd := D_dfs g
  refine call_fn _ [("G", .ref x), ("source", untok v1), ("depth_limit", untok v2), ("sort_neighbors", untok v3)] [] h g (d := d + 29) (u := u + 57) (Fi.mono (by omega) (by omega)) D hb (by kernel_rfl) (by intro z; kernel_rfl) (by intro z; kernel_rfl) (fun _ => ⟨rfl, List.nodup_nil⟩) fun A' L s1 F' h1 => ?_
  rw [hv1, hv2, hv3] at h1
  have I := D.inEnv g L
  show wpAny _ _ (execs (_ :: _) _) _ _ _
  refine x_cons (x_asg (x_callk [.ref x] [srcV src, srcV dl, sn] (nm := ["source", "depth_limit", "sort_neighbors"]) h1 I Dd (by kernel_rfl) fun us1 ks s2 hus hks h2 => ?_))
  obtain ⟨u1, rfl, e1⟩ := args1 hus
  obtain ⟨w1, w2, w3, rfl, e2, e3, e4⟩ := args3 hks
  rw [untok_ref e1]
  refine dfs_call (x := x) g w1 w2 w3 h2 F' (by kernel_rfl) e2 e3 e4 fun ga L2 s3 h3 => ?_
  have h3' : Ok (BB w h₁ X os dr) (G.push (.fresh (.func DB (env0 L2)))) (fr (envP L) [("G", .ref x), ("source", srcV src), ("depth_limit", srcV dl), ("sort_neighbors", sn)] [] :: ct T_post #[] :: go ga G.size :: fr (env0 L2) [("source", srcV src), ("depth_limit", srcV dl)] (cv0 x sn) :: tb :: F) s3 := h3.perm (by walk_at "perm")
  refine st_local (p := .ref ga) h3' I rfl (by kernel_rfl) fun s4 h4 => ?_
  show wpAny _ _ (execs (_ :: _) _) _ _ _
  refine x_cons (wpAny_Return_some ?_)
  show wpAny _ _ (eval pE (envP L)) _ _ _
  refine gx_make (a := G.size) g h4 F' (by kernel_rfl) (.here _ _) fun gx CC code s5 h5 => ?_
  have hW : ∀ c ∈ grW (BB w h₁ X os dr) x C gd fs na aa nodes en rows ea, c ∈ grW (BB w h₁ X os dr) x C gd fs na aa nodes en rows ea := fun c hc => hc
  have hn : (G.push (.fresh (.func DB (env0 L2)))).size = G.size + 1 := Array.size_push ..
  rw [hn] at h5
  show wpAny _ _ (call (.type "list") [.ref gx]) _ _ _
  have h6 : Ok (BB w h₁ X os dr) ((G.push (.fresh (.func DB (env0 L2)))).push (.fresh (cxS L CC code ga))) (fr (env0 L2) [("source", srcV src), ("depth_limit", srcV dl)] (cv0 x sn) :: tb :: fr (envX L CC code) [(".0", .ref ga)] [] :: go ga G.size :: go gx (G.size + 1) :: ct T_post #[] :: F) s5 := h5.perm (cs' := fr (envP L) _ [] :: fr (env0 L2) [("source", srcV src), ("depth_limit", srcV dl)] (cv0 x sn) :: tb :: fr (envX L CC code) [(".0", .ref ga)] [] :: go ga G.size :: go gx (G.size + 1) :: ct T_post #[] :: F) (by walk_at "perm") |>.drop
  have h7 := (Ok.unapp (c := fr (env0 L2) [("source", srcV src), ("depth_limit", srcV dl)] (cv0 x sn)) h6).perm (cs' := [fr (envX L CC code) [(".0", .ref ga)] [], go ga G.size, fr (env0 L2) [("source", srcV src), ("depth_limit", srcV dl)] (cv0 x sn) ++ tb] ++ (go gx (G.size + 1) :: ct T_post #[] :: F)) (by walk_at "perm")
  have h8 := Ok.flat (pl := [fr (envX L CC code) [(".0", .ref ga)] [], go ga G.size, fr (env0 L2) [("source", srcV src), ("depth_limit", srcV dl)] (cv0 x sn) ++ tb]) h7
  have FA : Fit (BB w h₁ X os dr) A.in1.in1.in1 (d + 20) (u + 40) := Fit.in1 (Fit.in1 (Fit.in1 (Fi.mono (by omega) (by omega))))
  have S := gx_strm (A := A.in1.in1) (Ws := grW (BB w h₁ X os dr) x C gd fs na aa nodes en rows ea) (Z := Z) (L := L) (C := CC) (code := code) (ga := ga) (gx := gx) (d := d + 19) (u := u + 40) g (Fit.in1 (Fit.in1 (Fi.mono (by omega) (by omega)))) hG (HasAll (go gx (G.size + 1) :: grW (BB w h₁ X os dr) x C gd fs na aa nodes en rows ea)) (fun F w c hc => w c (List.mem_cons_of_mem _ hc)) fun F w => w _ List.mem_cons_self
  have hWF' : HasAll (go gx (G.size + 1) :: grW (BB w h₁ X os dr) x C gd fs na aa nodes en rows ea) (go gx (G.size + 1) :: ct T_post #[] :: F) := fun c hc => by
    rcases List.mem_cons.mp hc with rfl | hc
    · exact .here _ _
    · exact .there _ (.there _ (hWF c hc))
  have gdfs := dfs_gen (A := AX A.in1.in1.in1 L CC code ga) g (K.mkg L2 _ hW) K.kd hW K.hnk K.nd K.hz K.hcl K.hs (d := d) (u := u) (fitX L CC code ga (FA.mono (by omega) (by omega))) K.hgo
  have hlen : (revs rs).length ≤ 100000 := Nat.le_trans (List.length_filterMap_le _ _) K.len
  refine list_gen (ts := revs rs) (fun c F w => w.there) h8 (.here _ _) hWF' S ⟨_, _, rs, _, rfl, rfl, rfl, gdfs, gx_start (d := d) (u := u) g (FA.mono (by omega) (by omega)) _⟩ hlen fun S vals chs G' z s' hI hd h3 => ?_
  obtain ⟨e5, e6⟩ := items_int hI
  subst e5
  have h9 := (h3.nils e6).perm (cs' := go gx (G.size + 1) :: li S (intL (revs rs)) :: ct T_post #[] :: z :: F) (by walk_at "perm")
  exact k S G' z s' hd.1 hd.2 h9.drop
end
end Mine
namespace Mine
local macro_rules | `(tactic| walk_at "foc") => `(tactic| first | with_reducible exact Foc.here _ _ | (apply Foc.there; walk_at "foc"))
local macro_rules | `(tactic| walk_at "has") => `(tactic| first | with_reducible exact Has.here _ _ | assumption | (refine Has.there _ ?_; walk_at "has"))
local macro_rules | `(tactic| walk_at "rep") => `(tactic| first | with_reducible exact Rep.here _ _ _ | assumption | (apply Rep.there; walk_at "rep"))
local macro_rules | `(tactic| walk_at "perm") => `(tactic| first | with_reducible exact List.Perm.refl _ | (refine perm_step (by walk_at "foc") ?_; walk_at "perm"))
def updE (dir : Bool) (adj : List (Int × List Int)) (a b : Int) : List (Int × List Int) := if dir then updA adj a b else updA (updA adj a b) b a
def gX (b : Base) (dir : Bool) (g : GS) : List Chunk := match dir with | true => gD b C_DiGraph g | false => gU b C_Graph g
def clX : Bool → Addr | true => C_DiGraph | false => C_Graph
def nbX : Bool → Addr | true => A_D_nbrs | false => A_G_nbrs
def fsX (dir : Bool) (g : GS) : List (Str × Addr) := match dir with
  | true => [("graph", g.ga), ("_node", g.na), ("_adj", g.aa), ("_succ", g.aa), ("_pred", g.pa)]
  | false => [("graph", g.ga), ("_node", g.na), ("_adj", g.aa)]
structure GOk (dir : Bool) (g : GS) (adj : List (Int × List Int)) (N : Nat) : Prop where
  u : dir = false → g.Ok
  d : dir = true → g.OkD
  abs : absR g.rows = adj
  sz : ∀ r ∈ g.rows, r.ks.length ≤ N
  psz : dir = true → ∀ r ∈ g.prows, r.ks.length ≤ N
section
variable {w : World} {h₁ : Heap} {X : List Addr} {os : OsState} {dr : Drawn} {G : Array GenState} {cs cs' F : List Chunk} {s : Shared} {A : Around} {E : Value → Shared → Prop} {d u : Nat} {env : Env} {vars : List (Str × Value)} {cv : Cv} {dir : Bool} {g0 : GS}
theorem kdX : Kd g0.na g0.aa (clX dir) (fsX dir g0) (nbX dir) := by cases dir; exact .U _; exact .D _ _
theorem hasX (c : Chunk) (h : c ∈ grW (BB w h₁ X os dr) g0.x (clX dir) g0.gd (fsX dir g0) g0.na g0.aa g0.nodes g0.en g0.rows g0.ea) : Has (gX (BB w h₁ X os dr) dir g0) c := by
  unfold grW at h
  cases dir with
  | true =>
    show Has (ins g0.x C_DiGraph g0.gd :: idc (BB w h₁ X os dr) g0.gd [("graph", g0.ga), ("_node", g0.na), ("_adj", g0.aa), ("_succ", g0.aa), ("_pred", g0.pa)] :: di (BB w h₁ X os dr) g0.ga [] g0.eg :: di (BB w h₁ X os dr) g0.na g0.nodes g0.en :: di (BB w h₁ X os dr) g0.aa (adjL g0.rows) g0.ea :: di (BB w h₁ X os dr) g0.pa (adjL g0.prows) g0.eq :: (rowsC (BB w h₁ X os dr) g0.rows ++ (rowsC (BB w h₁ X os dr) g0.prows ++ poolC (BB w h₁ X os dr) g0.pool))) c
    rcases List.mem_cons.mp h with rfl | h
    · exact .here _ _
    rcases List.mem_cons.mp h with rfl | h
    · exact .there _ (.here _ _)
    rcases List.mem_cons.mp h with rfl | h
    · exact .there _ (.there _ (.there _ (.here _ _)))
    rcases List.mem_cons.mp h with rfl | h
    · exact .there _ (.there _ (.there _ (.there _ (.here _ _))))
    · unfold rowsC at h
      obtain ⟨r, hr, rfl⟩ := List.mem_map.mp h
      exact .there _ (.there _ (.there _ (.there _ (.there _ (.there _ (.app_left (Has.map (f := fun r : Row => di (BB w h₁ X os dr) r.at_ r.ks r.ep) hr)))))))
  | false =>
    show Has (ins g0.x C_Graph g0.gd :: idc (BB w h₁ X os dr) g0.gd [("graph", g0.ga), ("_node", g0.na), ("_adj", g0.aa)] :: di (BB w h₁ X os dr) g0.ga [] g0.eg :: di (BB w h₁ X os dr) g0.na g0.nodes g0.en :: di (BB w h₁ X os dr) g0.aa (adjL g0.rows) g0.ea :: (rowsC (BB w h₁ X os dr) g0.rows ++ poolC (BB w h₁ X os dr) g0.pool)) c
    rcases List.mem_cons.mp h with rfl | h
    · exact .here _ _
    rcases List.mem_cons.mp h with rfl | h
    · exact .there _ (.here _ _)
    rcases List.mem_cons.mp h with rfl | h
    · exact .there _ (.there _ (.there _ (.here _ _)))
    rcases List.mem_cons.mp h with rfl | h
    · exact .there _ (.there _ (.there _ (.there _ (.here _ _))))
    · unfold rowsC at h
      obtain ⟨r, hr, rfl⟩ := List.mem_map.mp h
      exact .there _ (.there _ (.there _ (.there _ (.there _ (.app_left (Has.map (f := fun r : Row => di (BB w h₁ X os dr) r.at_ r.ks r.ep) hr))))))
theorem x_newG {test : PySem.Expr} {p1 p2 p3 p4 pos : Pos} {Q : Value → Shared → Prop} (h : Ok (BB w h₁ X os dr) G (fr env vars cv :: cs) s) (I : In (BB w h₁ X os dr) env) (F : Fit (BB w h₁ X os dr) A (d + 3) (u + 7)) (q : (ev env GL vars cv 9 test, ev env GL vars cv 9 (.Name "DiGraph" p1), ev env GL vars cv 9 (.Name "Graph" p2)) = (some (.bool dir), some (.ref C_DiGraph), some (.ref C_Graph)))
    (k : ∀ g' s', Ok (BB w h₁ X os dr) G (gX (BB w h₁ X os dr) dir g' ++ (fr env vars cv :: cs)) s' → (dir = false → g'.Ok) → (dir = true → g'.OkD) → g'.rows = [] → Q (.ref g'.x) s') : wpAny (BB w h₁ X os dr).M A (eval (.IfExp test (.Call (.Name "DiGraph" p1) [] [] p3) (.Call (.Name "Graph" p2) [] [] p4) pos) env) Q E s := by
  simp only [Prod.mk.injEq] at q
  obtain ⟨q1, q2, q3⟩ := q
  have g := I.good
  refine PyProof.Rows.IfExp_ (isTrue_of h I q1 rfl fun s1 h1 => ?_)
  cases dir with
  | true =>
    refine wpAny_Call_NameR (x_ref C_DiGraph h1 I q2 fun s2 h2 => callWith_K0 (h2.kin g) (by kernel_rfl) ?_)
    exact D_new g h2 F fun g' s' h' hok hr => k g' s' h' (fun e => by cases e) (fun _ => hok) hr
  | false =>
    refine wpAny_Call_NameR (x_ref C_Graph h1 I q3 fun s2 h2 => callWith_K0 (h2.kin g) (by kernel_rfl) ?_)
    exact G_new g h2 F fun g' s' h' hok hr => k g' s' h' (fun _ => hok) (fun e => by cases e) hr
theorem insX : Has (gX (BB w h₁ X os dr) dir g0 ++ cs) (ins g0.x (clX dir) g0.gd) := .app_left (hasX _ (by simp [grW]))
theorem idcX : Has (gX (BB w h₁ X os dr) dir g0 ++ cs) (idc (BB w h₁ X os dr) g0.gd (fsX dir g0)) := .app_left (hasX _ (by simp [grW]))
def anX : Bool → Addr | true => A_D_add_nodes | false => A_G_add_nodes
def aeX : Bool → Addr | true => A_D_add_edge | false => A_G_add_edge
theorem addN_call (g : (BB w h₁ X os dr).Good) {ns : List Int} {l : Addr} {Q : Value → Shared → Prop} (h : Ok (BB w h₁ X os dr) G (li l (intL ns) :: (gX (BB w h₁ X os dr) dir g0 ++ cs)) s) (F : Fit (BB w h₁ X os dr) A (d + 2) (u + 6)) (hu : dir = false → g0.Ok) (hd : dir = true → g0.OkD) (hr : g0.rows = []) (nd : ns.Nodup) (hz : ns.length ≤ 100)
    (k : ∀ g' s', g'.x = g0.x → Ok (BB w h₁ X os dr) G (li l (intL ns) :: (gX (BB w h₁ X os dr) dir g' ++ cs)) s' → GOk dir g' (ns.map fun n => (n, [])) 0 → Q .none s') : wpAny (BB w h₁ X os dr).M A (call (.ref (anX dir)) [.ref g0.x, .ref l]) Q E s := by
  have emp : ∀ {rows : List Row}, absR rows = ns.map (fun n => (n, [])) → ∀ r ∈ rows, r.ks.length ≤ 0 := by
    intro rows e r hr
    have : (r.key, r.ks.map (·.1)) ∈ absR rows := List.mem_map.mpr ⟨r, hr, rfl⟩
    rw [e] at this
    obtain ⟨n, _, e'⟩ := List.mem_map.mp this
    have := (Prod.mk.inj e').2
    rw [← List.length_map (f := (·.1)), ← this]; exact Nat.le_refl _
  cases dir with
  | true => exact D_add_nodes g h hr (hd rfl) nd hz F fun g' s' h' hok ha hp hx => k g' s' hx h' ⟨fun e => (by cases e), fun _ => hok, ha, emp ha, fun _ => emp hp⟩
  | false => exact U_add_nodes g h hr (hu rfl) nd hz F fun g' s' h' hok ha hx => k g' s' hx h' ⟨fun _ => hok, fun e => (by cases e), ha, emp ha, fun e => (by cases e)⟩
theorem addE_call (g : (BB w h₁ X os dr).Good) {adj : List (Int × List Int)} {a b : Int} {t1 t2 : Tok} {N : Nat} {Q : Value → Shared → Prop} (h : Ok (BB w h₁ X os dr) G (gX (BB w h₁ X os dr) dir g0 ++ cs) s) (hg : GOk dir g0 adj N) (ha : a ∈ adj.map (·.1)) (hb : b ∈ adj.map (·.1)) (hN : N ≤ 1000) (F : Fit (BB w h₁ X os dr) A (d + 2) (u + 6))
    (k : ∀ g' s', g'.x = g0.x → Ok (BB w h₁ X os dr) G (gX (BB w h₁ X os dr) dir g' ++ cs) s' → GOk dir g' (updE dir adj a b) (N + 2) → Q .none s') : wpAny (BB w h₁ X os dr).M A (call (.ref (aeX dir)) [.ref g0.x, .int a t1, .int b t2]) Q E s := by
  obtain ⟨hu, hd, rfl, hs, hp⟩ := hg
  rw [abs_keys] at ha hb
  cases dir with
  | true => exact D_add_edge g h (hd rfl) ha hb hs (hp rfl) hN F fun g' s' h' hok h1 h2 hx h3 h4 => k g' s' hx h' ⟨fun e => (by cases e), fun _ => hok, h1, fun r hr => Nat.le_succ_of_le (h3 r hr), fun _ r hr => Nat.le_succ_of_le (h4 r hr)⟩
  | false => exact U_add_edge g h (hu rfl) ha hb hs hN F fun g' s' h' hok h1 hx h3 => k g' s' hx h' ⟨fun _ => hok, fun e => (by cases e), h1, h3, fun e => (by cases e)⟩
end
end Mine
namespace Mine
local macro_rules | `(tactic| walk_at "foc") => `(tactic| first | with_reducible exact Foc.here _ _ | (apply Foc.there; walk_at "foc"))
local macro_rules | `(tactic| walk_at "has") => `(tactic| first | with_reducible exact Has.here _ _ | assumption | (refine Has.there _ ?_; walk_at "has"))
local macro_rules | `(tactic| walk_at "rep") => `(tactic| first | with_reducible exact Rep.here _ _ _ | assumption | (apply Rep.there; walk_at "rep"))
local macro_rules | `(tactic| walk_at "perm") => `(tactic| first | with_reducible exact List.Perm.refl _ | (refine perm_step (by walk_at "foc") ?_; walk_at "perm"))
def dro (ks : List (Int × Addr)) (k : Int) : List (Int × Addr) := ks.filter fun p => p.1 != k
theorem dro_keys (ks : List (Int × Addr)) (k : Int) : (dro ks k).map (·.1) = (ks.map (·.1)).filter (fun v => v != k) := by
  unfold dro; rw [List.filter_map]; rfl
theorem dro_mem {ks : List (Int × Addr)} {k : Int} {p : Int × Addr} (h : p ∈ dro ks k) : p ∈ ks := (List.mem_filter.mp h).1
theorem dro_len (ks : List (Int × Addr)) (k : Int) : (dro ks k).length ≤ ks.length := List.length_filter_le _ _
theorem kv_without (ks : List (Int × Addr)) (k : Int) : without (kvOf ks) k = kvOf (dro ks k) := by
  unfold without kvOf dro
  rw [List.filter_map]
  congr 1
  refine List.filter_congr fun p _ => ?_
  by_cases e : p.1 = k <;> simp [e]
section
variable {b : Base} {G : Array GenState} {cs cs' r : List Chunk} {s : Shared} {A : Around} {E : Value → Shared → Prop} {d it a : Addr} {ks : List (Int × Addr)} {ep : Nat} {k : Int} {t : Tok} {env : Env}
theorem d_del {cs' : Nat → List Chunk} {Q : Unit → Shared → Prop} (h : Ok b G cs s) (f : ∀ ep', Rep cs (di b d ks ep) (di b d (dro ks k) ep') (cs' ep')) (hk : (ks.lookup k).isSome = true) (hz : ks.length ≤ sizeLine) (q : ∀ ep' s', Ok b G (cs' ep') s' → Q () s') : wpAny b.M A (delItem (.ref d) (.int k t)) Q E s := by
  have hD := (h.dictAt (f 0).has).dictOf
  unfold delItem
  try with_reducible refine wpAny_holding ?_
  refine wpAny_bind (wpAny_sequenceKey hD.typeIs (by decide) ?_)
  refine wpAny_bind (wpAny_callSpecial?_slot (name := Str.ofString "__delitem__") hD.typeIs PySem.F.slot_dict_delitem
    (call_meetsIn PySem.F.slot_dict_delitem hD.typeIs PySem.F.entry_dict_delitem (PySem.F.args_dict_delitem_2 _ _) (meets_dict_delitem_pairs _ d (intKind_is b.prog b.w k _)) ⟨kvOf ks, hD, by rw [kv_len]; exact hz, by rw [kv_at, Option.isSome_map]; exact hk, fun h' hm hs => ?_⟩))
  rw [kv_without] at hm
  obtain ⟨ep', hq⟩ := diP_of hm
  exact wpAny_pure (q ep' _ (h.rep (t := s.toks + 1) (f ep') hs hq))
theorem x_del1 {o i : PySem.Expr} {p pos : Pos} {Q : Flow → Shared → Prop} (h : wpAny b.M A (eval o env) (fun ov s₁ => wpAny b.M A (eval i env) (fun iv s₂ => wpAny b.M A (delItem ov iv) (fun _ => Q .next) E s₂) E s₁) E s) : wpAny b.M A (exec (.Delete [.Subscript o i p] pos) env) Q E s := by
  refine wpAny_Delete ?_
  rw [show deleteEach [.Subscript o i p] env = (do delete (.Subscript o i p) env; deleteEach [] env) from rfl]
  refine wpAny_bind (wpAny_delete_Subscript (wpAny_mono h (fun _ _ h1 => wpAny_mono h1 (fun _ _ h2 => wpAny_mono h2 (fun _ _ h3 => ?_) fun _ _ e => e) fun _ _ e => e) fun _ _ e => e))
  rw [show deleteEach [] env = pure () from rfl]
  exact wpAny_pure h3
end
abbrev Sg := Int × Addr × List (Int × Addr)
def sig (r : Row) : Sg := (r.key, r.at_, r.ks)
def era (n : Int) (us : List Int) (g : Sg) : Sg := if us.contains g.1 then (g.1, g.2.1, dro g.2.2 n) else g
theorem era_key (n : Int) (us : List Int) (g : Sg) : (era n us g).1 = g.1 := by unfold era; split <;> rfl
theorem era_at (n : Int) (us : List Int) (g : Sg) : (era n us g).2.1 = g.2.1 := by unfold era; split <;> rfl
theorem era_mem {n : Int} {us : List Int} {g : Sg} {p : Int × Addr} (h : p ∈ (era n us g).2.2) : p ∈ g.2.2 := by
  unfold era at h; split at h
  · exact dro_mem h
  · exact h
theorem era_len (n : Int) (us : List Int) (g : Sg) : (era n us g).2.2.length ≤ g.2.2.length := by
  unfold era; split
  · exact dro_len _ _
  · exact Nat.le_refl _
theorem dro_dro (ks : List (Int × Addr)) (n : Int) : dro (dro ks n) n = dro ks n := by unfold dro; rw [List.filter_filter]; congr 1; funext p; simp
theorem era_era (n : Int) (us : List Int) (u : Int) (g : Sg) : era n [u] (era n us g) = era n (us ++ [u]) g := by
  unfold era
  by_cases h : us.contains g.1
  · have h2 : (us ++ [u]).contains g.1 = true := by simp at h ⊢; exact .inl h
    rw [if_pos h, if_pos h2]
    split
    · simp only [dro_dro]
    · rfl
  · rw [if_neg h]
    by_cases e : g.1 = u
    · rw [if_pos (by simp [e]), if_pos (by simp [e])]
    · rw [if_neg (by simpa using e), if_neg (by simp at h ⊢; exact ⟨h, e⟩)]
theorem era_nil (n : Int) (g : Sg) : era n [] g = g := rfl
theorem sig_keys (rs : List Row) : rs.map (·.key) = (rs.map sig).map (·.1) := by rw [List.map_map]; rfl
theorem sig_adj (rs : List Row) : adjL rs = (rs.map sig).map (fun g => (g.1, g.2.1)) := by unfold adjL; rw [List.map_map]; rfl
theorem sig_abs (rs : List Row) : absR rs = (rs.map sig).map (fun g => (g.1, g.2.2.map (·.1))) := by unfold absR; rw [List.map_map]; rfl
theorem sig_all {P : Sg → Prop} {rs : List Row} : (∀ r ∈ rs, P (sig r)) ↔ ∀ g ∈ rs.map sig, P g := by simp [List.forall_mem_map]
theorem era_step {rows rows' l1 l2 : List Row} {r : Row} {e : Nat} {m : Int} {us : List Int} (h : rows'.map sig = rows.map (fun r => era m us (sig r))) (hs : rows' = l1 ++ r :: l2) (nd : (rows'.map (·.key)).Nodup) :
    (l1 ++ (⟨r.key, r.at_, dro r.ks m, e⟩ : Row) :: l2).map sig = rows.map (fun x => era m (us ++ [r.key]) (sig x)) := by
  have h1 : rows.map (fun x => era m (us ++ [r.key]) (sig x)) = (rows'.map sig).map (era m [r.key]) := by
    rw [h, List.map_map]
    exact List.map_congr_left fun x _ => (era_era m us r.key (sig x)).symm
  rw [h1, List.map_map, hs]
  rw [hs, List.map_append, List.map_cons, List.nodup_append, List.nodup_cons] at nd
  obtain ⟨-, ⟨n2, -⟩, n3⟩ := nd
  have q : ∀ x : Row, x.key ≠ r.key → sig x = (era m [r.key] ∘ sig) x := fun x hx => by
    show sig x = era m [r.key] (sig x)
    unfold era
    rw [if_neg (by simpa [sig] using hx)]
  rw [List.map_append, List.map_cons, List.map_append, List.map_cons]
  congr 1
  · exact List.map_congr_left fun x hx => q x fun e => n3 _ (List.mem_map.mpr ⟨x, hx, rfl⟩) _ List.mem_cons_self e
  · congr 1
    · show _ = era m [r.key] (sig r)
      unfold era
      rw [if_pos (by simp [sig])]; rfl
    · exact List.map_congr_left fun x hx => q x fun e => n2 (e ▸ List.mem_map.mpr ⟨x, hx, rfl⟩)
def inA (adj : List (Int × List Int)) (a b : Int) : Prop := ∃ ks, (a, ks) ∈ adj ∧ b ∈ ks
theorem inA_row {rs : List Row} {r : Row} {b : Int} (h : r ∈ rs) (hb : b ∈ r.ks.map (·.1)) : inA (absR rs) r.key b := ⟨_, List.mem_map.mpr ⟨r, h, rfl⟩, hb⟩
theorem row_inA {rs : List Row} {r : Row} {b : Int} (nd : (rs.map (·.key)).Nodup) (h : r ∈ rs) (hb : inA (absR rs) r.key b) : b ∈ r.ks.map (·.1) := by
  obtain ⟨ks, hm, hb⟩ := hb
  obtain ⟨r', hr', e⟩ := List.mem_map.mp hm
  obtain ⟨e1, e2⟩ := Prod.mk.inj e
  have : r' = r := by
    have := lookup_of_mem (ks := rs.map fun r => (r.key, r)) (by rw [List.map_map]; exact nd) (List.mem_map.mpr ⟨r', hr', rfl⟩)
    have h2 := lookup_of_mem (ks := rs.map fun r => (r.key, r)) (by rw [List.map_map]; exact nd) (List.mem_map.mpr ⟨r, h, rfl⟩)
    rw [e1, h2] at this
    exact (Option.some.inj this).symm
  subst this
  rw [e2]; exact hb
theorem inA_key {adj : List (Int × List Int)} {a b : Int} (h : inA adj a b) : a ∈ adj.map (·.1) := by
  obtain ⟨ks, hm, _⟩ := h; exact List.mem_map.mpr ⟨_, hm, rfl⟩
def remA (n : Int) (adj : List (Int × List Int)) : List (Int × List Int) := (adj.filter fun p => p.1 != n).map fun p => (p.1, p.2.filter fun v => v != n)
theorem inA_rem {n a b : Int} {adj : List (Int × List Int)} : inA (remA n adj) a b ↔ inA adj a b ∧ a ≠ n ∧ b ≠ n := by
  unfold inA remA
  constructor
  · rintro ⟨ks, hm, hb⟩
    obtain ⟨p, hp, e⟩ := List.mem_map.mp hm
    obtain ⟨e1, e2⟩ := Prod.mk.inj e
    obtain ⟨h1, h2⟩ := List.mem_filter.mp hp
    rw [← e2] at hb
    obtain ⟨h3, h4⟩ := List.mem_filter.mp hb
    rw [e1] at h2
    exact ⟨⟨p.2, by rw [← e1]; exact h1, h3⟩, by simpa using h2, by simpa using h4⟩
  · rintro ⟨⟨ks, hm, hb⟩, h1, h2⟩
    exact ⟨_, List.mem_map.mpr ⟨(a, ks), List.mem_filter.mpr ⟨hm, by simpa using h1⟩, rfl⟩, List.mem_filter.mpr ⟨hb, by simpa using h2⟩⟩
theorem rem_keys (n : Int) (adj : List (Int × List Int)) : (remA n adj).map (·.1) = (adj.map (·.1)).filter (fun v => v != n) := by
  unfold remA; rw [List.map_map, List.filter_map]; rfl
end Mine
namespace Mine
local macro_rules | `(tactic| walk_at "foc") => `(tactic| first | with_reducible exact Foc.here _ _ | (apply Foc.there; walk_at "foc"))
local macro_rules | `(tactic| walk_at "has") => `(tactic| first | with_reducible exact Has.here _ _ | assumption | (refine Has.there _ ?_; walk_at "has"))
local macro_rules | `(tactic| walk_at "rep") => `(tactic| first | with_reducible exact Rep.here _ _ _ | assumption | (apply Rep.there; walk_at "rep"))
local macro_rules | `(tactic| walk_at "perm") => `(tactic| first | with_reducible exact List.Perm.refl _ | (refine perm_step (by walk_at "foc") ?_; walk_at "perm"))
def asgV : Stmt → PySem.Expr | .Assign _ v _ => v | _ => .Constant .none 0 ⟨0, 0, 0, 0⟩
def upto (n : Nat) : List Int := (List.range n).map fun (i : Nat) => (i : Int)
theorem upto_nodup (n : Nat) : (upto n).Nodup := by
  unfold upto
  rw [List.nodup_iff_pairwise_ne, List.pairwise_map]
  exact (List.nodup_iff_pairwise_ne.mp List.nodup_range).imp fun h e => h (by omega)
theorem back1 {α : Type} (P : List α) (a : α) (F : List α) : (P ++ a :: F).Perm (a :: (P ++ F)) := List.perm_middle
theorem back2 {α : Type} (P : List α) (a b : α) (F : List α) : (P ++ a :: b :: F).Perm (a :: b :: (P ++ F)) := (back1 P a _).trans (List.Perm.cons _ (back1 P b _))
theorem back3 {α : Type} (P : List α) (a b c : α) (F : List α) : (P ++ a :: b :: c :: F).Perm (a :: b :: c :: (P ++ F)) := (back2 P a b _).trans (List.Perm.cons _ (List.Perm.cons _ (back1 P c _)))
theorem back4 {α : Type} (P : List α) (a b c e : α) (F : List α) : (P ++ a :: b :: c :: e :: F).Perm (a :: b :: c :: e :: (P ++ F)) := (back3 P a b c _).trans (List.Perm.cons _ (List.Perm.cons _ (List.Perm.cons _ (back1 P e _))))
theorem swapA {α : Type} (P Q F : List α) : (P ++ (Q ++ F)).Perm (Q ++ (P ++ F)) := by
  rw [← List.append_assoc, ← List.append_assoc]
  exact List.Perm.append_right _ List.perm_append_comm
theorem mem_upto {a : Int} {n : Nat} (h0 : 0 ≤ a) (h : a < n) : a ∈ upto n := by
  obtain ⟨m, rfl⟩ := Int.eq_ofNat_of_zero_le h0
  exact List.mem_map.mpr ⟨m, List.mem_range.mpr (by omega), rfl⟩
structure LRow where
  key : Int
  at_ : Addr
  ns : List Int
def lrC (ls : List LRow) : List Chunk := ls.map fun r => li r.at_ (intL r.ns)
def lrK (ls : List LRow) : List (Int × Addr) := ls.map fun r => (r.key, r.at_)
def lrA (ls : List LRow) : List (Int × List Int) := ls.map fun r => (r.key, r.ns)
theorem lrK_keys (ls : List LRow) : (lrK ls).map (·.1) = (lrA ls).map (·.1) := by unfold lrK lrA; rw [List.map_map, List.map_map]; rfl
theorem Rep.right' {l l' : List Chunk} {cs : List Chunk} {c c' : Chunk} (h : Rep l c c' l') : Rep (l ++ cs) c c' (l' ++ cs) := .app_left h
def cmpS (sc : Scope) : PySem.Expr → Scope | .DictComp _ _ _ s _ => s | .ListComp _ _ s _ => s | _ => sc
def cmpG : PySem.Expr → Comprehension | .DictComp _ _ (g :: _) _ _ => g | .ListComp _ (g :: _) _ _ => g | e => ⟨e, e, [], 0⟩
def cmpK : PySem.Expr → PySem.Expr | .DictComp k _ _ _ _ => k | .ListComp k _ _ _ => k | e => e
def cmpV : PySem.Expr → PySem.Expr | .DictComp _ v _ _ _ => v | e => e
def cmpP : PySem.Expr → Pos | .DictComp _ _ _ _ p => p | .ListComp _ _ _ p => p | _ => ⟨0, 0, 0, 0⟩
theorem lr_mem {ls : List LRow} {k : Int} (h : k ∈ (lrA ls).map (·.1)) : ∃ r ∈ ls, r.key = k := by
  unfold lrA at h
  rw [List.map_map] at h
  obtain ⟨r, hr, e⟩ := List.mem_map.mp h
  exact ⟨r, hr, e⟩
theorem lr_look {ls : List LRow} {r : LRow} (nd : ((lrA ls).map (·.1)).Nodup) (h : r ∈ ls) : (lrK ls).lookup r.key = some r.at_ :=
  lookup_of_mem (by rw [lrK_keys]; exact nd) (List.mem_map.mpr ⟨r, h, rfl⟩)
theorem lr_has {ls : List LRow} {r : LRow} {T : List Chunk} (h : r ∈ ls) : Has (lrC ls ++ T) (li r.at_ (intL r.ns)) := .app_left (Has.map (f := fun r : LRow => li r.at_ (intL r.ns)) h)
theorem lr_rep {l₁ l₂ : List LRow} {T : List Chunk} (r r' : LRow) : Rep (lrC (l₁ ++ r :: l₂) ++ T) (li r.at_ (intL r.ns)) (li r'.at_ (intL r'.ns)) (lrC (l₁ ++ r' :: l₂) ++ T) := .app_left (Rep.map (f := fun r : LRow => li r.at_ (intL r.ns)))
theorem lr_upd {l₁ l₂ : List LRow} {r r' : LRow} {v : Int} (nd : ((lrA (l₁ ++ r :: l₂)).map (·.1)).Nodup) (hk : r'.key = r.key) (hv : r'.ns = addN r.ns v) : lrA (l₁ ++ r' :: l₂) = updA (lrA (l₁ ++ r :: l₂)) r.key v := by
  unfold updA lrA
  unfold lrA at nd
  rw [List.map_map, List.map_append, List.map_cons, List.nodup_append, List.nodup_cons] at nd
  rw [List.map_map, List.map_append, List.map_cons, List.map_append, List.map_cons]
  obtain ⟨-, ⟨n2, -⟩, n3⟩ := nd
  have h1 : ∀ q ∈ l₁, (q.key == r.key) = false := fun q hq => beq_eq_false_iff_ne.mpr (n3 _ (List.mem_map.mpr ⟨q, hq, rfl⟩) _ List.mem_cons_self)
  have h2 : ∀ q ∈ l₂, (q.key == r.key) = false := fun q hq => beq_eq_false_iff_ne.mpr fun e => n2 (List.mem_map.mpr ⟨q, hq, e⟩)
  congr 1
  · exact List.map_congr_left fun q hq => by have := beq_eq_false_iff_ne.mp (h1 q hq); simp [this]
  · congr 1
    · simp [hk, hv]
    · exact List.map_congr_left fun q hq => by have := beq_eq_false_iff_ne.mp (h2 q hq); simp [this]
theorem upd_noop {adj : List (Int × List Int)} {k v : Int} (h : ∀ p ∈ adj, p.1 = k → p.2.contains v = true) : updA adj k v = adj := by
  unfold updA
  conv => rhs; rw [← List.map_id adj]
  refine List.map_congr_left fun p hp => ?_
  by_cases e : p.1 = k
  · simp only [e, beq_self_eq_true, if_true, addN, h p hp e]; rw [← e]; rfl
  · simp [e]
theorem updA_keys (adj : List (Int × List Int)) (k v : Int) : (updA adj k v).map (·.1) = adj.map (·.1) := by
  unfold updA
  rw [List.map_map]
  refine List.map_congr_left fun p _ => ?_
  simp only [Function.comp]
  split <;> rfl
theorem pair_eq {ls : List LRow} (nd : ((lrA ls).map (·.1)).Nodup) {r : LRow} (hr : r ∈ ls) {p : Int × List Int} (hp : p ∈ lrA ls) (e : r.key = p.1) : p.2 = r.ns := by
  have h1 := lookup_of_mem nd (show (p.1, p.2) ∈ lrA ls from hp)
  have h2 := lookup_of_mem nd (show (r.key, r.ns) ∈ lrA ls from List.mem_map.mpr ⟨r, hr, rfl⟩)
  rw [e, h1] at h2
  exact Option.some.inj h2
section
variable {w : World} {h₁ : Heap} {X : List Addr} {os : OsState} {dr : Drawn} {G : Array GenState} {cs cs' r F : List Chunk} {s : Shared} {A : Around} {E : Value → Shared → Prop}
theorem new_dict {Q : Value → Shared → Prop} {b : Base} (h : Ok b G cs s) (k : ∀ a ep s', Ok b G (di b a [] ep :: cs) s' → Q (.ref a) s') : wpAny b.M A newDict Q E s := by
  obtain ⟨ep, h'⟩ := d_new (t := s.toks) h
  exact wpAny_newObj_type (k _ ep _ h') (by size_fits)
end
section
variable {b : Base} {G : Array GenState} {cs cs' r : List Chunk} {s : Shared} {A : Around} {E : Value → Shared → Prop} {env : Env} {vars : List (Str × Value)} {cv cvi cvr : Cv} {sc : Scope} {C : Addr}
theorem x_compU (cv : Cv) {x : Str} {px : Pos} {e : PySem.Expr} {pos : Pos} {newAcc first : Sem Value} {g : Comprehension} {gs : List Comprehension} {Q : Value → Shared → Prop} (cvi cvr : Cv) (gd : b.Good) (I : In b env)
    (hcl : clausesOf e = g :: gs) (hs : ∀ x, foldedSetIterable g.iter env x = pure x) (hclos : closureFor sc env = pure (clOf sc env)) (hx : scOk sc env cvi) (hcv : (cvIn sc cv, cvOut sc cv) = (cvi, cvr)) (hxl : env.scope.names.lookup x = some .local)
    (h : wpAny b.M A first (fun x' s₁ => wpAny b.M A (pyIter x') (fun it s₂ => wpAny b.M A newAcc (fun acc s₃ => ∃ vars cs, Ok b G (fr env vars cv :: cs) s₃ ∧
      ∀ C s₄, Ok b G (fr (cEnv sc env C) [] cvi :: fr env vars cvr :: cs) s₄ → codeAny b.M A (.compStart e 0 it acc (cEnv sc env C)) (fun r s₅ => match r with
        | .ok _ => ∃ vars' cs', Ok b G (fr (cEnv sc env C) vars' cvi :: fr env vars cvr :: cs') s₅ ∧ ∀ s₆, Ok b G (fr env (put vars x (untok acc)) cv :: cs') s₆ → Q .none s₆
        | .error _ => False) s₄) E s₂) E s₁) E s) :
    wpAny b.M A (comprehension e sc env pos newAcc false first (some (assign (.Name x px) env))) Q E s := by
  obtain ⟨hi, hr⟩ := Prod.mk.inj hcv
  have hx' := (Prod.mk.inj hx).1
  unfold scB at hx'
  simp only [Bool.and_eq_true] at hx'
  obtain ⟨⟨h1, h2⟩, h3⟩ := hx'
  have hcell : ∀ y ∈ sc.names, y.2 ≠ .cell := fun y hy => by simpa using List.all_eq_true.mp h1 y hy
  have hkind : sc.kind = .function := by simpa using h2
  have hnames : ∀ y ∈ sc.names, y.2 = .local → sc.names.lookup y.1 = some .local := fun y hy hl => by
    have := List.all_eq_true.mp h3 y hy
    rw [hl] at this
    simpa using this
  refine wpAny_comprehension_free (use := some _) hcl hs hclos hkind hnames (wpAny_mono h (fun xv s₁ h₁ => wpAny_mono h₁ (fun it s₂ h₂ => wpAny_mono h₂ (fun acc s₃ h₃ => ?_) fun _ _ e => e) fun _ _ e => e) fun _ _ e => e)
  obtain ⟨vars, cs, h₃, k⟩ := h₃
  refine wpAny_newFunctionEnv hcell (by intro y hy; simp at hy) (fun h' hn hsb => ?_) hkind
  have hk : ∀ b o, s₃.heap.get? b = some o → h'.get? b = some o := fun b o e => hsb.extBut b o (Nat.ne_of_lt (Heap.lt_size e)) (Heap.get?_push_of_some _ e)
  have h4 : Ok b G (pt s₃.heap.objs.size (nsP []) :: fr env vars cv :: cs) { s₃ with heap := h', toks := s₃.toks + ([] : List (Str × Value)).length } :=
    h₃.enter hk (Nat.le_refl _) (nsP_of_ns hn fun y v q => by cases q)
  have h5 := (h4.swap.cvsplit (C := s₃.heap.objs.size) hx hi hr).perm (cs' := pt s₃.heap.objs.size (nsP []) :: cellsC (cEnv sc env s₃.heap.objs.size) cvi :: fr env vars cvr :: cs) (by walk_at "perm")
  refine codeAny_mono (k s₃.heap.objs.size _ (fr_cells (env' := cEnv sc env s₃.heap.objs.size) h5)) fun r s₅ hr' => ?_
  cases r with
  | error xe => exact hr'.elim
  | ok f =>
    obtain ⟨vars', cs', h₅, kq⟩ := hr'
    refine wpAny_assign_Name (st_local (p := untok acc) h₅.swap I rfl hxl fun s₆ h₆ => ?_)
    have h7 := h₆.swap.frame
    obtain ⟨o, e, hp⟩ := h7.st.get
    obtain ⟨m, N, _⟩ := frame_ns hp e
    refine ⟨m, N, fun h'' hs'' => kq _ ?_⟩
    have h8 : Ok b G (cellsC (cEnv sc env s₃.heap.objs.size) cvi :: fr env (put vars x (untok acc)) cvr :: cs') { s₆ with heap := h'', toks := s₆.toks } := Ok.lose h7 (.here _ _) hs''.extBut
    exact h8.swap.cvjoin hx hi hr
theorem x_asgU {x : Str} {px pos : Pos} {e : PySem.Expr} {Q : Flow → Shared → Prop} (h : wpAny b.M A (evalThenUse e env (assign (.Name x px) env)) (fun _ s' => Q .next s') E s)
    (hs : swapsWith e (some (.Name x px)) pos.line env = pure true := by with_unfolding_all rfl) : wpAny b.M A (exec (.Assign [.Name x px] e pos) env) Q E s := by
  rw [exec_Assign_Name_used _ _ _ _ hs]
  exact wpAny_bind (wpAny_standAt (wpAny_bind (wpAny_mono h (fun _ s' h' => wpAny_pure h') fun _ _ e => e)))
end
end Mine
namespace Mine
local macro_rules | `(tactic| walk_at "foc") => `(tactic| first | with_reducible exact Foc.here _ _ | (apply Foc.there; walk_at "foc"))
local macro_rules | `(tactic| walk_at "has") => `(tactic| first | with_reducible exact Has.here _ _ | assumption | (refine Has.there _ ?_; walk_at "has"))
local macro_rules | `(tactic| walk_at "rep") => `(tactic| first | with_reducible exact Rep.here _ _ _ | assumption | (apply Rep.there; walk_at "rep"))
local macro_rules | `(tactic| walk_at "perm") => `(tactic| first | with_reducible exact List.Perm.refl _ | (refine perm_step (by walk_at "foc") ?_; walk_at "perm"))
inductive Wk (ch : Int → List Int) (lim : Option Int) : Nat → Int → Int → List Int → List Int → List Int → List Trow → Prop
  | nil {k deep p met} : Wk ch lim k deep p [] met met []
  | non {k deep p o os met met' r} : met.contains o = true → Wk ch lim k deep p os met met' r → Wk ch lim k deep p (o :: os) met met' ((p, o, "nontree") :: r)
  | fwd {k deep p o os met m1 met' r1 r2} : met.contains o = false → (∀ l, lim = some l → deep < l) → Wk ch lim k (deep + 1) o (ch o) (met ++ [o]) m1 r1 → Wk ch lim (k + 1) deep p os m1 met' r2 →
      Wk ch lim (k + 1) deep p (o :: os) met met' ((p, o, "forward") :: (r1 ++ ((p, o, "reverse") : Trow) :: r2))
  | lim {k deep p o os met met' r l} : met.contains o = false → lim = some l → ¬ deep < l → Wk ch lim k deep p os (met ++ [o]) met' r → Wk ch lim k deep p (o :: os) met met' ((p, o, "forward") :: (p, o, "reverse-depth_limit") :: r)
theorem wk_go {ch : Int → List Int} {lim : Option Int} {L : Int} {k : Nat} {deep p : Int} {os met met' : List Int} {rows : List Trow} (h : Wk ch lim k deep p os met met' rows) :
    ∀ {ss : List Int} {x : Int} {stk : List (Int × List Int)} {r : List Trow}, (stk.length : Int) + 1 = deep → (∀ l, lim = some l → L = l) → (lim = none → deep + k ≤ L) → Go ch L (.F met' ss x p [] stk) r → Go ch L (.F met ss x p os stk) (rows ++ r) := by
  induction h with
  | nil => intro ss x stk r _ _ _ g; exact g
  | non hc _ ih => intro ss x stk r hd hl hn g; exact .f_non hc (ih hd hl hn g)
  | @fwd k deep p o os met m1 met' r1 r2 hc hlim _ _ ih1 ih2 =>
    intro ss x stk r hd hl hn g
    have hlt : (stk.length : Int) + 1 < L := by
      cases hq : lim with
      | none => have := hn hq; omega
      | some l => rw [hl l hq, hd]; exact hlim l hq
    refine .f_fwd hc hlt (.w_go ?_)
    show Go ch L (.F (met ++ [o]) ss x o (ch o) ((p, os) :: stk)) ((r1 ++ ((p, o, "reverse") : Trow) :: r2) ++ r)
    rw [List.append_assoc, List.cons_append]
    refine ih1 (by rw [List.length_cons]; omega) hl (fun e => by have := hn e; omega) (.f_pop (.w_go (ih2 hd hl hn g)))
  | lim hc hq hlt _ ih =>
    intro ss x stk r hd hl hn g
    exact .f_lim hc (by rw [hl _ hq, hd]; exact hlt) (ih hd hl hn g)
end Mine
namespace Mine
section
variable {ch : Int → List Int} {lim : Option Int}
theorem wk_met {ns : List Int} (hcl : ∀ n ∈ ns, ∀ m ∈ ch n, m ∈ ns) {k : Nat} {deep p : Int} {os met met' : List Int} {r : List Trow} (h : Wk ch lim k deep p os met met' r) :
    (∀ o ∈ os, o ∈ ns) → (∀ o ∈ met, o ∈ ns) → met.Nodup → (∀ o ∈ met', o ∈ ns) ∧ met'.Nodup ∧ met.length ≤ met'.length ∧ ∃ ext, met' = met ++ ext := by
  have add : ∀ {met : List Int} {o : Int}, o ∈ ns → met.contains o = false → (∀ x ∈ met, x ∈ ns) → met.Nodup → (∀ x ∈ met ++ [o], x ∈ ns) ∧ (met ++ [o]).Nodup := by
    intro met o ho hc hm nd
    rw [List.contains_eq_mem, decide_eq_false_iff_not] at hc
    refine ⟨fun x hx => ?_, ?_⟩
    · rcases List.mem_append.mp hx with hx | hx
      · exact hm x hx
      · rw [List.mem_singleton.mp hx]; exact ho
    · rw [List.nodup_append]
      exact ⟨nd, by simp, fun a ha b hb e => hc (by rw [← List.mem_singleton.mp hb, ← e]; exact ha)⟩
  induction h with
  | nil => intro _ hm nd; exact ⟨hm, nd, Nat.le_refl _, [], by simp⟩
  | non _ _ ih => intro ho hm nd; exact ih (fun o h => ho o (List.mem_cons_of_mem _ h)) hm nd
  | @fwd k deep p o os met m1 met' r1 r2 hc _ _ _ ih1 ih2 =>
    intro ho hm nd
    have hon := ho o List.mem_cons_self
    obtain ⟨a1, a2⟩ := add hon hc hm nd
    obtain ⟨b1, b2, b3, e1, b4⟩ := ih1 (hcl o hon) a1 a2
    obtain ⟨c1, c2, c3, e2, c4⟩ := ih2 (fun o h => ho o (List.mem_cons_of_mem _ h)) b1 b2
    refine ⟨c1, c2, by rw [List.length_append] at b3; omega, [o] ++ e1 ++ e2, by rw [c4, b4]; simp⟩
  | @lim k deep p o os met met' r l hc _ _ _ ih =>
    intro ho hm nd
    have hon := ho o List.mem_cons_self
    obtain ⟨a1, a2⟩ := add hon hc hm nd
    obtain ⟨c1, c2, c3, e2, c4⟩ := ih (fun o h => ho o (List.mem_cons_of_mem _ h)) a1 a2
    exact ⟨c1, c2, by rw [List.length_append] at c3; omega, [o] ++ e2, by rw [c4]; simp⟩
theorem wk_rows {D : Nat} (hD : ∀ n, (ch n).length ≤ D) {k : Nat} {deep p : Int} {os met met' : List Int} {r : List Trow} (h : Wk ch lim k deep p os met met' r) :
    met.length ≤ met'.length ∧ r.length + met.length * (2 * D) ≤ 2 * os.length + met'.length * (2 * D) := by
  induction h with
  | nil => exact ⟨Nat.le_refl _, by simp⟩
  | non _ _ ih => exact ⟨ih.1, by simp only [List.length_cons]; omega⟩
  | @fwd k deep p o os met m1 met' r1 r2 hc _ _ _ ih1 ih2 =>
    obtain ⟨a1, a2⟩ := ih1
    obtain ⟨b1, b2⟩ := ih2
    have := hD o
    simp only [List.length_append, List.length_cons, List.length_nil] at *
    rw [Nat.add_mul, Nat.one_mul] at a2
    exact ⟨by omega, by omega⟩
  | @lim k deep p o os met met' r l hc _ _ _ ih =>
    obtain ⟨a1, a2⟩ := ih
    simp only [List.length_append, List.length_cons, List.length_nil] at *
    rw [Nat.add_mul, Nat.one_mul] at a2
    exact ⟨by omega, by omega⟩
theorem wk_ends {ns : List Int} (hcl : ∀ n ∈ ns, ∀ m ∈ ch n, m ∈ ns) : ∀ (k : Nat) (os : List Int) (deep p : Int) (met : List Int), (∀ o ∈ os, o ∈ ns) → (∀ o ∈ met, o ∈ ns) → met.Nodup → ns.length ≤ met.length + k → ∃ met' r, Wk ch lim k deep p os met met' r := by
  intro k
  induction k with
  | zero =>
    intro os deep p met ho hm nd hk
    induction os with
    | nil => exact ⟨_, _, .nil⟩
    | cons o os ih =>
      obtain ⟨met', r, h⟩ := ih fun x hx => ho x (List.mem_cons_of_mem _ hx)
      cases hc : met.contains o with
      | true => exact ⟨_, _, .non hc h⟩
      | false =>
        exfalso
        rw [List.contains_eq_mem, decide_eq_false_iff_not] at hc
        have : (met ++ [o]).length ≤ ns.length := nodup_len (by rw [List.nodup_append]; exact ⟨nd, by simp, fun a ha b hb e => hc (by rw [← List.mem_singleton.mp hb, ← e]; exact ha)⟩) fun x hx => by
          rcases List.mem_append.mp hx with hx | hx
          · exact hm x hx
          · rw [List.mem_singleton.mp hx]; exact ho o List.mem_cons_self
        rw [List.length_append, List.length_singleton] at this; omega
  | succ k ihk =>
    intro os
    induction os with
    | nil => intro deep p met _ _ _ _; exact ⟨_, _, .nil⟩
    | cons o os ih =>
      intro deep p met ho hm nd hk
      have ho' : ∀ x ∈ os, x ∈ ns := fun x hx => ho x (List.mem_cons_of_mem _ hx)
      have hon := ho o List.mem_cons_self
      cases hc : met.contains o with
      | true =>
        obtain ⟨met', r, h⟩ := ih deep p met ho' hm nd hk
        exact ⟨_, _, .non hc h⟩
      | false =>
        have hc' := hc
        rw [List.contains_eq_mem, decide_eq_false_iff_not] at hc'
        have hm2 : ∀ x ∈ met ++ [o], x ∈ ns := fun x hx => by
          rcases List.mem_append.mp hx with hx | hx
          · exact hm x hx
          · rw [List.mem_singleton.mp hx]; exact hon
        have nd2 : (met ++ [o]).Nodup := by rw [List.nodup_append]; exact ⟨nd, by simp, fun a ha b hb e => hc' (by rw [← List.mem_singleton.mp hb, ← e]; exact ha)⟩
        have hl2 : (met ++ [o]).length = met.length + 1 := by simp
        by_cases hq : ∃ l, lim = some l ∧ ¬ deep < l
        · obtain ⟨l, hl, hlt⟩ := hq
          obtain ⟨met', r, h⟩ := ih deep p (met ++ [o]) ho' hm2 nd2 (by omega)
          exact ⟨_, _, .lim hc hl hlt h⟩
        · obtain ⟨m1, r1, h1⟩ := ihk (ch o) (deep + 1) o (met ++ [o]) (hcl o hon) hm2 nd2 (by omega)
          obtain ⟨a1, a2, a3, _⟩ := wk_met hcl h1 (hcl o hon) hm2 nd2
          obtain ⟨met', r2, h2⟩ := ih deep p m1 ho' a1 a2 (by omega)
          exact ⟨_, _, .fwd hc (fun l hl => Classical.byContradiction fun hn => hq ⟨l, hl, hn⟩) h1 h2⟩
inductive Wo (ch : Int → List Int) (lim : Option Int) (k : Nat) : List Int → List Int → List Int → List Trow → Prop
  | nil {met} : Wo ch lim k [] met met []
  | skip {x ss met met' r} : met.contains x = true → Wo ch lim k ss met met' r → Wo ch lim k (x :: ss) met met' r
  | new {x ss met m1 met' r1 r2} : met.contains x = false → Wk ch lim k 1 x (ch x) (met ++ [x]) m1 r1 → Wo ch lim k ss m1 met' r2 → Wo ch lim k (x :: ss) met met' ((x, x, "forward") :: (r1 ++ ((x, x, "reverse") : Trow) :: r2))
theorem wo_go {k : Nat} {L : Int} {ss met met' : List Int} {r : List Trow} (h : Wo ch lim k ss met met' r) (hl : ∀ l, lim = some l → L = l) (hn : lim = none → 1 + (k : Int) ≤ L) : Go ch L (.O met ss) r := by
  induction h with
  | nil => exact .o_nil
  | skip hc _ ih => exact .o_skip hc ih
  | @new x ss met m1 met' r1 r2 hc hw _ ih => exact .o_new hc (.w_go (wk_go hw (by simp) hl hn (.f_pop0 (.w_nil ih))))
theorem wo_ends {ns : List Int} (hcl : ∀ n ∈ ns, ∀ m ∈ ch n, m ∈ ns) {D : Nat} (hD : ∀ n, (ch n).length ≤ D) (k : Nat) : ∀ (ss met : List Int), (∀ o ∈ ss, o ∈ ns) → (∀ o ∈ met, o ∈ ns) → met.Nodup → ns.length ≤ k + 1 → ∃ met' r, Wo ch lim k ss met met' r ∧ (∀ o ∈ met', o ∈ ns) ∧ met'.Nodup ∧ met.length ≤ met'.length ∧ r.length + met.length * (2 * D) ≤ (2 + 2 * D) * ss.length + met'.length * (2 * D) := by
  intro ss
  induction ss with
  | nil => intro met _ hm nd _; exact ⟨_, _, .nil, hm, nd, Nat.le_refl _, by simp⟩
  | cons x ss ih =>
    intro met ho hm nd hk
    have ho' : ∀ y ∈ ss, y ∈ ns := fun y hy => ho y (List.mem_cons_of_mem _ hy)
    have hxn := ho x List.mem_cons_self
    cases hc : met.contains x with
    | true =>
      obtain ⟨met', r, h, a1, a2, a3, a4⟩ := ih met ho' hm nd hk
      refine ⟨_, _, .skip hc h, a1, a2, a3, ?_⟩
      rw [List.length_cons, Nat.mul_add]; omega
    | false =>
      have hc' := hc
      rw [List.contains_eq_mem, decide_eq_false_iff_not] at hc'
      have hm2 : ∀ y ∈ met ++ [x], y ∈ ns := fun y hy => by
        rcases List.mem_append.mp hy with hy | hy
        · exact hm y hy
        · rw [List.mem_singleton.mp hy]; exact hxn
      have nd2 : (met ++ [x]).Nodup := by rw [List.nodup_append]; exact ⟨nd, by simp, fun a ha b hb e => hc' (by rw [← List.mem_singleton.mp hb, ← e]; exact ha)⟩
      obtain ⟨m1, r1, h1⟩ := wk_ends (lim := lim) hcl k (ch x) 1 x (met ++ [x]) (hcl x hxn) hm2 nd2 (by simp; omega)
      obtain ⟨b1, b2, b3, _⟩ := wk_met hcl h1 (hcl x hxn) hm2 nd2
      have b5 := (wk_rows hD h1).2
      obtain ⟨met', r2, h2, a1, a2, a3, a4⟩ := ih m1 ho' b1 b2 hk
      refine ⟨_, _, .new hc h1 h2, a1, a2, by rw [List.length_append] at b3; omega, ?_⟩
      have := hD x
      simp only [List.length_append, List.length_cons, List.length_nil] at *
      rw [Nat.add_mul, Nat.one_mul] at b5
      rw [Nat.mul_add]; omega
end
end Mine
namespace Mine
local macro_rules | `(tactic| walk_at "foc") => `(tactic| first | with_reducible exact Foc.here _ _ | (apply Foc.there; walk_at "foc"))
local macro_rules | `(tactic| walk_at "has") => `(tactic| first | with_reducible exact Has.here _ _ | assumption | (refine Has.there _ ?_; walk_at "has"))
local macro_rules | `(tactic| walk_at "rep") => `(tactic| first | with_reducible exact Rep.here _ _ _ | assumption | (apply Rep.there; walk_at "rep"))
local macro_rules | `(tactic| walk_at "perm") => `(tactic| first | with_reducible exact List.Perm.refl _ | (refine perm_step (by walk_at "foc") ?_; walk_at "perm"))
def titP (t : Addr) (ps vs : List Value) (o : Obj) : Prop := ∃ i : Nat, o.cls = .type "tuple_iterator" ∧ o.data = .fields #[.ref t, .int i 0] ∧ ps.drop i = vs
def tit (it t : Addr) (ps vs : List Value) : Chunk := pt it (titP t ps vs)
section
variable {b : Base} {G : Array GenState} {cs cs' r : List Chunk} {s : Shared} {A : Around} {E : Value → Shared → Prop} {l t it : Addr} {ps vs : List Value}
theorem tit_iter (t it : Addr) (ps : List Value) : IsIter b (.ref it) (tit it t ps) (fun cs => Has cs (tu t ps)) where
  next := by
    intro G cs cs' s A E v vs Q h f w k
    obtain ⟨o, e, i, hc, hd, hq⟩ := h.has f.has
    obtain ⟨us, n, e', q⟩ := h.tup w
    obtain ⟨h1, h2⟩ := drop_cons hq
    obtain ⟨u, hu, huv⟩ := untok_at q h1
    refine wpAny_pyNext_tuple_item (i := i) ⟨o, e, hc, hd⟩ ⟨_, e', rfl, n, rfl⟩ (x := u) (by simpa using hu) fun h' hit hs => k u _ huv (h.rep (t := s.toks) f hs ?_)
    obtain ⟨o', e'', hc', hd'⟩ := hit
    exact ⟨o', e'', i + 1, hc', hd', h2⟩
  done := by
    intro G cs cs' s A E Q hh h f w k
    obtain ⟨o, e, i, hc, hd, hq⟩ := h.has f.has
    obtain ⟨us, n, e', q⟩ := h.tup w
    have hn : us.toArray[i]? = none := by
      have := drop_nil hq
      rw [List.getElem?_toArray]
      rw [List.getElem?_eq_none_iff] at this ⊢
      rw [← List.length_map (f := untok), q]; exact this
    refine tup_end (hh.ne h f) (i := i) ⟨o, e, hc, hd⟩ ⟨_, e', rfl, n, rfl⟩ hn fun h' hs => k _ (h.lose (t := s.toks) f hs)
theorem t_iter {Q : Value → Shared → Prop} (h : Ok b G cs s) (f : Has cs (tu t ps)) (k : ∀ it s', Ok b G (tit it t ps ps :: cs) s' → Q (.ref it) s') : wpAny b.M A (pyIter (.ref t)) Q E s := by
  obtain ⟨vs, n, e, q⟩ := h.tup f
  refine wpAny_pyIter_tuple ⟨_, e, rfl, n, rfl⟩ (k _ _ (h.alloc (t := s.toks) rfl ⟨0, rfl, rfl, by simp⟩))
theorem pop_meets {l : Addr} {its : Array Value} {n i : Nat} {tk : Tok} {y : Value} (hf1 : Builtin.List.listFitsIndex (i : Int) = true) (hk : seqIndex? (i : Int) its.size = some i) (hy : its[i]? = some y) (hsz : its.size ≤ sizeLine) :
    Meets (Builtin.«list.pop» ⟨[.ref l, .int i tk], []⟩)
      (fun _ R s => s.heap.get? l = some { cls := .type "list", dict := none, data := .seq its n, slots := #[] } ∧ R (.ok (.ret y)) { s with heap := s.heap.update l (Obj.mapSeq fun xs => xs.eraseIdxIfInBounds i) }) := by
  refine @PySem.MeetsSeq.list_pop_at l its n (i : Int) tk i y ?_ ?_ ?_ ?_
  · exact hf1
  · exact hk
  · exact hy
  · exact hsz
theorem l_popAt {l : Addr} {xs : List Int} {i : Nat} {o : Int} {tk : Tok} {Q : Value → Shared → Prop} (h : Ok b G cs s) (hi : xs[i]? = some o) (f : Rep cs (li l (intL xs)) (li l (intL (xs.eraseIdx i))) cs') (hz : xs.length ≤ 1000)
    (k : ∀ v s', untok v = .int o 0 → Ok b G cs' s' → Q v s') : wpAny b.M A (call (.builtin "list.pop") [.ref l, .int (i : Int) tk]) Q E s := by
  obtain ⟨vs, n, e, q⟩ := h.list f.has
  have hlen : vs.length = xs.length := by rw [← List.length_map (f := untok), q, List.length_map]
  have hix : i < xs.length := (List.getElem?_eq_some_iff.mp hi).1
  obtain ⟨v, hv, hu⟩ := untok_at q (i := i) (p := .int o 0) (by unfold intL; rw [List.getElem?_map, hi]; rfl)
  have hk : seqIndex? (i : Int) vs.toArray.size = some i := by
    have := seqIndex_at (k := (i : Int)) (n := vs.toArray.size) (by omega) (by rw [List.size_toArray, Int.toNat_natCast]; omega)
    simpa using this
  have hf1 : Builtin.List.listFitsIndex (i : Int) = true := by
    unfold Builtin.List.listFitsIndex
    rw [Bool.and_eq_true, decide_eq_true_eq, decide_eq_true_eq]
    omega
  have hy : vs.toArray[i]? = some v := by simpa using hv
  have hsz : vs.toArray.size ≤ sizeLine := by rw [List.size_toArray, hlen, sizeLine_eq]; omega
  have fin : Q v { s with heap := s.heap.update l (Obj.mapSeq fun xs => xs.eraseIdxIfInBounds i) } := by
    refine k _ _ hu (h.rep (t := s.toks) f (Heap.SameBut.update ..) ?_)
    refine ⟨_, Heap.get?_update_self _ e rfl, vs.eraseIdx i, ?_⟩
    simp only [Obj.mapSeq]
    refine ⟨?_, ?_, ?_⟩
    · exact (if (vs.toArray.eraseIdxIfInBounds i).size = vs.toArray.size then n else n + 1)
    · simp
    · have em : ∀ {α β : Type} (f : α → β) (l : List α) (i : Nat), (l.eraseIdx i).map f = (l.map f).eraseIdx i := by
        intro α β f l
        induction l with
        | nil => intro i; rfl
        | cons a l ih =>
          intro i
          cases i with
          | zero => rfl
          | succ i => simp only [List.eraseIdx_cons_succ, List.map_cons, ih]
      rw [em, q]; unfold intL; rw [em]
  refine call_meets PySem.F.slot_list_pop ⟨_, e, rfl⟩ PySem.F.entry_list_pop (PySem.F.args_list_pop_2 _ _) (@pop_meets l vs.toArray n i tk v ?_ ?_ ?_ ?_) ⟨e, fin⟩
  · exact hf1
  · exact hk
  · exact hy
  · exact hsz
end
section
variable {w : World} {h₁ : Heap} {X : List Addr} {os : OsState} {dr : Drawn} {G : Array GenState} {cs cs' r F : List Chunk} {s : Shared} {A : Around} {E : Value → Shared → Prop} {d u : Nat} {env : Env} {vars : List (Str × Value)} {cv : Cv} {S : Addr} {z m : Int} {xs : List Int} {l : Addr} {vs : List Value}
theorem x_slice {l : Addr} {vs : List Value} {n : Int} {o : PySem.Expr} {e : PySem.Expr} {p1 pos : Pos} {Q : Value → Shared → Prop} (h : Ok (BB w h₁ X os dr) G (fr env vars cv :: r) s) (I : In (BB w h₁ X os dr) env) (q : (ev env GL vars cv 9 o, ev env GL vars cv 9 e) = (some (.ref l), some (.int n 0)))
    (hl : h₁.IsList l vs.toArray) (hX : l ∉ X) (hn : 0 ≤ n) (hx : vs.map untok = intL xs) (hz : xs.length ≤ 1000) (k : ∀ a s', Ok (BB w h₁ X os dr) G (fr env vars cv :: li a (intL (xs.take n.toNat)) :: r) s' → Q (.ref a) s')
    (ht : ∀ v r, letTemporaryGo o v r = pure () := by intro _ _; with_unfolding_all rfl) : wpAny (BB w h₁ X os dr).M A (eval (.Subscript o (.Slice none (some e) none p1) pos) env) Q E s := by
  obtain ⟨q1, q2⟩ := Prod.mk.inj q
  obtain ⟨oo, ho, hc, ep, hd⟩ := hl
  have hlen : vs.length = xs.length := by rw [← List.length_map (f := untok), hx, List.length_map]
  refine wpAny_Subscript_list_slice (x_ref l h I q1 fun s1 h1 => ?_) ht
  refine wpAny_pure ?_
  refine x_int n h1 I q2 fun t s2 h2 => ?_
  refine ⟨l, vs.toArray, none, some n, rfl, ⟨oo, h2.old hX ho, hc, ep, hd⟩, by rw [List.size_toArray, hlen, sizeLine_eq]; omega, .none, .int n t, ?_⟩
  obtain ⟨m, rfl⟩ := Int.eq_ofNat_of_zero_le hn
  rw [slicePick_upto']
  have h3 : Ok (BB w h₁ X os dr) G (fr env vars cv :: r) { s2 with heap := s2.heap.push { cls := .type "slice", data := .fields #[.none, .int (m : Int) t, .none] }, toks := s2.toks } := h2.keeps fun x o e => Heap.get?_push_of_some _ e
  have h4 := l_new' (vs := vs.take m) (ps := intL (xs.take m)) (t := s2.toks) h3 (by rw [List.map_take, hx]; unfold intL; rw [List.map_take])
  refine k _ _ ?_
  rw [Int.toNat_natCast]
  have e : (s2.heap.push { cls := .type "slice", data := .fields #[.none, .int (m : Int) t, .none] }).objs.size = s2.heap.objs.size + 1 := Heap.size_push ..
  rw [← e]
  exact h4.swap
def V (z : Int) : Prop := 0 ≤ z ∧ z < 2147483647
theorem seed_ (g : (BB w h₁ X os dr).Good) {Q : Value → Shared → Prop} (hl : h₁.IsList l vs.toArray) (hX : l ∉ X) (hx : vs.map untok = intL xs) (hz : xs.length ≤ 1000) (Fi : Fit (BB w h₁ X os dr) A (d + 1) (u + 3)) (h : Ok (BB w h₁ X os dr) G cs s)
    (k : ∀ S z s', V z → Ok (BB w h₁ X os dr) G (li S [.int z 0] :: cs) s' → Q (.ref S) s') : wpAny (BB w h₁ X os dr).M A (call (.ref A_law_seed) [.ref l]) Q E s := by
  have D := D_law_seed g
  refine call_fn [("script", .ref l)] [("script", .ref l)] [] h g Fi D (by kernel_rfl) (by kernel_rfl) (by intro z; kernel_rfl) (by intro z; kernel_rfl) (fun _ => ⟨rfl, List.nodup_nil⟩) fun A' L s1 F' h1 => ?_
  have I := D.inEnv g L
  show wpAny _ _ (execs (_ :: _) _) _ _ _
  refine x_cons (x_set (.int 17 0) h1 I (by kernel_rfl) fun s2 h2 => ?_)
  show wpAny _ _ (execs (_ :: _) _) _ _ _
  refine x_cons (wpAny_For (x_slice (n := 24) h2 I (by kernel_rfl) hl hX (by decide) hx hz fun sc s3 h3 => l_iter (ps := intL (xs.take (24 : Int).toNat)) h3 (by walk_at "has") fun it s4 h4 => ?_))
  generalize xs.take (24 : Int).toNat = xs' at h4
  refine for_go (vs := intL xs') (fun vs s => ∃ todo z, vs = intL todo ∧ V z ∧ Ok (BB w h₁ X os dr) G (fr (callEnvC fd_law_seed L A_law_seed) [("seed", .int z 0)] [] :: lit it sc (intL xs') vs :: li sc (intL xs') :: cs) s) ?_ ?_ ⟨xs', 17, rfl, by unfold V; decide, h4.swap.sub (by kernel_rfl)⟩
  · intro v vs s5 ⟨todo, z, e1, hv, h5⟩
    cases todo with
    | nil => cases e1
    | cons o todo =>
      obtain ⟨rfl, rfl⟩ := List.cons.inj e1
      refine (lit_iter sc it (intL xs')).next h5 (by walk_at "rep") (by walk_at "has") fun u' s6 hu h6 => ⟨u', rfl, ?_⟩
      obtain ⟨t, rfl⟩ := untok_int hu
      refine wpAny_assign_Name (st_local h6 I rfl (by kernel_rfl) fun s7 h7 => ?_)
      show wpAny _ _ (execs (_ :: _) _) _ _ _
      refine x_cons (x_asg (wpAny_BinOp (wpAny_BinOp (wpAny_BinOp (wpAny_BinOp (x_int z h7 I (by kernel_rfl) fun t8 s8 h8 => x_int 1009 h8 I (by kernel_rfl) fun t9 s9 h9 => ?_))))))
      refine PyProof.Rows.mul_int ?_ (.of_right (intBits_le_64 (by decide) (by decide)))
      refine wpAny_BinOp (wpAny_Call_NameR (x_ev (.builtin "abs") (h9.toks _) I (by kernel_rfl) fun v2 s10 hv2 h10 => ?_))
      rw [untok_builtin hv2]
      refine PyProof.Rows.callWith_method1 (sp_cons (x_int o h10 I (by kernel_rfl) fun t11 s11 h11 => sp_nil ?_))
      refine PyProof.Rows.call_abs_int fun u6 tk => ?_
      generalize hf : (if o < 0 then -o else o) = f
      have hf0 : 0 ≤ f := by rw [← hf]; split <;> omega
      refine x_int 99991 (h11.toks _) I (by kernel_rfl) fun t12 s12 h12 => PyProof.Rows.mod_int' (by decide) ?_
      rw [Int.fmod_eq_emod_of_nonneg _ (by decide)]
      refine PyProof.Rows.add_int (x_int 1 ((h12.toks _).toks _) I (by kernel_rfl) fun t13 s13 h13 => PyProof.Rows.add_int (x_int 2147483647 (h13.toks _) I (by kernel_rfl) fun t14 s14 h14 => PyProof.Rows.mod_int' (by decide) ?_))
      rw [Int.fmod_eq_emod_of_nonneg _ (by decide)]
      have hz0 := hv.1
      have hz1 := hv.2
      generalize hz' : (z * 1009 + f % 99991 + 1) % 2147483647 = z'
      refine st_local (p := .int z' 0) (h14.toks _) I rfl (by kernel_rfl) fun s15 h15 => x_nil ⟨todo, z', rfl, by unfold V; omega, h15.sub (by kernel_rfl)⟩
  · intro s5 ⟨todo, z, e1, hv, h5⟩
    cases todo with
    | cons o todo => cases e1
    | nil =>
      refine (lit_iter sc it (intL xs')).done F'.handled h5 (by walk_at "foc") (by walk_at "has") fun s6 h6 => ⟨rfl, x_nil ?_⟩
      show wpAny _ _ (execs (_ :: _) _) _ _ _
      refine x_cons (wpAny_Return_some (x_listP [.int z 0] h6 I (by kernel_rfl) fun S s7 h7 => k S z s7 hv ?_))
      exact (h7.perm (cs' := fr (callEnvC fd_law_seed L A_law_seed) [("seed", .int z 0)] [] :: li sc (intL xs') :: li S [.int z 0] :: cs) (by walk_at "perm")).drop.drop
theorem nx (g : (BB w h₁ X os dr).Good) {t0 : Tok} {Q : Value → Shared → Prop} (h : Ok (BB w h₁ X os dr) G (li S [.int z 0] :: cs) s) (hv : V z) (hm : 0 < m) (F : Fit (BB w h₁ X os dr) A (d + 1) (u + 3))
    (k : ∀ z' r t s', V z' → 0 ≤ r → r < m → Ok (BB w h₁ X os dr) G (li S [.int z' 0] :: cs) s' → Q (.int r t) s') : wpAny (BB w h₁ X os dr).M A (call (.ref A_law_next) [.ref S, .int m t0]) Q E s := by
  have D := D_law_next g
  refine call_fn [("s", .ref S), ("many", .int m t0)] [("s", .ref S), ("many", .int m 0)] [] h g F D (by kernel_rfl) (by kernel_rfl) (by intro z; kernel_rfl) (by intro z; kernel_rfl) (fun _ => ⟨rfl, List.nodup_nil⟩) fun A' L s1 F' h1 => ?_
  have I := D.inEnv g L
  obtain ⟨zn, rfl⟩ := Int.eq_ofNat_of_zero_le hv.1
  show wpAny _ _ (execs (_ :: _) _) _ _ _
  refine x_cons (x_put (G := G) (cv := []) S 0 I (by decide) (show (0:Int) < ((1:Nat):Int) from by decide) (by decide) (ps := [.int zn 0]) (wpAny_BinOp (wpAny_BinOp (wpAny_BinOp (x_item S 0 (.int (zn : Int) 0) h1 I (by kernel_rfl) (by walk_at "has") (by decide) (by decide) rfl fun v8 s13 hv8 h13 => x_int 48271 h13 I (by kernel_rfl) fun t9 s14 h14 => ?_)))))
  obtain ⟨t8, rfl⟩ := untok_int hv8
  refine PyProof.Rows.mul_int ?_ (.of_right (intBits_le_64 (by decide) (by decide)))
  refine x_int 11 (h14.toks _) I (by kernel_rfl) fun t10 s15 h15 => PyProof.Rows.add_int (x_int 2147483647 (h15.toks _) I (by kernel_rfl) fun t11 s16 h16 => PyProof.Rows.mod_int' (by decide) ?_)
  rw [Int.fmod_eq_emod_of_nonneg _ (by decide)]
  generalize hz' : ((zn : Int) * 48271 + 11) % 2147483647 = z'
  have hzb : V z' := by unfold V; omega
  refine ⟨_, .int z' 0, _, _, rfl, h16.toks _, (by kernel_rfl), .here _ _ _, fun s17 h17 => ?_⟩
  have h17' : Ok (BB w h₁ X os dr) _ (fr _ _ _ :: li S [.int z' 0] :: cs) s17 := h17
  show wpAny _ _ (execs (_ :: _) _) _ _ _
  refine x_cons (wpAny_Return_some (wpAny_BinOp (wpAny_BinOp (x_item S 0 (.int z' 0) h17' I (by kernel_rfl) (by walk_at "has") (by decide) (by decide) rfl fun v12 s18 hv12 h18 => x_int 64 h18 I (by kernel_rfl) fun t13 s19 h19 => ?_))))
  obtain ⟨t12, rfl⟩ := untok_int hv12
  refine PyProof.Rows.floordiv_int (by decide) (x_int m (h19.toks _) I (by kernel_rfl) fun t14 s20 h20 => PyProof.Rows.mod_int' (by omega) ?_) (.inl (PyProof.noPylong_small (by decide)))
  rw [Int.fmod_eq_emod_of_nonneg _ (by omega)]
  exact k z' _ _ _ hzb (Int.emod_nonneg _ (by omega)) (Int.emod_lt_of_pos _ hm) (h20.drop.toks _)
theorem x_next (m : Int) {np : Pos} {pos : Pos} {f : Str} {es : List PySem.Expr} {Q : Value → Shared → Prop} (h : Ok (BB w h₁ X os dr) G (fr env vars cv :: li S [.int z 0] :: r) s) (I : In (BB w h₁ X os dr) env) (q : (ev env GL vars cv 9 (.Name f np), evs env GL vars cv es) = (some (.ref A_law_next), some [.ref S, .int m 0]))
    (v : V z) (hm : 0 < m) (F : Fit (BB w h₁ X os dr) A (d + 1) (u + 3))
    (k : ∀ z' x t s', V z' → 0 ≤ x → x < m → Ok (BB w h₁ X os dr) G (fr env vars cv :: li S [.int z' 0] :: r) s' → Q (.int x t) s') : wpAny (BB w h₁ X os dr).M A (eval (.Call (.Name f np) es [] pos) env) Q E s := by
  refine x_callf [.ref S, .int m 0] h I (D_law_next I.good) q fun us s1 hus h1 => ?_
  obtain ⟨v1, v2, rfl, e1, e2⟩ := args2 hus
  rw [untok_ref e1]
  obtain ⟨t, rfl⟩ := untok_int e2
  exact nx I.good h1.swap v hm F fun z' x t' s2 hz' h0 hlt h3 => k z' x t' s2 hz' h0 hlt h3.swap
end
end Mine
namespace Mine
local macro_rules | `(tactic| walk_at "foc") => `(tactic| first | with_reducible exact Foc.here _ _ | (apply Foc.there; walk_at "foc"))
local macro_rules | `(tactic| walk_at "has") => `(tactic| first | with_reducible exact Has.here _ _ | assumption | (refine Has.there _ ?_; walk_at "has"))
local macro_rules | `(tactic| walk_at "rep") => `(tactic| first | with_reducible exact Rep.here _ _ _ | assumption | (apply Rep.there; walk_at "rep"))
local macro_rules | `(tactic| walk_at "perm") => `(tactic| first | with_reducible exact List.Perm.refl _ | (refine perm_step (by walk_at "foc") ?_; walk_at "perm"))
theorem asg_sub {M : Model} {A : Around} {E : Value → Shared → Prop} {s : Shared} {env : Env} {o i : PySem.Expr} {pos : Pos} {v : Value} {Q : Unit → Shared → Prop} (h : wpAny M A (eval o env) (fun ov s₂ => wpAny M A (eval i env) (fun iv s₃ => wpAny M A (setItem ov iv v) Q E s₃) E s₂) E s) :
    wpAny M A (assign (.Subscript o i pos) env v) Q E s := fun Γ p hΓ => by
  simp only [assign_Subscript, Sem.wp_bind', Sem.wp_holding, Sem.wp_cmd_standAt, Sem.wp_release, Sem.wp_pure']
  exact Sem.wp_mono M Γ _ (fun ov p₂ s₂ h₂ => Sem.wp_mono M Γ _ (fun iv _ s₃ h₃ => h₃ Γ _ hΓ) (fun _ _ _ h' => h') _ _ (h₂ Γ p₂ hΓ)) (fun _ _ _ h' => h') _ _ (h Γ _ hΓ)
section
variable {w : World} {h₁ : Heap} {X : List Addr} {os : OsState} {dr : Drawn} {G : Array GenState} {cs cs' r : List Chunk} {s : Shared} {A : Around} {E : Value → Shared → Prop} {d u : Nat} {dir : Bool}
theorem U_add_node (g : (BB w h₁ X os dr).Good) {n : Int} {t0 : Tok} {g0 : GS} {Q : Value → Shared → Prop} (h : Ok (BB w h₁ X os dr) G (gU (BB w h₁ X os dr) C_Graph g0 ++ cs) s) (hgk : g0.Ok) (hn : ¬ n ∈ g0.rows.map (·.key)) (hz : g0.rows.length ≤ 100) (F : Fit (BB w h₁ X os dr) A (d + 2) (u + 6))
    (k : ∀ g' s', Ok (BB w h₁ X os dr) G (gU (BB w h₁ X os dr) C_Graph g' ++ cs) s' → g'.Ok → absR g'.rows = absR g0.rows ++ [(n, [])] → g'.x = g0.x → (∀ r ∈ g'.rows, r ∈ g0.rows ∨ r.ks = []) → Q .none s') : wpAny (BB w h₁ X os dr).M A (call (.ref A_G_add_node) [.ref g0.x, .int n t0]) Q E s := by
  obtain ⟨x, gd, ga, na, aa, eg, en, ea, nodes, rows, pool, pa, eq, prows⟩ := g0
  dsimp only at hn hgk hz ⊢
  have hk := hgk.keys
  dsimp only at hk
  have hnew : (nodes.map (·.1)).contains n = false := by rw [hk, List.contains_eq_mem, decide_eq_false_iff_not]; exact hn
  have hnewA : ((adjL rows).map (·.1)).contains n = false := by rw [adj_keys, ← hk]; exact hnew
  have hl1 : nodes.length ≤ 100 := by rw [← List.length_map (f := (·.1)), hk, List.length_map]; exact hz
  have hl2 : (adjL rows).length ≤ 100 := by unfold adjL; rw [List.length_map]; exact hz
  have D := D_G_add_node g
  refine call_code (code_enters (args := ⟨[.ref x, .int n t0], []⟩) h F D (by kernel_rfl) (binds_kw (fun z => [("self", .ref x), ("node_for_adding", .int n t0), ("attr", .ref z)]) h g (by intro z; kernel_rfl) fun at0 e0 s0 h0 => ?_))
  refine enters_of (vars := [("self", .ref x), ("node_for_adding", .int n 0), ("attr", .ref at0)]) (cv := []) h0 g F (by intro z; kernel_rfl) (by intro z; kernel_rfl) (fun _ => ⟨rfl, List.nodup_nil⟩) fun A' L s1 F' h1 => ?_
  have I := D.inEnv g L
  have h1 : Ok (BB w h₁ X os dr) G (fr (callEnvC fd_G_add_node L A_G_add_node) [("self", .ref x), ("node_for_adding", .int n 0), ("attr", .ref at0)] :: di (BB w h₁ X os dr) at0 [] e0 :: (ins x C_Graph gd :: idc (BB w h₁ X os dr) gd [("graph", ga), ("_node", na), ("_adj", aa)] :: di (BB w h₁ X os dr) ga [] eg :: di (BB w h₁ X os dr) na nodes en :: di (BB w h₁ X os dr) aa (adjL rows) ea :: ((rowsC (BB w h₁ X os dr) rows ++ poolC (BB w h₁ X os dr) pool) ++ cs))) s1 := h1
  show wpAny _ _ (execs (_ :: _) _) _ _ _
  refine x_cons (wpAny_If (wpAny_isTrue_Compare1 (x_int n h1 I (by kernel_rfl) fun t s7 h7 => x_sa x na h7 I (by kernel_rfl) (by walk_at "has") (by walk_at "has") (by kernel_rfl) (by intro ts n; kernel_rfl) fun s8 h8 => d_notin h8 g (ks := nodes) (ep := en) (by walk_at "has") fun s9 h9 => wpAny_truthy_bool ?_) rfl))
  rw [look_some_iff, hnew]
  show wpAny _ _ (execs (_ :: _) _) _ _ _
  refine x_cons (x_if false h9 I (by kernel_rfl) fun s13 h13 => ?_)
  refine x_nil ?_
  show wpAny _ _ (execs (_ :: _) _) _ _ _
  refine x_cons (wpAny_Assign_Subscript (x_meth A_G_f4 x [] h13 I (by kernel_rfl) (by walk_at "has") (by walk_at "has") (by kernel_rfl) (by intro ts n; kernel_rfl) (by kernel_rfl) fun us s14 hus h14 => ?_) (by with_unfolding_all rfl))
  rw [List.map_eq_nil_iff.mp hus]
  refine call_fac h14 g F' (D_G_f4 g) (by kernel_rfl) (by kernel_rfl) (by intro z; kernel_rfl) fun a1 e1 s15 h15 => ?_
  refine x_sa x aa h15.swap I (by kernel_rfl) (by walk_at "has") (by walk_at "has") (by kernel_rfl) (by intro ts n; kernel_rfl) fun s16 h16 => x_int n h16 I (by kernel_rfl) fun t1 s17 h17 => ?_
  refine d_put (ks := adjL rows) (ep := ea) (a := a1) h17 (fun ep' => (by walk_at "rep")) (Nat.le_trans hl2 (by decide)) fun ea' s18 h18 => ?_
  rw [sto_new hnewA] at h18
  show wpAny _ _ (execs (_ :: _) _) _ _ _
  refine x_cons (wpAny_Assign_two (x_meth A_G_f2 x [] h18 I (by kernel_rfl) (by walk_at "has") (by walk_at "has") (by kernel_rfl) (by intro ts n; kernel_rfl) (by kernel_rfl) fun us s19 hus h19 => ?_) (by with_unfolding_all rfl) (by with_unfolding_all rfl))
  rw [List.map_eq_nil_iff.mp hus]
  refine call_fac h19 g F' (D_G_f2 g) (by kernel_rfl) (by kernel_rfl) (by intro z; kernel_rfl) fun a2 e2 s20 h20 => ?_
  refine wpAny_assign_Name (st_local (p := .ref a2) h20.swap I rfl (by kernel_rfl) fun s20b h20b => asg_sub ?_)
  refine x_sa x na h20b I (by kernel_rfl) (by walk_at "has") (by walk_at "has") (by kernel_rfl) (by intro ts n; kernel_rfl) fun s21 h21 => x_int n h21 I (by kernel_rfl) fun t2 s22 h22 => ?_
  refine d_put (ks := nodes) (ep := en) (a := a2) h22 (fun ep' => (by walk_at "rep")) (Nat.le_trans hl1 (by decide)) fun en' s23 h23 => ?_
  rw [sto_new hnew] at h23
  show wpAny _ _ (execs (_ :: _) _) _ _ _
  refine x_cons (wpAny_Expr_any (x_bm a2 [.ref at0] h23 I (by kernel_rfl) (fun s' Q' h' k => m_dict (ep := e2) (ks := []) h' (by walk_at "has") PySem.F.slot_dict_update PySem.F.type_dict_update k) fun us s27 hus h27 => ?_))
  obtain ⟨v1, rfl, hu1⟩ := args1 hus
  cases untok_ref hu1
  have hne : a2 ≠ at0 := d_ne h27 (ks := []) (ks' := []) (ep := e2) (ep' := e0) (by walk_at "foc") (by walk_at "has")
  refine d_upd0 (ks := []) (ep := e2) (ep' := e0) h27 g (fun n => (by walk_at "rep")) (by walk_at "has") hne (Nat.zero_le _) fun e2' s28 h28 => ?_
  refine x_nil (x_nil ?_)
  have h29 := h28.perm (cs' := fr (callEnvC fd_G_add_node L A_G_add_node) _ [] :: di (BB w h₁ X os dr) at0 [] e0 :: ins x C_Graph gd :: idc (BB w h₁ X os dr) gd [("graph", ga), ("_node", na), ("_adj", aa)] :: di (BB w h₁ X os dr) ga [] eg :: di (BB w h₁ X os dr) na (nodes ++ [(n, a2)]) en' :: di (BB w h₁ X os dr) aa (adjL rows ++ [(n, a1)]) ea' :: di (BB w h₁ X os dr) a1 [] e1 :: di (BB w h₁ X os dr) a2 [] e2' :: ((rowsC (BB w h₁ X os dr) rows ++ poolC (BB w h₁ X os dr) pool) ++ cs)) (by walk_at "perm")
  have h30 := h29.drop.drop
  refine k ⟨x, gd, ga, na, aa, eg, en', ea', nodes ++ [(n, a2)], rows ++ [⟨n, a1, [], e1⟩], pool ++ [(a2, e2')], 0, 0, []⟩ s28 ?_ ⟨by simp [hk], fun p hp => ?_, fun r hr p hp => ?_⟩ (by unfold absR; simp) rfl (fun r hr => ?_)
  · have e : adjL (rows ++ [⟨n, a1, [], e1⟩]) = adjL rows ++ [(n, a1)] := by unfold adjL; simp
    show Ok (BB w h₁ X os dr) G (ins x C_Graph gd :: idc (BB w h₁ X os dr) gd [("graph", ga), ("_node", na), ("_adj", aa)] :: di (BB w h₁ X os dr) ga [] eg :: di (BB w h₁ X os dr) na (nodes ++ [(n, a2)]) en' :: di (BB w h₁ X os dr) aa (adjL (rows ++ [⟨n, a1, [], e1⟩])) ea' :: ((rowsC (BB w h₁ X os dr) (rows ++ [⟨n, a1, [], e1⟩]) ++ poolC (BB w h₁ X os dr) (pool ++ [(a2, e2')])) ++ cs)) s28
    rw [e]
    exact Ok.tail [_, _, _, _, _] h30 (tail_perm ⟨n, a1, [], e1⟩ (a2, e2'))
  · rcases List.mem_append.mp hp with hp | hp
    · obtain ⟨e, he⟩ := hgk.nodes p hp
      exact ⟨e, List.mem_append_left _ he⟩
    · rw [List.mem_singleton.mp hp]
      exact ⟨e2', by simp⟩
  · rcases List.mem_append.mp hr with hr | hr
    · obtain ⟨e, he⟩ := hgk.rows r hr p hp
      exact ⟨e, List.mem_append_left _ he⟩
    · rw [List.mem_singleton.mp hr] at hp; cases hp
  · rcases List.mem_append.mp hr with hr | hr
    · exact .inl hr
    · rw [List.mem_singleton.mp hr]; exact .inr rfl
theorem D_add_node (g : (BB w h₁ X os dr).Good) {n : Int} {t0 : Tok} {g0 : GS} {Q : Value → Shared → Prop} (h : Ok (BB w h₁ X os dr) G (gD (BB w h₁ X os dr) C_DiGraph g0 ++ cs) s) (hgk : g0.OkD) (hn : ¬ n ∈ g0.rows.map (·.key)) (hz : g0.rows.length ≤ 100) (F : Fit (BB w h₁ X os dr) A (d + 2) (u + 6))
    (k : ∀ g' s', Ok (BB w h₁ X os dr) G (gD (BB w h₁ X os dr) C_DiGraph g' ++ cs) s' → g'.OkD → absR g'.rows = absR g0.rows ++ [(n, [])] → g'.x = g0.x → (∀ r ∈ g'.rows, r ∈ g0.rows ∨ r.ks = []) → (∀ r ∈ g'.prows, r ∈ g0.prows ∨ r.ks = []) → Q .none s') : wpAny (BB w h₁ X os dr).M A (call (.ref A_D_add_node) [.ref g0.x, .int n t0]) Q E s := by
  obtain ⟨x, gd, ga, na, aa, eg, en, ea, nodes, rows, pool, pa, eq, prows⟩ := g0
  dsimp only at hn hgk hz ⊢
  have hk := hgk.keys
  dsimp only at hk
  have hnew : (nodes.map (·.1)).contains n = false := by rw [hk, List.contains_eq_mem, decide_eq_false_iff_not]; exact hn
  have hnewA : ((adjL rows).map (·.1)).contains n = false := by rw [adj_keys, ← hk]; exact hnew
  have hl1 : nodes.length ≤ 100 := by rw [← List.length_map (f := (·.1)), hk, List.length_map]; exact hz
  have hl2 : (adjL rows).length ≤ 100 := by unfold adjL; rw [List.length_map]; exact hz
  have hpk := hgk.pkeys
  dsimp only at hpk
  have hnewP : ((adjL prows).map (·.1)).contains n = false := by rw [adj_keys, hpk, ← hk]; exact hnew
  have hl3 : (adjL prows).length ≤ 100 := by have := congrArg List.length hpk; rw [List.length_map, List.length_map] at this; unfold adjL; rw [List.length_map]; omega
  have D := D_D_add_node g
  refine call_code (code_enters (args := ⟨[.ref x, .int n t0], []⟩) h F D (by kernel_rfl) (binds_kw (fun z => [("self", .ref x), ("node_for_adding", .int n t0), ("attr", .ref z)]) h g (by intro z; kernel_rfl) fun at0 e0 s0 h0 => ?_))
  refine enters_of (vars := [("self", .ref x), ("node_for_adding", .int n 0), ("attr", .ref at0)]) (cv := []) h0 g F (by intro z; kernel_rfl) (by intro z; kernel_rfl) (fun _ => ⟨rfl, List.nodup_nil⟩) fun A' L s1 F' h1 => ?_
  have I := D.inEnv g L
  have h1 : Ok (BB w h₁ X os dr) G (fr (callEnvC fd_D_add_node L A_D_add_node) [("self", .ref x), ("node_for_adding", .int n 0), ("attr", .ref at0)] :: di (BB w h₁ X os dr) at0 [] e0 :: (ins x C_DiGraph gd :: idc (BB w h₁ X os dr) gd [("graph", ga), ("_node", na), ("_adj", aa), ("_succ", aa), ("_pred", pa)] :: di (BB w h₁ X os dr) ga [] eg :: di (BB w h₁ X os dr) na nodes en :: di (BB w h₁ X os dr) aa (adjL rows) ea :: di (BB w h₁ X os dr) pa (adjL prows) eq :: ((rowsC (BB w h₁ X os dr) rows ++ (rowsC (BB w h₁ X os dr) prows ++ poolC (BB w h₁ X os dr) pool)) ++ cs))) s1 := h1
  show wpAny _ _ (execs (_ :: _) _) _ _ _
  refine x_cons (wpAny_If (wpAny_isTrue_Compare1 (x_int n h1 I (by kernel_rfl) fun t s7 h7 => x_sa x aa h7 I (by kernel_rfl) (by walk_at "has") (by walk_at "has") (by kernel_rfl) (by intro ts n; kernel_rfl) fun s8 h8 => d_notin h8 g (ks := adjL rows) (ep := ea) (by walk_at "has") fun s9 h9 => wpAny_truthy_bool ?_) rfl))
  rw [look_some_iff, hnewA]
  show wpAny _ _ (execs (_ :: _) _) _ _ _
  refine x_cons (x_if false h9 I (by kernel_rfl) fun s13 h13 => ?_)
  refine x_nil ?_
  show wpAny _ _ (execs (_ :: _) _) _ _ _
  refine x_cons (wpAny_Assign_Subscript (x_meth A_G_f4 x [] h13 I (by kernel_rfl) (by walk_at "has") (by walk_at "has") (by kernel_rfl) (by intro ts n; kernel_rfl) (by kernel_rfl) fun us s14 hus h14 => ?_) (by with_unfolding_all rfl))
  rw [List.map_eq_nil_iff.mp hus]
  refine call_fac h14 g F' (D_G_f4 g) (by kernel_rfl) (by kernel_rfl) (by intro z; kernel_rfl) fun a1 e1 s15 h15 => ?_
  refine x_sa x aa h15.swap I (by kernel_rfl) (by walk_at "has") (by walk_at "has") (by kernel_rfl) (by intro ts n; kernel_rfl) fun s16 h16 => x_int n h16 I (by kernel_rfl) fun t1 s17 h17 => ?_
  refine d_put (ks := adjL rows) (ep := ea) (a := a1) h17 (fun ep' => (by walk_at "rep")) (Nat.le_trans hl2 (by decide)) fun ea' s18 h18 => ?_
  rw [sto_new hnewA] at h18
  show wpAny _ _ (execs (_ :: _) _) _ _ _
  refine x_cons (wpAny_Assign_Subscript (x_meth A_G_f4 x [] h18 I (by kernel_rfl) (by walk_at "has") (by walk_at "has") (by kernel_rfl) (by intro ts n; kernel_rfl) (by kernel_rfl) fun us s14b hus h14b => ?_) (by with_unfolding_all rfl))
  rw [List.map_eq_nil_iff.mp hus]
  refine call_fac h14b g F' (D_G_f4 g) (by kernel_rfl) (by kernel_rfl) (by intro z; kernel_rfl) fun a3 e3 s15b h15b => ?_
  refine x_sa x pa h15b.swap I (by kernel_rfl) (by walk_at "has") (by walk_at "has") (by kernel_rfl) (by intro ts n; kernel_rfl) fun s16b h16b => x_int n h16b I (by kernel_rfl) fun t1b s17b h17b => ?_
  refine d_put (ks := adjL prows) (ep := eq) (a := a3) h17b (fun ep' => (by walk_at "rep")) (Nat.le_trans hl3 (by decide)) fun eq' s18b h18b => ?_
  rw [sto_new hnewP] at h18b
  show wpAny _ _ (execs (_ :: _) _) _ _ _
  refine x_cons (wpAny_Assign_two (x_meth A_G_f2 x [] h18b I (by kernel_rfl) (by walk_at "has") (by walk_at "has") (by kernel_rfl) (by intro ts n; kernel_rfl) (by kernel_rfl) fun us s19 hus h19 => ?_) (by with_unfolding_all rfl) (by with_unfolding_all rfl))
  rw [List.map_eq_nil_iff.mp hus]
  refine call_fac h19 g F' (D_G_f2 g) (by kernel_rfl) (by kernel_rfl) (by intro z; kernel_rfl) fun a2 e2 s20 h20 => ?_
  refine wpAny_assign_Name (st_local (p := .ref a2) h20.swap I rfl (by kernel_rfl) fun s20b h20b => asg_sub ?_)
  refine x_sa x na h20b I (by kernel_rfl) (by walk_at "has") (by walk_at "has") (by kernel_rfl) (by intro ts n; kernel_rfl) fun s21 h21 => x_int n h21 I (by kernel_rfl) fun t2 s22 h22 => ?_
  refine d_put (ks := nodes) (ep := en) (a := a2) h22 (fun ep' => (by walk_at "rep")) (Nat.le_trans hl1 (by decide)) fun en' s23 h23 => ?_
  rw [sto_new hnew] at h23
  show wpAny _ _ (execs (_ :: _) _) _ _ _
  refine x_cons (wpAny_Expr_any (x_bm a2 [.ref at0] h23 I (by kernel_rfl) (fun s' Q' h' k => m_dict (ep := e2) (ks := []) h' (by walk_at "has") PySem.F.slot_dict_update PySem.F.type_dict_update k) fun us s27 hus h27 => ?_))
  obtain ⟨v1, rfl, hu1⟩ := args1 hus
  cases untok_ref hu1
  have hne : a2 ≠ at0 := d_ne h27 (ks := []) (ks' := []) (ep := e2) (ep' := e0) (by walk_at "foc") (by walk_at "has")
  refine d_upd0 (ks := []) (ep := e2) (ep' := e0) h27 g (fun n => (by walk_at "rep")) (by walk_at "has") hne (Nat.zero_le _) fun e2' s28 h28 => ?_
  refine x_nil (x_nil ?_)
  have h29 := h28.perm (cs' := fr (callEnvC fd_D_add_node L A_D_add_node) _ [] :: di (BB w h₁ X os dr) at0 [] e0 :: ins x C_DiGraph gd :: idc (BB w h₁ X os dr) gd [("graph", ga), ("_node", na), ("_adj", aa), ("_succ", aa), ("_pred", pa)] :: di (BB w h₁ X os dr) ga [] eg :: di (BB w h₁ X os dr) na (nodes ++ [(n, a2)]) en' :: di (BB w h₁ X os dr) aa (adjL rows ++ [(n, a1)]) ea' :: di (BB w h₁ X os dr) pa (adjL prows ++ [(n, a3)]) eq' :: di (BB w h₁ X os dr) a1 [] e1 :: di (BB w h₁ X os dr) a3 [] e3 :: di (BB w h₁ X os dr) a2 [] e2' :: ((rowsC (BB w h₁ X os dr) rows ++ (rowsC (BB w h₁ X os dr) prows ++ poolC (BB w h₁ X os dr) pool)) ++ cs)) (by walk_at "perm")
  have h30 := h29.drop.drop
  refine k ⟨x, gd, ga, na, aa, eg, en', ea', nodes ++ [(n, a2)], rows ++ [⟨n, a1, [], e1⟩], pool ++ [(a2, e2')], pa, eq', prows ++ [⟨n, a3, [], e3⟩]⟩ s28 ?_ ⟨by simp [hk], by simp [hpk], fun p hp => ?_, fun r hr p hp => ?_, fun r hr p hp => ?_⟩ (by unfold absR; simp) rfl (fun r hr => ?_) (fun r hr => ?_)
  · have e : adjL (rows ++ [⟨n, a1, [], e1⟩]) = adjL rows ++ [(n, a1)] := by unfold adjL; simp
    have e' : adjL (prows ++ [⟨n, a3, [], e3⟩]) = adjL prows ++ [(n, a3)] := by unfold adjL; simp
    show Ok (BB w h₁ X os dr) G (ins x C_DiGraph gd :: idc (BB w h₁ X os dr) gd [("graph", ga), ("_node", na), ("_adj", aa), ("_succ", aa), ("_pred", pa)] :: di (BB w h₁ X os dr) ga [] eg :: di (BB w h₁ X os dr) na (nodes ++ [(n, a2)]) en' :: di (BB w h₁ X os dr) aa (adjL (rows ++ [⟨n, a1, [], e1⟩])) ea' :: di (BB w h₁ X os dr) pa (adjL (prows ++ [⟨n, a3, [], e3⟩])) eq' :: ((rowsC (BB w h₁ X os dr) (rows ++ [⟨n, a1, [], e1⟩]) ++ (rowsC (BB w h₁ X os dr) (prows ++ [⟨n, a3, [], e3⟩]) ++ poolC (BB w h₁ X os dr) (pool ++ [(a2, e2')]))) ++ cs)) s28
    rw [e, e']
    exact Ok.tail [_, _, _, _, _, _] h30 (tail_permD ⟨n, a1, [], e1⟩ ⟨n, a3, [], e3⟩ (a2, e2'))
  · rcases List.mem_append.mp hp with hp | hp
    · obtain ⟨e, he⟩ := hgk.nodes p hp
      exact ⟨e, List.mem_append_left _ he⟩
    · rw [List.mem_singleton.mp hp]
      exact ⟨e2', by simp⟩
  · rcases List.mem_append.mp hr with hr | hr
    · obtain ⟨e, he⟩ := hgk.rows r hr p hp
      exact ⟨e, List.mem_append_left _ he⟩
    · rw [List.mem_singleton.mp hr] at hp; cases hp
  · rcases List.mem_append.mp hr with hr | hr
    · obtain ⟨e, he⟩ := hgk.prows r hr p hp
      exact ⟨e, List.mem_append_left _ he⟩
    · rw [List.mem_singleton.mp hr] at hp; cases hp
  · rcases List.mem_append.mp hr with hr | hr
    · exact .inl hr
    · rw [List.mem_singleton.mp hr]; exact .inr rfl
  · rcases List.mem_append.mp hr with hr | hr
    · exact .inl hr
    · rw [List.mem_singleton.mp hr]; exact .inr rfl
def a1X : Bool → Addr | true => A_D_add_node | false => A_G_add_node
theorem addN1_call (g : (BB w h₁ X os dr).Good) {adj : List (Int × List Int)} {n : Int} {t0 : Tok} {N : Nat} {g0 : GS} {Q : Value → Shared → Prop} (h : Ok (BB w h₁ X os dr) G (gX (BB w h₁ X os dr) dir g0 ++ cs) s) (hg : GOk dir g0 adj N) (hn : ¬ n ∈ adj.map (·.1)) (hz : adj.length ≤ 100) (F : Fit (BB w h₁ X os dr) A (d + 2) (u + 6))
    (k : ∀ g' s', g'.x = g0.x → Ok (BB w h₁ X os dr) G (gX (BB w h₁ X os dr) dir g' ++ cs) s' → GOk dir g' (adj ++ [(n, [])]) N → Q .none s') : wpAny (BB w h₁ X os dr).M A (call (.ref (a1X dir)) [.ref g0.x, .int n t0]) Q E s := by
  obtain ⟨hu, hd, rfl, hs, hp⟩ := hg
  rw [abs_keys] at hn
  have hz' : g0.rows.length ≤ 100 := by unfold absR at hz; rw [List.length_map] at hz; exact hz
  cases dir with
  | true => exact D_add_node g h (hd rfl) hn hz' F fun g' s' h' hok h1 hx h3 h4 => k g' s' hx h' ⟨fun e => (by cases e), fun _ => hok, h1, fun r hr => (h3 r hr).elim (hs r) (fun e => by rw [e]; exact Nat.zero_le _), fun _ r hr => (h4 r hr).elim (hp rfl r) (fun e => by rw [e]; exact Nat.zero_le _)⟩
  | false => exact U_add_node g h (hu rfl) hn hz' F fun g' s' h' hok h1 hx h3 => k g' s' hx h' ⟨fun _ => hok, fun e => (by cases e), h1, fun r hr => (h3 r hr).elim (hs r) (fun e => by rw [e]; exact Nat.zero_le _), fun e => (by cases e)⟩
end
end Mine
namespace Mine
local macro_rules | `(tactic| walk_at "foc") => `(tactic| first | with_reducible exact Foc.here _ _ | (apply Foc.there; walk_at "foc"))
local macro_rules | `(tactic| walk_at "has") => `(tactic| first | with_reducible exact Has.here _ _ | assumption | (refine Has.there _ ?_; walk_at "has"))
local macro_rules | `(tactic| walk_at "rep") => `(tactic| first | with_reducible exact Rep.here _ _ _ | assumption | (apply Rep.there; walk_at "rep"))
local macro_rules | `(tactic| walk_at "perm") => `(tactic| first | with_reducible exact List.Perm.refl _ | (refine perm_step (by walk_at "foc") ?_; walk_at "perm"))
noncomputable abbrev LB : List Stmt := fbodyL [24]
noncomputable abbrev LE (L : Addr) : Env := callEnvC fd_law L A_law
noncomputable def naC : PySem.Expr := asgV (LB.getD 3 stPass)
noncomputable def naS : Scope := cmpS (fscope [24]) naC
noncomputable def naX : PySem.Expr := .ListComp (cmpK naC) [⟨(cmpG naC).target, (cmpG naC).iter, (cmpG naC).ifs, 0⟩] naS (cmpP naC)
def nine (n : Nat) : List Int := (List.range n).map fun (i : Nat) => 9 * (i : Int)
theorem nine_nodup (n : Nat) : (nine n).Nodup := by
  unfold nine
  rw [List.nodup_iff_pairwise_ne, List.pairwise_map]
  exact (List.nodup_iff_pairwise_ne.mp List.nodup_range).imp fun h e => h (by omega)
theorem nine_snoc (n : Nat) : nine (n + 1) = nine n ++ [9 * (n : Int)] := by unfold nine; rw [List.range_succ, List.map_append]; rfl
theorem nine_len (n : Nat) : (nine n).length = n := by unfold nine; simp
theorem nine_mem {n : Nat} {x : Int} (h : x ∈ nine n) : ∃ i : Nat, i < n ∧ x = 9 * (i : Int) := by
  obtain ⟨i, hi, rfl⟩ := List.mem_map.mp h
  exact ⟨i, List.mem_range.mp hi, rfl⟩
theorem erase_perm {α : Type} : ∀ (l : List α) (i : Nat) (x : α), l[i]? = some x → (x :: l.eraseIdx i).Perm l
  | [], i, x, h => by simp at h
  | a :: l, 0, x, h => by simp at h; subst h; exact List.Perm.refl _
  | a :: l, i + 1, x, h => by
    rw [List.eraseIdx_cons_succ]
    exact (List.Perm.swap _ _ _).trans (List.Perm.cons _ (erase_perm l i x (by simpa using h)))
section
variable {b : Base} {G : Array GenState} {cs : List Chunk} {s : Shared} {A : Around} {E : Value → Shared → Prop} {env : Env}
theorem cw_def {f : Addr} {fd : FuncData} {body : List Stmt} (D : IsDef b f fd body) {e : PySem.Expr} {es : List PySem.Expr} {pos : Pos} {Q : Value → Shared → Prop}
    (h : wpAny b.M A (spliced (backTo pos (starEach (e :: es) env))) (fun us s' => (∃ G cs, Ok b G cs s') ∧ wpAny b.M A (call (.ref f) us []) Q E s') E s) (hs : isStar e = false := by rfl) : wpAny b.M A (callWith pos (.ref f) [] (backTo pos (starEach (e :: es) env)) []) Q E s := by
  obtain ⟨o, ho, hd⟩ := D.at_
  rw [starEach_cons hs, backTo_cons] at h ⊢
  exact Calls.callWith_function (o := o) (fd := fd) (Calls.evalArgs_plain (wpAny_mono h (fun us s' ⟨⟨G, cs, h'⟩, k⟩ => ⟨⟨h'.old D.off ho, hd⟩, k⟩) fun _ _ e => e))
theorem new_listL {Q : Value → Shared → Prop} (h : Ok b G cs s) (k : ∀ a s', Ok b G (li a [] :: cs) s' → Q (.ref a) s') : wpAny b.M A (newList []) Q E s :=
  wpAny_newList (k _ _ (l_new' (vs := []) (t := s.toks) h rfl)) (by decide)
end
theorem at_nat {nms : List Int} {j : Nat} (hj : j < nms.length) : (intL nms)[((j : Nat) : Int).toNat]? = some (.int nms[j] 0) := by unfold intL; simp [hj]
theorem rit_self {b : Base} {G : Array GenState} {cs : List Chunk} {s : Shared} {A : Around} {E : Value → Shared → Prop} {it : Addr} {c : Int} {vs : List Value} {Q : Value → Shared → Prop} (h : Ok b G cs s) (f : Has cs (rit it c vs)) (q : Q (.ref it) s) : wpAny b.M A (pyIter (.ref it)) Q E s := by
  obtain ⟨o, e, x, n, rfl, -⟩ := h.has f
  have hT : s.TypeIs (.ref it) "range_iterator" := ⟨_, e, rfl⟩
  refine wpAny_pyIter_slot hT PySem.F.slot_range_iterator_iter (wpAny_call_entry PySem.F.slot_range_iterator_iter hT PySem.F.entry_range_iterator_iter ?_ (PySem.F.args_range_iterator_iter_1 _))
  show wpAny _ _ (ret (.ref it)) _ _ s
  exact wpAny_pure ⟨_, rfl, "range_iterator", _, hT, PySem.F.slot_range_iterator_next.lookup, q⟩
abbrev varsA (S gx NL R : Addr) (n : Nat) (dir : Bool) : List (Str × Value) := [("s", .ref S), ("many", .int n 0), ("directed", .bool dir), ("graph", .ref gx), ("names", .ref NL), ("near", .ref R)]
section
variable {w : World} {h₁ : Heap} {X : List Addr} {os : OsState} {dr : Drawn} {G : Array GenState} {cs cs' F : List Chunk} {s : Shared} {A : Around} {E : Value → Shared → Prop} {d u : Nat} {xs : List Int} {l L : Addr} {vs : List Value} {vars : List (Str × Value)}
theorem law_a (g : (BB w h₁ X os dr).Good) {Q : Flow → Shared → Prop} (hl : h₁.IsList l vs.toArray) (hX : l ∉ X) (hx : vs.map untok = intL xs) (hz : xs.length ≤ 1000) (Fi : Fit (BB w h₁ X os dr) A (d + 30) (u + 60))
    (h : Ok (BB w h₁ X os dr) G (fr (LE L) [("script", .ref l)] [] :: F) s)
    (k : ∀ (S LF NL R : Addr) (z : Int) (ep n : Nat) (dir : Bool) (g0 : GS) s', V z → 0 < n → n ≤ 6 → GOk dir g0 [] 0 →
      Ok (BB w h₁ X os dr) G (fr (LE L) (("left", .ref LF) :: varsA S g0.x NL R n dir) [] :: li S [.int z 0] :: li LF (intL (nine n)) :: li NL (intL []) :: di (BB w h₁ X os dr) R [] ep :: (gX (BB w h₁ X os dr) dir g0 ++ F)) s' →
      wpAny (BB w h₁ X os dr).M A (execs (LB.drop 5) (LE L)) Q E s') : wpAny (BB w h₁ X os dr).M A (execs LB (LE L)) Q E s := by
  have D := D_law g
  have I := D.inEnv g L
  show wpAny _ _ (execs (_ :: _) _) _ _ _
  refine x_cons (x_asg (x_callf [.ref l] h I (D_law_seed g) (by kernel_rfl) fun us s1 hus h1 => ?_))
  obtain ⟨v1, rfl, e1⟩ := args1 hus
  rw [untok_ref e1]
  refine seed_ (d := d) (u := u) g hl hX hx hz (Fi.mono (by omega) (by omega)) h1 fun S z s2 hv h2 => ?_
  refine st_local (p := .ref S) h2.swap I rfl (by kernel_rfl) fun s3 h3 => ?_
  show wpAny _ _ (execs (_ :: _) _) _ _ _
  refine x_cons (x_swap2 (G := G) (cv := []) I Fi.handled (by kernel_rfl) (by kernel_rfl) (sp_cons (wpAny_BinOp (x_int 1 h3 I (by kernel_rfl) fun t3 s6 h6 => x_next (d := d) (u := u) 6 h6 I (by kernel_rfl) hv (by decide) (Fi.mono (by omega) (by omega)) fun z1 m t4 s7 v1 hm0 hm h7 => ?_))))
  refine PyProof.Rows.add_int (sp_cons (wpAny_Compare1 (x_next (d := d) (u := u) 2 (h7.toks _) I (by kernel_rfl) v1 (by decide) (Fi.mono (by omega) (by omega)) fun z2 dd t5 s8 hz2 hd0 hd h8 => x_int 0 h8 I (by kernel_rfl) fun t6 s9 h9 => ?_) (by kernel_rfl)))
  refine PyProof.Rows.eq_int (sp_nil ⟨_, _, .int (1 + m) 0, .bool (dd == 0), rfl, h9, fun tp s10 h10 => ?_⟩)
  generalize hdir : (dd == 0) = dir at h10
  obtain ⟨n, hn⟩ : ∃ n : Nat, 1 + m = n := ⟨(1 + m).toNat, by omega⟩
  rw [hn] at h10
  have h11 := h10.drop1
  have hn0 : 0 < n := by omega
  have hn6 : n ≤ 6 := by omega
  show wpAny _ _ (execs (_ :: _) _) _ _ _
  refine x_cons (x_asg (x_newG (dir := dir) (d := d) (u := u) h11 I (Fi.mono (by omega) (by omega)) (by kernel_rfl) fun g0 s12 h12 hu hd' hr => ?_))
  have h13 := h12.perm (back2 _ _ _ _)
  refine st_local (p := .ref g0.x) h13 I rfl (by kernel_rfl) fun s13 h14 => ?_
  have h14 : Ok (BB w h₁ X os dr) G (fr (LE L) [("s", .ref S), ("many", .int n 0), ("directed", .bool dir), ("graph", .ref g0.x)] [] :: li S [.int z2 0] :: (gX (BB w h₁ X os dr) dir g0 ++ F)) s13 := h14.sub (by kernel_rfl)
  show wpAny _ _ (execs (_ :: _) _) _ _ _
  refine x_cons (x_asgU ?_)
  show wpAny _ _ (comprehension naX naS (LE L) _ (newList []) false (eval (cmpG naC).iter (LE L)) (some (assign (.Name "left" _) (LE L))) >>= fun _ => pure ()) _ _ _
  refine wpAny_bind (x_compU (G := G) [] [] [] g I rfl (fun _ => (by kernel_rfl)) (by kernel_rfl) (Prod.ext (by kernel_rfl) rfl) rfl (by kernel_rfl) (wpAny_Call_NameR (x_ev (.type "range") h14 I (by kernel_rfl) fun v2 s2 hv2 h2 => ?_)))
  rw [untok_type hv2]
  refine PyProof.Rows.callWith_type1 (sp_cons (x_int n h2 I (by kernel_rfl) fun t3 s3 h3 => sp_nil (r_new1 h3 fun rr s5 h5 => ?_)))
  refine r_iter (x := 0) (y := n) (c := 1) (n := n) h5 (by walk_at "has") (small_one (by decide) (by decide) (by omega) (by omega)) (by rw [rangeSize_one]; split <;> omega) fun it2 s6 h6 => new_listL h6 fun a s7 h7 => ?_
  have h8 : Ok (BB w h₁ X os dr) G (fr (LE L) [("s", .ref S), ("many", .int n 0), ("directed", .bool dir), ("graph", .ref g0.x)] [] :: rit it2 1 (rgi 0 1 n) :: li a [] :: li S [.int z2 0] :: (gX (BB w h₁ X os dr) dir g0 ++ F)) s7 := (h7.perm (cs' := rg rr 0 n 1 :: fr (LE L) [("s", .ref S), ("many", .int n 0), ("directed", .bool dir), ("graph", .ref g0.x)] [] :: rit it2 1 (rgi 0 1 n) :: li a [] :: li S [.int z2 0] :: (gX (BB w h₁ X os dr) dir g0 ++ F)) (by walk_at "perm")).drop
  refine ⟨_, _, h8, fun C s8 h9 => ?_⟩
  have I' : In (BB w h₁ X os dr) (cEnv naS (LE L) C) := x_inC g I (by kernel_rfl)
  refine lc_run (vs := rgi 0 1 n) (fun vs s => ∃ (i j : Nat) (vs' : List (Str × Value)), vs = rgi (i : Int) 1 j ∧ i + j = n ∧ Ok (BB w h₁ X os dr) G (fr (cEnv naS (LE L) C) vs' [] :: fr (LE L) [("s", .ref S), ("many", .int n 0), ("directed", .bool dir), ("graph", .ref g0.x)] [] :: rit it2 1 vs :: li a (intL (nine i)) :: li S [.int z2 0] :: (gX (BB w h₁ X os dr) dir g0 ++ F)) s) ?_ ?_ ?_ ⟨0, n, [], rfl, by omega, h9⟩
  · intro vs5 s5 Q' ⟨i, j, vs', e1, e2, h5⟩ q
    exact rit_self h5 (by walk_at "has") q
  · intro v vs5 s5 ⟨i, j, vs', e1, e2, h5⟩
    cases j with
    | zero => cases e1
    | succ j =>
      obtain ⟨rfl, rfl⟩ := List.cons.inj e1
      refine (rit_iter it2 1).next h5 (by walk_at "rep") trivial fun u' s6 hu h6 => ⟨u', rfl, own_name ?_⟩
      obtain ⟨t, rfl⟩ := untok_int hu
      refine wpAny_assign_Name (st_local h6 I' rfl (by kernel_rfl) fun s7 h7 => t_nil ?_)
      rw [if_pos rfl]
      refine wpAny_BinOp (x_int 9 h7 I' (by kernel_rfl) fun t8 s8 h8 => x_int (i : Int) h8 I' (by kernel_rfl) fun t9 s9 h9 => PyProof.Rows.mul_int ?_ (.of_left (intBits_le_64 (by decide) (by decide))))
      refine l_append (v := .int (9 * (i : Int)) s9.toks) (p := .int (9 * (i : Int)) 0) (ps := intL (nine i)) (h9.toks _) rfl (by walk_at "rep") (by rw [intL_len, nine_len]; exact Nat.le_trans (show i ≤ 1000 by omega) (by decide)) fun s11 h11 => ?_
      rw [intL_snoc, ← nine_snoc] at h11
      exact ⟨i + 1, j, _, by rw [show ((i + 1 : Nat) : Int) = (i : Int) + 1 from by omega], by omega, h11⟩
  · intro s5 ⟨i, j, vs', e1, e2, h5⟩
    cases j with
    | succ j => cases e1
    | zero =>
      refine (rit_iter it2 1).done Fi.handled h5 (by walk_at "foc") trivial fun s6 h6 => ⟨rfl, ?_⟩
      refine ⟨vs', _, h6, fun s7 h7 => wpAny_pure ?_⟩
      have hin : i = n := by omega
      rw [hin] at h7
      show wpAny _ _ (execs (_ :: _) _) _ _ _
      refine x_cons (x_swap2 (G := G) (cv := []) I Fi.handled (by kernel_rfl) (by kernel_rfl) (sp_cons (x_listP [] h7 I (by kernel_rfl) fun NL s8 h8 => sp_cons (x_dict0 h8 fun R ep s9 h9 => sp_nil ⟨_, _, .ref NL, .ref R, rfl, h9.swap, fun tp s10 h10 => ?_⟩))))
      have h11 := h10.drop1
      refine k S a NL R z2 ep n dir g0 s10 hz2 hn0 hn6 ⟨hu, hd', by rw [hr]; rfl, fun r hr' => (by rw [hr] at hr'; cases hr'), fun e r hr' => ?_⟩ ?_
      · have hp := (hd' e).pkeys
        rw [hr] at hp
        have : g0.prows = [] := by simpa using hp
        rw [this] at hr'; cases hr'
      · exact (h11.sub (vars' := ("left", .ref a) :: varsA S g0.x NL R n dir) (by kernel_rfl)).perm (by
          show List.Perm (fr (LE L) (("left", .ref a) :: varsA S g0.x NL R n dir) [] :: di (BB w h₁ X os dr) R [] ep :: li NL [] :: li a (intL (nine n)) :: li S [.int z2 0] :: (gX (BB w h₁ X os dr) dir g0 ++ F)) (fr (LE L) (("left", .ref a) :: varsA S g0.x NL R n dir) [] :: li S [.int z2 0] :: li a (intL (nine n)) :: li NL [] :: di (BB w h₁ X os dr) R [] ep :: (gX (BB w h₁ X os dr) dir g0 ++ F))
          exact (by walk_at "perm"))
end
end Mine
namespace Mine
local macro_rules | `(tactic| walk_at "foc") => `(tactic| first | with_reducible exact Foc.here _ _ | (apply Foc.there; walk_at "foc"))
local macro_rules | `(tactic| walk_at "has") => `(tactic| first | with_reducible exact Has.here _ _ | assumption | (refine Has.there _ ?_; walk_at "has"))
local macro_rules | `(tactic| walk_at "rep") => `(tactic| first | with_reducible exact Rep.here _ _ _ | assumption | (apply Rep.there; walk_at "rep"))
local macro_rules | `(tactic| walk_at "perm") => `(tactic| first | with_reducible exact List.Perm.refl _ | (refine perm_step (by walk_at "foc") ?_; walk_at "perm"))
section
variable {w : World} {h₁ : Heap} {X : List Addr} {os : OsState} {dr : Drawn} {G : Array GenState} {cs cs' F : List Chunk} {s : Shared} {A : Around} {E : Value → Shared → Prop} {d u : Nat} {L S LF NL R : Addr} {z : Int} {ep n : Nat} {dir : Bool} {g0 : GS}
theorem emp_keys (ns : List Int) : (ns.map fun n => ((n, []) : Int × List Int)).map (·.1) = ns := by rw [List.map_map]; exact List.map_id _
theorem law_b (g : (BB w h₁ X os dr).Good) {Q : Flow → Shared → Prop} (Fi : Fit (BB w h₁ X os dr) A (d + 30) (u + 60)) (hv : V z) (hn0 : 0 < n) (hn6 : n ≤ 6) (hg : GOk dir g0 [] 0)
    (h : Ok (BB w h₁ X os dr) G (fr (LE L) (("left", .ref LF) :: varsA S g0.x NL R n dir) [] :: li S [.int z 0] :: li LF (intL (nine n)) :: li NL (intL []) :: di (BB w h₁ X os dr) R [] ep :: (gX (BB w h₁ X os dr) dir g0 ++ F)) s)
    (k : ∀ (z : Int) (ep : Nat) (nms : List Int) (ls : List LRow) (g1 : GS) s', V z → nms.Perm (nine n) → lrA ls = nms.map (fun n => (n, [])) → GOk dir g1 (nms.map fun n => (n, [])) 0 →
      Ok (BB w h₁ X os dr) G (fr (LE L) (varsA S g1.x NL R n dir) [] :: li S [.int z 0] :: li NL (intL nms) :: di (BB w h₁ X os dr) R (lrK ls) ep :: (lrC ls ++ (gX (BB w h₁ X os dr) dir g1 ++ F))) s' →
      wpAny (BB w h₁ X os dr).M A (execs (LB.drop 6) (LE L)) Q E s') : wpAny (BB w h₁ X os dr).M A (execs (LB.drop 5) (LE L)) Q E s := by
  have D := D_law g
  have I := D.inEnv g L
  show wpAny _ _ (execs (_ :: _) _) _ _ _
  refine x_cons (wpAny_While (codeAny_whileLoop (fun m s => ∃ (left nms : List Int) (z : Int) (ep : Nat) (ls : List LRow) (g1 : GS), left.length = m ∧ V z ∧ (nms ++ left).Perm (nine n) ∧ lrA ls = nms.map (fun n => (n, [])) ∧ GOk dir g1 (nms.map fun n => (n, [])) 0 ∧ g1.x = g0.x ∧
    Ok (BB w h₁ X os dr) G (fr (LE L) (("left", .ref LF) :: varsA S g0.x NL R n dir) [] :: li S [.int z 0] :: li LF (intL left) :: li NL (intL nms) :: di (BB w h₁ X os dr) R (lrK ls) ep :: (lrC ls ++ (gX (BB w h₁ X os dr) dir g1 ++ F))) s) (fun m s1 ⟨left, nms, z, ep, ls, g1, hm, hv, hp, hls, hg1, hx, h1⟩ => ?_) _
    ⟨nine n, [], z, ep, [], g0, rfl, hv, List.Perm.refl _, rfl, hg, rfl, h⟩))
  have hlen : nms.length + left.length = n := by have := hp.length_eq; rw [List.length_append, nine_len] at this; exact this
  refine PyProof.Rows.isTrue_plain (x_ref LF h1 I (by kernel_rfl) fun s2 h2 => l_truthy (ps := intL left) h2 (by walk_at "has") (by rw [intL_len]; omega) fun s3 h3 => ?_)
  cases left with
  | nil =>
    show wpAny _ _ (execs [] _) _ _ _
    refine x_nil ?_
    rw [List.append_nil] at hp
    rw [← hx] at h3
    have h4 := (h3.perm (cs' := li LF (intL []) :: fr (LE L) (("left", .ref LF) :: varsA S g1.x NL R n dir) [] :: li S [.int z 0] :: li NL (intL nms) :: di (BB w h₁ X os dr) R (lrK ls) ep :: (lrC ls ++ (gX (BB w h₁ X os dr) dir g1 ++ F))) (by walk_at "perm")).drop
    exact k z ep nms ls g1 s3 hv hp hls hg1 (h4.sub (by kernel_rfl))
  | cons a0 l0 =>
    obtain ⟨left, hleft⟩ : ∃ left, left = a0 :: l0 := ⟨_, rfl⟩
    have e : (!(intL (a0 :: l0)).isEmpty) = true := rfl
    rw [e]
    rw [← hleft] at hm hp hlen h3
    have hl0 : 0 < left.length := by rw [hleft]; exact Nat.succ_pos _
    clear hleft e
    show wpAny _ _ (execs (_ :: _) _) _ _ _
    refine x_cons (x_asg (PyProof.Rows.MethodCall_ (x_ref LF h3 I (by kernel_rfl) fun s4 h4 => m_list (ps := intL left) h4 (by walk_at "has") PySem.F.slot_list_pop PySem.F.type_list_pop ?_)))
    refine PyProof.Rows.callWith_method1 (sp_cons (wpAny_Call_NameR (x_ref A_law_next h4 I (by kernel_rfl) fun s5 h5 => cw_def (D_law_next g) (sp_cons (x_ref S h5 I (by kernel_rfl) fun s6 h6 => sp_cons (wpAny_Call_NameR (x_ev (.builtin "len") h6 I (by kernel_rfl) fun v7 s7 hv7 h7 => ?_)))))))
    rw [untok_builtin hv7]
    refine PyProof.Rows.callWith_method1 (sp_cons (x_ref LF h7 I (by kernel_rfl) fun s8 h8 => sp_nil (l_len (ps := intL left) h8 (by walk_at "has") (by rw [intL_len]; omega) fun t9 s9 h9 => sp_nil ⟨⟨_, _, h9⟩, ?_⟩)))
    have hll : ((intL left).length : Int) = (left.length : Int) := by rw [intL_len]
    refine nx (m := ((intL left).length : Int)) (d := d) (u := u) g (h9.swap) hv (by rw [hll]; omega) (Fi.mono (by omega) (by omega)) fun z1 x t10 s10 hv1 hx0 hx1 h10 => sp_nil ?_
    rw [hll] at hx1
    obtain ⟨j, rfl⟩ := Int.eq_ofNat_of_zero_le hx0
    have hj : j < left.length := by omega
    have hjo : left[j]? = some left[j] := by simp [hj]
    refine l_popAt (o := left[j]) (cs' := fr (LE L) (("left", .ref LF) :: varsA S g0.x NL R n dir) [] :: li S [.int z1 0] :: li LF (intL (left.eraseIdx j)) :: li NL (intL nms) :: di (BB w h₁ X os dr) R (lrK ls) ep :: (lrC ls ++ (gX (BB w h₁ X os dr) dir g1 ++ F))) h10.swap hjo (by walk_at "rep") (by omega) fun v11 s11 hv11 h11 => ?_
    have hpe := erase_perm left j left[j] hjo
    have hne : (left.eraseIdx j).length + 1 = left.length := by have := hpe.length_eq; rw [List.length_cons] at this; exact this
    have hp2 : (nms ++ (left[j] :: left.eraseIdx j)).Perm (nine n) := (List.Perm.append_left nms hpe).trans hp
    generalize left[j] = o at hv11 hp2
    generalize left.eraseIdx j = left' at h11 hne hp2
    refine st_local (p := .int o 0) h11 I hv11 (by kernel_rfl) fun s12 h12 => ?_
    have hnd : (nms ++ (o :: left')).Nodup := hp2.symm.nodup (nine_nodup n)
    have hno : ¬ o ∈ nms := fun hm => (List.nodup_append.mp hnd).2.2 o hm o List.mem_cons_self rfl
    have h12 : Ok (BB w h₁ X os dr) G (fr (LE L) (("name", .int o 0) :: ("left", .ref LF) :: varsA S g1.x NL R n dir) [] :: li S [.int z1 0] :: li LF (intL left') :: li NL (intL nms) :: di (BB w h₁ X os dr) R (lrK ls) ep :: (lrC ls ++ (gX (BB w h₁ X os dr) dir g1 ++ F))) s12 := by rw [hx]; exact h12.sub (by kernel_rfl)
    show wpAny _ _ (execs (_ :: _) _) _ _ _
    refine x_cons (wpAny_Expr_any (x_meth (C := clX dir) (gd := g1.gd) (fs := fsX dir g1) (a1X dir) g1.x [.int o 0] h12 I (by kernel_rfl) (.there _ (.there _ (.there _ (.there _ (.app_right insX))))) (.there _ (.there _ (.there _ (.there _ (.app_right idcX))))) (by cases dir <;> kernel_rfl) (by cases dir <;> (intro ts n; kernel_rfl)) (by kernel_rfl) fun us s13 hus h13 => ?_))
    obtain ⟨u1, rfl, e1⟩ := args1 hus
    obtain ⟨t3, rfl⟩ := untok_int e1
    have h14 := h13.perm (swapA (fr (LE L) _ [] :: li S [.int z1 0] :: li LF (intL left') :: li NL (intL nms) :: di (BB w h₁ X os dr) R (lrK ls) ep :: lrC ls) (gX (BB w h₁ X os dr) dir g1) F)
    refine addN1_call (d := d) (u := u) g h14 hg1 (by rw [emp_keys]; exact hno) (by rw [List.length_map]; omega) (Fi.mono (by omega) (by omega)) fun g2 s14 hx2 h15 hg2 => ?_
    have h16 := h15.perm (swapA (fr (LE L) _ [] :: li S [.int z1 0] :: li LF (intL left') :: li NL (intL nms) :: di (BB w h₁ X os dr) R (lrK ls) ep :: lrC ls) (gX (BB w h₁ X os dr) dir g2) F).symm
    have h16 : Ok (BB w h₁ X os dr) G (fr (LE L) (("name", .int o 0) :: ("left", .ref LF) :: varsA S g1.x NL R n dir) [] :: li S [.int z1 0] :: li LF (intL left') :: li NL (intL nms) :: di (BB w h₁ X os dr) R (lrK ls) ep :: (lrC ls ++ (gX (BB w h₁ X os dr) dir g2 ++ F))) s14 := h16
    show wpAny _ _ (execs (_ :: _) _) _ _ _
    refine x_cons (x_push NL (.int o 0) h16 I (by kernel_rfl) (by walk_at "rep") (by rw [intL_len]; omega) fun s17 h17 => ?_)
    rw [intL_snoc] at h17
    show wpAny _ _ (execs (_ :: _) _) _ _ _
    have hkn : ((lrK ls).map (·.1)).contains o = false := by rw [lrK_keys, hls, emp_keys, List.contains_eq_mem, decide_eq_false_iff_not]; exact hno
    have hkl : (lrK ls).length ≤ 100 := by
      rw [← List.length_map (f := (·.1)), lrK_keys, hls, emp_keys]; omega
    refine x_cons (wpAny_Assign_Subscript (x_listP [] h17 I (by kernel_rfl) fun a s18 h18 => x_ref R h18 I (by kernel_rfl) fun s19 h19 => x_int o h19 I (by kernel_rfl) fun t20 s20 h20 => ?_) (by with_unfolding_all rfl))
    refine d_put (ks := lrK ls) (ep := ep) (a := a) h20 (fun ep' => (by walk_at "rep")) (Nat.le_trans hkl (by decide)) fun ep' s21 h21 => ?_
    rw [sto_new hkn] at h21
    refine x_nil ⟨_, ?_, left', nms ++ [o], z1, ep', ls ++ [⟨o, a, []⟩], g2, rfl, hv1, by simpa using hp2, by unfold lrA at hls ⊢; simp [hls], by rw [List.map_append]; exact hg2, hx2.trans hx, ?_⟩
    · omega
    · have e4 : lrK (ls ++ [⟨o, a, []⟩]) = lrK ls ++ [(o, a)] := by unfold lrK; simp
      have e5 : lrC (ls ++ [⟨o, a, []⟩]) ++ (gX (BB w h₁ X os dr) dir g2 ++ F) = lrC ls ++ li a [] :: (gX (BB w h₁ X os dr) dir g2 ++ F) := by unfold lrC; simp
      rw [e4, e5]
      have h22 := (h21.sub (vars' := ("left", .ref LF) :: varsA S g0.x NL R n dir) (by rw [← hx]; kernel_rfl)).perm (cs' := fr (LE L) (("left", .ref LF) :: varsA S g0.x NL R n dir) [] :: li S [.int z1 0] :: li LF (intL left') :: li NL (intL (nms ++ [o])) :: di (BB w h₁ X os dr) R (lrK ls ++ [(o, a)]) ep' :: li a [] :: (lrC ls ++ (gX (BB w h₁ X os dr) dir g2 ++ F))) (by walk_at "perm")
      exact Ok.tail [_, _, _, _, _] h22 (back1 (lrC ls) _ _).symm
end
end Mine
namespace Mine
local macro_rules | `(tactic| walk_at "foc") => `(tactic| first | with_reducible exact Foc.here _ _ | (apply Foc.there; walk_at "foc"))
local macro_rules | `(tactic| walk_at "has") => `(tactic| first | with_reducible exact Has.here _ _ | assumption | (refine Has.there _ ?_; walk_at "has"))
local macro_rules | `(tactic| walk_at "rep") => `(tactic| first | with_reducible exact Rep.here _ _ _ | assumption | (apply Rep.there; walk_at "rep"))
local macro_rules | `(tactic| walk_at "perm") => `(tactic| first | with_reducible exact List.Perm.refl _ | (refine perm_step (by walk_at "foc") ?_; walk_at "perm"))
theorem lr_sz {dir : Bool} {g0 : GS} {ls : List LRow} {N : Nat} (hg : GOk dir g0 (lrA ls) N) : ∀ r ∈ ls, r.ns.length ≤ N := by
  intro r hr
  have : (r.key, r.ns) ∈ absR g0.rows := by rw [hg.abs]; exact List.mem_map.mpr ⟨r, hr, rfl⟩
  obtain ⟨q, hq, e⟩ := List.mem_map.mp this
  have e2 := (Prod.mk.inj e).2
  rw [← e2, List.length_map]; exact hg.sz q hq
theorem inA_upd {adj : List (Int × List Int)} {k v a b : Int} (hk : k ∈ adj.map (·.1)) : inA (updA adj k v) a b ↔ inA adj a b ∨ (a = k ∧ b = v) := by
  have add : ∀ (l : List Int), b ∈ addN l v ↔ b ∈ l ∨ b = v := fun l => by
    unfold addN
    split
    · rename_i h
      rw [List.contains_eq_mem, decide_eq_true_eq] at h
      exact ⟨.inl, fun h' => h'.elim id fun e => e ▸ h⟩
    · simp
  unfold inA updA
  constructor
  · rintro ⟨ks, hm, hb⟩
    obtain ⟨p, hp, e⟩ := List.mem_map.mp hm
    split at e
    · rename_i hc
      obtain ⟨e1, e2⟩ := Prod.mk.inj e
      rw [← e2] at hb
      rcases (add _).mp hb with h | h
      · exact .inl ⟨p.2, by rw [← e1]; exact hp, h⟩
      · exact .inr ⟨by rw [← e1]; simpa using hc, h⟩
    · subst e; exact .inl ⟨_, hp, hb⟩
  · rintro (⟨ks, hm, hb⟩ | ⟨rfl, rfl⟩)
    · by_cases e : a = k
      · exact ⟨addN ks v, List.mem_map.mpr ⟨(a, ks), hm, by simp [e]⟩, (add _).mpr (.inl hb)⟩
      · exact ⟨ks, List.mem_map.mpr ⟨(a, ks), hm, by simp [e]⟩, hb⟩
    · obtain ⟨p, hp, e⟩ := List.mem_map.mp hk
      exact ⟨addN p.2 b, List.mem_map.mpr ⟨p, hp, by simp [e]⟩, (add _).mpr (.inr rfl)⟩
theorem inA_empty {ns : List Int} {a b : Int} : ¬ inA (ns.map fun n => (n, [])) a b := by
  rintro ⟨ks, hm, hb⟩
  obtain ⟨n, _, e⟩ := List.mem_map.mp hm
  rw [← (Prod.mk.inj e).2] at hb
  cases hb
theorem sym_upd {adj : List (Int × List Int)} {p q : Int} (hp : p ∈ adj.map (·.1)) (hq : q ∈ adj.map (·.1)) (h : ∀ a b, inA adj a b → inA adj b a) : ∀ a b, inA (updE false adj p q) a b → inA (updE false adj p q) b a := by
  intro a b hab
  unfold updE at hab ⊢
  simp only [Bool.false_eq_true, if_false] at hab ⊢
  have hq' : q ∈ (updA adj p q).map (·.1) := by rw [updA_keys]; exact hq
  rw [inA_upd hq', inA_upd hp] at hab ⊢
  rcases hab with (h1 | ⟨rfl, rfl⟩) | ⟨rfl, rfl⟩
  · exact .inl (.inl (h a b h1))
  · exact .inr ⟨rfl, rfl⟩
  · exact .inl (.inr ⟨rfl, rfl⟩)
theorem upd_cl {adj : List (Int × List Int)} {k v : Int} {ns : List Int} (h : ∀ p ∈ adj, ∀ m ∈ p.2, m ∈ ns) (hv : v ∈ ns) : ∀ p ∈ updA adj k v, ∀ m ∈ p.2, m ∈ ns := by
  intro p hp m hm
  obtain ⟨q, hq, rfl⟩ := List.mem_map.mp hp
  split at hm
  · unfold addN at hm
    dsimp only at hm
    split at hm
    · exact h q hq m hm
    · rcases List.mem_append.mp hm with hm | hm
      · exact h q hq m hm
      · rw [List.mem_singleton.mp hm]; exact hv
  · exact h q hq m hm
section
variable {w : World} {h₁ : Heap} {X : List Addr} {os : OsState} {dr : Drawn} {G : Array GenState} {cs cs' r F : List Chunk} {s : Shared} {A : Around} {E : Value → Shared → Prop} {d u : Nat} {env : Env} {vars : List (Str × Value)} {cv : Cv} {L R : Addr} {i z : Int} {xs : List Int} {ls : List LRow} {ep : Nat} {a b : Int} {T : List Chunk} {c₁ c₂ c₃ c₄ : Chunk}
theorem x_notInRow {er ea eb : PySem.Expr} {p1 pos : Pos} {whole : Sem Value} {Q : Bool → Shared → Prop} (h : Ok (BB w h₁ X os dr) G (fr env vars cv :: cs) s) (I : In (BB w h₁ X os dr) env) (q : (ev env GL vars cv 9 er, ev env GL vars cv 9 ea, ev env GL vars cv 9 eb) = (some (.ref R), some (.int a 0), some (.int b 0)))
    (hd : Has cs (di (BB w h₁ X os dr) R (lrK ls) ep)) (hl : ∀ r ∈ ls, Has cs (li r.at_ (intL r.ns))) (nd : ((lrA ls).map (·.1)).Nodup) {ra : LRow} (hr : ra ∈ ls) (hk : ra.key = a)
    (k : ∀ s', Ok (BB w h₁ X os dr) G (fr env vars cv :: cs) s' → Q (!ra.ns.contains b) s')
    (hs : ∀ t, subscripted ea false (.ref R) (.int a t) = operate [.ref R, .int a t] (getItem (.ref R) (.int a t)) := by intro t; with_unfolding_all rfl) (hb : behindInMarks .NotIn (.Subscript er ea p1) = false := by rfl) :
    wpAny (BB w h₁ X os dr).M A (isTrue (.Compare eb [.NotIn] [.Subscript er ea p1] pos) env whole) Q E s := by
  simp only [Prod.mk.injEq] at q
  obtain ⟨q1, q2, q3⟩ := q
  subst hk
  refine wpAny_isTrue_Compare1 (x_int b h I q3 fun t1 s1 h1 => PyProof.Rows.Subscript_ (x_ref R h1 I q1 fun s2 h2 => x_int ra.key h2 I q2 fun t3 s3 h3 => ?_)) hb
  refine d_item (ks := lrK ls) (ep := ep) h3 (.there _ hd) (lr_look nd hr) (fun s4 h4 => ?_) (hs := hs t3)
  exact l_notin (xs := ra.ns) h4 (.there _ (hl ra hr)) (wpAny_truthy_bool (k s4 h4))
theorem x_rowApp {cf : List LRow → List Chunk} {K : List (Int × Addr)} {er ea eb : PySem.Expr} {p1 ap cp epos : Pos} {pl : Sem Bool} {Q : Flow → Shared → Prop} (h : Ok (BB w h₁ X os dr) G (fr env vars cv :: cf ls) s) (I : In (BB w h₁ X os dr) env) (q : (ev env GL vars cv 9 er, ev env GL vars cv 9 ea, evs env GL vars cv [eb]) = (some (.ref R), some (.int a 0), some [.int b 0]))
    (hd : Has (cf ls) (di (BB w h₁ X os dr) R K ep)) (hK : K = lrK ls) (hf : ∀ l₁ l₂ r r', Rep (cf (l₁ ++ r :: l₂)) (li r.at_ (intL r.ns)) (li r'.at_ (intL r'.ns)) (cf (l₁ ++ r' :: l₂))) (nd : ((lrA ls).map (·.1)).Nodup) {ra : LRow} (hr : ra ∈ ls) (hk : ra.key = a) (hc : ra.ns.contains b = false) (hz : ra.ns.length ≤ 1000)
    (k : ∀ ls' s', lrA ls' = updA (lrA ls) a b → lrK ls' = lrK ls → Ok (BB w h₁ X os dr) G (fr env vars cv :: cf ls') s' → Q .next s')
    (hs : ∀ t, subscripted ea false (.ref R) (.int a t) = operate [.ref R, .int a t] (getItem (.ref R) (.int a t)) := by intro t; with_unfolding_all rfl)
    (he : eval (.Call (.Attribute (.Subscript er ea p1) "append" ap) [eb] [] cp) env = (do
      let ov ← eval (.Subscript er ea p1) env
      standAt ap.atName
      let (f, first) ← holding [ov] (getMethod ov "append" pl)
      callWith cp f first (backTo cp (starEach [eb] env)) []) := by with_unfolding_all rfl)
    (hi : interactive env = false := by with_unfolding_all rfl) (hsw : swapsWith (.Call (.Attribute (.Subscript er ea p1) "append" ap) [eb] [] cp) none epos.line env = pure false := by with_unfolding_all rfl) :
    wpAny (BB w h₁ X os dr).M A (exec (.Expr (.Call (.Attribute (.Subscript er ea p1) "append" ap) [eb] [] cp) epos) env) Q E s := by
  simp only [Prod.mk.injEq] at q
  obtain ⟨q1, q2, q3⟩ := q
  subst hk hK
  obtain ⟨l₁, l₂, e⟩ := split_of hr
  subst e
  refine wpAny_Expr_any (PyProof.Rows.MethodCall_ (PyProof.Rows.Subscript_ (x_ref R h I q1 fun s2 h2 => x_int ra.key h2 I q2 fun t3 s3 h3 => ?_)) he) hi hsw
  refine d_item (ks := lrK (l₁ ++ ra :: l₂)) (ep := ep) h3 (.there _ hd) (lr_look nd hr) (fun s4 h4 => ?_) (hs := hs t3)
  refine m_list (ps := intL ra.ns) h4 (.there _ (hf l₁ l₂ ra ra).has) PySem.F.slot_list_append PySem.F.type_list_append ?_
  refine cw_builtin [.int b 0] h4 I q3 fun us s5 hus h5 => ?_
  obtain ⟨v1, rfl, hu1⟩ := args1 hus
  have hrep := hf l₁ l₂ ra ⟨ra.key, ra.at_, ra.ns ++ [b]⟩
  have e1 : intL ra.ns ++ [.int b 0] = intL (ra.ns ++ [b]) := intL_snoc _ _
  refine l_append (v := v1) (p := .int b 0) (ps := intL ra.ns) h5 hu1 (.there _ (by rw [e1]; exact hrep)) (by rw [intL_len]; exact Nat.le_trans hz (by decide)) fun s6 h6 => ?_
  exact k (l₁ ++ ⟨ra.key, ra.at_, ra.ns ++ [b]⟩ :: l₂) s6 (lr_upd nd rfl (by unfold addN; rw [hc]; rfl)) (by unfold lrK; simp) h6
end
end Mine
namespace Mine
local macro_rules | `(tactic| walk_at "foc") => `(tactic| first | with_reducible exact Foc.here _ _ | (apply Foc.there; walk_at "foc"))
local macro_rules | `(tactic| walk_at "has") => `(tactic| first | with_reducible exact Has.here _ _ | assumption | (refine Has.there _ ?_; walk_at "has"))
local macro_rules | `(tactic| walk_at "rep") => `(tactic| first | with_reducible exact Rep.here _ _ _ | assumption | (apply Rep.there; walk_at "rep"))
local macro_rules | `(tactic| walk_at "perm") => `(tactic| first | with_reducible exact List.Perm.refl _ | (refine perm_step (by walk_at "foc") ?_; walk_at "perm"))
section
variable {w : World} {h₁ : Heap} {X : List Addr} {os : OsState} {dr : Drawn} {G : Array GenState} {cs cs' F : List Chunk} {s : Shared} {A : Around} {E : Value → Shared → Prop} {d u : Nat} {L S NL R : Addr} {vars : List (Str × Value)} {nms : List Int} {z : Int} {n : Nat} {g1 : GS} {ls : List LRow} {ep : Nat} {dir : Bool}
noncomputable abbrev chC (w : World) (h₁ : Heap) (X : List Addr) (os : OsState) (dr : Drawn) (S NL R it : Addr) (z : Int) (nms : List Int) (vs : List Value) (K : List (Int × Addr)) (ep : Nat) (dir : Bool) (g1 : GS) (F : List Chunk) (ls : List LRow) : List Chunk :=
  rit it 1 vs :: li S [.int z 0] :: li NL (intL nms) :: di (BB w h₁ X os dr) R K ep :: (lrC ls ++ (gX (BB w h₁ X os dr) dir g1 ++ F))
noncomputable def EdI (G : Array GenState) (L : Addr) (w : World) (h₁ : Heap) (X : List Addr) (os : OsState) (dr : Drawn) (S NL R it gx : Addr) (nms : List Int) (n ep : Nat) (dir : Bool) (F : List Chunk) (vs : List Value) (s : Shared) : Prop :=
  ∃ (m i : Nat) (g1 : GS) (ls : List LRow) (N : Nat) (z : Int), vs = rgi (i : Int) 1 m ∧ N + 2 * m ≤ 24 ∧ V z ∧ GOk dir g1 (lrA ls) N ∧ g1.x = gx ∧ (lrA ls).map (·.1) = nms ∧ (∀ p ∈ lrA ls, ∀ m ∈ p.2, m ∈ nms) ∧
    Ok (BB w h₁ X os dr) G (fr (LE L) (varsA S gx NL R n dir) [] :: chC w h₁ X os dr S NL R it z nms vs (lrK ls) ep dir g1 F ls) s
theorem law_c (g : (BB w h₁ X os dr).Good) {Q : Flow → Shared → Prop} (Fi : Fit (BB w h₁ X os dr) A (d + 30) (u + 60)) (hv : V z) (nd : nms.Nodup) (hlen : nms.length = n) (hn0 : 0 < n) (hn6 : n ≤ 6) (hg : GOk dir g1 (nms.map fun n => (n, [])) 0) (hls : lrA ls = nms.map fun n => (n, []))
    (h : Ok (BB w h₁ X os dr) G (fr (LE L) (varsA S g1.x NL R n dir) [] :: li S [.int z 0] :: li NL (intL nms) :: di (BB w h₁ X os dr) R (lrK ls) ep :: (lrC ls ++ (gX (BB w h₁ X os dr) dir g1 ++ F))) s)
    (k : ∀ (g1 : GS) (ls : List LRow) (lm : Int) s', 0 ≤ lm → lm < 4 → GOk dir g1 (lrA ls) 24 → (lrA ls).map (·.1) = nms → (∀ p ∈ lrA ls, ∀ m ∈ p.2, m ∈ nms) →
      Ok (BB w h₁ X os dr) G (fr (LE L) (("limit", .int lm 0) :: varsA S g1.x NL R n dir) [] :: li NL (intL nms) :: di (BB w h₁ X os dr) R (lrK ls) ep :: (lrC ls ++ (gX (BB w h₁ X os dr) dir g1 ++ F))) s' →
      wpAny (BB w h₁ X os dr).M A (execs (LB.drop 8) (LE L)) Q E s') : wpAny (BB w h₁ X os dr).M A (execs (LB.drop 6) (LE L)) Q E s := by
  have D := D_law g
  have I := D.inEnv g L
  show wpAny _ _ (execs (_ :: _) _) _ _ _
  refine x_cons (wpAny_For (wpAny_Call_NameR (x_ev (.type "range") h I (by kernel_rfl) fun v8 s3 hv8 h3 => ?_)))
  rw [untok_type hv8]
  refine PyProof.Rows.callWith_type1 (sp_cons (wpAny_Call_NameR (x_ref A_law_next h3 I (by kernel_rfl) fun s4 h4 => cw_def (D_law_next g) (sp_cons (x_ref S h4 I (by kernel_rfl) fun s5 h5 => sp_cons (wpAny_BinOp (wpAny_BinOp (x_int 2 h5 I (by kernel_rfl) fun t6 s6 h6 => x_int (n : Int) h6 I (by kernel_rfl) fun t7 s7 h7 => PyProof.Rows.mul_int ?_ (.of_left (intBits_le_64 (by decide) (by decide)))))))))))
  refine x_int 1 (h7.toks _) I (by kernel_rfl) fun t8 s8 h8 => PyProof.Rows.add_int (sp_nil ⟨⟨_, _, h8.toks _⟩, ?_⟩)
  refine nx (m := 2 * (n : Int) + 1) (d := d) (u := u) g ((h8.toks _).swap) hv (by omega) (Fi.mono (by omega) (by omega)) fun z1 m0 t9 s9 hv1 hm0 hm1 h9 => ?_
  obtain ⟨m, rfl⟩ := Int.eq_ofNat_of_zero_le hm0
  have hm12 : m ≤ 12 := by omega
  refine sp_nil (r_new1 h9.swap fun rr s10 h10 => ?_)
  refine r_iter (x := 0) (y := m) (c := 1) (n := m) h10 (by walk_at "has") (small_one (by decide) (by decide) (by omega) (by omega)) (by rw [rangeSize_one]; split <;> omega) fun it s11 h11 => ?_
  have h12 := h11.drop1.perm (cs' := fr (LE L) (varsA S g1.x NL R n dir) [] :: chC w h₁ X os dr S NL R it z1 nms (rgi 0 1 m) (lrK ls) ep dir g1 F ls) (by walk_at "perm")
  refine for_go (vs := rgi 0 1 m) (EdI G L w h₁ X os dr S NL R it g1.x nms n ep dir F) ?_ ?_ ⟨m, 0, g1, ls, 0, z1, rfl, by omega, hv1, by rw [hls]; exact hg, rfl, by rw [hls, List.map_map]; exact List.map_id _, (by rw [hls]; intro p hp m hm; obtain ⟨q, _, rfl⟩ := List.mem_map.mp hp; cases hm), h12⟩
  · intro v vs s9 ⟨m, i, g1', ls, N, z, hvs, hN, hv, hg1, hx, hk1, hcl, h10⟩
    cases m with
    | zero => cases hvs
    | succ m =>
      obtain ⟨rfl, rfl⟩ := List.cons.inj hvs
      refine (rit_iter it 1).next h10 (by walk_at "rep") trivial fun u' s10 hu h11 => ⟨u', rfl, ?_⟩
      obtain ⟨t, rfl⟩ := untok_int hu
      refine wpAny_assign_Name (st_local h11 I rfl (by kernel_rfl) fun s11 h12 => ?_)
      show wpAny _ _ (execs (_ :: _) _) _ _ _
      have h12 := h12.perm (cs' := fr (LE L) _ [] :: li S [.int z 0] :: rit it 1 (rgi ((i : Int) + 1) 1 m) :: li NL (intL nms) :: di (BB w h₁ X os dr) R (lrK ls) ep :: (lrC ls ++ (gX (BB w h₁ X os dr) dir g1' ++ F))) (by walk_at "perm")
      refine x_cons (x_swap2 (G := G) (cv := []) I Fi.handled (by kernel_rfl) (by kernel_rfl) (sp_cons (PyProof.Rows.Subscript_ (x_ref NL h12 I (by kernel_rfl) fun s15 h15 => x_next (d := d) (u := u) (n : Int) h15 I (by kernel_rfl) hv (by omega) (Fi.mono (by omega) (by omega)) fun z2 x1 t16 s16 hv2 hx0 hx1 h16 => ?_))))
      obtain ⟨j1, rfl⟩ := Int.eq_ofNat_of_zero_le hx0
      have hj1 : j1 < nms.length := by omega
      refine l_item (.int nms[j1] 0) h16 (by walk_at "has") (by omega) (by omega) (at_nat hj1) fun v18 hv18 => ?_
      refine sp_cons (PyProof.Rows.Subscript_ (x_ref NL h16 I (by kernel_rfl) fun s19 h19 => x_next (d := d) (u := u) (n : Int) h19 I (by kernel_rfl) hv2 (by omega) (Fi.mono (by omega) (by omega)) fun z3 x2 t20 s20 hv3 hy0 hy1 h20 => ?_))
      obtain ⟨j2, rfl⟩ := Int.eq_ofNat_of_zero_le hy0
      have hj2 : j2 < nms.length := by omega
      refine l_item (.int nms[j2] 0) h20 (by walk_at "has") (by omega) (by omega) (at_nat hj2) fun v25 hv25 => ?_
      have ha : nms[j1] ∈ nms := List.getElem_mem hj1
      have hb : nms[j2] ∈ nms := List.getElem_mem hj2
      generalize nms[j1] = a at hv18 ha
      generalize nms[j2] = b at hv25 hb
      refine sp_nil ⟨_, _, .int a 0, .int b 0, by rw [List.map_cons, List.map_cons, hv18, hv25]; rfl, h20, fun tp s26 h26 => ?_⟩
      have h14 : Ok (BB w h₁ X os dr) G (fr (LE L) (("u", .int a 0) :: ("v", .int b 0) :: varsA S g1.x NL R n dir) [] :: chC w h₁ X os dr S NL R it z3 nms (rgi ((i : Int) + 1) 1 m) (lrK ls) ep dir g1' F ls) s26 := (h26.drop1.sub (vars' := ("u", .int a 0) :: ("v", .int b 0) :: varsA S g1.x NL R n dir) (by kernel_rfl)).perm (by walk_at "perm")
      rw [← hx] at h14
      have hai : a ∈ (lrA ls).map (·.1) := by rw [hk1]; exact ha
      have hbi : b ∈ (lrA ls).map (·.1) := by rw [hk1]; exact hb
      have ndk : ((lrA ls).map (·.1)).Nodup := by rw [hk1]; exact nd
      show wpAny _ _ (execs (_ :: _) _) _ _ _
      refine x_cons (wpAny_Expr_any (x_meth (C := clX dir) (gd := g1'.gd) (fs := fsX dir g1') (aeX dir) g1'.x [.int a 0, .int b 0] h14 I (by kernel_rfl) (.there _ (.there _ (.there _ (.there _ (.app_right insX))))) (.there _ (.there _ (.there _ (.there _ (.app_right idcX))))) (by cases dir <;> kernel_rfl) (by cases dir <;> (intro ts n; kernel_rfl)) (by kernel_rfl) fun us s13 hus h15 => ?_))
      obtain ⟨u1, u2, rfl, e1, e2⟩ := args2 hus
      obtain ⟨t3, rfl⟩ := untok_int e1
      obtain ⟨t4, rfl⟩ := untok_int e2
      have h16 := h15.perm (swapA (fr (LE L) _ [] :: rit it 1 (rgi ((i : Int) + 1) 1 m) :: li S [.int z3 0] :: li NL (intL nms) :: di (BB w h₁ X os dr) R (lrK ls) ep :: lrC ls) (gX (BB w h₁ X os dr) dir g1') F)
      refine addE_call (d := d) (u := u) g h16 hg1 hai hbi (by omega) (Fi.mono (by omega) (by omega)) fun g2 s14 hx2 h17 hg2 => ?_
      have h18 := h17.perm (swapA (fr (LE L) _ [] :: rit it 1 (rgi ((i : Int) + 1) 1 m) :: li S [.int z3 0] :: li NL (intL nms) :: di (BB w h₁ X os dr) R (lrK ls) ep :: lrC ls) (gX (BB w h₁ X os dr) dir g2) F).symm
      rw [hx] at h18
      have h18 : Ok (BB w h₁ X os dr) G (fr (LE L) (("u", .int a 0) :: ("v", .int b 0) :: varsA S g1.x NL R n dir) [] :: rit it 1 (rgi ((i : Int) + 1) 1 m) :: li S [.int z3 0] :: li NL (intL nms) :: di (BB w h₁ X os dr) R (lrK ls) ep :: (lrC ls ++ (gX (BB w h₁ X os dr) dir g2 ++ F))) s14 := h18
      have hrsz : ∀ r ∈ ls, r.ns.length ≤ 24 := fun r hr => Nat.le_trans (lr_sz hg1 r hr) (by omega)
      have fin : ∀ (ls2 : List LRow) s', lrA ls2 = updE dir (lrA ls) a b → lrK ls2 = lrK ls → Ok (BB w h₁ X os dr) G (fr (LE L) (("u", .int a 0) :: ("v", .int b 0) :: varsA S g1.x NL R n dir) [] :: chC w h₁ X os dr S NL R it z3 nms (rgi ((i : Int) + 1) 1 m) (lrK ls) ep dir g2 F ls2) s' →
          EdI G L w h₁ X os dr S NL R it g1.x nms n ep dir F (rgi ((i : Int) + 1) 1 m) s' := by
        intro ls2 s' e1 e2 h'
        refine ⟨m, i + 1, g2, ls2, N + 2, z3, by rw [show ((i + 1 : Nat) : Int) = (i : Int) + 1 from by omega], by omega, hv3, by rw [e1]; exact hg2, hx2.trans hx, ?_, ?_, ?_⟩
        · rw [e1]
          unfold updE
          cases dir
          · simp only [Bool.false_eq_true, if_false]; rw [updA_keys, updA_keys]; exact hk1
          · simp only [if_true]; rw [updA_keys]; exact hk1
        · rw [e1]
          unfold updE
          cases dir
          · simp only [Bool.false_eq_true, if_false]; exact upd_cl (upd_cl hcl hb) ha
          · simp only [if_true]; exact upd_cl hcl hb
        · rw [e2]; exact h'.sub (by kernel_rfl)
      have hf : ∀ (l₁ l₂ : List LRow) (r r' : LRow), Rep (chC w h₁ X os dr S NL R it z3 nms (rgi ((i : Int) + 1) 1 m) (lrK ls) ep dir g2 F (l₁ ++ r :: l₂)) (li r.at_ (intL r.ns)) (li r'.at_ (intL r'.ns)) (chC w h₁ X os dr S NL R it z3 nms (rgi ((i : Int) + 1) 1 m) (lrK ls) ep dir g2 F (l₁ ++ r' :: l₂)) := fun l₁ l₂ r r' => .there _ (.there _ (.there _ (.there _ (lr_rep r r'))))
      have hdi : ∀ ls', Has (chC w h₁ X os dr S NL R it z3 nms (rgi ((i : Int) + 1) 1 m) (lrK ls) ep dir g2 F ls') (di (BB w h₁ X os dr) R (lrK ls) ep) := fun ls' => .there _ (.there _ (.there _ (.here _ _)))
      have hli : ∀ ls', ∀ r ∈ ls', Has (chC w h₁ X os dr S NL R it z3 nms (rgi ((i : Int) + 1) 1 m) (lrK ls) ep dir g2 F ls') (li r.at_ (intL r.ns)) := fun ls' r hr => .there _ (.there _ (.there _ (.there _ (lr_has hr))))
      refine x_cons (wpAny_mono (Q := fun f s' => f = .next ∧ ∃ ls1, lrA ls1 = updA (lrA ls) a b ∧ lrK ls1 = lrK ls ∧ Ok (BB w h₁ X os dr) G (fr (LE L) (("u", .int a 0) :: ("v", .int b 0) :: varsA S g1.x NL R n dir) [] :: chC w h₁ X os dr S NL R it z3 nms (rgi ((i : Int) + 1) 1 m) (lrK ls) ep dir g2 F ls1) s') ?_ (fun f s' ⟨hf1, ls1, e1, e2, h19⟩ => ?_) fun _ _ e => e)
      · obtain ⟨ra, hra, hka⟩ := lr_mem hai
        refine wpAny_If (x_notInRow (cs := chC w h₁ X os dr S NL R it z3 nms (rgi ((i : Int) + 1) 1 m) (lrK ls) ep dir g2 F ls) (R := R) (a := a) (b := b) (ls := ls) (ep := ep) h18 I (by kernel_rfl) (hdi ls) (hli ls) ndk hra hka fun s15 h19 => ?_)
        cases hc : ra.ns.contains b with
        | true => exact x_nil ⟨rfl, ls, (upd_noop fun p hp e => by rw [pair_eq ndk hra hp (hka.trans e.symm)]; exact hc).symm, rfl, h19⟩
        | false =>
          show wpAny _ _ (execs (_ :: _) _) _ _ _
          exact x_cons (x_rowApp (cf := chC w h₁ X os dr S NL R it z3 nms (rgi ((i : Int) + 1) 1 m) (lrK ls) ep dir g2 F) (K := lrK ls) (R := R) (a := a) (b := b) (ep := ep) h19 I (by kernel_rfl) (hdi ls) rfl hf ndk hra hka hc (Nat.le_trans (hrsz ra hra) (by decide)) fun ls' s16 e1 e2 h20 => x_nil ⟨rfl, ls', e1, e2, h20⟩)
      subst hf1
      have ndk1 : ((lrA ls1).map (·.1)).Nodup := by rw [e1, updA_keys]; exact ndk
      have hsz1 : ∀ r ∈ ls1, r.ns.length ≤ 1000 := by
        intro r hr
        have hm : (r.key, r.ns) ∈ updA (lrA ls) a b := by rw [← e1]; exact List.mem_map.mpr ⟨r, hr, rfl⟩
        obtain ⟨p, hp, e⟩ := List.mem_map.mp hm
        obtain ⟨q, hq, rfl⟩ := List.mem_map.mp hp
        have := hrsz q hq
        dsimp only at e
        split at e
        · have e2 := (Prod.mk.inj e).2
          rw [← e2]; unfold addN; split
          · omega
          · rw [List.length_append]; simp; omega
        · have e2 := (Prod.mk.inj e).2
          rw [← e2]; omega
      show wpAny _ _ (execs (_ :: _) _) _ _ _
      refine x_cons (wpAny_mono (Q := fun f s' => f = .next ∧ ∃ ls2, lrA ls2 = updE dir (lrA ls) a b ∧ lrK ls2 = lrK ls ∧ Ok (BB w h₁ X os dr) G (fr (LE L) (("u", .int a 0) :: ("v", .int b 0) :: varsA S g1.x NL R n dir) [] :: chC w h₁ X os dr S NL R it z3 nms (rgi ((i : Int) + 1) 1 m) (lrK ls) ep dir g2 F ls2) s') ?_ (fun f s' ⟨hf1, ls2, e3, e4, h20⟩ => by subst hf1; exact x_nil (fin ls2 s' e3 e4 h20)) fun _ _ e => e)
      refine wpAny_If (PyProof.Rows.isTrue_and (PyProof.Rows.isTrue_not (isTrue_of (c := dir) h19 I (by kernel_rfl) rfl fun s15 h20 => ?_)))
      have hbi1 : b ∈ (lrA ls1).map (·.1) := by rw [e1, updA_keys]; exact hbi
      obtain ⟨rb, hrb, hkb⟩ := lr_mem hbi1
      cases dir with
      | true => exact x_nil ⟨rfl, ls1, e1, e2, h20⟩
      | false =>
        show if true = true then _ else _
        rw [if_pos rfl]
        refine PyProof.Rows.isTrue_and (x_notInRow (cs := chC w h₁ X os dr S NL R it z3 nms (rgi ((i : Int) + 1) 1 m) (lrK ls) ep false g2 F ls1) (R := R) (a := b) (b := a) (ls := ls1) (ep := ep) h20 I (by kernel_rfl) (by rw [e2]; exact hdi ls1) (hli ls1) ndk1 hrb hkb fun s16 h21 => ?_)
        cases hc : rb.ns.contains a with
        | true => exact x_nil ⟨rfl, ls1, (by rw [e1]; exact (upd_noop fun p hp e => by rw [← e1] at hp; rw [pair_eq ndk1 hrb hp (hkb.trans e.symm)]; exact hc).symm), e2, h21⟩
        | false =>
          show if true = true then _ else _
          rw [if_pos rfl]
          refine PyProof.Rows.isTrue_and_nil ?_
          show wpAny _ _ (execs (_ :: _) _) _ _ _
          exact x_cons (x_rowApp (cf := chC w h₁ X os dr S NL R it z3 nms (rgi ((i : Int) + 1) 1 m) (lrK ls) ep false g2 F) (K := lrK ls) (R := R) (a := b) (b := a) (ep := ep) h21 I (by kernel_rfl) (hdi ls1) e2.symm hf ndk1 hrb hkb hc (hsz1 rb hrb) fun ls' s16 e3 e4 h20 => x_nil ⟨rfl, ls', by rw [e3, e1]; rfl, e4.trans e2, h20⟩)
  · intro s9 ⟨m, i, g1', ls, N, z, hvs, hN, hv, hg1, hx, hk1, hcl, h10⟩
    cases m with
    | succ m => cases hvs
    | zero =>
      refine (rit_iter it 1).done Fi.handled h10 (by walk_at "foc") trivial fun s11 h11 => ⟨rfl, x_nil ?_⟩
      rw [← hx] at h11
      show wpAny _ _ (execs (_ :: _) _) _ _ _
      refine x_cons (x_asg (x_next (d := d) (u := u) 4 h11 I (by kernel_rfl) hv (by decide) (Fi.mono (by omega) (by omega)) fun z2 lm t12 s12 hv2 h0 h4 h12 => st_local (p := .int lm 0) h12 I rfl (by kernel_rfl) fun s13 h13 => ?_))
      exact k g1' ls lm s13 h0 h4 ⟨hg1.u, hg1.d, hg1.abs, fun r hr => Nat.le_trans (hg1.sz r hr) (by omega), fun e r hr => Nat.le_trans (hg1.psz e r hr) (by omega)⟩ hk1 hcl ((h13.sub (vars' := ("limit", .int lm 0) :: varsA S g1'.x NL R n dir) (by kernel_rfl)).drop1)
end
end Mine
namespace Mine
local macro_rules | `(tactic| walk_at "foc") => `(tactic| first | with_reducible exact Foc.here _ _ | (apply Foc.there; walk_at "foc"))
local macro_rules | `(tactic| walk_at "has") => `(tactic| first | with_reducible exact Has.here _ _ | assumption | (refine Has.there _ ?_; walk_at "has"))
local macro_rules | `(tactic| walk_at "rep") => `(tactic| first | with_reducible exact Rep.here _ _ _ | assumption | (apply Rep.there; walk_at "rep"))
local macro_rules | `(tactic| walk_at "perm") => `(tactic| first | with_reducible exact List.Perm.refl _ | (refine perm_step (by walk_at "foc") ?_; walk_at "perm"))
theorem Items.snoc {τ : Type} {it : Item τ} {ts : List τ} {vs : List Value} {cs : List Chunk} (h : Items it ts vs cs) {t : τ} {v : Value} {c : Chunk} (hi : it t v c) : Items it (ts ++ [t]) (vs ++ [untok v]) (cs ++ [c]) := by
  induction h with
  | nil => exact .cons hi .nil
  | cons h' _ ih => exact .cons h' ih
theorem Items.app {τ : Type} {it : Item τ} {ts ts' : List τ} {vs vs' : List Value} {cs cs' : List Chunk} (h : Items it ts vs cs) (h' : Items it ts' vs' cs') : Items it (ts ++ ts') (vs ++ vs') (cs ++ cs') := by
  induction h with
  | nil => exact h'
  | cons h1 _ ih => exact .cons h1 ih
structure RowsOk (b : Base) (Ws : List Chunk) (R : Addr) (ch : Int → List Int) (N : Int → Prop) : Prop where
  dict : ∃ ks ep, di b R ks ep ∈ Ws ∧ ∀ p, N p → ∃ a, ks.lookup p = some a ∧ li a (intL (ch p)) ∈ Ws
  kids : ∀ p, N p → ∀ o ∈ ch p, N o
  len : ∀ p, (ch p).length ≤ 1000
theorem wk_len {ch : Int → List Int} {lim : Option Int} {k : Nat} {deep p : Int} {os met met' : List Int} {rows : List Trow} (h : Wk ch lim k deep p os met met' rows) : met.length ≤ met'.length := by
  induction h with
  | nil => exact Nat.le_refl _
  | non _ _ ih => exact ih
  | fwd _ _ _ _ ih1 ih2 => rw [List.length_append, List.length_singleton] at ih1; omega
  | lim _ _ _ _ ih => rw [List.length_append, List.length_singleton] at ih; omega
noncomputable abbrev wkE (L : Addr) : Env := callEnvC fd_law_walk L A_law_walk
abbrev varsK (R mt RW : Addr) (p deep l : Int) : List (Str × Value) := [("near", .ref R), ("seen", .ref mt), ("one", .int p 0), ("depth", .int deep 0), ("limit", .int l 0), ("rows", .ref RW)]
section
variable {w : World} {h₁ : Heap} {X : List Addr} {os : OsState} {dr : Drawn} {G : Array GenState}
noncomputable def LoopI (G : Array GenState) (L : Addr) (w : World) (h₁ : Heap) (X : List Addr) (os : OsState) (dr : Drawn) (ch : Int → List Int) (l : Int) (k : Nat) (deep p : Int) (R mt a it : Addr) (met' : List Int) (r : List Trow) (F : List Chunk) (vs : List Value) (s : Shared) : Prop :=
  ∃ (todo met : List Int) (done rest : List Trow) (vals : List Value) (chs : List Chunk) (RW : Addr), vs = intL todo ∧ (∀ o ∈ todo, o ∈ ch p) ∧ Wk ch (some l) k deep p todo met met' rest ∧ r = done ++ rest ∧ Items rowI done vals chs ∧
    Ok (BB w h₁ X os dr) G (fr (wkE L) (varsK R mt RW p deep l) [] :: lit it a (intL (ch p)) vs :: li mt (intL met) :: li RW vals :: (chs.reverse ++ F)) s
theorem walk_ (g : (BB w h₁ X os dr).Good) {ch : Int → List Int} {l : Int} {N : Int → Prop} {R mt : Addr} {Ws : List Chunk} (W : RowsOk (BB w h₁ X os dr) Ws R ch N) : ∀ (k : Nat) {deep p : Int} {met met' : List Int} {r : List Trow} {F : List Chunk}
    {s : Shared} {A : Around} {E : Value → Shared → Prop} {d u : Nat} {us : List Value} {Q : Value → Shared → Prop}, Wk ch (some l) k deep p (ch p) met met' r → Fit (BB w h₁ X os dr) A (d + 10 * (k + 1)) (u + 20 * (k + 1)) → N p →
    Ok (BB w h₁ X os dr) G (li mt (intL met) :: F) s → HasAll Ws F → met'.length ≤ 1000 → r.length ≤ 10000 → us.map untok = [.ref R, .ref mt, .int p 0, .int deep 0, .int l 0] →
    (∀ S v' chs' s', Items rowI r v' chs' → Ok (BB w h₁ X os dr) G (li S v' :: li mt (intL met') :: (chs'.reverse ++ F)) s' → Q (.ref S) s') → wpAny (BB w h₁ X os dr).M A (call (.ref A_law_walk) us) Q E s := by
  intro k
  induction k using Nat.strongRecOn with
  | ind k ih =>
    intro deep p met met' r F s A E d u us Q wk Fi np h hW hl hz hus K
    have D := D_law_walk g
    obtain ⟨v0, us1, rfl, e0, hus⟩ := map_cons_inv hus
    obtain ⟨v1, us2, rfl, e1, hus⟩ := map_cons_inv hus
    obtain ⟨v2, v3, v4, rfl, e2, e3, e4⟩ := args3 hus
    rw [untok_ref e0, untok_ref e1]
    obtain ⟨t2, rfl⟩ := untok_int e2
    obtain ⟨t3, rfl⟩ := untok_int e3
    obtain ⟨t4, rfl⟩ := untok_int e4
    refine call_fn [("near", .ref R), ("seen", .ref mt), ("one", .int p t2), ("depth", .int deep t3), ("limit", .int l t4)] [("near", .ref R), ("seen", .ref mt), ("one", .int p 0), ("depth", .int deep 0), ("limit", .int l 0)] [] h g
      (Fi.mono (d' := d + 10 * k + 9 + 1) (u' := u + 20 * k + 17 + 3) (by omega) (by omega)) D (by kernel_rfl) (by kernel_rfl) (by intro z; kernel_rfl) (by intro z; kernel_rfl) (fun _ => ⟨rfl, List.nodup_nil⟩) fun A' L s1 F' h1 => ?_
    have I := D.inEnv g L
    obtain ⟨ks, ep, hd, hk⟩ := W.dict
    obtain ⟨a, ha, hla⟩ := hk p np
    show wpAny _ _ (execs (_ :: _) _) _ _ _
    refine x_cons (x_asg (x_listP [] h1 I (by kernel_rfl) fun RW s2 h2 => st_local (p := .ref RW) h2 I rfl (by kernel_rfl) fun s3 h3 => ?_))
    show wpAny _ _ (execs (_ :: _) _) _ _ _
    have hW1 : ∀ {c₁ c₂ c₃ : Chunk} {cx : List Chunk}, HasAll Ws (c₁ :: c₂ :: c₃ :: (cx ++ F)) := fun {_ _ _ _} => hW.right.there.there.there
    have h3 : Ok (BB w h₁ X os dr) G (fr (wkE L) (varsK R mt RW p deep l) [] :: li mt (intL met) :: li RW [] :: F) s3 := (h3.sub (by kernel_rfl)).perm (by walk_at "perm")
    refine x_cons (wpAny_For (PyProof.Rows.Subscript_ (x_ref R h3 I (by kernel_rfl) fun s4 h4 => x_int p h4 I (by kernel_rfl) fun t5 s5 h5 => ?_)))
    refine d_item (b := (BB w h₁ X os dr)) h5 (hW.there.there.there _ hd) ha fun s6 h6 => l_iter (ps := intL (ch p)) h6 (hW.there.there.there _ hla) fun it s7 h7 => ?_
    refine for_go (vs := intL (ch p)) (LoopI G L w h₁ X os dr ch l k deep p R mt a it met' r F) ?_ ?_ ⟨ch p, met, [], r, [], [], RW, rfl, fun _ h => h, wk, rfl, .nil, h7.swap⟩
    · intro v vs s6 ⟨todo, met, done, rest, vals, chs, RW, hvs, hsub, wk, hr, it0, h6⟩
      cases todo with
      | nil => cases hvs
      | cons o todo =>
        obtain ⟨rfl, rfl⟩ := List.cons.inj hvs
        have hoN : N o := W.kids p np o (hsub o List.mem_cons_self)
        have hsub' : ∀ x ∈ todo, x ∈ ch p := fun x hx => hsub x (List.mem_cons_of_mem _ hx)
        have hvl : vals.length ≤ 10000 := by rw [it0.len]; rw [hr, List.length_append] at hz; omega
        have hml : met.length ≤ 1000 := Nat.le_trans (wk_len wk) hl
        refine (lit_iter a it (intL (ch p))).next h6 (by walk_at "rep") (hW1.there _ hla) fun u' s7 hu h7 => ⟨u', rfl, ?_⟩
        obtain ⟨t, rfl⟩ := untok_int hu
        refine wpAny_assign_Name (st_local h7 I rfl (by kernel_rfl) fun s8 h8 => ?_)
        show wpAny _ _ (execs (_ :: _) _) _ _ _
        refine x_cons (wpAny_If (x_isIn (o := o) (l := mt) (xs := met) h8 I (by kernel_rfl) (by walk_at "has") fun s9 h9 => ?_))
        cases wk with
        | @non _ _ _ _ _ _ _ r' hc wk' =>
          rw [hc]
          show wpAny _ _ (execs (_ :: _) _) _ _ _
          refine x_cons (x_pushT RW [.int p 0, .int o 0, .str "nontree" 0] h9 I (by kernel_rfl) (fun _ => (by walk_at "rep")) (Nat.le_trans hvl (by decide)) fun ta s10 h10 => ?_)
          refine x_nil (x_nil ?_)
          refine ⟨todo, met, done ++ [((p, o, "nontree") : Trow)], r', vals ++ [.ref ta], chs ++ [tu ta [.int p 0, .int o 0, .str "nontree" 0]], RW, rfl, hsub', wk', by rw [hr]; simp, it0.snoc ⟨ta, rfl, rfl⟩, ?_⟩
          rw [← rev_snoc]
          exact (h10.sub (by kernel_rfl)).perm (by walk_at "perm")
        | @fwd k' _ _ _ _ _ m1 _ r1 r2 hc hlim wk1 wk2 =>
          have D' := D_law_walk g
          rw [hc]
          show wpAny _ _ (execs (_ :: _) _) _ _ _
          refine x_cons (x_push mt (.int o 0) h9 I (by kernel_rfl) (by walk_at "rep") (by rw [intL_len]; omega) fun s10 h10 => ?_)
          rw [intL_snoc] at h10
          show wpAny _ _ (execs (_ :: _) _) _ _ _
          refine x_cons (x_pushT RW [.int p 0, .int o 0, .str "forward" 0] h10 I (by kernel_rfl) (fun _ => (by walk_at "rep")) (Nat.le_trans hvl (by decide)) fun ta s11 h11 => ?_)
          show wpAny _ _ (execs (_ :: _) _) _ _ _
          have hlt : deep < l := hlim l rfl
          refine x_cons (wpAny_If (isTrue_of (c := decide (deep < l)) h11 I (by kernel_rfl) rfl fun s12 h12 => ?_))
          rw [decide_eq_true hlt]
          show wpAny _ _ (execs (_ :: _) _) _ _ _
          have hlen := congrArg List.length hr
          simp only [List.length_append, List.length_cons] at hlen hz
          refine x_cons (x_asg (wpAny_BinOp (wpAny_BinOp (x_ref RW h12 I (by kernel_rfl) fun s13 h13 => x_callf [.ref R, .ref mt, .int o 0, .int (deep + 1) 0, .int l 0] h13 I D' (by kernel_rfl) fun us s14 hus h14 => ?_))))
          have h15 : Ok (BB w h₁ X os dr) G (li mt (intL (met ++ [o])) :: fr (wkE L) (("other", .int o 0) :: varsK R mt RW p deep l) [] :: lit it a (intL (ch p)) (intL todo) :: li RW (vals ++ [.ref ta]) :: tu ta [.int p 0, .int o 0, .str "forward" 0] :: (chs.reverse ++ F)) s14 := (h14.sub (vars' := ("other", .int o 0) :: varsK R mt RW p deep l) (by kernel_rfl)).perm (by walk_at "perm")
          refine ih k' (by omega) (d := d + 9) (u := u + 17) wk1 (F'.mono (by omega) (by omega)) hoN h15 hW1.there (Nat.le_trans (wk_len wk2) hl) (by omega) hus fun S v' chs' s16 it1 h16 => ?_
          have h17 : Ok (BB w h₁ X os dr) G (fr (wkE L) (("other", .int o 0) :: varsK R mt RW p deep l) [] :: lit it a (intL (ch p)) (intL todo) :: li RW (vals ++ [.ref ta]) :: li S v' :: li mt (intL m1) :: (chs'.reverse ++ (tu ta [.int p 0, .int o 0, .str "forward" 0] :: (chs.reverse ++ F)))) s16 :=
            (h16.perm (List.Perm.cons _ (List.Perm.cons _ (back3 chs'.reverse _ _ _ _)))).perm (by walk_at "perm")
          have hvl2 : v'.length ≤ 10000 := by rw [it1.len]; omega
          refine l_add (ps := vals ++ [.ref ta]) (ps' := v') h17 (by walk_at "has") (by walk_at "has") (by rw [List.length_append, List.length_singleton]; exact Nat.le_trans (show vals.length + 1 + v'.length ≤ 100000 by omega) (by decide)) fun N1 s18 h18 => ?_
          refine x_list (G := G) (sp_cons (x_tupleP [.int p 0, .int o 0, .str "reverse" 0] h18.swap I (by kernel_rfl) fun tb s19 h19 => sp_nil ⟨_, [.ref tb], rfl, by simp, h19, fun T s20 h20 => ?_⟩))
          refine l_add (ps := vals ++ [.ref ta] ++ v') (ps' := [.ref tb]) h20 (by walk_at "has") (by walk_at "has") (by simp only [List.length_append, List.length_singleton]; exact Nat.le_trans (show vals.length + 1 + v'.length + 1 ≤ 100000 by omega) (by decide)) fun N2 s21 h21 => ?_
          have h22 := h21.perm (cs' := fr (wkE L) (("other", .int o 0) :: varsK R mt RW p deep l) [] :: li T [.ref tb] :: li N1 (vals ++ [.ref ta] ++ v') :: li RW (vals ++ [.ref ta]) :: li S v' :: lit it a (intL (ch p)) (intL todo) :: li mt (intL m1) :: li N2 (vals ++ [.ref ta] ++ v' ++ [.ref tb]) :: tu tb [.int p 0, .int o 0, .str "reverse" 0] :: (chs'.reverse ++ (tu ta [.int p 0, .int o 0, .str "forward" 0] :: (chs.reverse ++ F)))) (by walk_at "perm")
          refine st_local (p := .ref N2) h22.drop1.drop1.drop1.drop1 I rfl (by kernel_rfl) fun s23 h23 => ?_
          refine x_nil (x_nil (x_nil ?_))
          refine ⟨todo, m1, done ++ [((p, o, "forward") : Trow)] ++ r1 ++ [((p, o, "reverse") : Trow)], r2, vals ++ [.ref ta] ++ v' ++ [.ref tb], chs ++ [tu ta [.int p 0, .int o 0, .str "forward" 0]] ++ chs' ++ [tu tb [.int p 0, .int o 0, .str "reverse" 0]], N2, rfl, hsub', wk2, by rw [hr]; simp, ((it0.snoc ⟨ta, rfl, rfl⟩).app it1).snoc ⟨tb, rfl, rfl⟩, ?_⟩
          have er : (chs ++ [tu ta [.int p 0, .int o 0, .str "forward" 0]] ++ chs' ++ [tu tb [.int p 0, .int o 0, .str "reverse" 0]]).reverse ++ F = tu tb [.int p 0, .int o 0, .str "reverse" 0] :: (chs'.reverse ++ (tu ta [.int p 0, .int o 0, .str "forward" 0] :: (chs.reverse ++ F))) := by simp
          rw [er]
          exact h23.sub (by kernel_rfl)
        | @lim _ _ _ _ _ _ _ r' l' hc hq hlt wk' =>
          cases hq
          rw [hc]
          show wpAny _ _ (execs (_ :: _) _) _ _ _
          refine x_cons (x_push mt (.int o 0) h9 I (by kernel_rfl) (by walk_at "rep") (by rw [intL_len]; omega) fun s10 h10 => ?_)
          rw [intL_snoc] at h10
          show wpAny _ _ (execs (_ :: _) _) _ _ _
          refine x_cons (x_pushT RW [.int p 0, .int o 0, .str "forward" 0] h10 I (by kernel_rfl) (fun _ => (by walk_at "rep")) (Nat.le_trans hvl (by decide)) fun ta s11 h11 => ?_)
          show wpAny _ _ (execs (_ :: _) _) _ _ _
          refine x_cons (wpAny_If (isTrue_of (c := decide (deep < l)) h11 I (by kernel_rfl) rfl fun s12 h12 => ?_))
          rw [decide_eq_false hlt]
          show wpAny _ _ (execs (_ :: _) _) _ _ _
          refine x_cons (x_pushT RW [.int p 0, .int o 0, .str "reverse-depth_limit" 0] h12 I (by kernel_rfl) (fun _ => (by walk_at "rep")) (by simp; omega) fun tb s13 h13 => ?_)
          refine x_nil (x_nil (x_nil ?_))
          refine ⟨todo, met ++ [o], done ++ [((p, o, "forward") : Trow)] ++ [((p, o, "reverse-depth_limit") : Trow)], r', vals ++ [.ref ta] ++ [.ref tb], chs ++ [tu ta [.int p 0, .int o 0, .str "forward" 0]] ++ [tu tb [.int p 0, .int o 0, .str "reverse-depth_limit" 0]], RW, rfl, hsub', wk', by rw [hr]; simp, (it0.snoc ⟨ta, rfl, rfl⟩).snoc ⟨tb, rfl, rfl⟩, ?_⟩
          rw [← rev_snoc, ← rev_snoc]
          exact (h13.sub (by kernel_rfl)).perm (by walk_at "perm")
    · intro s6 ⟨todo, met, done, rest, vals, chs, RW, hvs, hsub, wk, hr, it0, h6⟩
      cases todo with
      | cons o todo => cases hvs
      | nil =>
        refine (lit_iter a it (intL (ch p))).done F'.handled h6 (by walk_at "foc") (hW1.there _ hla) fun s7 h7 => ⟨rfl, ?_⟩
        refine x_nil ?_
        cases wk
        rw [List.append_nil] at hr
        show wpAny _ _ (execs (_ :: _) _) _ _ _
        refine x_cons (x_ret (.ref RW) h7 I (by kernel_rfl) fun v8 s8 hv8 h8 => ?_)
        rw [untok_ref hv8]
        exact K RW _ _ s8 (hr ▸ it0) (h8.drop.swap)
end
end Mine
namespace Mine
local macro_rules | `(tactic| walk_at "foc") => `(tactic| first | with_reducible exact Foc.here _ _ | (apply Foc.there; walk_at "foc"))
local macro_rules | `(tactic| walk_at "has") => `(tactic| first | with_reducible exact Has.here _ _ | assumption | (refine Has.there _ ?_; walk_at "has"))
local macro_rules | `(tactic| walk_at "rep") => `(tactic| first | with_reducible exact Rep.here _ _ _ | assumption | (apply Rep.there; walk_at "rep"))
local macro_rules | `(tactic| walk_at "perm") => `(tactic| first | with_reducible exact List.Perm.refl _ | (refine perm_step (by walk_at "foc") ?_; walk_at "perm"))
noncomputable abbrev whE (L : Addr) : Env := callEnvC fd_law_whole L A_law_whole
abbrev varsH (R lst mt RW : Addr) (l : Int) : List (Str × Value) := [("near", .ref R), ("starts", .ref lst), ("limit", .int l 0), ("rows", .ref RW), ("seen", .ref mt)]
noncomputable def dnC : PySem.Expr := retE ((fbodyL [23]).getD 0 stPass)
noncomputable def dnS : Scope := cmpS (fscope [23]) dnC
noncomputable def dnX : PySem.Expr := .ListComp (cmpK dnC) [⟨(cmpG dnC).target, (cmpG dnC).iter, (cmpG dnC).ifs, 0⟩] dnS (cmpP dnC)
noncomputable abbrev dnE (L : Addr) : Env := callEnvC fd_law_done L A_law_done
theorem revs_cons (t : Trow) (ts : List Trow) : revs (t :: ts) = (if (t.2.2 == ("reverse" : Str)) = true then [t.2.1] else []) ++ revs ts := by
  unfold revs
  rw [List.filterMap_cons]
  split <;> rename_i e
  · split at e
    · cases e
    · rename_i h; rw [if_neg h]; rfl
  · split at e
    · rename_i h; cases e; rw [if_pos h]; rfl
    · cases e
section
variable {w : World} {h₁ : Heap} {X : List Addr} {os : OsState} {dr : Drawn} {G : Array GenState} {cs F T : List Chunk} {s : Shared} {A : Around} {E : Value → Shared → Prop} {d u k : Nat} {R lst st : Addr} {ch : Int → List Int} {l : Int} {ss ns met' : List Int} {rs : List Trow} {Ws : List Chunk} {vals : List Value} {chs : List Chunk}
noncomputable def OuI (G : Array GenState) (L it lst mt R : Addr) (w : World) (h₁ : Heap) (X : List Addr) (os : OsState) (dr : Drawn) (ch : Int → List Int) (l : Int) (k : Nat) (ss ns met' : List Int) (rs : List Trow) (F : List Chunk) (vs : List Value) (s : Shared) : Prop :=
  ∃ (todo met : List Int) (done rest : List Trow) (vals : List Value) (chs : List Chunk) (RW : Addr), vs = intL todo ∧ (∀ x ∈ todo, x ∈ ns) ∧ Wo ch (some l) k todo met met' rest ∧ rs = done ++ rest ∧ Items rowI done vals chs ∧ (∀ x ∈ met, x ∈ ns) ∧ met.Nodup ∧
    Ok (BB w h₁ X os dr) G (fr (whE L) (varsH R lst mt RW l) [] :: lit it lst (intL ss) vs :: li mt (intL met) :: li RW vals :: (chs.reverse ++ F)) s
theorem whole_ (g : (BB w h₁ X os dr).Good) {us : List Value} {Q : Value → Shared → Prop} (W : RowsOk (BB w h₁ X os dr) Ws R ch (fun n => n ∈ ns)) (hcl : ∀ n ∈ ns, ∀ m ∈ ch n, m ∈ ns) (hnz : ns.length ≤ 100) (hrz : rs.length ≤ 10000) (hss : ∀ x ∈ ss, x ∈ ns) (hw : Wo ch (some l) k ss [] met' rs)
    (Fi : Fit (BB w h₁ X os dr) A (d + 10 * (k + 2)) (u + 20 * (k + 2))) (h : Ok (BB w h₁ X os dr) G F s) (hW : HasAll Ws F) (hl : Has F (li lst (intL ss))) (hus : us.map untok = [.ref R, .ref lst, .int l 0])
    (K : ∀ S vals chs s', Items rowI rs vals chs → Ok (BB w h₁ X os dr) G (li S vals :: (chs.reverse ++ F)) s' → Q (.ref S) s') : wpAny (BB w h₁ X os dr).M A (call (.ref A_law_whole) us) Q E s := by
  have D := D_law_whole g
  obtain ⟨v0, v1, v2, rfl, e0, e1, e2⟩ := args3 hus
  rw [untok_ref e0, untok_ref e1]
  obtain ⟨t2, rfl⟩ := untok_int e2
  refine call_fn [("near", .ref R), ("starts", .ref lst), ("limit", .int l t2)] [("near", .ref R), ("starts", .ref lst), ("limit", .int l 0)] [] h g (d := d + 10 * (k + 1)) (u := u + 20 * (k + 1)) (Fi.mono (by omega) (by omega)) D (by kernel_rfl) (by kernel_rfl) (by intro z; kernel_rfl) (by intro z; kernel_rfl) (fun _ => ⟨rfl, List.nodup_nil⟩) fun A' L s1 F' h1 => ?_
  have I := D.inEnv g L
  have Dw := D_law_walk g
  show wpAny _ _ (execs (_ :: _) _) _ _ _
  refine x_cons (x_swap2 (G := G) (cv := []) I F'.handled (by kernel_rfl) (by kernel_rfl) (sp_cons (x_listP [] h1 I (by kernel_rfl) fun RW s2 h2 => sp_cons (x_listP [] h2 I (by kernel_rfl) fun mt s3 h3 => sp_nil ⟨_, _, .ref RW, .ref mt, rfl, h3, fun tp s4 h4 => ?_⟩))))
  have h5 : Ok (BB w h₁ X os dr) G (fr (whE L) (varsH R lst mt RW l) [] :: li mt [] :: li RW [] :: F) s4 := h4.drop1.sub (by kernel_rfl)
  show wpAny _ _ (execs (_ :: _) _) _ _ _
  refine x_cons (wpAny_For (x_ref lst h5 I (by kernel_rfl) fun s5 h6 => l_iter (ps := intL ss) h6 (.there _ (.there _ (.there _ hl))) fun it s6 h7 => ?_))
  refine for_go (vs := intL ss) (OuI G L it lst mt R w h₁ X os dr ch l k ss ns met' rs F) ?_ ?_ ⟨ss, [], [], rs, [], [], RW, rfl, hss, hw, rfl, .nil, (fun _ h => by cases h), List.nodup_nil, h7.swap⟩
  · intro v vs s5 ⟨todo, met, done, rest, vals, chs, RW, e1, e2, e3, e4, e5, e6, e7, h5⟩
    cases todo with
    | nil => cases e1
    | cons x todo =>
      obtain ⟨rfl, rfl⟩ := List.cons.inj e1
      have hxn : x ∈ ns := e2 x List.mem_cons_self
      have e2' : ∀ y ∈ todo, y ∈ ns := fun y hy => e2 y (List.mem_cons_of_mem _ hy)
      have hml : met.length ≤ 100 := Nat.le_trans (nodup_len e7 e6) hnz
      have hvl : vals.length ≤ 10000 := by rw [e5.len]; rw [e4, List.length_append] at hrz; omega
      refine (lit_iter lst it (intL ss)).next h5 (by walk_at "rep") (.there _ (.there _ (.there _ (.there _ (.app_right hl))))) fun u' s6 hu h6 => ⟨u', rfl, ?_⟩
      obtain ⟨t, rfl⟩ := untok_int hu
      refine wpAny_assign_Name (st_local h6 I rfl (by kernel_rfl) fun s7 h7 => ?_)
      show wpAny _ _ (execs (_ :: _) _) _ _ _
      refine x_cons (wpAny_If (x_isNotIn (o := x) (l := mt) (xs := met) h7 I (by kernel_rfl) (by walk_at "has") fun s8 h8 => ?_))
      cases e3 with
      | @skip _ _ _ _ _ hc hw' =>
        rw [hc]
        refine x_nil (x_nil ?_)
        exact ⟨todo, met, done, rest, vals, chs, RW, rfl, e2', hw', e4, e5, e6, e7, h8.sub (by kernel_rfl)⟩
      | @new _ _ _ m1 _ r1 r2 hc hk hw' =>
        rw [hc]
        show wpAny _ _ (execs (_ :: _) _) _ _ _
        refine x_cons (x_push mt (.int x 0) h8 I (by kernel_rfl) (by walk_at "rep") (by rw [intL_len]; omega) fun s9 h9 => ?_)
        rw [intL_snoc] at h9
        show wpAny _ _ (execs (_ :: _) _) _ _ _
        have hlen := congrArg List.length e4
        simp only [List.length_append, List.length_cons] at hlen
        have hc' := hc
        rw [List.contains_eq_mem, decide_eq_false_iff_not] at hc'
        have hm2 : ∀ y ∈ met ++ [x], y ∈ ns := fun y hy => by
          rcases List.mem_append.mp hy with hy | hy
          · exact e6 y hy
          · rw [List.mem_singleton.mp hy]; exact hxn
        have nd2 : (met ++ [x]).Nodup := by rw [List.nodup_append]; exact ⟨e7, by simp, fun a ha b hb e => hc' (by rw [← List.mem_singleton.mp hb, ← e]; exact ha)⟩
        obtain ⟨b1, b2, b3, _⟩ := wk_met hcl hk (hcl x hxn) hm2 nd2
        have hm1l : m1.length ≤ 1000 := Nat.le_trans (nodup_len b2 b1) (by omega)
        refine x_cons (x_asg (wpAny_BinOp (wpAny_BinOp (wpAny_BinOp (x_ref RW h9 I (by kernel_rfl) fun s10 h10 => x_list (G := G) (sp_cons (x_tupleP [.int x 0, .int x 0, .str "forward" 0] h10 I (by kernel_rfl) fun ta s11 h11 => sp_nil ⟨_, [.ref ta], rfl, by simp, h11, fun T1 s12 h12 => ?_⟩)))))))
        refine l_add (ps := vals) (ps' := [.ref ta]) h12 (by walk_at "has") (by walk_at "has") (by rw [List.length_singleton]; exact Nat.le_trans (show vals.length + 1 ≤ 100000 by omega) (by decide)) fun N1 s13 h13 => ?_
        have h14 := h13.perm (cs' := fr (whE L) _ [] :: li T1 [.ref ta] :: li RW vals :: li N1 (vals ++ [.ref ta]) :: lit it lst (intL ss) (intL todo) :: li mt (intL (met ++ [x])) :: tu ta [.int x 0, .int x 0, .str "forward" 0] :: (chs.reverse ++ F)) (by walk_at "perm")
        have h15 : Ok (BB w h₁ X os dr) G (fr (whE L) (("start", .int x 0) :: varsH R lst mt RW l) [] :: li N1 (vals ++ [.ref ta]) :: lit it lst (intL ss) (intL todo) :: li mt (intL (met ++ [x])) :: tu ta [.int x 0, .int x 0, .str "forward" 0] :: (chs.reverse ++ F)) s13 := h14.drop1.drop1.sub (by kernel_rfl)
        refine x_callf [.ref R, .ref mt, .int x 0, .int 1 0, .int l 0] h15 I Dw (by kernel_rfl) fun us s16 hus h16 => ?_
        have h17 : Ok (BB w h₁ X os dr) G (li mt (intL (met ++ [x])) :: fr (whE L) (("start", .int x 0) :: varsH R lst mt RW l) [] :: lit it lst (intL ss) (intL todo) :: li N1 (vals ++ [.ref ta]) :: tu ta [.int x 0, .int x 0, .str "forward" 0] :: (chs.reverse ++ F)) s16 := h16.perm (by walk_at "perm")
        refine walk_ g W k (d := d) (u := u) hk (F'.mono (by omega) (by omega)) hxn h17 hW.right.there.there.there.there hm1l (by omega) hus fun S v' chs' s18 it1 h18 => ?_
        have h19 : Ok (BB w h₁ X os dr) G (fr (whE L) (("start", .int x 0) :: varsH R lst mt RW l) [] :: lit it lst (intL ss) (intL todo) :: li N1 (vals ++ [.ref ta]) :: li S v' :: li mt (intL m1) :: (chs'.reverse ++ (tu ta [.int x 0, .int x 0, .str "forward" 0] :: (chs.reverse ++ F)))) s18 :=
          (h18.perm (List.Perm.cons _ (List.Perm.cons _ (back3 chs'.reverse _ _ _ _)))).perm (by walk_at "perm")
        have hvl2 : v'.length ≤ 10000 := by rw [it1.len]; omega
        refine l_add (ps := vals ++ [.ref ta]) (ps' := v') h19 (by walk_at "has") (by walk_at "has") (by rw [List.length_append, List.length_singleton]; exact Nat.le_trans (show vals.length + 1 + v'.length ≤ 100000 by omega) (by decide)) fun N2 s20 h20 => ?_
        refine x_list (G := G) (sp_cons (x_tupleP [.int x 0, .int x 0, .str "reverse" 0] h20.swap I (by kernel_rfl) fun tb s21 h21 => sp_nil ⟨_, [.ref tb], rfl, by simp, h21, fun T2 s22 h22 => ?_⟩))
        refine l_add (ps := vals ++ [.ref ta] ++ v') (ps' := [.ref tb]) h22 (by walk_at "has") (by walk_at "has") (by simp only [List.length_append, List.length_singleton]; exact Nat.le_trans (show vals.length + 1 + v'.length + 1 ≤ 100000 by omega) (by decide)) fun N3 s23 h23 => ?_
        have h24 := h23.perm (cs' := fr (whE L) (("start", .int x 0) :: varsH R lst mt RW l) [] :: li T2 [.ref tb] :: li N2 (vals ++ [.ref ta] ++ v') :: li N1 (vals ++ [.ref ta]) :: li S v' :: lit it lst (intL ss) (intL todo) :: li mt (intL m1) :: li N3 (vals ++ [.ref ta] ++ v' ++ [.ref tb]) :: tu tb [.int x 0, .int x 0, .str "reverse" 0] :: (chs'.reverse ++ (tu ta [.int x 0, .int x 0, .str "forward" 0] :: (chs.reverse ++ F)))) (by walk_at "perm")
        refine st_local (p := .ref N3) h24.drop1.drop1.drop1.drop1 I rfl (by kernel_rfl) fun s25 h25 => ?_
        refine x_nil (x_nil ?_)
        refine ⟨todo, m1, done ++ [((x, x, "forward") : Trow)] ++ r1 ++ [((x, x, "reverse") : Trow)], r2, vals ++ [.ref ta] ++ v' ++ [.ref tb], chs ++ [tu ta [.int x 0, .int x 0, .str "forward" 0]] ++ chs' ++ [tu tb [.int x 0, .int x 0, .str "reverse" 0]], N3, rfl, e2', hw', by rw [e4]; simp, ((e5.snoc (t := (x, x, "forward")) (v := .ref ta) ⟨ta, rfl, rfl⟩).app it1).snoc (t := (x, x, "reverse")) (v := .ref tb) ⟨tb, rfl, rfl⟩, b1, b2, ?_⟩
        have er : (chs ++ [tu ta [.int x 0, .int x 0, .str "forward" 0]] ++ chs' ++ [tu tb [.int x 0, .int x 0, .str "reverse" 0]]).reverse ++ F = tu tb [.int x 0, .int x 0, .str "reverse" 0] :: (chs'.reverse ++ (tu ta [.int x 0, .int x 0, .str "forward" 0] :: (chs.reverse ++ F))) := by simp
        rw [er]
        exact h25.sub (by kernel_rfl)
  · intro s5 ⟨todo, met, done, rest, vals, chs, RW, e1, e2, e3, e4, e5, e6, e7, h5⟩
    cases todo with
    | cons n todo => cases e1
    | nil =>
      refine (lit_iter lst it (intL ss)).done F'.handled h5 (by walk_at "foc") (.there _ (.there _ (.there _ (.there _ (.app_right hl))))) fun s6 h6 => ⟨rfl, x_nil ?_⟩
      cases e3
      rw [List.append_nil] at e4
      show wpAny _ _ (execs (_ :: _) _) _ _ _
      refine x_cons (x_ret (.ref RW) h6 I (by kernel_rfl) fun v8 s8 hv8 h8 => ?_)
      rw [untok_ref hv8]
      exact K RW vals chs s8 (e4 ▸ e5) h8.drop.drop
theorem done_ (g : (BB w h₁ X os dr).Good) {Q : Value → Shared → Prop} (Fi : Fit (BB w h₁ X os dr) A (d + 2) (u + 6)) (h : Ok (BB w h₁ X os dr) G T s) (hst : Has T (li st vals)) (hI : Items rowI rs vals chs) (hT : HasAll chs T) (hz : rs.length ≤ 10000)
    (K : ∀ D s', Ok (BB w h₁ X os dr) G (li D (intL (revs rs)) :: T) s' → Q (.ref D) s') : wpAny (BB w h₁ X os dr).M A (call (.ref A_law_done) [.ref st]) Q E s := by
  have D := D_law_done g
  refine call_fn [("rows", .ref st)] [("rows", .ref st)] [] h g (d := d + 1) (u := u + 3) Fi D (by kernel_rfl) (by kernel_rfl) (by intro z; kernel_rfl) (by intro z; kernel_rfl) (fun _ => ⟨rfl, List.nodup_nil⟩) fun A' L s1 F' h1 => ?_
  have I := D.inEnv g L
  show wpAny _ _ (execs (_ :: _) _) _ _ _
  refine x_cons (wpAny_Return_some ?_)
  show wpAny _ _ (eval dnC (dnE L)) _ _ _
  show wpAny _ _ (comprehension dnX dnS (dnE L) _ (newList []) false (eval (cmpG dnC).iter (dnE L))) _ _ _
  refine x_comp (G := G) [] [] [] g rfl (fun _ => (by kernel_rfl)) (by kernel_rfl) (Prod.ext (by kernel_rfl) rfl) rfl (x_ref st h1 I (by kernel_rfl) fun s2 h2 => l_iter (ps := vals) h2 (.there _ hst) fun it s3 h3 => new_listL h3 fun a s4 h4 => ?_)
  have h5 : Ok (BB w h₁ X os dr) G (fr (dnE L) [("rows", .ref st)] [] :: lit it st vals vals :: li a (intL []) :: T) s4 := h4.perm (by
    show List.Perm (li a [] :: lit it st vals vals :: fr (dnE L) [("rows", .ref st)] [] :: T) (fr (dnE L) [("rows", .ref st)] [] :: lit it st vals vals :: li a [] :: T)
    exact (by walk_at "perm"))
  refine ⟨_, _, h5, fun C s6 h6 => ?_⟩
  have I' : In (BB w h₁ X os dr) (cEnv dnS (dnE L) C) := x_inC g I (by kernel_rfl)
  refine lc_run (vs := vals) (fun vs s => ∃ (todo : List Trow) (c2 : List Chunk) (out : List Int) (vs' : List (Str × Value)), Items rowI todo vs c2 ∧ (∀ c ∈ c2, c ∈ chs) ∧ revs rs = out ++ revs todo ∧ out.length + todo.length ≤ rs.length ∧
    Ok (BB w h₁ X os dr) G (fr (cEnv dnS (dnE L) C) vs' [] :: fr (dnE L) [("rows", .ref st)] [] :: lit it st vals vs :: li a (intL out) :: T) s) ?_ ?_ ?_ ⟨rs, chs, [], [], hI, fun _ h => h, rfl, by simp, h6⟩
  · intro vs s5 Q' ⟨todo, c2, out, vs', e1, e2, e3, e4, h5⟩ q
    exact lit_self h5 (by walk_at "has") q
  · intro v vs s5 ⟨todo, c2, out, vs', e1, e2, e3, e4, h5⟩
    cases e1 with
    | @cons t ts v0 vs0 c c2 hi hI2 =>
      obtain ⟨a0, rfl, rfl⟩ := hi
      refine (lit_iter st it vals).next h5 (by walk_at "rep") (.there _ (.there _ (.there _ (.there _ hst)))) fun u' s6 hu h6 => ⟨u', rfl, ?_⟩
      cases untok_ref hu
      refine own_lit h6 (by walk_at "has") ?_
      have htu : Has T (tu a0 [.int t.1 0, .int t.2.1 0, .str t.2.2 0]) := hT _ (e2 _ List.mem_cons_self)
      show wpAny _ _ (assign (.Tuple _ _ _) _ _) _ _ _
      refine u_three (p₁ := .int t.1 0) (p₂ := .int t.2.1 0) (p₃ := .str t.2.2 0) h6 I' F'.handled (.there _ (.there _ (.there _ htu))) (by kernel_rfl) fun s7 h7 => ?_
      show wpAny _ _ (tests [_] _) _ _ _
      refine t_one (isTrue_of (c := t.2.2 == ("reverse" : Str)) h7 I' (by kernel_rfl) rfl fun s8 h8 => ?_)
      rw [revs_cons] at e3
      cases hc : (t.2.2 == ("reverse" : Str)) with
      | false =>
        rw [hc] at e3
        refine ⟨ts, c2, out, _, hI2, fun x hx => e2 x (List.mem_cons_of_mem _ hx), e3, by rw [List.length_cons] at e4; omega, h8⟩
      | true =>
        rw [if_pos rfl]
        rw [hc, if_pos rfl] at e3
        refine x_int t.2.1 h8 I' (by kernel_rfl) fun tk s9 h9 => ?_
        refine l_append (p := .int t.2.1 0) h9 rfl (by walk_at "rep") (by rw [intL_len]; rw [List.length_cons] at e4; exact Nat.le_trans (show out.length ≤ 10000 by omega) (by decide)) fun s10 h10 => ?_
        rw [intL_snoc] at h10
        refine ⟨ts, c2, out ++ [t.2.1], _, hI2, fun x hx => e2 x (List.mem_cons_of_mem _ hx), by rw [e3]; simp, by rw [List.length_cons] at e4; simp; omega, h10⟩
  · intro s5 ⟨todo, c2, out, vs', e1, e2, e3, e4, h5⟩
    cases e1
    refine (lit_iter st it vals).done F'.handled h5 (by walk_at "foc") (.there _ (.there _ (.there _ (.there _ hst)))) fun s6 h6 => ⟨rfl, ?_⟩
    have e5 : out = revs rs := by rw [e3]; unfold revs; simp
    subst e5
    exact ⟨vs', _, h6, fun s7 h7 => K a s7 h7.drop⟩
end
end Mine
namespace Mine
local macro_rules | `(tactic| walk_at "foc") => `(tactic| first | with_reducible exact Foc.here _ _ | (apply Foc.there; walk_at "foc"))
local macro_rules | `(tactic| walk_at "has") => `(tactic| first | with_reducible exact Has.here _ _ | assumption | (refine Has.there _ ?_; walk_at "has"))
local macro_rules | `(tactic| walk_at "rep") => `(tactic| first | with_reducible exact Rep.here _ _ _ | assumption | (apply Rep.there; walk_at "rep"))
local macro_rules | `(tactic| walk_at "perm") => `(tactic| first | with_reducible exact List.Perm.refl _ | (refine perm_step (by walk_at "foc") ?_; walk_at "perm"))
theorem chOf_lr {dir : Bool} {g1 : GS} {ls : List LRow} {N : Nat} (hg : GOk dir g1 (lrA ls) N) (n : Int) : chOf g1.rows n = ((lrA ls).lookup n).getD [] := by unfold chOf; rw [hg.abs]
section
variable {w : World} {h₁ : Heap} {X : List Addr} {os : OsState} {dr : Drawn} {G : Array GenState} {cs cs' F T : List Chunk} {s : Shared} {A : Around} {E : Value → Shared → Prop} {d u : Nat} {g1 : GS} {adj : List (Int × List Int)} {N : Nat} {src dl : Option Int} {dir : Bool} {rs : List Trow} {env : Env} {vars : List (Str × Value)} {us₀ : List Value}
abbrev WK (w : World) (h₁ : Heap) (X : List Addr) (os : OsState) (dr : Drawn) (dir : Bool) (g1 : GS) (src dl : Option Int) (rs : List Trow) : Prop :=
  WalkOk w h₁ X os dr g1.x g1.gd g1.na g1.aa (clX dir) (fsX dir g1) g1.nodes g1.en g1.rows g1.ea (nbX dir) (fun _ => True) .none [] (chOf g1.rows) src dl rs
theorem walk3 (g : (BB w h₁ X os dr).Good) (t : GOk dir g1 adj N) (nd : (adj.map (·.1)).Nodup) (hcl : ∀ p ∈ adj, ∀ m ∈ p.2, m ∈ adj.map (·.1)) (h0 : 0 < adj.length) (hl : adj.length ≤ 7) (hN : N ≤ 24) (hs : ∀ m, src = some m → m ∈ adj.map (·.1)) :
    ∃ rs met', WK w h₁ X os dr dir g1 src dl rs ∧ Wo (chOf g1.rows) (some (limOf g1.nodes dl)) (adj.length - 1) (startsOf g1.nodes src) [] met' rs ∧ rs.length ≤ 10000 ∧ (∀ x ∈ startsOf g1.nodes src, x ∈ adj.map (·.1)) ∧ (∀ n ∈ adj.map (·.1), ∀ m ∈ chOf g1.rows n, m ∈ adj.map (·.1)) ∧ g1.nodes.map (·.1) = adj.map (·.1) := by
  have hk : g1.rows.map (·.key) = adj.map (·.1) := by rw [← abs_keys, t.abs]
  have ndr : (g1.rows.map (·.key)).Nodup := by rw [hk]; exact nd
  have hch : ∀ n m, m ∈ chOf g1.rows n → m ∈ adj.map (·.1) := fun n m hm => by
    unfold chOf at hm
    cases hl : (absR g1.rows).lookup n with
    | none => rw [hl] at hm; cases hm
    | some v =>
      rw [hl] at hm
      have := mem_of_look hl
      rw [t.abs] at this
      exact hcl _ this m hm
  have hD : ∀ n, (chOf g1.rows n).length ≤ N := fun n => by
    unfold chOf
    cases hl : (absR g1.rows).lookup n with
    | none => exact Nat.zero_le _
    | some v =>
      obtain ⟨r, hr, e⟩ := List.mem_map.mp (mem_of_look hl)
      have := (Prod.mk.inj e).2
      show v.length ≤ N
      rw [← this, List.length_map]; exact t.sz r hr
  have hnk : g1.nodes.map (·.1) = g1.rows.map (·.key) := by
    cases dir with
    | true => exact (t.d rfl).keys
    | false => exact (t.u rfl).keys
  have hnl : g1.nodes.length = adj.length := by have := congrArg List.length (hnk.trans hk); simpa using this
  have hss : ∀ x ∈ startsOf g1.nodes src, x ∈ adj.map (·.1) := by
    intro x hx
    cases src with
    | none => have hx : x ∈ g1.nodes.map (·.1) := hx; rw [hnk, hk] at hx; exact hx
    | some m => have hx : x ∈ [m] := hx; rw [List.mem_singleton.mp hx]; exact hs m rfl
  have hsl : (startsOf g1.nodes src).length ≤ 7 := by
    cases src with
    | none => show (g1.nodes.map (·.1)).length ≤ 7; rw [List.length_map]; omega
    | some m => show 1 ≤ 7; omega
  obtain ⟨met', rs, hw, hm1, hm2, hm3, hm4⟩ := wo_ends (lim := some (limOf g1.nodes dl)) (fun n _ m hm => hch n m hm) hD (adj.length - 1) (startsOf g1.nodes src) [] hss (fun _ h => by cases h) List.nodup_nil (by rw [List.length_map]; omega)
  have hml : met'.length ≤ 7 := by have := nodup_len hm2 hm1; rw [List.length_map] at this; omega
  have hgo : Go (chOf g1.rows) (limOf g1.nodes dl) (.O [] (startsOf g1.nodes src)) rs := wo_go hw (fun l e => by cases e; rfl) (fun e => by cases e)
  have hrz : rs.length ≤ 10000 := by
    simp only [List.length_nil, Nat.zero_mul, Nat.add_zero] at hm4
    have a1 : (2 + 2 * N) * (startsOf g1.nodes src).length ≤ (2 + 2 * 24) * 7 := Nat.mul_le_mul (by omega) hsl
    have a2 : met'.length * (2 * N) ≤ 7 * (2 * 24) := Nat.mul_le_mul hml (by omega)
    omega
  exact ⟨rs, met', ⟨kdX, fun L Ws hW => mk_plain g kdX hW ndr fun _ => trivial, hnk, ndr, by omega, fun n _ m hm => by rw [hk]; exact hch n m hm, fun n e => by rw [hk]; exact hs n e, hgo, by omega⟩, hw, hrz, hss, fun n _ m hm => hch n m hm, hnk.trans hk⟩
def Binds (w : World) (h₁ : Heap) (X : List Addr) (os : OsState) (dr : Drawn) (fd : FuncData) (gx : Addr) (src dl : Option Int) (us₀ : List Value) : Prop :=
  ∀ us : List Value, us.map untok = us₀ → ∃ v1 v2 v3, peek (BB w h₁ X os dr).K ⟨(BB w h₁ X os dr).prog, (BB w h₁ X os dr).w.params⟩ (bindArgs fd ⟨us, []⟩) = some [(("G" : Str), Value.ref gx), (("source" : Str), v1), (("depth_limit" : Str), v2), (("sort_neighbors" : Str), v3)] ∧ untok v1 = srcV src ∧ untok v2 = srcV dl ∧ untok v3 = .none
theorem binds1 {gx : Addr} : Binds w h₁ X os dr fd_dfs gx none none [.ref gx] := fun us e => by
  obtain ⟨v, rfl, e1⟩ := args1 e
  rw [untok_ref e1]
  exact ⟨.none, .none, .none, (by kernel_rfl), rfl, rfl, rfl⟩
theorem binds2 {gx : Addr} : Binds w h₁ X os dr fd_dfs gx src none [.ref gx, srcV src] := fun us e => by
  obtain ⟨v, v2, rfl, e1, e2⟩ := args2 e
  rw [untok_ref e1]
  exact ⟨v2, .none, .none, (by kernel_rfl), e2, rfl, rfl⟩
theorem binds3 {gx : Addr} {l : Int} : Binds w h₁ X os dr fd_dfs gx src (some l) [.ref gx, srcV src, .int l 0] := fun us e => by
  obtain ⟨v, v2, v3, rfl, e1, e2, e3⟩ := args3 e
  rw [untok_ref e1]
  exact ⟨v2, v3, .none, (by kernel_rfl), e2, e3, rfl⟩
theorem bindp1 {gx : Addr} : Binds w h₁ X os dr fd_post gx none none [.ref gx] := fun us e => by
  obtain ⟨v, rfl, e1⟩ := args1 e
  rw [untok_ref e1]
  exact ⟨.none, .none, .none, (by kernel_rfl), rfl, rfl, rfl⟩
theorem bindp2 {gx : Addr} : Binds w h₁ X os dr fd_post gx src none [.ref gx, srcV src] := fun us e => by
  obtain ⟨v, v2, rfl, e1, e2⟩ := args2 e
  rw [untok_ref e1]
  exact ⟨v2, .none, .none, (by kernel_rfl), e2, rfl, rfl⟩
theorem bindp3 {gx : Addr} {l : Int} : Binds w h₁ X os dr fd_post gx src (some l) [.ref gx, srcV src, .int l 0] := fun us e => by
  obtain ⟨v, v2, v3, rfl, e1, e2, e3⟩ := args3 e
  rw [untok_ref e1]
  exact ⟨v2, v3, .none, (by kernel_rfl), e2, e3, rfl⟩
theorem x_lab (g : (BB w h₁ X os dr).Good) (K : WK w h₁ X os dr dir g1 src dl rs) {n1 n2 : Str} {p1 p2 p3 p4 : Pos} {es : List PySem.Expr} {Q : Value → Shared → Prop} (h : Ok (BB w h₁ X os dr) G (fr env vars [] :: T) s) (I : In (BB w h₁ X os dr) env)
    (q : (ev env GL vars [] 9 (.Name n1 p1), ev env GL vars [] 9 (.Name n2 p2), evs env GL vars [] es) = (some (.type "list"), some (.ref A_dfs), some us₀)) (hb : Binds w h₁ X os dr fd_dfs g1.x src dl us₀)
    (Fi : Fit (BB w h₁ X os dr) A (d + 30) (u + 60)) (hG : AllFin G) (hg : ∀ c, Has (gX (BB w h₁ X os dr) dir g1) c → Has T c)
    (k : ∀ S vals chs G' s', Items rowI rs vals chs → AllFin G' → Ok (BB w h₁ X os dr) G' (fr env vars [] :: li S vals :: (chs.reverse ++ T)) s' → Q (.ref S) s') : wpAny (BB w h₁ X os dr).M A (eval (.Call (.Name n1 p1) [.Call (.Name n2 p2) es [] p3] [] p4) env) Q E s := by
  simp only [Prod.mk.injEq] at q
  obtain ⟨q1, q2, q3⟩ := q
  refine wpAny_Call_NameR (x_ev (.type "list") h I q1 fun v7 s7 hv7 h7 => ?_)
  rw [untok_type hv7]
  refine PyProof.Rows.callWith_type1 (sp_cons (x_callf us₀ h7 I (D_dfs g) (by rw [q2, q3]) fun us s8 hus h8 => ?_))
  obtain ⟨v1, v2, v3, b1, b2, b3, b4⟩ := hb us hus
  refine wpAny_mono ?_ (fun v s₁ hv => sp_nil hv) fun _ _ e => e
  refine lab_list (d := d) (u := u) g K b1 b2 b3 b4 (Fi.mono (by omega) (by omega)) h8.nilc hG (fun c hc => .there _ (hg c (hasX c hc))) fun S vals chs G' z s' hI hG' _ h2 => ?_
  have h3 : Ok (BB w h₁ X os dr) G' (z :: fr env vars [] :: li S vals :: (chs.reverse ++ T)) s' := by
    refine h2.perm ?_
    refine (List.Perm.cons _ (List.perm_middle.trans (List.Perm.cons _ List.perm_middle))).trans ?_
    exact (List.Perm.swap _ _ _).trans (List.Perm.cons _ (List.Perm.swap _ _ _))
  exact k S vals chs G' s' hI hG' h3.drop
theorem x_post (g : (BB w h₁ X os dr).Good) (K : WK w h₁ X os dr dir g1 src dl rs) {n1 n2 : Str} {p1 p2 p3 p4 : Pos} {es : List PySem.Expr} {Q : Value → Shared → Prop} (h : Ok (BB w h₁ X os dr) G (fr env vars [] :: ct T_post #[] :: T) s) (I : In (BB w h₁ X os dr) env)
    (q : (ev env GL vars [] 9 (.Name n1 p1), ev env GL vars [] 9 (.Name n2 p2), evs env GL vars [] es) = (some (.type "list"), some (.ref A_post), some us₀)) (hb : Binds w h₁ X os dr fd_post g1.x src dl us₀)
    (Fi : Fit (BB w h₁ X os dr) A (d + 30) (u + 60)) (hG : AllFin G) (hg : ∀ c, Has (gX (BB w h₁ X os dr) dir g1) c → Has T c)
    (k : ∀ S G' s', AllFin G' → Ok (BB w h₁ X os dr) G' (fr env vars [] :: ct T_post #[] :: li S (intL (revs rs)) :: T) s' → Q (.ref S) s') : wpAny (BB w h₁ X os dr).M A (eval (.Call (.Name n1 p1) [.Call (.Name n2 p2) es [] p3] [] p4) env) Q E s := by
  simp only [Prod.mk.injEq] at q
  obtain ⟨q1, q2, q3⟩ := q
  refine wpAny_Call_NameR (x_ev (.type "list") h I q1 fun v7 s7 hv7 h7 => ?_)
  rw [untok_type hv7]
  refine PyProof.Rows.callWith_type1 (sp_cons (x_callf us₀ h7 I (D_post g) (by rw [q2, q3]) fun us s8 hus h8 => ?_))
  obtain ⟨v1, v2, v3, b1, b2, b3, b4⟩ := hb us hus
  refine wpAny_mono ?_ (fun v s₁ hv => sp_nil hv) fun _ _ e => e
  have h9 : Ok (BB w h₁ X os dr) G (ct T_post #[] :: [] :: fr env vars [] :: T) s8 := (h8.nilc).perm (cs' := ct T_post #[] :: [] :: fr env vars [] :: T) (by walk_at "perm")
  refine post_list (d := d) (u := u) g K b1 b2 b3 b4 Fi h9 hG (fun c hc => .there _ (hg c (hasX c hc))) fun S G' z s' hG' _ h2 => ?_
  have h3 := h2.perm (cs' := z :: fr env vars [] :: ct T_post #[] :: li S (intL (revs rs)) :: T) (by walk_at "perm")
  exact k S G' s' hG' h3.drop
end
end Mine
namespace Mine
local macro_rules | `(tactic| walk_at "foc") => `(tactic| first | with_reducible exact Foc.here _ _ | (apply Foc.there; walk_at "foc"))
local macro_rules | `(tactic| walk_at "has") => `(tactic| first | with_reducible exact Has.here _ _ | assumption | (refine Has.there _ ?_; walk_at "has"))
local macro_rules | `(tactic| walk_at "rep") => `(tactic| first | with_reducible exact Rep.here _ _ _ | assumption | (apply Rep.there; walk_at "rep"))
local macro_rules | `(tactic| walk_at "perm") => `(tactic| first | with_reducible exact List.Perm.refl _ | (refine perm_step (by walk_at "foc") ?_; walk_at "perm"))
theorem Ok.cut {b : Base} {G : Array GenState} {c : Chunk} {F : List Chunk} {s : Shared} : ∀ (ds : List Chunk), Mine.Ok b G (c :: (ds ++ F)) s → Mine.Ok b G (c :: F) s
  | [], h => h
  | _ :: ds, h => Ok.cut ds (Mine.Ok.drop1 h)
theorem Has.iff {cs : List Chunk} {c : Chunk} : Has cs c ↔ c ∈ cs := by
  constructor
  · intro h
    induction h with
    | here => exact List.mem_cons_self
    | there d _ ih => exact List.mem_cons_of_mem _ ih
  · intro h
    obtain ⟨a, b, rfl⟩ := List.append_of_mem h
    exact .app_right (.here _ _)
theorem hasAll_rev {chs T : List Chunk} : HasAll chs (chs.reverse ++ T) := fun _ hc => .app_left (Has.iff.mpr (List.mem_reverse.mpr hc))
abbrev varsL (S gx NL R : Addr) (n : Nat) (lm : Int) (dir : Bool) : List (Str × Value) := ("limit", .int lm 0) :: varsA S gx NL R n dir
section
variable {w : World} {h₁ : Heap} {X : List Addr} {os : OsState} {dr : Drawn} {G : Array GenState} {cs cs' F T : List Chunk} {s : Shared} {A : Around} {E : Value → Shared → Prop} {d u : Nat} {g1 : GS} {src : Option Int} {dir : Bool} {L S NL R : Addr} {n ep : Nat} {lm : Int} {nms : List Int} {ls : List LRow}
structure T3 (w : World) (h₁ : Heap) (X : List Addr) (os : OsState) (dr : Drawn) (dir : Bool) (g1 : GS) (NL R : Addr) (ep n : Nat) (nms : List Int) (ls : List LRow) (T : List Chunk) : Prop where
  nd : nms.Nodup
  len : nms.length = n
  n0 : 0 < n
  n6 : n ≤ 6
  t : GOk dir g1 (lrA ls) 24
  kk : (lrA ls).map (·.1) = nms
  cl : ∀ p ∈ lrA ls, ∀ m ∈ p.2, m ∈ nms
  hg : ∀ c, Has (gX (BB w h₁ X os dr) dir g1) c → Has T c
  hn : Has T (li NL (intL nms))
  hd : Has T (di (BB w h₁ X os dr) R (lrK ls) ep)
  hl : ∀ r ∈ ls, Has T (li r.at_ (intL r.ns))
theorem T3.mono {Z : List Chunk} (H : T3 w h₁ X os dr dir g1 NL R ep n nms ls T) (hm : ∀ c, Has T c → Has Z c) : T3 w h₁ X os dr dir g1 NL R ep n nms ls Z :=
  ⟨H.nd, H.len, H.n0, H.n6, H.t, H.kk, H.cl, fun c hc => hm _ (H.hg c hc), hm _ H.hn, hm _ H.hd, fun r hr => hm _ (H.hl r hr)⟩
theorem T3.push (H : T3 w h₁ X os dr dir g1 NL R ep n nms ls T) (c : Chunk) : T3 w h₁ X os dr dir g1 NL R ep n nms ls (c :: T) := H.mono fun _ h => .there _ h
theorem T3.adj0 (H : T3 w h₁ X os dr dir g1 NL R ep n nms ls T) : (lrA ls).length = n := by rw [← List.length_map (f := (·.1)), H.kk, H.len]
theorem T3.walk (H : T3 w h₁ X os dr dir g1 NL R ep n nms ls T) (g : (BB w h₁ X os dr).Good) (src dl : Option Int) (hs : ∀ m, src = some m → m ∈ nms) :
    ∃ rs met', WK w h₁ X os dr dir g1 src dl rs ∧ Wo (chOf g1.rows) (some (limOf g1.nodes dl)) (n - 1) (startsOf g1.nodes src) [] met' rs ∧ rs.length ≤ 10000 ∧ (∀ x ∈ startsOf g1.nodes src, x ∈ nms) ∧ (∀ n ∈ nms, ∀ m ∈ chOf g1.rows n, m ∈ nms) ∧ g1.nodes.map (·.1) = nms := by
  have := walk3 (src := src) (dl := dl) g H.t (by rw [H.kk]; exact H.nd) (by rw [H.kk]; exact H.cl) (by rw [H.adj0]; exact H.n0) (by rw [H.adj0]; have := H.n6; omega) (Nat.le_refl _) (by rw [H.kk]; exact hs)
  rw [H.kk, H.adj0] at this
  exact this
theorem T3.lim (H : T3 w h₁ X os dr dir g1 NL R ep n nms ls T) (hk : g1.nodes.map (·.1) = nms) : limOf g1.nodes none = (n : Int) := by
  show (g1.nodes.length : Int) = n
  rw [← List.length_map (f := (·.1)), hk, H.len]
theorem T3.rows (H : T3 w h₁ X os dr dir g1 NL R ep n nms ls T) (hc : ∀ n ∈ nms, ∀ m ∈ chOf g1.rows n, m ∈ nms) : RowsOk (BB w h₁ X os dr) (di (BB w h₁ X os dr) R (lrK ls) ep :: lrC ls) R (chOf g1.rows) (fun n => n ∈ nms) := by
  refine ⟨⟨lrK ls, ep, List.mem_cons_self, fun p hp => ?_⟩, fun p hp o ho => hc p hp o ho, fun p => ?_⟩
  · obtain ⟨r, hr, hrk⟩ := lr_mem (ls := ls) (k := p) (by rw [H.kk]; exact hp)
    refine ⟨r.at_, by rw [← hrk]; exact lr_look (by rw [H.kk]; exact H.nd) hr, ?_⟩
    have e3 : chOf g1.rows p = r.ns := by
      rw [chOf_lr H.t, ← hrk, lookup_of_mem (by rw [H.kk]; exact H.nd) (show (r.key, r.ns) ∈ lrA ls from List.mem_map.mpr ⟨r, hr, rfl⟩)]; rfl
    show li r.at_ (intL (chOf g1.rows p)) ∈ _
    rw [e3]
    exact List.mem_cons_of_mem _ (List.mem_map.mpr ⟨r, hr, rfl⟩)
  · rw [chOf_lr H.t]
    cases hl : (lrA ls).lookup p with
    | none => exact Nat.zero_le _
    | some v =>
      obtain ⟨r, hr, e⟩ := List.mem_map.mp (mem_of_look hl)
      have := (Prod.mk.inj e).2
      show v.length ≤ 1000
      rw [← this]; exact Nat.le_trans (lr_sz H.t r hr) (by omega)
theorem T3.all (H : T3 w h₁ X os dr dir g1 NL R ep n nms ls T) : HasAll (di (BB w h₁ X os dr) R (lrK ls) ep :: lrC ls) T := fun c hc => by
  rcases List.mem_cons.mp hc with rfl | hc
  · exact H.hd
  · obtain ⟨r, hr, rfl⟩ := List.mem_map.mp hc
    exact H.hl r hr
theorem turn_ (g : (BB w h₁ X os dr).Good) {Q : Flow → Shared → Prop} (Fi : Fit (BB w h₁ X os dr) A (d + 100) (u + 200)) (H : T3 w h₁ X os dr dir g1 NL R ep n nms ls T) (hG : AllFin G) (hs : ∀ m, src = some m → m ∈ nms)
    (h : Ok (BB w h₁ X os dr) G (fr (LE L) (("start", srcV src) :: varsL S g1.x NL R n lm dir) [] :: ct T_post #[] :: T) s)
    (k : ∀ G' s', AllFin G' → Ok (BB w h₁ X os dr) G' (fr (LE L) (varsL S g1.x NL R n lm dir) [] :: ct T_post #[] :: T) s' → Q .next s') : wpAny (BB w h₁ X os dr).M A (execs (forB (LB.getD 8 stPass)) (LE L)) Q E s := by
  have I := (D_law g).inEnv g L
  have n6 := H.n6
  have n0 := H.n0
  obtain ⟨rs1, m1, K1, W1, z1, ss1, hc1, hk1⟩ := H.walk g src none hs
  obtain ⟨rs2, m2, K2, W2, z2, _, _, _⟩ := H.walk g src (some lm) hs
  rw [H.lim hk1] at W1
  have W2 : Wo (chOf g1.rows) (some lm) (n - 1) (startsOf g1.nodes src) [] m2 rs2 := W2
  have RO := H.rows hc1
  have rest : ∀ {T' : List Chunk} (B : Addr) s1, T3 w h₁ X os dr dir g1 NL R ep n nms ls T' → Has T' (li B (intL (startsOf g1.nodes src))) → (∀ G' s', AllFin G' → Ok (BB w h₁ X os dr) G' (fr (LE L) (varsL S g1.x NL R n lm dir) [] :: ct T_post #[] :: T') s' → Q .next s') →
      Ok (BB w h₁ X os dr) G (fr (LE L) (("starts", .ref B) :: ("start", srcV src) :: varsL S g1.x NL R n lm dir) [] :: ct T_post #[] :: T') s1 → wpAny (BB w h₁ X os dr).M A (execs ((forB (LB.getD 8 stPass)).drop 1) (LE L)) Q E s1 := by
    intro T' B s1 H hB k h1
    show wpAny _ _ (execs (_ :: _) _) _ _ _
    refine x_cons (x_swap2 (G := G) (cv := []) I Fi.handled (by kernel_rfl) (by kernel_rfl) (sp_cons (x_callf [.ref R, .ref B, .int n 0] h1 I (D_law_whole g) (by kernel_rfl) fun us s2 hus h2 => ?_)))
    refine whole_ (k := n - 1) (d := d) (u := u) g RO hc1 (by rw [H.len]; omega) z1 ss1 W1 (Fi.mono (by omega) (by omega)) h2 H.all.there.there (.there _ (.there _ hB)) hus fun S1 v1 c1 s3 I1 h3 => ?_
    have h4 : Ok (BB w h₁ X os dr) G (fr (LE L) (("starts", .ref B) :: ("start", srcV src) :: varsL S g1.x NL R n lm dir) [] :: ct T_post #[] :: li S1 v1 :: (c1.reverse ++ T')) s3 := (h3.perm (List.Perm.cons _ (back2 _ _ _ _))).perm (by walk_at "perm")
    refine sp_cons (x_callf [.ref R, .ref B, .int lm 0] h4 I (D_law_whole g) (by kernel_rfl) fun us s5 hus h5 => ?_)
    refine whole_ (k := n - 1) (d := d) (u := u) g RO hc1 (by rw [H.len]; omega) z2 ss1 W2 (Fi.mono (by omega) (by omega)) h5 (H.all.right (l := c1.reverse)).there.there.there (.there _ (.there _ (.there _ (.app_right hB)))) hus fun S2 v2 c2 s6 I2 h6 => ?_
    have h7 : Ok (BB w h₁ X os dr) G (fr (LE L) (("starts", .ref B) :: ("start", srcV src) :: varsL S g1.x NL R n lm dir) [] :: ct T_post #[] :: li S2 v2 :: (c2.reverse ++ (li S1 v1 :: (c1.reverse ++ T')))) s6 := (h6.perm (List.Perm.cons _ (back2 _ _ _ _))).perm (by walk_at "perm")
    refine sp_nil ⟨_, _, .ref S1, .ref S2, rfl, h7, fun tp s8 h8 => ?_⟩
    obtain ⟨T2, hT2⟩ : ∃ T2, T2 = li S2 v2 :: (c2.reverse ++ (li S1 v1 :: (c1.reverse ++ T'))) := ⟨_, rfl⟩
    have h9 : Ok (BB w h₁ X os dr) G (fr (LE L) (("whole", .ref S1) :: ("short", .ref S2) :: ("start", srcV src) :: varsL S g1.x NL R n lm dir) [] :: ct T_post #[] :: T2) s8 := by rw [hT2]; exact h8.drop1.sub (by kernel_rfl)
    have H2 : T3 w h₁ X os dr dir g1 NL R ep n nms ls T2 := H.mono fun c hc => by rw [hT2]; exact .there _ (.app_right (.there _ (.app_right hc)))
    have hS1 : Has T2 (li S1 v1) := by rw [hT2]; exact .there _ (.app_right (.here _ _))
    have hS2 : Has T2 (li S2 v2) := by rw [hT2]; exact .here _ _
    have hC1 : HasAll c1 T2 := by rw [hT2]; exact fun c hc => .there _ (.app_right (.there _ (hasAll_rev c hc)))
    have hC2 : HasAll c2 T2 := by rw [hT2]; exact fun c hc => .there _ (hasAll_rev c hc)
    have back : ∀ {G'} {c : Chunk} s', Ok (BB w h₁ X os dr) G' (c :: ct T_post #[] :: T2) s' → Ok (BB w h₁ X os dr) G' (c :: ct T_post #[] :: T') s' := fun {G'} {c} s' h' => by
      rw [hT2] at h'
      have h'' : Ok (BB w h₁ X os dr) G' (ct T_post #[] :: ((c :: li S2 v2 :: c2.reverse) ++ ((li S1 v1 :: c1.reverse) ++ T'))) s' := h'.swap
      have e : (c :: li S2 v2 :: c2.reverse) ++ ((li S1 v1 :: c1.reverse) ++ T') = c :: ((li S2 v2 :: c2.reverse ++ (li S1 v1 :: c1.reverse)) ++ T') := by simp
      rw [e] at h''
      have h3 : Ok (BB w h₁ X os dr) G' (c :: ((ct T_post #[] :: (li S2 v2 :: c2.reverse ++ (li S1 v1 :: c1.reverse))) ++ T')) s' := h''.swap
      have h4 : Ok (BB w h₁ X os dr) G' (c :: ((li S2 v2 :: c2.reverse ++ (li S1 v1 :: c1.reverse)) ++ ct T_post #[] :: T')) s' := h3.perm (List.Perm.cons _ (back1 _ _ _).symm)
      exact Ok.cut _ h4
    clear hT2 h8 h7 h6 h5 h4 h3 h2
    show wpAny _ _ (execs (_ :: _) _) _ _ _
    refine x_cons (wpAny_mono (Q := fun f s2 => f = .next ∧ ∃ G', AllFin G' ∧ Ok (BB w h₁ X os dr) G' (fr (LE L) (("whole", .ref S1) :: ("short", .ref S2) :: ("start", srcV src) :: varsL S g1.x NL R n lm dir) [] :: ct T_post #[] :: T2) s2) ?_ (fun f s2 ⟨hf, G2, hG2, h2⟩ => ?_) fun _ _ e => e)
    · refine wpAny_If (PyProof.Rows.isTrue_or (wpAny_isTrue_Compare1 (x_lab (d := d) (u := u) g K1 h9 I (by kernel_rfl) binds2 (Fi.mono (by omega) (by omega)) hG (fun c hc => .there _ (H2.hg c hc)) fun S3 v3 c3 G3 s10 I3 hG3 h10 => x_ref S1 h10 I (by kernel_rfl) fun s11 h11 => ?_) rfl))
      refine c_ne_rows h11 (.there _ (.here _ _)) (.there _ (.there _ (.app_right (.there _ hS1)))) I3 I1 (fun c hc => .there _ (.there _ (hasAll_rev c hc))) (fun c hc => .there _ (.there _ (.app_right (.there _ (hC1 c hc))))) (Fit.in1 (Fi.mono (d' := 0) (u' := 0 + 1) (by omega) (by omega))).line (wpAny_truthy_bool ?_)
      have h12 : Ok (BB w h₁ X os dr) G3 (fr (LE L) (("whole", .ref S1) :: ("short", .ref S2) :: ("start", srcV src) :: varsL S g1.x NL R n lm dir) [] :: ct T_post #[] :: T2) s11 := Ok.cut (li S3 v3 :: c3.reverse) h11
      refine PyProof.Rows.isTrue_or (wpAny_isTrue_Compare1 (x_lab (d := d) (u := u) g K2 h12 I (by kernel_rfl) binds3 (Fi.mono (by omega) (by omega)) hG3 (fun c hc => .there _ (H2.hg c hc)) fun S4 v4 c4 G4 s13 I4 hG4 h13 => x_ref S2 h13 I (by kernel_rfl) fun s14 h14 => ?_) rfl)
      refine c_ne_rows h14 (.there _ (.here _ _)) (.there _ (.there _ (.app_right (.there _ hS2)))) I4 I2 (fun c hc => .there _ (.there _ (hasAll_rev c hc))) (fun c hc => .there _ (.there _ (.app_right (.there _ (hC2 c hc))))) (Fit.in1 (Fi.mono (d' := 0) (u' := 0 + 1) (by omega) (by omega))).line (wpAny_truthy_bool ?_)
      exact PyProof.Rows.isTrue_or_nil (x_nil ⟨rfl, G4, hG4, Ok.cut (li S4 v4 :: c4.reverse) h14⟩)
    subst hf
    show wpAny _ _ (execs (_ :: _) _) _ _ _
    refine x_cons (wpAny_mono (Q := fun f s2 => f = .next ∧ ∃ G', AllFin G' ∧ Ok (BB w h₁ X os dr) G' (fr (LE L) (("whole", .ref S1) :: ("short", .ref S2) :: ("start", srcV src) :: varsL S g1.x NL R n lm dir) [] :: ct T_post #[] :: T2) s2) ?_ (fun f s3 ⟨hf, G3, hG3, h3⟩ => ?_) fun _ _ e => e)
    · refine wpAny_If (PyProof.Rows.isTrue_or (wpAny_isTrue_Compare1 (x_post (d := d) (u := u) g K1 h2 I (by kernel_rfl) bindp2 (Fi.mono (by omega) (by omega)) hG2 H2.hg fun S3 G3 s10 hG3 h10 => x_callf [.ref S1] h10 I (D_law_done g) (by kernel_rfl) fun us s11 hus h11 => ?_) rfl))
      obtain ⟨v, rfl, e1⟩ := args1 hus
      rw [untok_ref e1]
      refine done_ (d := d) (u := u) g (Fi.mono (by omega) (by omega)) h11 (.there _ (.there _ (.there _ hS1))) I1 (fun c hc => .there _ (.there _ (.there _ (hC1 c hc)))) z1 fun D3 s12 h12 => ?_
      refine c_ne_ints (xs := revs rs1) (ys := revs rs1) h12 (by walk_at "has") (by walk_at "has") Fi.line (wpAny_truthy_bool ?_)
      rw [beq_self_eq_true]
      have h13 : Ok (BB w h₁ X os dr) G3 (fr (LE L) (("whole", .ref S1) :: ("short", .ref S2) :: ("start", srcV src) :: varsL S g1.x NL R n lm dir) [] :: ct T_post #[] :: T2) s12 :=
        (h12.perm (cs' := fr (LE L) (("whole", .ref S1) :: ("short", .ref S2) :: ("start", srcV src) :: varsL S g1.x NL R n lm dir) [] :: li D3 (intL (revs rs1)) :: li S3 (intL (revs rs1)) :: ct T_post #[] :: T2) (by walk_at "perm")).drop1.drop1
      refine PyProof.Rows.isTrue_or (wpAny_isTrue_Compare1 (x_post (d := d) (u := u) g K2 h13 I (by kernel_rfl) bindp3 (Fi.mono (by omega) (by omega)) hG3 H2.hg fun S4 G4 s14 hG4 h14 => x_callf [.ref S2] h14 I (D_law_done g) (by kernel_rfl) fun us s15 hus h15 => ?_) rfl)
      obtain ⟨v, rfl, e1⟩ := args1 hus
      rw [untok_ref e1]
      refine done_ (d := d) (u := u) g (Fi.mono (by omega) (by omega)) h15 (.there _ (.there _ (.there _ hS2))) I2 (fun c hc => .there _ (.there _ (.there _ (hC2 c hc)))) z2 fun D4 s16 h16 => ?_
      refine c_ne_ints (xs := revs rs2) (ys := revs rs2) h16 (by walk_at "has") (by walk_at "has") Fi.line (wpAny_truthy_bool ?_)
      rw [beq_self_eq_true]
      refine PyProof.Rows.isTrue_or_nil (x_nil ⟨rfl, G4, hG4, ?_⟩)
      exact (h16.perm (cs' := fr (LE L) (("whole", .ref S1) :: ("short", .ref S2) :: ("start", srcV src) :: varsL S g1.x NL R n lm dir) [] :: li D4 (intL (revs rs2)) :: li S4 (intL (revs rs2)) :: ct T_post #[] :: T2) (by walk_at "perm")).drop1.drop1
    subst hf
    exact x_nil (k G3 s3 hG3 ((back s3 h3).sub (by kernel_rfl)))
  show wpAny _ _ (execs (_ :: _) _) _ _ _
  refine x_cons (x_asg (PyProof.Rows.IfExp_ (isTrue_of (c := src.isNone) h I (by cases src <;> kernel_rfl) rfl fun s1 h1 => ?_)))
  cases src with
  | none =>
    refine x_ref NL h1 I (by kernel_rfl) fun s2 h2 => st_local (p := .ref NL) h2 I rfl (by kernel_rfl) fun s3 h3 => ?_
    refine rest NL s3 H (by show Has T (li NL (intL (g1.nodes.map (·.1)))); rw [hk1]; exact H.hn) k (h3.sub (by kernel_rfl))
  | some m =>
    refine x_listP [.int m 0] h1 I (by kernel_rfl) fun B s2 h2 => st_local (p := .ref B) h2 I rfl (by kernel_rfl) fun s3 h3 => ?_
    refine rest (T' := li B (intL [m]) :: T) B s3 (H.push _) (.here _ _) (fun G' s' hG' h' => k G' s' hG' (h'.perm (cs' := fr (LE L) (varsL S g1.x NL R n lm dir) [] :: li B (intL [m]) :: ct T_post #[] :: T) (by walk_at "perm")).drop1) ((h3.sub (vars' := ("starts", .ref B) :: ("start", srcV (some m)) :: varsL S g1.x NL R n lm dir) (by kernel_rfl)).perm ?_)
    exact List.Perm.cons _ (List.Perm.swap _ _ _)
end
end Mine
namespace Mine
local macro_rules | `(tactic| walk_at "foc") => `(tactic| first | with_reducible exact Foc.here _ _ | (apply Foc.there; walk_at "foc"))
local macro_rules | `(tactic| walk_at "has") => `(tactic| first | with_reducible exact Has.here _ _ | assumption | (refine Has.there _ ?_; walk_at "has"))
local macro_rules | `(tactic| walk_at "rep") => `(tactic| first | with_reducible exact Rep.here _ _ _ | assumption | (apply Rep.there; walk_at "rep"))
local macro_rules | `(tactic| walk_at "perm") => `(tactic| first | with_reducible exact List.Perm.refl _ | (refine perm_step (by walk_at "foc") ?_; walk_at "perm"))
section
variable {w : World} {h₁ : Heap} {X : List Addr} {os : OsState} {dr : Drawn} {G : Array GenState} {cs cs' F T : List Chunk} {s : Shared} {A : Around} {E : Value → Shared → Prop} {d u : Nat} {g1 : GS} {dir : Bool} {L S NL R : Addr} {n ep : Nat} {lm : Int} {nms : List Int} {ls : List LRow}
theorem law_d (g : (BB w h₁ X os dr).Good) {Q : Flow → Shared → Prop} (Fi : Fit (BB w h₁ X os dr) A (d + 100) (u + 200)) (H : T3 w h₁ X os dr dir g1 NL R ep n nms ls T) (hG : AllFin G) (hz : (0 : Int) ∈ nms)
    (h : Ok (BB w h₁ X os dr) G (fr (LE L) (varsL S g1.x NL R n lm dir) [] :: ct T_post #[] :: T) s)
    (k : ∀ G' s', AllFin G' → Ok (BB w h₁ X os dr) G' (fr (LE L) (varsL S g1.x NL R n lm dir) [] :: ct T_post #[] :: T) s' → wpAny (BB w h₁ X os dr).M A (execs (LB.drop 9) (LE L)) Q E s') : wpAny (BB w h₁ X os dr).M A (execs (LB.drop 8) (LE L)) Q E s := by
  have I := (D_law g).inEnv g L
  obtain ⟨a, ha, hat⟩ : ∃ a, a ∈ nms ∧ (intL nms)[(0 : Int).toNat]? = some (.int a 0) := by
    cases nms with
    | nil => cases hz
    | cons a r => exact ⟨a, List.mem_cons_self, rfl⟩
  show wpAny _ _ (execs (_ :: _) _) _ _ _
  refine x_cons (wpAny_For (x_tuple (G := G) (sp_cons (x_int 0 h I (by kernel_rfl) fun t1 s1 h1 => sp_cons (x_item NL 0 (.int a 0) h1 I (by kernel_rfl) (.there _ (.there _ H.hn)) (by decide) (by decide) hat fun v2 s2 hv2 h2 => sp_cons (x_ev .none h2 I (by kernel_rfl) fun v3 s3 hv3 h3 => sp_nil ?_))))))
  refine ⟨_, [some 0, some a, none].map srcV, by rw [List.map_cons, List.map_cons, List.map_cons, hv2, hv3]; rfl, (by show 3 ≤ 1000; decide), h3, fun t s4 h4 => ?_⟩
  refine t_iter h4 (.here _ _) fun it s5 h5 => ?_
  refine for_go (vs := [some 0, some a, none].map srcV) (fun vs s => ∃ (srcs : List (Option Int)) (G' : Array GenState), vs = srcs.map srcV ∧ (∀ q ∈ srcs, ∀ m, q = some m → m ∈ nms) ∧ AllFin G' ∧ Ok (BB w h₁ X os dr) G' (fr (LE L) (varsL S g1.x NL R n lm dir) [] :: ct T_post #[] :: tit it t ([some 0, some a, none].map srcV) vs :: tu t ([some 0, some a, none].map srcV) :: T) s) ?_ ?_ ⟨[some 0, some a, none], G, rfl, ?_, hG, h5.perm (by walk_at "perm")⟩
  · intro v vs s6 ⟨srcs, G', hvs, hm, hG', h6⟩
    cases srcs with
    | nil => cases hvs
    | cons src srcs =>
      obtain ⟨rfl, rfl⟩ := List.cons.inj hvs
      refine (tit_iter t it ([some 0, some a, none].map srcV)).next h6 (by walk_at "rep") (by walk_at "has") fun u' s7 hu h7 => ⟨u', rfl, ?_⟩
      refine wpAny_assign_Name (st_local (p := srcV src) h7 I hu (by kernel_rfl) fun s8 h8 => ?_)
      have H2 := (H.push (tu t ([some 0, some a, none].map srcV))).push (tit it t ([some 0, some a, none].map srcV) (srcs.map srcV))
      refine turn_ (d := d) (u := u) g Fi H2 hG' (hm src List.mem_cons_self) h8 fun G2 s9 hG2 h9 => ?_
      exact ⟨srcs, G2, rfl, fun q hq => hm q (List.mem_cons_of_mem _ hq), hG2, h9⟩
  · intro s6 ⟨srcs, G', hvs, hm, hG', h6⟩
    cases srcs with
    | cons q srcs => cases hvs
    | nil =>
      refine (tit_iter t it ([some 0, some a, none].map srcV)).done Fi.handled h6 (by walk_at "foc") (by walk_at "has") fun s7 h7 => ⟨rfl, x_nil ?_⟩
      exact k G' s7 hG' (h7.perm (cs' := tu t ([some 0, some a, none].map srcV) :: fr (LE L) (varsL S g1.x NL R n lm dir) [] :: ct T_post #[] :: T) (by walk_at "perm")).drop
  · intro q hq m e
    subst e
    rcases List.mem_cons.mp hq with e | hq
    · cases e; exact hz
    · rcases List.mem_cons.mp hq with e | hq
      · cases e; exact ha
      · cases List.mem_singleton.mp hq
end
end Mine
namespace Mine
local macro_rules | `(tactic| walk_at "foc") => `(tactic| first | with_reducible exact Foc.here _ _ | (apply Foc.there; walk_at "foc"))
local macro_rules | `(tactic| walk_at "has") => `(tactic| first | with_reducible exact Has.here _ _ | assumption | (refine Has.there _ ?_; walk_at "has"))
local macro_rules | `(tactic| walk_at "rep") => `(tactic| first | with_reducible exact Rep.here _ _ _ | assumption | (apply Rep.there; walk_at "rep"))
local macro_rules | `(tactic| walk_at "perm") => `(tactic| first | with_reducible exact List.Perm.refl _ | (refine perm_step (by walk_at "foc") ?_; walk_at "perm"))
def exP (cls T c2 : Value) (o : Obj) : Prop := o.cls = cls ∧ ∃ vs, o.data = .fields vs ∧ 6 ≤ vs.size ∧ vs[1]? = some T ∧ vs[2]? = some c2
def xo (e : Addr) (cls T c2 : Value) : Chunk := pt e (exP cls T c2)
def tbP (fl : Value) (o : Obj) : Prop := ∃ ts, o.data = .fields ts ∧ ts[3]? = some fl
def tbc (T : Addr) (fl : Value) : Chunk := pt T (tbP fl)
def FrOk (cs : List Chunk) (l : List Env) : Prop := ∀ env ∈ l, env.scope.kind ≠ .module ∧ ∃ L vars, env.frame = some L ∧ (L, nsP vars) ∈ cs.flatten
theorem key_uniq {l : List Pt} (nd : (l.map (·.1)).Nodup) {x y : Pt} (hx : x ∈ l) (hy : y ∈ l) (e : x.1 = y.1) : x = y := by
  induction l with
  | nil => cases hx
  | cons z l ih =>
    rw [List.map_cons, List.nodup_cons] at nd
    rcases List.mem_cons.mp hx with rfl | hx' <;> rcases List.mem_cons.mp hy with rfl | hy'
    · rfl
    · exact absurd (e ▸ List.mem_map_of_mem (f := (·.1)) hy') nd.1
    · exact absurd (show y.1 ∈ l.map (·.1) by rw [← e]; exact List.mem_map_of_mem (f := (·.1)) hx') nd.1
    · exact ih nd.2 hx' hy'
section
variable {b : Base} {G : Array GenState} {cs cs' : List Chunk} {s : Shared} {A : Around} {E : Value → Shared → Prop} {M : Model} {env : Env} {outer l : List Env} {L e T : Addr} {cls c2 Tv fl : Value}
theorem FrOk.mono (h : FrOk cs l) (hm : ∀ p ∈ cs.flatten, p ∈ cs'.flatten) : FrOk cs' l := fun env he => by
  obtain ⟨h1, L, vars, h2, h3⟩ := h env he
  exact ⟨h1, L, vars, h2, hm _ h3⟩
theorem FrOk.there {c : Chunk} (h : FrOk cs l) : FrOk (c :: cs) l := h.mono fun p hp => by simp only [List.flatten_cons, List.mem_append]; exact .inr hp
theorem FrOk.nil : FrOk cs [] := fun env he => by cases he
theorem FrOk.cons (h : FrOk cs l) (hk : env.scope.kind ≠ .module) {vars : List (Str × Value)} (hf : env.frame = some L) (hm : (L, nsP vars) ∈ cs.flatten) : FrOk cs (env :: l) := fun e he => by
  rcases List.mem_cons.mp he with rfl | he
  · exact ⟨hk, L, vars, hf, hm⟩
  · exact h e he
theorem fr_mem {vars : List (Str × Value)} {cv : Cv} (h : Has cs (fr env vars cv)) : (env.locals, nsP vars) ∈ cs.flatten := h.mem (by unfold fr; exact List.mem_cons_self)
theorem Ok.slots {S : List Addr} {h' : Heap} (h : Ok b G cs s) (hs : Heap.SlotsOnly S s.heap h') (hS : ∀ L ∈ S, ∃ vars, (L, nsP vars) ∈ cs.flatten) : Ok b G cs { s with heap := h' } := by
  refine ⟨⟨fun x o hx ho => ?_, h.st.off, h.st.nodup, fun x hx => ?_⟩, h.gens, h.os, h.drawn⟩
  · by_cases hm : x ∈ S
    · obtain ⟨vars, hv⟩ := hS x hm
      rcases h.st.off _ hv with q | q
      · exact absurd q hx
      · rw [q] at ho; cases ho
    · exact (hs.2.1 x hm).trans (h.st.old x o hx ho)
  · obtain ⟨o, ho, hq⟩ := h.st.at_ x hx
    by_cases hm : x.1 ∈ S
    · obtain ⟨vars, hv⟩ := hS _ hm
      have e : x = (x.1, nsP vars) := key_uniq h.st.nodup hx hv rfl
      have e2 : x.2 = nsP vars := congrArg Prod.snd e
      obtain ⟨sl, hsl⟩ := hs.2.2 _ _ ho
      rw [e2] at hq ⊢
      obtain ⟨es, ep, hd, r⟩ := hq
      exact ⟨_, hsl, es, ep, hd, r⟩
    · exact ⟨o, (hs.2.1 _ hm).trans ho, hq⟩
theorem fun_of (h : Ok b G cs s) {base : Heap} (hb : ∀ a, base.get? a = none) : ∀ {l : List Env}, FrOk cs l → s.heap.FunFrames base l
  | [], _ => trivial
  | env :: l, hF => by
    obtain ⟨h1, L, vars, h2, h3⟩ := hF env List.mem_cons_self
    obtain ⟨o, ho, es, ep, hd, _⟩ := h.st.at_ _ h3
    exact ⟨h1, ⟨L, o, h2, hb L, ho, fun vs q => by rw [hd] at q; cases q⟩, fun_of h hb fun e he => hF e (List.mem_cons_of_mem _ he)⟩
theorem frameOf_ {Q : Value → Shared → Prop} (h : Ok b G cs s) (hfr : A.frames = some (env :: outer)) (hF : FrOk cs (env :: outer)) (hf : env.frame = some L) (k : ∀ s', Ok b G cs s' → Q (.ref L) s') : wpAny M A (frameOf env) Q E s := by
  refine wpAny_frameOf_fun (base := ({} : Heap)) hfr (fun_of h (fun a => Heap.get?_none_of_le (Nat.zero_le _)) hF) hf fun h' hs => k _ (h.slots hs fun L hL => ?_)
  obtain ⟨env', he, hf'⟩ := List.mem_filterMap.mp hL
  obtain ⟨_, L', vars, h2, h3⟩ := hF env' he
  rw [hf'] at h2
  cases h2
  exact ⟨vars, h3⟩
theorem entry_ {Q : Unit → Shared → Prop} {head : Value} {hadNext : Bool} (h : Ok b G (xo e cls Tv c2 :: cs) s) (hfr : A.frames = some (env :: outer)) (hF : FrOk cs (env :: outer)) (hf : env.frame = some L)
    (k : ∀ T s', Ok b G (tbc T (rawInt L) :: xo e cls (.ref T) c2 :: cs) s' → Q () s') :
    wpAny M A (do let a ← frameOf env; let pl ← entryPlaceOf L hadNext; let b ← EntryCells.newEntry head a .none (rawInt L) .none pl; setField (.ref e) 1 b) Q E s := by
  refine wpAny_bind (frameOf_ h hfr hF.there hf fun s1 h1 => ?_)
  refine wpAny_bind (wpAny_entryPlaceOf fun pl hpl => ?_)
  unfold EntryCells.newEntry newFields
  refine wpAny_bind (wpAny_newObj_type ?_ (hpl.sizeOk5 _ _ _ _ _))
  have h2 : Ok b G (tbc s1.heap.objs.size (rawInt L) :: xo e cls Tv c2 :: cs) _ := h1.alloc (φ := tbP (rawInt L)) (o := { cls := .type "traceback", dict := none, data := .fields ([head, .ref L, .none, rawInt L, .none] ++ (if pl.isEmpty then List.replicate 6 Value.none else pl)).toArray }) (t := s1.toks) rfl
    ⟨_, rfl, by first | (simp; done) | (rcases hpl with rfl | ⟨_, _, _, _, _, _, _, rfl⟩ <;> simp)⟩
  obtain ⟨oe, he, hc, vs, hd, hz, h1', h2'⟩ := h2.has (.there _ (.here _ _))
  refine wpAny_setField he hd (Nat.lt_of_lt_of_le (by decide) hz) (k s1.heap.objs.size _ ?_)
  refine (h2.swap.set (t := s1.toks) (Heap.SameBut.update ..) ⟨_, Heap.get?_update_self _ he (Obj.isFreed_of_fields (Obj.data_mapFields hd _)), ?_⟩).swap
  refine ⟨(Obj.cls_mapFields _ _).trans hc, _, Obj.data_mapFields hd _, ?_, ?_, ?_⟩
  · rw [Array.size_setIfInBounds]; exact hz
  · rw [Array.getElem?_setIfInBounds_self_of_lt (Nat.lt_of_lt_of_le (by decide) hz)]
  · rw [Array.getElem?_setIfInBounds_ne (by decide)]; exact h2'
theorem note_first {Q : Unit → Shared → Prop} (h : Ok b G (xo e cls .none c2 :: cs) s) (hfr : A.frames = some (env :: outer)) (hF : FrOk cs (env :: outer)) (hf : env.frame = some L)
    (k : ∀ T s', Ok b G (tbc T (rawInt L) :: xo e cls (.ref T) c2 :: cs) s' → Q () s') : wpAny M A (noteFrame (.ref e) env) Q E s := by
  obtain ⟨oe, he, hc, vs, hd, hz, h1', h2'⟩ := h.has (.here _ _)
  unfold noteFrame
  simp only [hf]
  refine wpAny_bind (wpAny_field he hd h1' ?_)
  rw [if_neg (by decide)]
  exact entry_ h hfr hF hf k
theorem note_next {Q : Unit → Shared → Prop} (h : Ok b G (tbc T fl :: xo e cls (.ref T) c2 :: cs) s) (hne : fl ≠ rawInt L) (hfr : A.frames = some (env :: outer)) (hF : FrOk cs (env :: outer)) (hf : env.frame = some L)
    (k : ∀ T s', Ok b G (tbc T (rawInt L) :: xo e cls (.ref T) c2 :: cs) s' → Q () s') : wpAny M A (noteFrame (.ref e) env) Q E s := by
  obtain ⟨oe, he, hc, vs, hd, hz, h1', h2'⟩ := h.has (.there _ (.here _ _))
  obtain ⟨oT, hT, ts, hdT, h3⟩ := h.has (.here _ _)
  unfold noteFrame
  simp only [hf]
  refine wpAny_bind (wpAny_field he hd h1' ?_)
  rw [if_pos (show (Value.ref T != Value.none) = true from by simp)]
  refine wpAny_bind (wpAny_field hT hdT h3 ?_)
  rw [if_neg (show ¬ ((fl == rawInt L) = true) from by simpa using hne)]
  refine wpAny_bind (wpAny_setField hT hdT (Array.getElem?_eq_some_iff.mp h3).1 ?_)
  have h1 : Ok b G (pt T (fun _ => True) :: xo e cls (.ref T) c2 :: cs) _ := h.set (ψ := fun _ => True) (h' := s.heap.update T (Obj.mapFields (·.setIfInBounds 3 Value.none))) (t := s.toks) (Heap.SameBut.update ..) ⟨_, Heap.get?_update_self _ hT (Obj.isFreed_of_fields (Obj.data_mapFields hdT _)), trivial⟩
  exact entry_ h1.drop hfr hF hf k
theorem note_again {Q : Unit → Shared → Prop} (h : Ok b G (tbc T (rawInt L) :: xo e cls (.ref T) c2 :: cs) s) (hf : env.frame = some L) (k : Q () s) : wpAny M A (noteFrame (.ref e) env) Q E s := by
  obtain ⟨oe, he, hc, vs, hd, hz, h1', h2'⟩ := h.has (.there _ (.here _ _))
  obtain ⟨oT, hT, ts, hdT, h3⟩ := h.has (.here _ _)
  unfold noteFrame
  simp only [hf]
  refine wpAny_bind (wpAny_field he hd h1' ?_)
  rw [if_pos (show (Value.ref T != Value.none) = true from by simp)]
  refine wpAny_bind (wpAny_field hT hdT h3 ?_)
  rw [if_pos (show (rawInt L == rawInt L) = true from by simp)]
  exact wpAny_pure k
theorem flight_ {Q : Unit → Shared → Prop} (fo : Option Addr) (h : Ok b G (tbc T fl :: xo e cls (.ref T) c2 :: cs) s) (k : ∀ s', Ok b G (tbc T (fo.elim .none fun f => rawInt f) :: xo e cls (.ref T) c2 :: cs) s' → Q () s') : wpAny M A (setFlight (.ref e) fo) Q E s := by
  obtain ⟨oe, he, hc, vs, hd, hz, h1', h2'⟩ := h.has (.there _ (.here _ _))
  obtain ⟨oT, hT, ts, hdT, h3⟩ := h.has (.here _ _)
  have h3z := (Array.getElem?_eq_some_iff.mp h3).1
  unfold setFlight
  refine wpAny_bind (wpAny_field he hd h1' ?_)
  rw [if_pos (show (Value.ref T != Value.none) = true from by simp)]
  refine wpAny_setField hT hdT h3z (k _ ?_)
  exact h.set (t := s.toks) (Heap.SameBut.update ..) ⟨_, Heap.get?_update_self _ hT (Obj.isFreed_of_fields (Obj.data_mapFields hdT _)), _, Obj.data_mapFields hdT _, Array.getElem?_setIfInBounds_self_of_lt h3z⟩
theorem flight0 {Q : Unit → Shared → Prop} (h : Ok b G (tbc T fl :: xo e cls (.ref T) c2 :: cs) s) (k : ∀ s', Ok b G (tbc T .none :: xo e cls (.ref T) c2 :: cs) s' → Q () s') : wpAny M A (setFlight (.ref e) none) Q E s := flight_ none h k
theorem flight1 {Q : Unit → Shared → Prop} (h : Ok b G (tbc T fl :: xo e cls (.ref T) c2 :: cs) s) (k : ∀ s', Ok b G (tbc T (rawInt L) :: xo e cls (.ref T) c2 :: cs) s' → Q () s') : wpAny M A (setFlight (.ref e) (some L)) Q E s := flight_ (some L) h k
theorem flight_no {Q : Unit → Shared → Prop} (fo : Option Addr) (h : Ok b G (xo e cls .none c2 :: cs) s) (k : Q () s) : wpAny M A (setFlight (.ref e) fo) Q E s := by
  obtain ⟨oe, he, hc, vs, hd, hz, h1', h2'⟩ := h.has (.here _ _)
  unfold setFlight
  refine wpAny_bind (wpAny_field he hd h1' ?_)
  rw [if_neg (by decide)]
  exact wpAny_pure k
theorem back_ {what : String} {Q : Unit → Shared → Prop} (h : Ok b G (tbc T fl :: xo e cls (.ref T) c2 :: cs) s) (hf : env.frame = some L) (k : ∀ s', Ok b G (tbc T (rawInt L) :: xo e cls (.ref T) c2 :: cs) s' → Q () s') :
    wpAny M A (do
      if (← field (.ref e) 1) == .none then unsupported what
      setFlight (.ref e) env.frame) Q E s := by
  obtain ⟨oe, he, hc, vs, hd, hz, h1', h2'⟩ := h.has (.there _ (.here _ _))
  refine wpAny_bind (wpAny_field he hd h1' ?_)
  rw [if_neg (show ¬ ((Value.ref T == Value.none) = true) from by simp)]
  rw [hf]
  first
    | exact wpAny_bind (wpAny_pure (flight_ (some L) h k))
    | exact flight_ (some L) h k
theorem leave_again {Q : Unit → Shared → Prop} (h : Ok b G (tbc T (rawInt L) :: xo e cls (.ref T) c2 :: cs) s) (hf : env.frame = some L) (k : ∀ s', Ok b G (tbc T .none :: xo e cls (.ref T) c2 :: cs) s' → Q () s') : wpAny M A (leaving env (.ref e)) Q E s := by
  unfold leaving
  exact wpAny_bind (note_again h hf (flight_ none h k))
end
end Mine
namespace Mine
local macro_rules | `(tactic| walk_at "foc") => `(tactic| first | with_reducible exact Foc.here _ _ | (apply Foc.there; walk_at "foc"))
local macro_rules | `(tactic| walk_at "has") => `(tactic| first | with_reducible exact Has.here _ _ | assumption | (refine Has.there _ ?_; walk_at "has"))
local macro_rules | `(tactic| walk_at "rep") => `(tactic| first | with_reducible exact Rep.here _ _ _ | assumption | (apply Rep.there; walk_at "rep"))
local macro_rules | `(tactic| walk_at "perm") => `(tactic| first | with_reducible exact List.Perm.refl _ | (refine perm_step (by walk_at "foc") ?_; walk_at "perm"))
section
variable {b : Base} {G : Array GenState} {cs cs' : List Chunk} {s : Shared} {A : Around} {E : Value → Shared → Prop} {env : Env} {e k d : Addr} {cls c2 Tv : Value} {φ : Obj → Prop}
theorem Ok.enter0 {h' : Heap} {t : Nat} {a : Addr} (h : Ok b G cs s) (hk : ∀ x o, s.heap.get? x = some o → h'.get? x = some o) (hn : s.heap.get? a = none) (hq : ∃ o, h'.get? a = some o ∧ φ o) : Ok b G (pt a φ :: cs) { s with heap := h', toks := t } := by
  have e : (pt a φ :: cs).flatten = (a, φ) :: cs.flatten := by simp [pt]
  refine ⟨⟨fun x o hx ho => hk _ _ (h.st.old x o hx ho), fun p hp => ?_, ?_, fun p hp => ?_⟩, h.gens, h.os, h.drawn⟩
  · rw [e] at hp
    rcases List.mem_cons.mp hp with rfl | hp
    · by_cases ha : a ∈ b.X
      · exact .inl ha
      · right
        show b.h.get? a = none
        cases q : b.h.get? a with
        | none => rfl
        | some o => have := h.st.old a o ha q; rw [hn] at this; cases this
    · exact h.st.off p hp
  · rw [e, List.map_cons, List.nodup_cons]
    refine ⟨fun hm => ?_, h.st.nodup⟩
    obtain ⟨p, hp, ep⟩ := List.mem_map.mp hm
    obtain ⟨o, ho, -⟩ := h.st.at_ p hp
    have ep : p.1 = a := ep
    rw [ep, hn] at ho; cases ho
  · rw [e] at hp
    rcases List.mem_cons.mp hp with rfl | hp
    · exact hq
    · obtain ⟨o, ho, q⟩ := h.st.at_ p hp
      exact ⟨o, hk _ _ ho, q⟩
theorem d_missing {ks : List (Int × Addr)} {ep : Nat} {i : Int} {t : Tok} {value slice : PySem.Expr} {Q : Value → Shared → Prop} (h : Ok b G cs s) (g : b.Good) (f : Has cs (di b d ks ep)) (hk : ks.lookup i = none) (hn : A.handled = none)
    (q : ∀ e s', Ok b G (xo e (.type "KeyError") .none .none :: cs) s' → E (.ref e) s')
    (hs : subscripted slice false (.ref d) (.int i t) = operate [.ref d, .int i t] (getItem (.ref d) (.int i t)) := by with_unfolding_all rfl) : wpAny b.M A (subscriptTail value slice (.ref d) (.int i t)) Q E s := by
  refine tail_any (T := "dict") (h.dictAt f).dictOf.typeIs slot_dict_getitem.lookup (wpAny_getItem_missing_of (knd := intKind b.prog b.w) (intKind_is _ _ _ _) (h.dictLow g f) hn (h.dictAt f).dictOf.mapOf (by rw [kv_at, hk]; rfl) fun h' e x => ?_) hs
  obtain ⟨ob, t0, h1, h2, h3⟩ := x.there
  exact q e _ (h.enter0 (t := s.toks + 1) x.keeps x.new ⟨ob, h1, h2, _, h3, by simp, rfl, rfl⟩)
theorem unchain_none {prog : Program} {w : World} {Q : Value → Shared → Prop} {o : Obj} {vs : Array Value} (h1 : s.heap.get? k = some o) (h2 : o.data = .fields vs) (h3 : vs[2]? = some .none) (q : Q .none s) : wpAny (model prog w) A (runValue (.builtin "proto.unchain" ⟨[.ref e, .ref k, .ref k, .bool false], []⟩)) Q E s := by
  refine wpAny_runValue (codeAny_builtin entry_unchain ?_)
  rw [Around.under_plainId plain_unchain _]
  show wpAny _ _ (field (.ref k) 2 >>= _) _ _ s
  refine wpAny_bind (wpAny_field h1 h2 h3 ?_)
  have q4 : (Value.none == Value.none) = true := rfl
  simp only [q4, if_true]
  exact wpAny_pure q
end
theorem obj_C : ∀ P, (KF P).lookup 218 = some (ob210 P) := by intro P; kernel_rfl
theorem ns_is {K : Frag} {h : Heap} {a : Addr} {o : Obj} (X : K.In h) (e : K.lookup a = some o) (hd : ∃ ep, o.data = .dict (match o.data with | .dict es _ => es | _ => #[]) ep) (hk : (match o.data with | .dict es _ => es | _ => #[]).all (fun e => match e.key with | .str _ _ => true | _ => false) = true) :
    h.Ns a (nsFind (match o.data with | .dict es _ => es | _ => #[])) := by
  obtain ⟨ep, hd⟩ := hd
  refine ⟨o, _, ep, X _ _ e, hd, fun x hx => ?_, fun _ => rfl⟩
  have := Array.all_eq_true_iff_forall_mem.mp hk x hx
  cases hq : x.key with
  | str n t => exact ⟨n, t, rfl⟩
  | _ => rw [hq] at this; cases this
section
variable {w : World} {h₁ : Heap} {X : List Addr} {os : OsState} {dr : Drawn} {G : Array GenState} {cs : List Chunk} {s : Shared} {A : Around} {E : Value → Shared → Prop} {env : Env} {e k : Addr} {c2 Tv : Value} {vars : List (Str × Value)} {cv : Cv}
abbrev tlE : List Value := [.ref 205, .type "Exception", .type "BaseException", .type "object"]
abbrev bmE : List Value := [.type "Exception", .type "BaseException", .type "object"]
theorem own_obj (h : Ok (BB w h₁ X os dr) G cs s) (g : (BB w h₁ X os dr).Good) : ∃ nm q N bs hdct sn sub ab col dd k0 k1 k2 k3 k5 mN, s.heap.get? 218 = some (excClassObj nm q 218 N bs tlE hdct sn sub ab col dd k0 k1 k2 k3 k5 "Exception.__new__") ∧ s.heap.Ns N mN ∧ mN "__init__" = none ∧ OwnTail s.heap bmE tlE := by
  have X := h.kin g
  have e1 : s.heap.get? 218 = some (ob210 w.params) := X _ _ (by kernel_rfl)
  have e2 : s.heap.get? 205 = some (ob197 w.params) := X _ _ (by kernel_rfl)
  have n1 := ns_is (a := 217) (o := ob209 w.params) X (by kernel_rfl) ⟨_, rfl⟩ (by kernel_rfl)
  have n2 := ns_is (a := 204) (o := ob196 w.params) X (by kernel_rfl) ⟨_, rfl⟩ (by kernel_rfl)
  refine ⟨_, _, 217, _, _, _, _, _, _, _, _, _, _, _, _, _, e1, n1, by kernel_rfl, ?_⟩
  exact .own (A := 205) e2 n2 (by kernel_rfl) .base
theorem exc_own {msg : String} {Q : Value → Shared → Prop} (h : Ok (BB w h₁ X os dr) G (xo e (.ref 218) Tv c2 :: cs) s) (g : (BB w h₁ X os dr).Good) (k : Q (.ref e) s) : wpAny (BB w h₁ X os dr).M A (excFromValue (.ref e) msg) Q E s := by
  obtain ⟨nm, q, N, bs, hdct, sn, sub, ab, col, dd, k0, k1, k2, k3, k5, mN, hC, -⟩ := own_obj h g
  obtain ⟨oe, he, hc, vs, hd, -⟩ := h.has (.here _ _)
  obtain ⟨hp, gg, d, tk, oo⟩ := s
  have hcB : (Value.ref 218 :: tlE).contains (.type "BaseException") = true := by decide
  have hcT : (Value.ref 218 :: tlE).contains (.type "type") = false := by decide
  unfold excFromValue isExcClass
  repeat (first | (with_reducible refine wpAny_loadPart_at he ?_; first | rw [hc] | rw [hd]) | with_reducible refine wpAny_loadPart_at hC ?_ | (with_reducible refine wpAny_isSubtype_exc hC ?_; first | rw [hcB] | rw [hcT]) | wp_step)
  exact k
theorem raised_own {Q : Value → Shared → Prop} (h : Ok (BB w h₁ X os dr) G (xo e (.ref 218) Tv c2 :: cs) s) (g : (BB w h₁ X os dr).Good) (k : Q (.ref e) s) : wpAny (BB w h₁ X os dr).M A (raisedInstance (.ref e)) Q E s := by
  obtain ⟨nm, q, N, bs, hdct, sn, sub, ab, col, dd, k0, k1, k2, k3, k5, mN, hC, -⟩ := own_obj h g
  obtain ⟨oe, he, hc, -⟩ := h.has (.here _ _)
  obtain ⟨hp, gg, d, tk, oo⟩ := s
  unfold raisedInstance
  repeat (first | (with_reducible refine wpAny_loadPart_at he ?_; rw [hc]) | with_reducible refine wpAny_loadPart_at hC ?_ | wp_step)
  exact k
theorem istype_own {Q : Bool → Shared → Prop} (h : Ok (BB w h₁ X os dr) G (xo e (.ref 218) Tv c2 :: cs) s) (k : Q false s) : wpAny (BB w h₁ X os dr).M A (isType (.ref e)) Q E s := by
  obtain ⟨oe, he, hc, vs, hd, -⟩ := h.has (.here _ _)
  obtain ⟨hp, gg, d, tk, oo⟩ := s
  unfold isType
  repeat (first | (with_reducible refine wpAny_loadPart_at he ?_; rw [hd]) | wp_step)
  exact k
theorem exc_key {msg : String} {Q : Value → Shared → Prop} {o : Obj} {vs : Array Value} (he : s.heap.get? k = some o) (hc : o.cls = .type "KeyError") (hd : o.data = .fields vs) (q : Q (.ref k) s) : wpAny (BB w h₁ X os dr).M A (excFromValue (.ref k) msg) Q E s := by
  obtain ⟨hp, gg, d, tk, oo⟩ := s
  have f1 := kr_isExc_KeyError
  have f2 : isSubtype (.type "KeyError") (.type "type") = pure false := by rw [isSubtype_type]; kernel_rfl
  unfold excFromValue isExcClass
  repeat (first | (with_reducible refine wpAny_loadPart_at he ?_; first | rw [hc] | rw [hd]) | wp_step)
  exact q
theorem own_call {us : List Value} {Q : Value → Shared → Prop} (h : Ok (BB w h₁ X os dr) G cs s) (g : (BB w h₁ X os dr).Good) (hz : us.length ≤ sizeLine) (q : ∀ e s', Ok (BB w h₁ X os dr) G (xo e (.ref 218) .none .none :: cs) s' → Q (.ref e) s') : wpAny (BB w h₁ X os dr).M A (call (.ref 218) us) Q E s := by
  obtain ⟨nm, qn, N, bs, hdct, sn, sub, ab, col, dd, k0, k1, k2, k3, k5, mN, hC, hN, hni, T⟩ := own_obj h g
  obtain ⟨hp, gg, d, tk, oo⟩ := s
  refine wpAny_call_exc_subT (hrest := hz) PySem.F.excBase_Exception T hC hN hni fun h' e m => ?_
  obtain ⟨t, ht, -, -⟩ := m.there
  exact q e _ (h.enter0 (t := tk) m.keeps m.new ⟨_, ht, rfl, _, rfl, by simp, rfl, rfl⟩)
end
end Mine
namespace Mine
local macro_rules | `(tactic| walk_at "foc") => `(tactic| first | with_reducible exact Foc.here _ _ | (apply Foc.there; walk_at "foc"))
local macro_rules | `(tactic| walk_at "has") => `(tactic| first | with_reducible exact Has.here _ _ | assumption | (refine Has.there _ ?_; walk_at "has"))
local macro_rules | `(tactic| walk_at "rep") => `(tactic| first | with_reducible exact Rep.here _ _ _ | assumption | (apply Rep.there; walk_at "rep"))
local macro_rules | `(tactic| walk_at "perm") => `(tactic| first | with_reducible exact List.Perm.refl _ | (refine perm_step (by walk_at "foc") ?_; walk_at "perm"))
section
variable {b : Base} {G : Array GenState} {cs cs' : List Chunk} {s : Shared} {A : Around} {E : Value → Shared → Prop} {M : Model} {env : Env} {e k d : Addr} {cls c2 Tv v : Value}
theorem set_hi {i : Nat} {Q : Unit → Shared → Prop} (h : Ok b G (xo e cls Tv c2 :: cs) s) (hi : 3 ≤ i) (hj : i < 6) (q : ∀ s', Ok b G (xo e cls Tv c2 :: cs) s' → Q () s') : wpAny M A (setField (.ref e) i v) Q E s := by
  obtain ⟨oe, he, hc, vs, hd, hz, h1, h2⟩ := h.has (.here _ _)
  refine wpAny_setField he hd (Nat.lt_of_lt_of_le hj hz) (q _ ?_)
  refine h.set (t := s.toks) (Heap.SameBut.update ..) ⟨_, Heap.get?_update_self _ he (Obj.isFreed_of_fields (Obj.data_mapFields hd _)), (Obj.cls_mapFields _ _).trans hc, _, Obj.data_mapFields hd _, ?_, ?_, ?_⟩
  · rw [Array.size_setIfInBounds]; exact hz
  · rw [Array.getElem?_setIfInBounds_ne (by omega)]; exact h1
  · rw [Array.getElem?_setIfInBounds_ne (by omega)]; exact h2
theorem set_two {Q : Unit → Shared → Prop} (h : Ok b G (xo e cls Tv c2 :: cs) s) (q : ∀ s', Ok b G (xo e cls Tv v :: cs) s' → Q () s') : wpAny M A (setField (.ref e) 2 v) Q E s := by
  obtain ⟨oe, he, hc, vs, hd, hz, h1, h2⟩ := h.has (.here _ _)
  refine wpAny_setField he hd (Nat.lt_of_lt_of_le (by decide) hz) (q _ ?_)
  refine h.set (t := s.toks) (Heap.SameBut.update ..) ⟨_, Heap.get?_update_self _ he (Obj.isFreed_of_fields (Obj.data_mapFields hd _)), (Obj.cls_mapFields _ _).trans hc, _, Obj.data_mapFields hd _, ?_, ?_, ?_⟩
  · rw [Array.size_setIfInBounds]; exact hz
  · rw [Array.getElem?_setIfInBounds_ne (by omega)]; exact h1
  · rw [Array.getElem?_setIfInBounds_self_of_lt (Nat.lt_of_lt_of_le (by decide) hz)]
end
section
variable {w : World} {h₁ : Heap} {X : List Addr} {os : OsState} {dr : Drawn} {G : Array GenState} {cs : List Chunk} {s : Shared} {A : Around} {E : Value → Shared → Prop} {env : Env} {e k : Addr} {c2 Tv : Value} {vars : List (Str × Value)} {cv : Cv}
theorem own_cw {js : PySem.Expr} {pos : Pos} {Q : Value → Shared → Prop} (g : (BB w h₁ X os dr).Good) (hs : isStar js = false) (hj : wpAny (BB w h₁ X os dr).M A (eval js env) (fun v s' => Ok (BB w h₁ X os dr) G cs s' ∧ ∀ e s'', Ok (BB w h₁ X os dr) G (xo e (.ref 218) .none .none :: cs) s'' → Q (.ref e) s'') E s) :
    wpAny (BB w h₁ X os dr).M A (callWith pos (.ref 218) [] (backTo pos (starEach [js] env)) []) Q E s := by
  have hplain : (backTo pos (starEach [js] env)).any (·.1) = false := by rw [starEach_cons hs, backTo_cons]; rfl
  unfold callWith
  refine wpAny_bind (wpAny_holding (wpAny_mono (Q := fun (a : Args) s' => ∃ us, a = ⟨us, []⟩ ∧ us.length ≤ sizeLine ∧ Ok (BB w h₁ X os dr) G cs s' ∧ ∀ e s'', Ok (BB w h₁ X os dr) G (xo e (.ref 218) .none .none :: cs) s'' → Q (.ref e) s'') ?_ (fun a s2 ⟨us, ha, hz, h2, q⟩ => wpAny_bind (wpAny_standAt ?_)) fun _ _ x => x))
  · rw [starEach_cons hs, backTo_cons]
    refine Calls.evalArgs_plain (Calls.spliced_cons (wpAny_mono hj (fun v s2 ⟨h2, q⟩ => Calls.spliced_nil ⟨_, rfl, (by show 1 ≤ sizeLine; decide), h2, q⟩) fun _ _ x => x))
  · subst ha
    simp only [hplain]
    obtain ⟨nm, qn, N, bs, hdct, sn, sub, ab, col, dd, k0, k1, k2, k3, k5, mN, hC, hN, hni, T⟩ := own_obj h2 g
    obtain ⟨hp, gg, d, tk, oo⟩ := s2
    refine wpAny_bind (wpAny_keeperOf_exc hC ?_)
    exact wpAny_bind (own_call h2 g hz fun e s3 h3 => wpAny_bind (wpAny_holding (wpAny_point (wpAny_pure (q e s3 h3)))))
theorem raise_from {js : PySem.Expr} {x y : Str} {np cpos pos yp : Pos} {Q : Flow → Shared → Prop} (h : Ok (BB w h₁ X os dr) G (fr env vars cv :: xo k (.type "KeyError") Tv .none :: cs) s) (I : In (BB w h₁ X os dr) env) (hA : A.handled = some (.ref k))
    (qq : (ev env GL vars cv 9 (.Name x np), ev env GL vars cv 9 (.Name y yp), isStar js) = (some (.ref 218), some (.ref k), false))
    (hj : ∀ (s : Shared) (Q : Value → Shared → Prop), Ok (BB w h₁ X os dr) G (fr env vars cv :: xo k (.type "KeyError") Tv .none :: cs) s → (∀ v s', Ok (BB w h₁ X os dr) G (fr env vars cv :: xo k (.type "KeyError") Tv .none :: cs) s' → Q v s') → wpAny (BB w h₁ X os dr).M A (eval js env) Q E s)
    (q : ∀ e s', Ok (BB w h₁ X os dr) G (xo e (.ref 218) .none (.ref k) :: fr env vars cv :: xo k (.type "KeyError") Tv .none :: cs) s' → E (.ref e) s') :
    wpAny (BB w h₁ X os dr).M A (exec (.Raise (some (.Call (.Name x np) [js] [] cpos)) (some (.Name y yp)) pos) env) Q E s := by
  simp only [Prod.mk.injEq] at qq
  obtain ⟨qx, qy, hs⟩ := qq
  have g := I.good
  rw [arm_exec_Raise]
  refine wpAny_bind (wpAny_standAt ?_)
  show wpAny _ _ (raiseStmt env (some (do let v ← eval (.Call (.Name x np) [js] [] cpos) env; standAt pos; pure v)) (some (do let c ← eval (.Name y yp) env; standAt pos; pure c))) _ _ _
  unfold raiseStmt
  refine wpAny_bind (wpAny_bind (wpAny_Call_NameR (x_ref 218 h I qx fun s1 h1 => own_cw g hs (hj s1 _ h1 fun v s2 h2 => ⟨h2, fun e s3 h3 => wpAny_bind (wpAny_standAt (wpAny_pure ?_))⟩))))
  refine wpAny_bind (wpAny_holding (wpAny_bind (x_ref k h3.swap I qy fun s4 h4 => wpAny_bind (wpAny_standAt (wpAny_pure (wpAny_bind (wpAny_pure ?_)))))))
  have h5 := h4.swap
  refine wpAny_bind (wpAny_holding (exc_own h5 g ?_))
  obtain ⟨ok, hk, hkc, vk, hkd, hkz, hk1, hk2⟩ := h5.has (.there _ (.there _ (.here _ _)))
  have hne : e ≠ k := Ok.ne h5 (.there _ (.here _ _))
  show wpAny _ _ ((if (Value.ref k == Value.none) = true then pure Value.none else holding [.ref e] (excFromValue (.ref k) _)) >>= _) _ _ _
  rw [if_neg (by simp)]
  refine wpAny_bind (wpAny_holding (exc_key hk hkc hkd ?_))
  refine wpAny_bind (set_hi h5 (by decide) (by decide) fun s6 h6 => ?_)
  refine wpAny_bind (set_hi h6 (by decide) (by decide) fun s7 h7 => ?_)
  refine wpAny_bind (istype_own h7 ?_)
  show wpAny _ _ (raisedInstance (.ref e) >>= _) _ _ _
  refine wpAny_bind (raised_own h7 g ?_)
  refine wpAny_bind (flight_no none h7 ?_)
  simp only [raiseNew]
  refine wpAny_bind (wpAny_handled ?_)
  rw [hA]
  show wpAny _ _ (if (Value.ref k != Value.ref e) = true then _ else _) _ _ _
  rw [if_pos (by simpa using hne.symm)]
  obtain ⟨ok, hk, hkc, vk, hkd, hkz, hk1, hk2⟩ := h7.has (.there _ (.there _ (.here _ _)))
  refine wpAny_bind (wpAny_holding (unchain_none hk hkd hk2 ?_))
  refine wpAny_bind (m := setField (.ref _) 2 _) (set_two h7 fun s8 h8 => ?_)
  exact wpAny_throw (q e s8 h8)
end
end Mine
namespace Mine
local macro_rules | `(tactic| walk_at "foc") => `(tactic| first | with_reducible exact Foc.here _ _ | (apply Foc.there; walk_at "foc"))
local macro_rules | `(tactic| walk_at "has") => `(tactic| first | with_reducible exact Has.here _ _ | assumption | (refine Has.there _ ?_; walk_at "has"))
local macro_rules | `(tactic| walk_at "rep") => `(tactic| first | with_reducible exact Rep.here _ _ _ | assumption | (apply Rep.there; walk_at "rep"))
local macro_rules | `(tactic| walk_at "perm") => `(tactic| first | with_reducible exact List.Perm.refl _ | (refine perm_step (by walk_at "foc") ?_; walk_at "perm"))
section
variable {w : World} {h₁ : Heap} {X : List Addr} {os : OsState} {dr : Drawn} {G : Array GenState} {cs : List Chunk} {s : Shared} {A : Around} {E : Value → Shared → Prop} {env : Env} {e k x gd na aa C : Addr} {c2 Tv : Value} {vars : List (Str × Value)} {outer : List Env} {d u : Nat} {fs : List (Str × Addr)} {nodes : List (Int × Addr)} {rows : List Row} {en ea : Nat}
theorem key_caught {js : PySem.Expr} {np p2 p3 p4 p5 pos : Pos} {Q : Flow → Shared → Prop} (h : Ok (BB w h₁ X os dr) G (xo k (.type "KeyError") .none .none :: fr env vars [] :: cs) s) (I : In (BB w h₁ X os dr) env) (hfr : A.frames = some (env :: outer)) (hn : A.handled = none) (hF : FrOk cs outer)
    (hf : env.frame = some env.locals) (hk : (env.scope.kind, env.scope.names.lookup ("err" : Str), env.kindOf "err") = (.function, some .local, some .local))
    (q1 : ev env GL vars [] 9 (.Name "KeyError" np) = some (.type "KeyError"))
    (q2 : (ev env GL (put vars "err" (.ref k)) [] 9 (.Name "NetworkXError" p2), ev env GL (put vars "err" (.ref k)) [] 9 (.Name "err" p4), isStar js) = (some (.ref 218), some (.ref k), false))
    (hj : ∀ (A' : Around) (E' : Value → Shared → Prop) (cs' : List Chunk) (s : Shared) (Q : Value → Shared → Prop), Ok (BB w h₁ X os dr) G (fr env (put vars "err" (.ref k)) [] :: cs') s → (∀ v s', Ok (BB w h₁ X os dr) G (fr env (put vars "err" (.ref k)) [] :: cs') s' → Q v s') → wpAny (BB w h₁ X os dr).M A' (eval js env) Q E' s)
    (q : ∀ e T Tk s', Ok (BB w h₁ X os dr) G (tbc T (rawInt env.locals) :: xo e (.ref 218) (.ref T) (.ref k) :: fr env [] [] :: xo k (.type "KeyError") Tk .none :: cs) s' → E (.ref e) s') :
    wpAny (BB w h₁ X os dr).M A (noteFrame (.ref k) env) (fun _ s₂ => wpAny (BB w h₁ X os dr).M A (setFlight (.ref k) none) (fun _ s₃ => wpAny (BB w h₁ X os dr).M A (handleBy (.ref k) env [.ExceptHandler (some (.Name "KeyError" np)) (some "err") [.Raise (some (.Call (.Name "NetworkXError" p2) [js] [] p3)) (some (.Name "err" p4)) p5] pos]) Q E s₃) E s₂) E s := by
  simp only [Prod.mk.injEq] at hk
  obtain ⟨hk1, hk2, hk3⟩ := hk
  have hmod : env.scope.kind ≠ .module := by rw [hk1]; decide
  have FO : ∀ {Z : List Chunk} {vs : List (Str × Value)} {cv : Cv}, Has Z (fr env vs cv) → (∀ p ∈ cs.flatten, p ∈ Z.flatten) → FrOk Z (env :: outer) := fun f hm => (hF.mono hm).cons hmod hf (fr_mem f)
  refine note_first h hfr (FO (.here _ _) fun p hp => by simp only [List.flatten_cons, List.mem_append]; exact .inr hp) hf fun T s1 h1 => flight0 h1 fun s2 h2 => ?_
  have h2' : Ok (BB w h₁ X os dr) G (fr env vars [] :: tbc T .none :: xo k (.type "KeyError") (.ref T) .none :: cs) s2 := h2.perm (by walk_at "perm")
  refine wpAny_handleBy_builtin_as (X := "KeyError") (T := "KeyError") (b := true) kr_isExc_KeyError kr_notTuple_KeyError (by rw [isSubtype_type]; kernel_rfl) (x_ev (.type "KeyError") h2' I q1 fun v s3 hv h3 => ?_)
  rw [untok_type hv]
  obtain ⟨ok, hko, hkc, -⟩ := h3.has (.there _ (.there _ (.here _ _)))
  refine ⟨rfl, ⟨ok, hko, hkc⟩, ?_⟩
  rw [if_pos rfl]
  have h3' : Ok (BB w h₁ X os dr) G (tbc T .none :: xo k (.type "KeyError") (.ref T) .none :: fr env vars [] :: cs) s3 := h3.perm (by walk_at "perm")
  refine flight0 h3' fun s4 h4 => ?_
  have h4' : Ok (BB w h₁ X os dr) G (fr env vars [] :: xo k (.type "KeyError") (.ref T) .none :: cs) s4 := (h4.perm (cs' := tbc T .none :: fr env vars [] :: xo k (.type "KeyError") (.ref T) .none :: cs) (by walk_at "perm")).drop
  refine st_local (p := .ref k) h4' I rfl hk2 fun s5 h5 => ?_
  refine x_cons (raise_from h5 I (by show (some (Value.ref k)).or A.handled = _; rfl) q2 (fun s Q h q => hj _ _ _ s Q h q) fun e s6 h6 => ?_)
  have hfr' : (A.mark (some (.ref k))).frames = some (env :: outer) := hfr
  refine note_first h6 hfr' (FO (.here _ _) fun p hp => by simp only [List.flatten_cons, List.mem_append]; exact .inr (.inr hp)) hf fun T2 s7 h7 => ?_
  have h7' : Ok (BB w h₁ X os dr) G (fr env (put vars "err" (.ref k)) [] :: tbc T2 (rawInt env.locals) :: xo e (.ref 218) (.ref T2) (.ref k) :: xo k (.type "KeyError") (.ref T) .none :: cs) s7 := h7.perm (by walk_at "perm")
  obtain ⟨o, eo, hp⟩ := h7'.frame.st.get
  obtain ⟨m, N, hm⟩ := frame_ns hp eo
  refine wpAny_nameGoes hk3 N (by rw [hk1]; rfl) fun h' m' N' hs => ?_
  have h8 : Ok (BB w h₁ X os dr) G (fr env [] [] :: tbc T2 (rawInt env.locals) :: xo e (.ref 218) (.ref T2) (.ref k) :: xo k (.type "KeyError") (.ref T) .none :: cs) { s7 with heap := h', toks := s7.toks + 1 } :=
    (h7'.frame.set (t := s7.toks + 1) hs (nsP_of_ns N' fun y u q => by cases q)).unframe
  have h8' : Ok (BB w h₁ X os dr) G (tbc T2 (rawInt env.locals) :: xo e (.ref 218) (.ref T2) (.ref k) :: fr env [] [] :: xo k (.type "KeyError") (.ref T) .none :: cs) { s7 with heap := h', toks := s7.toks + 1 } := h8.perm (by walk_at "perm")
  unfold PySem.passOn
  obtain ⟨oe, he, hc, vs, hd, hz, he1, he2⟩ := h8'.has (.there _ (.here _ _))
  refine wpAny_bind (wpAny_field he hd he1 ?_)
  rw [if_neg (show ¬ ((Value.ref T2 == Value.none) = true) from by simp)]
  have fin : ∀ s9, Ok (BB w h₁ X os dr) G (tbc T2 (rawInt env.locals) :: xo e (.ref 218) (.ref T2) (.ref k) :: fr env [] [] :: xo k (.type "KeyError") (.ref T) .none :: cs) s9 → notedBy (BB w h₁ X os dr).M (A.mark (some (.ref k))) env (cameBackBy (BB w h₁ X os dr).M A env E) (.ref e) s9 := fun s9 h9 =>
    note_again h9 hf (back_ h9 hf fun s10 h10 => q e T2 _ s10 h10)
  rw [hf]
  first
    | exact wpAny_bind (wpAny_pure (wpAny_bind (flight1 h8' fun s9 h9 => wpAny_throw (fin s9 h9))))
    | exact wpAny_bind (flight1 h8' fun s9 h9 => wpAny_throw (fin s9 h9))
theorem code_fnA {b : Base} {f : Addr} {fd : FuncData} {body : List Stmt} {us : List Value} {kw : List (Str × Value)} {R : Result → Shared → Prop} (binds vars : List (Str × Value)) (cv : Cv) (h : Ok b G cs s) (g : b.Good) (F : Fit b A (d + 1) (u + 3)) (D : IsDef b f fd body)
    (hb : peek b.K ⟨b.prog, b.w.params⟩ (bindArgs fd ⟨us, kw⟩) = some binds) (hg : fd.scope.isGenerator = false)
    (hk : ∀ z, bindsOk fd z binds = true) (hv : ∀ z, SubM vars (bindL (callEnvC fd z f).kindOf binds fun _ => none)) (hc : ∀ z, cvOk (callEnvC fd z f) (bindC (callEnvC fd z f).kindOf binds fun _ => none) cv)
    (k : ∀ L s', Fit b (A.deeper (callEnvC fd L f)) d u → Ok b G (fr (callEnvC fd L f) vars cv :: cs) s' → wpAny b.M (A.deeper (callEnvC fd L f)) (execs body (callEnvC fd L f)) (fun fl s'' => R (.ok (.ret (match fl with | .ret v => v | _ => .none))) s'')
      (fun e s'' => wpAny b.M (A.deeper (callEnvC fd L f)) (leaving (callEnvC fd L f) e) (fun _ s3 => R (.error e) s3) (fun e' s3 => R (.error e') s3) s'') s') : codeAny b.M A (.call (.ref f) ⟨us, kw⟩) R s :=
  code_enters (args := ⟨us, kw⟩) h F D hg (wpAny_peek (h.kin g) hb ⟨_, rfl, hk _, h.nolimit g, fun s₁ x => k _ _ (F.deeper _) (h.inCall rfl rfl x (hv _) (hc _))⟩)
theorem row_none {rows : List Row} {i : Int} (h : i ∉ rows.map (·.key)) : (adjL rows).lookup i = none := by
  rw [List.lookup_eq_none_iff]
  intro p hp
  simp only [bne_iff_ne, ne_eq]
  intro e
  refine h ?_
  rw [← adj_keys, e]
  exact List.mem_map_of_mem hp
theorem fstr {a b : Str} {p0 p1 p2 p3 p4 : Pos} {Q : Value → Shared → Prop} {cv : Cv} (h : Ok (BB w h₁ X os dr) G (fr env vars cv :: cs) s) (I : In (BB w h₁ X os dr) env) (q : ev env GL vars cv 9 (.Name "n" p2) = some (.int 5 0)) (hz : (Str.empty ++ a).length ≤ sizeLine ∧ (Str.empty ++ a ++ Str.ofString (toString (5 : Int))).length ≤ sizeLine ∧ (Str.empty ++ a ++ Str.ofString (toString (5 : Int)) ++ b).length ≤ sizeLine)
    (k : ∀ v s', Ok (BB w h₁ X os dr) G (fr env vars cv :: cs) s' → Q v s') : wpAny (BB w h₁ X os dr).M A (eval (.JoinedStr [.Constant (.str a) 0 p0, .FormattedValue (.Name "n" p2) (-1) none p1, .Constant (.str b) 0 p3] p4) env) Q E s := by
  refine PyProof.Rows.JoinedStr_many (PyProof.Rows.joinParts_cons (x_ev (.str a 0) h I rfl fun v1 s1 hv1 h1 => ?_))
  obtain ⟨t1, rfl⟩ := untok_str hv1
  refine ⟨hz.1, PyProof.Rows.joinParts_cons (PyProof.Rows.FormattedValue_plain (x_int 5 h1 I q fun t2 s2 h2 => PyProof.Rows.formatField_int_small (by decide) ⟨hz.2.1, ?_⟩))⟩
  refine PyProof.Rows.joinParts_cons (x_ev (.str b 0) (h2.toks _) I rfl fun v3 s3 hv3 h3 => ?_)
  obtain ⟨t3, rfl⟩ := untok_str hv3
  exact ⟨hz.2.2, PyProof.Rows.joinParts_nil (k _ _ (h3.toks _)) hz.2.2⟩
end
end Mine
namespace Mine
local macro_rules | `(tactic| walk_at "foc") => `(tactic| first | with_reducible exact Foc.here _ _ | (apply Foc.there; walk_at "foc"))
local macro_rules | `(tactic| walk_at "has") => `(tactic| first | with_reducible exact Has.here _ _ | assumption | (refine Has.there _ ?_; walk_at "has"))
local macro_rules | `(tactic| walk_at "rep") => `(tactic| first | with_reducible exact Rep.here _ _ _ | assumption | (apply Rep.there; walk_at "rep"))
local macro_rules | `(tactic| walk_at "perm") => `(tactic| first | with_reducible exact List.Perm.refl _ | (refine perm_step (by walk_at "foc") ?_; walk_at "perm"))
section
variable {w : World} {h₁ : Heap} {X : List Addr} {os : OsState} {dr : Drawn} {G : Array GenState} {cs : List Chunk} {s : Shared} {A : Around} {E : Value → Shared → Prop} {env : Env} {x gd na aa C a : Addr} {vars : List (Str × Value)} {outer : List Env} {d u n : Nat} {fs : List (Str × Addr)} {nodes : List (Int × Addr)} {rows : List Row} {en ea : Nat}
def twoC (e T k : Addr) (Tk : Value) : List Chunk := [tbc T .none, xo e (.ref 218) (.ref T) (.ref k), xo k (.type "KeyError") Tk .none]
theorem u_miss (g : (BB w h₁ X os dr).Good) {Q : Value → Shared → Prop} {ga : Addr} {t : Tok} (h : Ok (BB w h₁ X os dr) G cs s) (V : GView (BB w h₁ X os dr) cs x C_Graph gd [("graph", ga), ("_node", na), ("_adj", aa)] na aa nodes en rows ea) (F : Fit (BB w h₁ X os dr) A (d + 1) (u + 3)) (hn : A.handled = none) (hfr : A.frames = some outer) (hF : FrOk cs outer) (hr : (5 : Int) ∉ rows.map (·.key))
    (k : ∀ e T kx Tk s', Ok (BB w h₁ X os dr) G (twoC e T kx Tk ++ cs) s' → E (.ref e) s') : codeAny (BB w h₁ X os dr).M A (.call (.ref A_G_nbrs) ⟨[.ref x, .int 5 t], []⟩) (retR Q E) s := by
  have D := D_G_nbrs g
  refine code_fnA (d := d) (u := u) [("self", .ref x), ("n", .int 5 t)] [("self", .ref x), ("n", .int 5 0)] [] h g F D (by kernel_rfl) (by kernel_rfl) (by intro z; kernel_rfl) (by intro z; kernel_rfl) (fun _ => ⟨rfl, List.nodup_nil⟩) fun L s1 F' h1 => ?_
  have I := D.inEnv g L
  have V1 := V.there (c := fr (callEnvC fd_G_nbrs L A_G_nbrs) [("self", .ref x), ("n", .int 5 0)] [])
  have fi := V1.ins
  have fd := V1.idc
  show wpAny _ _ (execs (_ :: _) _) _ _ _
  refine x_cons (wpAny_Try_except ?_)
  refine x_cons (wpAny_Return_some (wpAny_Call_NameR (x_ev (.builtin "iter") h1 I (by kernel_rfl) fun v s2 hv h2 => ?_)))
  rw [untok_builtin hv]
  refine PyProof.Rows.callWith_method1 (sp_cons (PyProof.Rows.Subscript_ (x_sa (C := C_Graph) (gd := gd) (fs := [("graph", ga), ("_node", na), ("_adj", aa)]) x aa h2 I (by kernel_rfl) fi fd (by kernel_rfl) (by intro ts n; kernel_rfl) fun s3 h3 => x_int 5 h3 I (by kernel_rfl) fun t s4 h4 => d_missing (ks := adjL rows) (ep := ea) h4 g V1.adj (row_none hr) hn fun kx s5 h5 => ?_)))
  refine key_caught (outer := outer) h5 I (Around.frames_deeper hfr) hn hF rfl (by kernel_rfl) (by kernel_rfl) (by kernel_rfl) (fun A' E' cs' s Q h q => fstr h I (by kernel_rfl) (by decide +kernel) q) fun e T Tk s6 h6 => ?_
  refine leave_again h6 rfl fun s7 h7 => k e T kx Tk s7 ?_
  exact (h7.perm (cs' := fr (callEnvC fd_G_nbrs L A_G_nbrs) [] [] :: (twoC e T kx Tk ++ cs)) (by show List.Perm _ (_ :: (_ :: _ :: _ :: cs)); exact (by walk_at "perm"))).drop
theorem d_miss (g : (BB w h₁ X os dr).Good) {Q : Value → Shared → Prop} {ga pa : Addr} {t : Tok} (h : Ok (BB w h₁ X os dr) G cs s) (V : GView (BB w h₁ X os dr) cs x C_DiGraph gd [("graph", ga), ("_node", na), ("_adj", aa), ("_succ", aa), ("_pred", pa)] na aa nodes en rows ea) (F : Fit (BB w h₁ X os dr) A (d + 1) (u + 3)) (hn : A.handled = none) (hfr : A.frames = some outer) (hF : FrOk cs outer) (hr : (5 : Int) ∉ rows.map (·.key))
    (k : ∀ e T kx Tk s', Ok (BB w h₁ X os dr) G (twoC e T kx Tk ++ cs) s' → E (.ref e) s') : codeAny (BB w h₁ X os dr).M A (.call (.ref A_D_nbrs) ⟨[.ref x, .int 5 t], []⟩) (retR Q E) s := by
  have D := D_D_nbrs g
  refine code_fnA (d := d) (u := u) [("self", .ref x), ("n", .int 5 t)] [("self", .ref x), ("n", .int 5 0)] [] h g F D (by kernel_rfl) (by kernel_rfl) (by intro z; kernel_rfl) (by intro z; kernel_rfl) (fun _ => ⟨rfl, List.nodup_nil⟩) fun L s1 F' h1 => ?_
  have I := D.inEnv g L
  have V1 := V.there (c := fr (callEnvC fd_D_nbrs L A_D_nbrs) [("self", .ref x), ("n", .int 5 0)] [])
  have fi := V1.ins
  have fd := V1.idc
  show wpAny _ _ (execs (_ :: _) _) _ _ _
  refine x_cons (wpAny_Try_except ?_)
  refine x_cons (wpAny_Return_some (wpAny_Call_NameR (x_ev (.builtin "iter") h1 I (by kernel_rfl) fun v s2 hv h2 => ?_)))
  rw [untok_builtin hv]
  refine PyProof.Rows.callWith_method1 (sp_cons (PyProof.Rows.Subscript_ (x_sa (C := C_DiGraph) (gd := gd) (fs := [("graph", ga), ("_node", na), ("_adj", aa), ("_succ", aa), ("_pred", pa)]) x aa h2 I (by kernel_rfl) fi fd (by kernel_rfl) (by intro ts n; kernel_rfl) fun s3 h3 => x_int 5 h3 I (by kernel_rfl) fun t s4 h4 => d_missing (ks := adjL rows) (ep := ea) h4 g V1.adj (row_none hr) hn fun kx s5 h5 => ?_)))
  refine key_caught (outer := outer) h5 I (Around.frames_deeper hfr) hn hF rfl (by kernel_rfl) (by kernel_rfl) (by kernel_rfl) (fun A' E' cs' s Q h q => fstr h I (by kernel_rfl) (by decide +kernel) q) fun e T Tk s6 h6 => ?_
  refine leave_again h6 rfl fun s7 h7 => k e T kx Tk s7 ?_
  exact (h7.perm (cs' := fr (callEnvC fd_D_nbrs L A_D_nbrs) [] [] :: (twoC e T kx Tk ++ cs)) (by show List.Perm _ (_ :: (_ :: _ :: _ :: cs)); exact (by walk_at "perm"))).drop
theorem g_miss (g : (BB w h₁ X os dr).Good) {nb : Addr} {Q : Value → Shared → Prop} {t : Tok} (K : Kd na aa C fs nb) (h : Ok (BB w h₁ X os dr) G cs s) (V : GView (BB w h₁ X os dr) cs x C gd fs na aa nodes en rows ea) (F : Fit (BB w h₁ X os dr) A (d + 1) (u + 3)) (hn : A.handled = none) (hfr : A.frames = some outer) (hF : FrOk cs outer) (hr : (5 : Int) ∉ rows.map (·.key))
    (k : ∀ e T kx Tk s', Ok (BB w h₁ X os dr) G (twoC e T kx Tk ++ cs) s' → E (.ref e) s') : codeAny (BB w h₁ X os dr).M A (.call (.ref nb) ⟨[.ref x, .int 5 t], []⟩) (retR Q E) s := by
  cases K with
  | U ga => exact u_miss g h V F hn hfr hF hr k
  | D ga pa => exact d_miss g h V F hn hfr hF hr k
theorem isinst_own {e : Addr} {Tv c2 : Value} {Q : Bool → Shared → Prop} (h : Ok (BB w h₁ X os dr) G cs s) (g : (BB w h₁ X os dr).Good) (f : Has cs (xo e (.ref 218) Tv c2)) (k : Q false s) : wpAny (BB w h₁ X os dr).M A (isInstance (.ref e) (.type "StopIteration")) Q E s := by
  obtain ⟨nm, q, N, bs, hdct, sn, sub, ab, col, dd, k0, k1, k2, k3, k5, mN, hC, -⟩ := own_obj h g
  obtain ⟨oe, he, hc, vs, hd, -⟩ := h.has f
  obtain ⟨hp, gg, d, tk, oo⟩ := s
  have hcB : (Value.ref 218 :: tlE).contains (.type "StopIteration") = false := by decide
  unfold isInstance
  repeat (first | (with_reducible refine wpAny_loadPart_at he ?_; first | rw [hc] | rw [hd]) | with_reducible refine wpAny_loadPart_at hC ?_ | (with_reducible refine wpAny_isSubtype_exc hC ?_; rw [hcB]) | wp_step)
  exact k
def Fail (b : Base) (A : Around) (W : List Chunk → Prop) (Ds : List Chunk) (gs : GenState) : Prop := ∀ G F s, Ok b G (Ds ++ F) s → W F →
  GsRun b.M A (fun e s' => ∃ e0 T k Tk Ds', e = .ret (.error (.ref e0)) ∧ Ok b G (twoC e0 T k Tk ++ (Ds' ++ F)) s') gs (.send .none) s
def Once (b : Base) (A : Around) (W : List Chunk → Prop) (t : List Value) (Ds : List Chunk) (gs : GenState) : Prop := ∀ G F s, Ok b G (Ds ++ F) s → W F →
  GsRun b.M A (fun e s' => e.quiet = true ∧ ∃ a Ds', e.result = .yielded (.ref a) ∧ Ok b G (tu a t :: (Ds' ++ F)) s' ∧ Fail b A W Ds' e.genState) gs (.send .none) s
theorem fail_next {F Ds : List Chunk} {gs : GenState} {W : List Chunk → Prop} {Q : Option Value → Shared → Prop} (h : Ok (BB w h₁ X os dr) G (Ds ++ F) s) (g : (BB w h₁ X os dr).Good) (Fi : Fit (BB w h₁ X os dr) A (d + 1) u) (f : Has F (go a n)) (hgs : G[n]? = some gs) (w' : W F) (S : Fail (BB w h₁ X os dr) A.in1 W Ds gs)
    (k : ∀ e T kx Tk Ds' s', Ok (BB w h₁ X os dr) (G.setIfInBounds n .finished) (twoC e T kx Tk ++ (Ds' ++ F)) s' → E (.ref e) s') : wpAny (BB w h₁ X os dr).M A (pyNext (.ref a)) Q E s := by
  obtain ⟨o, eo, nm, qn, h1, h2, h3⟩ := h.has (.app_right f)
  have hg : s.heap.IsGen a n := ⟨o, nm, qn, eo, h1, h2, h3⟩
  have hG : s.gens[n]? = some gs := by rw [h.gens]; exact hgs
  have hr : Ok (BB w h₁ X os dr) (G.setIfInBounds n .running) (Ds ++ F) (s.setGen n .running) := ⟨h.st, by show (s.gens.setIfInBounds n .running) = _; rw [h.gens], h.os, h.drawn⟩
  have hgo := S _ F _ hr w'
  unfold pyNext
  refine wpAny_bind (wpAny_attempt (wpAny_callSpecial?_slot (name := Str.ofString "__next__") hg.typeIs slot_gen_next
    (wpAny_call_entry slot_gen_next hg.typeIs entry_gen_next ?_ (args_gen_next _))))
  show wpAny _ _ (Builtin.Generator.genWake (.ref a) (.send .none)) _ _ s
  unfold Builtin.Generator.genWake
  refine wpAny_bind (wpAny_holding (wpAny_genNumber hg (wpAny_bind (wpAny_genState hG ?_))))
  cases gs with
  | running => exact hgo.elim
  | finished => exact hgo.elim
  | _ =>
    refine wpAny_bind (wpAny_roomToWake (h.nolimit g) Fi.room ?_)
    show wpAny _ _ (.resume n (.send .none) [] _) _ _ s
    refine resume_run hG hgo (fun e s₁ ⟨e0, T, kx, Tk, Ds', he, _⟩ => (by rw [he]; rfl)) (fun e s₁ ⟨e0, T, kx, Tk, Ds', he, h4⟩ => ?_)
    subst he
    have h5 : Ok (BB w h₁ X os dr) (G.setIfInBounds n .finished) (twoC e0 T kx Tk ++ (Ds' ++ F)) (s₁.setGen n .finished) := ⟨h4.st, by show (s₁.gens.setIfInBounds n _) = _; rw [h4.gens, Array.setIfInBounds_setIfInBounds], h4.os, h4.drawn⟩
    have fe : Has (twoC e0 T kx Tk ++ (Ds' ++ F)) (xo e0 (.ref 218) (.ref T) (.ref kx)) := .there _ (.here _ _)
    show wpAny _ _ (Builtin.Generator.genLeft (.ref a) (.ref e0)) _ _ (s₁.setGen n .finished)
    obtain ⟨o', eo', nm', qn', h1', h2', h3'⟩ := h5.has (.app_right (.app_right f))
    unfold Builtin.Generator.genLeft Builtin.Generator.madeByALambda
    refine wpAny_bind (wpAny_bind (wpAny_load eo' (wpAny_pure (wpAny_bind (isinst_own h5 g fe ?_)))))
    rw [Bool.and_false]
    show wpAny _ _ (Builtin.Generator.genEscaped (.ref e0)) _ _ _
    unfold Builtin.Generator.genEscaped
    refine wpAny_bind (isinst_own h5 g fe ?_)
    show wpAny _ _ (throw (Value.ref e0)) _ _ _
    refine wpAny_throw ?_
    refine wpAny_bind (isinst_own h5 g fe ?_)
    show wpAny _ _ (throw (Value.ref e0)) _ _ _
    exact wpAny_throw (k e0 T kx Tk Ds' _ h5)
end
end Mine
namespace Mine
local macro_rules | `(tactic| walk_at "foc") => `(tactic| first | with_reducible exact Foc.here _ _ | (apply Foc.there; walk_at "foc"))
local macro_rules | `(tactic| walk_at "has") => `(tactic| first | with_reducible exact Has.here _ _ | assumption | (refine Has.there _ ?_; walk_at "has"))
local macro_rules | `(tactic| walk_at "rep") => `(tactic| first | with_reducible exact Rep.here _ _ _ | assumption | (apply Rep.there; walk_at "rep"))
local macro_rules | `(tactic| walk_at "perm") => `(tactic| first | with_reducible exact List.Perm.refl _ | (refine perm_step (by walk_at "foc") ?_; walk_at "perm"))
section
variable {w : World} {h₁ : Heap} {X : List Addr} {os : OsState} {dr : Drawn} {G : Array GenState} {cs : List Chunk} {s : Shared} {A : Around} {E : Value → Shared → Prop} {env : Env} {x gd na aa C a L : Addr} {vars : List (Str × Value)} {outer : List Env} {d u n : Nat} {fs : List (Str × Addr)} {nodes : List (Int × Addr)} {rows : List Row} {en ea : Nat} {W : List Chunk → Prop}
theorem over_handled {c : Code} {fs : List Frame} (h : fs.all plainF = true) (hn : A.handled = none) : (A.over c fs).handled = none := by
  show (marksOver fs (A.handled, A.handled)).1 = none
  rw [marks_plain h]; exact hn
theorem out_ {e T k : Addr} {Tk : Value} {p1 : Pos} {it : Addr} {Ds F : List Chunk} {vs : List (Str × Value)} {cv : Cv} (hfr : A.frames = some outer) (hF : FrOk F outer) (hm : Has Ds (fr (env0 L) vs cv)) (h : Ok (BB w h₁ X os dr) G (twoC e T k Tk ++ (Ds ++ F)) s) :
    Run (BB w h₁ X os dr).M A (fun e s' => ∃ e0 T k Tk Ds', e = .ret (.error (.ref e0)) ∧ Ok (BB w h₁ X os dr) G (twoC e0 T k Tk ++ (Ds' ++ F)) s') (c1 (env0 L) it) (noteH (env0 L) (.ref e)) [F1 (env0 L) p1] s := by
  have hf : (env0 L).frame = some (env0 L).locals := rfl
  have hk : (env0 L).scope.kind ≠ .module := by
    have : (env0 L).scope.kind = .function := by kernel_rfl
    rw [this]; decide
  have h : Ok (BB w h₁ X os dr) G (tbc T .none :: xo e (.ref 218) (.ref T) (.ref k) :: xo k (.type "KeyError") Tk .none :: (Ds ++ F)) s := h
  have hFO : FrOk (xo k (.type "KeyError") Tk .none :: (Ds ++ F)) (env0 L :: outer) := by
    refine (hF.mono fun p hp => ?_).cons hk hf (fr_mem (vars := vs) (cv := cv) (.there _ (.app_left hm)))
    simp only [List.flatten_cons, List.flatten_append, List.mem_append]; exact .inr (.inr hp)
  have fr1 : (A.over (c1 (env0 L) it) [F1 (env0 L) p1]).frames = some (env0 L :: outer) := by
    have e : (A.over (c1 (env0 L) it) [F1 (env0 L) p1]).frames = pushEnvs (c1 (env0 L) it).envs (pushEnvs (envsOf ([F1 (env0 L) p1].map Frame.where_)) A.frames) := rfl
    rw [e, hfr]; rfl
  unfold noteH
  refine rn_wrap (wpAny_bind (note_next h (by simp [rawInt]) fr1 hFO hf fun T2 s2 h2 => wpAny_theTreesLotGoes ?_))
  refine rn_leaf (.error (.ref e)) ?_
  unfold backK
  refine rn_wrap (wpAny_onRaise (wpAny_throw (back_ h2 hf fun s3 h3 => ?_)))
  unfold leaveH
  refine rn_wrap (leave_again h3 hf fun s4 h4 => ?_)
  exact rn_end (.error (.ref e)) ⟨e, T2, k, Tk, Ds, rfl, h4⟩
theorem dfs_once (g : (BB w h₁ X os dr).Good) {nb : Addr} (K : Kd na aa C fs nb) (h5 : (5 : Int) ∉ rows.map (·.key)) (hz : nodes.length ≤ 1000) (Fi : Fit (BB w h₁ X os dr) A (d + 10) (u + 20)) (hn : A.handled = none) (hfr : A.frames = some outer)
    (hW : ∀ F, W F → HasAll (grW (BB w h₁ X os dr) x C gd fs na aa nodes en rows ea) F ∧ FrOk F outer) : Once (BB w h₁ X os dr) A W [.int 5 0, .int 5 0, .str "forward" 0] [fr (env0 L) [("source", .int 5 0), ("depth_limit", .none)] (cv0 x .none)] (.fresh (.func DB (env0 L))) := by
  intro G F s h w'
  refine ⟨rfl, rn_func ?_⟩
  have h : Ok (BB w h₁ X os dr) G (fr (env0 L) [("source", .int 5 0), ("depth_limit", .none)] (cv0 x .none) :: F) s := h
  have I := in0 g L
  have Ff : Fit (BB w h₁ X os dr) (A.over (.func DB (env0 L)) []) (d + 9) (u + 17) := fitF Fi
  obtain ⟨hG, hO⟩ := hW F w'
  have V : GView (BB w h₁ X os dr) F x C gd fs na aa nodes en rows ea := gview_of hG
  show Run _ _ _ _ ((execs (_ :: _) _).wrap _ _ _ _) _ _
  refine rn_cons (rn_If (isTrue_of (c := false) h I (by kernel_rfl) rfl fun s1 h1 => ?_))
  show Run _ _ _ _ ((execs (_ :: _) _).wrap _ _ _ _) _ _
  refine rn_cons (rn_stmt (x_asg (x_listP [.int 5 0] h1 I (by kernel_rfl) fun l s2 h2 => st_local (p := .ref l) h2 I rfl (by kernel_rfl) fun s3 h3 => ?_)))
  have h3 : Ok (BB w h₁ X os dr) G (fr (env0 L) [("depth_limit", .none), ("nodes", .ref l)] (cv0 x .none) :: li l [.int 5 0] :: F) s3 := h3.sub (by kernel_rfl)
  show Run _ _ _ _ ((execs (_ :: _) _).wrap _ _ _ _) _ _
  refine rn_cons (rn_If (isTrue_of (c := true) h3 I (by kernel_rfl) rfl fun s4 h4 => ?_))
  show Run _ _ _ _ ((execs (_ :: _) _).wrap _ _ _ _) _ _
  refine rn_cons (rn_stmt (x_asg (wpAny_Call_NameR (x_ev (.builtin "len") h4 I (by kernel_rfl) fun v s5 hv h5' => ?_))))
  rw [untok_builtin hv]
  refine PyProof.Rows.callWith_method1 (sp_cons (x_ref x h5' I (by kernel_rfl) fun s6 h6 => sp_nil ?_))
  refine len_inst (f := A_G_len) (C := C) (gd := gd) (fs := fs) h6 g (.there _ (.there _ V.ins)) (.there _ (.there _ V.idc)) (by cases K <;> kernel_rfl) (by kernel_rfl) (g_len (d := d + 8) (u := u + 13) g K h6 (V.there.there) Ff.in1 hz fun t s7 h7 => ⟨_, t, rfl, Int.natCast_nonneg _, by have : nodes.length < 2 ^ 63 := Nat.lt_of_le_of_lt hz (by decide); omega, ?_⟩)
  refine st_local (h7.toks _) I rfl (by kernel_rfl) fun s8 h8 => ?_
  generalize hlim : (nodes.length : Int) = lim at h8
  have h8 : Ok (BB w h₁ X os dr) G (fr (env0 L) [("depth_limit", .int lim 0), ("nodes", .ref l)] (cv0 x .none) :: li l [.int 5 0] :: F) s8 := h8.sub (by kernel_rfl)
  show Run (BB w h₁ X os dr).M A _ (.func DB (env0 L)) ((execs (DB.drop 2) (env0 L)).wrap retK (leaveH (env0 L)) id id) [] s8
  show Run _ _ _ _ ((execs (_ :: _) _).wrap _ _ _ _) _ _
  refine rn_cons (rn_stmt (x_asg (PyProof.Rows.IfExp_ (isTrue_of (c := true) h8 I (by kernel_rfl) rfl fun s9 h9 => ?_))))
  show wpAny _ _ (eval (.Attribute _ _ _) _) _ _ _
  refine x_attr x h9 I (by kernel_rfl) fun s10 h10 => a_bound nb h10 g (C := C) (gd := gd) (fs := fs) (.there _ (.there _ V.ins)) (.there _ (.there _ V.idc)) (by cases K <;> kernel_rfl) (by cases K <;> (intro ts n; kernel_rfl)) fun q s11 h11 => ?_
  refine st_local (p := .ref q) h11.swap I rfl (by kernel_rfl) fun s12 h12 => ?_
  have h12 : Ok (BB w h₁ X os dr) G (fr (env0 L) [("get_children", .ref q), ("depth_limit", .int lim 0), ("nodes", .ref l)] (cv0 x .none) :: mo q nb x :: li l [.int 5 0] :: F) s12 := h12
  show Run _ _ _ _ ((execs (_ :: _) _).wrap _ _ _ _) _ _
  refine rn_cons (rn_stmt (x_asg (wpAny_Call_NameR (x_ev (.type "set") h12 I (by kernel_rfl) fun v s13 hv h13 => ?_))))
  rw [untok_type hv]
  refine PyProof.Rows.callWith_type0 (s_new h13 fun va s14 h14 => st_local (p := .ref va) h14.swap I rfl (by kernel_rfl) fun s15 h15 => ?_)
  have h16 : Ok (BB w h₁ X os dr) G (fr (env0 L) (vars0 lim q va [("nodes", .ref l)]) (cv0 x .none) :: se (BB w h₁ X os dr) va [] :: mo q nb x :: li l [.int 5 0] :: F) s15 := h15.sub (by kernel_rfl)
  show Run _ _ _ _ ((execs (_ :: _) _).wrap _ _ _ _) _ _
  refine rn_cons (rn_For (x_ref l h16 I (by kernel_rfl) fun s17 h17 => l_iter (ps := [.int 5 0]) h17 (by walk_at "has") fun it s18 h18 p1 => ?_))
  have h19 : Ok (BB w h₁ X os dr) G (fr (env0 L) (vars0 lim q va []) (cv0 x .none) :: lit it l [.int 5 0] [.int 5 0] :: se (BB w h₁ X os dr) va [] :: mo q nb x :: li l [.int 5 0] :: F) s18 := h18.swap.sub (vars' := vars0 lim q va []) (by kernel_rfl)
  refine rn_forLoop ((lit_iter l it [.int 5 0]).next h19 (by walk_at "rep") (by walk_at "has") fun v s19 hu h20 => ?_)
  obtain ⟨t, rfl⟩ := untok_int hu
  refine wpAny_assign_Name (st_local h20 I rfl (by kernel_rfl) fun s20 h21 => ?_)
  show Run _ _ _ _ ((execs (_ :: _) _).wrap _ _ _ _) _ _
  refine rn_cons (rn_If (wpAny_isTrue_Compare1 (x_int 5 h21 I (by kernel_rfl) fun t s21 h22 => x_ref va h22 I (by kernel_rfl) fun s22 h23 => s_in (xs := []) h23 (by walk_at "has") (by decide) fun s23 h24 => ?_) rfl))
  rw [show ([] : List Int).contains 5 = false from rfl]
  refine wpAny_truthy_bool (rn_nil ?_)
  refine rn_cons (rn_Yield rfl (x_tupleP [.int 5 0, .int 5 0, .str "forward" 0] h24 I (by kernel_rfl) fun a s24 h25 p gg ll k hg hkk => ?_))
  have h25 : Ok (BB w h₁ X os dr) G (tu a [.int 5 0, .int 5 0, .str "forward" 0] :: ([fr (env0 L) (vars0 lim q va [("start", .int 5 0)]) (cv0 x .none), lit it l [.int 5 0] [], se (BB w h₁ X os dr) va [], mo q nb x, li l [.int 5 0]] ++ F)) s24 := (h25.sub (vars' := vars0 lim q va [("start", .int 5 0)]) (by kernel_rfl)).swap
  refine ⟨?_, a, _, rfl, h25, fun G' F' s25 h26 w2 => hkk _ _ ?_⟩
  · show (!(gg || [F1 (env0 L) p1].any Frame.guarded)) = true
    rw [hg, guard_plain (fs := [F1 (env0 L) p1]) rfl]; rfl
  obtain ⟨hG2, hO2⟩ := hW F' w2
  have V2 : GView (BB w h₁ X os dr) F' x C gd fs na aa nodes en rows ea := gview_of hG2
  have h26 : Ok (BB w h₁ X os dr) G' (fr (env0 L) (vars0 lim q va [("start", .int 5 0)]) (cv0 x .none) :: lit it l [.int 5 0] [] :: se (BB w h₁ X os dr) va [] :: mo q nb x :: li l [.int 5 0] :: F') s25 := h26
  show Run _ _ _ _ ((execs (_ :: _) _).wrap _ _ _ _) _ _
  refine rn_cons (rn_stmt (wpAny_Expr_any (x_bm va [.int 5 0] h26 I (by kernel_rfl) (fun s' Q' h' k => m_set h' (xs := []) (by walk_at "has") PySem.F.slot_set_add PySem.F.type_set_add k) fun us s26 hus h27 => ?_)))
  obtain ⟨v1, rfl, hu1⟩ := args1 hus
  obtain ⟨t1, rfl⟩ := untok_int hu1
  refine s_add (xs := []) h27 (by walk_at "rep") rfl (by decide) fun s27 h28 => ?_
  show Run _ _ _ _ ((execs (_ :: _) _).wrap _ _ _ _) _ _
  refine rn_cons (rn_stmt (x_asg (x_list (G := G') ?_)))
  refine sp_cons (x_tuple (G := G') ?_)
  refine sp_cons (x_ev (.int 5 0) h28 I (by kernel_rfl) fun v2 s28 hv2 h29 => ?_)
  refine sp_cons (wpAny_Call_NameR (x_ref q h29 I (by kernel_rfl) fun s29 h30 => ?_))
  have FF : Fit (BB w h₁ X os dr) (A.over (c1 (env0 L) it) [F1 (env0 L) p1]) (d + 9) (u + 17) := over_fit (x := 1) (y := 3) Fi rfl (by kernel_rfl)
  have fr1 : (A.over (c1 (env0 L) it) [F1 (env0 L) p1]).frames = some (env0 L :: outer) := by
    have e : (A.over (c1 (env0 L) it) [F1 (env0 L) p1]).frames = pushEnvs (c1 (env0 L) it).envs (pushEnvs (envsOf ([F1 (env0 L) p1].map Frame.where_)) A.frames) := rfl
    rw [e, hfr]; rfl
  have hk0 : (env0 L).scope.kind ≠ .module := by
    have : (env0 L).scope.kind = .function := by kernel_rfl
    rw [this]; decide
  refine mo_call (us₀ := [.int 5 0]) h30 I (by walk_at "has") (by cases K <;> kernel_rfl) (by kernel_rfl) fun us s30 hus h31 => ?_
  obtain ⟨v3, rfl, hv3⟩ := args1 hus
  obtain ⟨t3, rfl⟩ := untok_int hv3
  refine g_miss (outer := env0 L :: outer) (d := d + 8) (u := u + 14) g K h31 V2.there.there.there.there.there FF (over_handled rfl hn) fr1 ?_ h5 fun e T kx Tk s31 h32 => ?_
  · refine (hO2.mono fun p hp => ?_).cons hk0 rfl (fr_mem (.here _ _))
    simp only [List.flatten_cons, List.mem_append]; exact .inr (.inr (.inr (.inr (.inr hp))))
  · exact out_ (Ds := [fr (env0 L) (vars0 lim q va [("start", .int 5 0)]) (cv0 x .none), lit it l [.int 5 0] [], se (BB w h₁ X os dr) va ([] ++ [5]), mo q nb x, li l [.int 5 0]]) hfr hO2 (.here _ _) h32
end
end Mine
namespace Mine
local macro_rules | `(tactic| walk_at "foc") => `(tactic| first | with_reducible exact Foc.here _ _ | (apply Foc.there; walk_at "foc"))
local macro_rules | `(tactic| walk_at "has") => `(tactic| first | with_reducible exact Has.here _ _ | assumption | (refine Has.there _ ?_; walk_at "has"))
local macro_rules | `(tactic| walk_at "rep") => `(tactic| first | with_reducible exact Rep.here _ _ _ | assumption | (apply Rep.there; walk_at "rep"))
local macro_rules | `(tactic| walk_at "perm") => `(tactic| first | with_reducible exact List.Perm.refl _ | (refine perm_step (by walk_at "foc") ?_; walk_at "perm"))
section
variable {b : Base} {G : Array GenState} {F cs : List Chunk} {s : Shared} {A : Around} {E : Value → Shared → Prop} {a S : Addr} {n d u : Nat}
theorem list_gen0 {Q : Value → Shared → Prop} (h : Ok b G cs s) (f : Has cs (go a n))
    (k : ∀ (S : Addr) {s' : Shared}, Ok b G (li S [] :: cs) s' → ∀ (R : Result → Shared → Prop), (∀ s'', Q (.ref S) s'' → R (.ok (.ret .none)) s'') → (∀ e s'', E e s'' → R (.error e) s'') → codeAny b.M A.in1 (.builtin "list.extend.loop" ⟨[.ref S, .ref a, .none], []⟩) R s') : wpAny b.M A (call (.type "list") [.ref a]) Q E s := by
  refine callType_codes (Q₁ := fun obj s₁ => obj = .ref s.heap.objs.size ∧ s₁ = { s with heap := s.heap.push { cls := .type "list", data := .seq #[] } }) PySem.F.called_list (PySem.F.typeCall_list_1 _) PySem.F.entry_list_init
    (code_list_new _ ⟨rfl, rfl⟩) fun obj s₁ h₁ => ?_
  obtain ⟨rfl, rfl⟩ := h₁
  have h1 : Ok b G (li s.heap.objs.size [] :: cs) { s with heap := s.heap.push { cls := .type "list", data := .seq #[] } } := l_new' (vs := []) (t := s.toks) h rfl
  have hT : ∀ {cs : List Chunk} {s : Shared} {G : Array GenState}, Ok b G cs s → Has cs (go a n) → s.TypeIs (.ref a) "generator" := by
    intro cs s G h f
    obtain ⟨o, e, nm, qn, hc, hd, hs⟩ := h.has f
    exact ⟨o, e, hc⟩
  revert h1
  generalize s.heap.objs.size = S
  generalize ({ s with heap := s.heap.push { cls := .type "list", data := .seq #[] } } : Shared) = s1
  intro h1
  obtain ⟨vs, m, e, q⟩ := h1.list (.here _ _)
  have hvs : vs = [] := List.map_eq_nil_iff.mp q
  subst hvs
  refine ⟨⟨_, e, rfl⟩, PySem.F.args_list_init_2 _ _, ?_⟩
  show wpAny _ A.in1.in1 (do let old ← Builtin.List.listItems (.ref S); Builtin.List.listUpdate (.ref S) (fun _ => #[]); letGo old.toList.reverse; Builtin.List.listExtendWith (.ref S) (.ref a) .none) _ _ s1
  refine wpAny_bind ?_
  unfold Builtin.List.listItems
  refine wpAny_bind (wpAny_seqItems e rfl (wpAny_pure ?_))
  show wpAny _ A.in1.in1 (updateSeq S (fun _ => #[]) >>= fun _ => letGo (#[] : Array Value).toList.reverse >>= fun _ => Builtin.List.listExtendWith (.ref S) (.ref a) .none) _ _ s1
  refine wpAny_bind (wpAny_updateSeq e rfl ?_)
  have h2 : Ok b G (li S [] :: cs) { s1 with heap := s1.heap.update S (Obj.mapSeq fun _ => #[]) } := h1.set (t := s1.toks) (Heap.SameBut.update ..) ⟨_, Heap.get?_update_self _ e rfl, [], m, by simp [Obj.mapSeq], rfl⟩
  revert h2
  generalize ({ s1 with heap := s1.heap.update S (Obj.mapSeq fun _ => #[]) } : Shared) = s2
  intro h2
  refine wpAny_bind (wpAny_letGo ?_)
  unfold Builtin.List.listExtendWith
  have hty := hT h2 (.there _ f)
  have hne : S ≠ a := Ok.ne h2 f
  refine wpAny_bind (wpAny_typeOf hty ?_)
  have e1 : Builtin.List.listSameRef (.ref S) (.ref a) = false := by simp [Builtin.List.listSameRef, hne]
  have e2 : (Value.type "generator" == Value.type "list") = false := by decide
  have e3 : (Value.type "generator" == Value.type "tuple") = false := by decide
  simp only [e1, e2, e3, Bool.or_false, Bool.false_eq_true, if_false]
  obtain ⟨og, eg, nm, qn, hc, hd, hs⟩ := h2.has (.there _ f)
  refine wpAny_bind (wpAny_pyIter_gen ⟨og, nm, qn, eg, hc, hd, hs⟩ ?_)
  refine wpAny_bind (wpAny_holding ?_)
  unfold Builtin.List.listLengthHint
  refine wpAny_bind (wpAny_specialOf hty PySem.F.gen_no_len ?_)
  show wpAny _ A.in1.in1 (specialOf (Value.ref a) (Str.ofString "__length_hint__") >>= _) _ _ _
  refine wpAny_bind (wpAny_specialOf hty PySem.F.gen_no_hint ?_)
  refine wpAny_pure ?_
  show wpAny _ A.in1.in1 (rule "list.extend.makes-room" >>= fun _ => Builtin.List.listTouch (.ref S) >>= fun _ =>
    again (.builtin "list.extend.loop" ⟨[.ref S, .ref a, .none], []⟩)) _ _ _
  refine wpAny_bind (wpAny_rule ?_)
  obtain ⟨vs, m, e, q⟩ := h2.list (.here _ _)
  have hvs : vs = [] := List.map_eq_nil_iff.mp q
  subst hvs
  refine wpAny_bind ?_
  show wpAny _ A.in1.in1 (updateSeq S (·.push .none) >>= fun _ => updateSeq S (·.pop)) _ _ _
  refine wpAny_bind (wpAny_updateSeq e rfl ?_)
  have h3 : Ok b G (li S [.none] :: cs) { s2 with heap := s2.heap.update S (Obj.mapSeq (·.push .none)) } := h2.set (t := s2.toks) (Heap.SameBut.update ..) ⟨_, Heap.get?_update_self _ e rfl, [.none], m + 1, by simp [Obj.mapSeq], rfl⟩
  revert h3
  generalize ({ s2 with heap := s2.heap.update S (Obj.mapSeq (·.push .none)) } : Shared) = s3
  intro h3
  obtain ⟨vs, m, e, q⟩ := h3.list (.here _ _)
  obtain ⟨v0, rfl, hv0⟩ := args1 q
  refine wpAny_updateSeq (hz := by show 1 ≤ sizeLine; decide) (_hz' := by show 0 ≤ sizeLine + 1; decide) e rfl ?_
  have h4 : Ok b G (li S [] :: cs) { s3 with heap := s3.heap.update S (Obj.mapSeq (·.pop)) } := h3.set (t := s3.toks) (Heap.SameBut.update ..) ⟨_, Heap.get?_update_self _ e rfl, [], m + 1, by simp [Obj.mapSeq], rfl⟩
  refine wpAny_pure ⟨plainId_quiet PySem.F.plain_extend_loop _, ?_⟩
  exact k _ h4 _ (fun s'' hq => ⟨rfl, hq⟩) (fun e s'' he => he)
end
section
variable {w : World} {h₁ : Heap} {X : List Addr} {os : OsState} {dr : Drawn} {G G0 : Array GenState} {cs F Ds : List Chunk} {s : Shared} {A : Around} {E : Value → Shared → Prop} {a : Addr} {n d u : Nat} {gs : GenState} {W : List Chunk → Prop} {t : List Value}
theorem once_next {Q : Option Value → Shared → Prop} (h : Ok (BB w h₁ X os dr) G (Ds ++ F) s) (g : (BB w h₁ X os dr).Good) (Fi : Fit (BB w h₁ X os dr) A (d + 1) u) (f : Has F (go a n)) (hgs : G[n]? = some gs) (w' : W F) (S : Once (BB w h₁ X os dr) A.in1 W t Ds gs)
    (k : ∀ a' Ds' gs' s', Ok (BB w h₁ X os dr) (G.setIfInBounds n gs') (tu a' t :: (Ds' ++ F)) s' → Fail (BB w h₁ X os dr) A.in1 W Ds' gs' → Q (some (.ref a')) s') : wpAny (BB w h₁ X os dr).M A (pyNext (.ref a)) Q E s := by
  obtain ⟨o, e, nm, qn, h1, h2, h3⟩ := h.has (.app_right f)
  have hG : s.gens[n]? = some gs := by rw [h.gens]; exact hgs
  have hr : Ok (BB w h₁ X os dr) (G.setIfInBounds n .running) (Ds ++ F) (s.setGen n .running) := ⟨h.st, by show (s.gens.setIfInBounds n .running) = _; rw [h.gens], h.os, h.drawn⟩
  refine next_run (h.nolimit g) Fi.room ⟨o, nm, qn, e, h1, h2, h3⟩ hG (S _ F _ hr w') fun e s₁ ⟨hq, a', Ds', hv, h', S'⟩ => ⟨hq, .inl ⟨_, hv, k a' Ds' _ _ ⟨h'.st, ?_, h'.os, h'.drawn⟩ S'⟩⟩
  show s₁.gens.setIfInBounds n _ = _
  rw [h'.gens, Array.setIfInBounds_setIfInBounds]
theorem list_raise {Q : Value → Shared → Prop} (h : Ok (BB w h₁ X os dr) (G0.push gs) (Ds ++ F) s) (g : (BB w h₁ X os dr).Good) (Fi : Fit (BB w h₁ X os dr) A (d + 4) (u + 6)) (hn : n = G0.size) (f : Has F (go a n)) (w' : W F) (hWm : ∀ c F, W F → W (c :: F)) (S : Once (BB w h₁ X os dr) A.in1.in1.in1 W t Ds gs)
    (k : ∀ e T kx Tk Z s', Ok (BB w h₁ X os dr) (G0.push .finished) (twoC e T kx Tk ++ (Z ++ F)) s' → E (.ref e) s') : wpAny (BB w h₁ X os dr).M A (call (.type "list") [.ref a]) Q E s := by
  subst hn
  refine list_gen0 h (.app_right f) fun l s1 h1 R hR hE => ?_
  have F2 : Fit (BB w h₁ X os dr) A.in1.in1 (d + 1) u := Fit.in1 (Fit.in1 (Fi.mono (by omega) (by omega)))
  refine codeAny_builtin PySem.F.entry_extend_loop ?_
  rw [Around.under_plainId PySem.F.plain_extend_loop _]
  show wpAny _ A.in1.in1 (pyNext (.ref a) >>= _) _ _ s1
  have h2 : Ok (BB w h₁ X os dr) (G0.push gs) (Ds ++ (li l [] :: F)) s1 := h1.perm List.perm_middle.symm
  refine wpAny_bind (once_next (d := d) (u := u) h2 g F2 (.there _ f) (by simp) (hWm _ _ w') S fun a' Ds' gs' s3 h3 S3 => ?_)
  rw [push_set] at h3
  have h4 : Ok (BB w h₁ X os dr) (G0.push gs') (li l [] :: tu a' t :: (Ds' ++ F)) s3 := h3.perm ((List.Perm.cons _ List.perm_middle).trans (List.Perm.swap _ _ _))
  refine li_push h4 (Nat.zero_le _) fun s5 h5 => ?_
  refine codeAny_builtin PySem.F.entry_extend_loop ?_
  rw [Around.under_plainId PySem.F.plain_extend_loop _]
  show wpAny _ A.in1.in1 (pyNext (.ref a) >>= _) _ _ s5
  have h6 : Ok (BB w h₁ X os dr) (G0.push gs') (Ds' ++ (li l ([] ++ [.ref a']) :: tu a' t :: F)) s5 := h5.perm ((List.Perm.cons _ List.perm_middle.symm).trans List.perm_middle.symm)
  refine wpAny_bind (fail_next (d := d) (u := u) h6 g F2 (.there _ (.there _ f)) (by simp) (hWm _ _ (hWm _ _ w')) S3 fun e T kx Tk Z s7 h7 => hE _ _ (k e T kx Tk (Z ++ [li l ([] ++ [.ref a']), tu a' t]) s7 ?_))
  rw [push_set] at h7
  have e1 : (Z ++ [li l ([] ++ [.ref a']), tu a' t]) ++ F = Z ++ (li l ([] ++ [.ref a']) :: tu a' t :: F) := by simp
  rw [e1]; exact h7
theorem lab_raise (g : (BB w h₁ X os dr).Good) {x gd na aa C nb : Addr} {fs : List (Str × Addr)} {nodes : List (Int × Addr)} {rows : List Row} {en ea : Nat} {outer : List Env} {us : List Value} {v1 : Value} {Q : Value → Shared → Prop} (K : Kd na aa C fs nb) (h5 : (5 : Int) ∉ rows.map (·.key)) (hz : nodes.length ≤ 1000)
    (hb : peek (BB w h₁ X os dr).K ⟨(BB w h₁ X os dr).prog, (BB w h₁ X os dr).w.params⟩ (bindArgs fd_dfs ⟨us, []⟩) = some [(("G" : Str), Value.ref x), (("source" : Str), v1), (("depth_limit" : Str), .none), (("sort_neighbors" : Str), .none)]) (hv1 : untok v1 = .int 5 0)
    (Fi : Fit (BB w h₁ X os dr) A (d + 20) (u + 40)) (hn : A.handled = none) (hfr : A.frames = some outer) (hF : FrOk F outer) (h : Ok (BB w h₁ X os dr) G F s) (hWF : HasAll (grW (BB w h₁ X os dr) x C gd fs na aa nodes en rows ea) F)
    (k : ∀ e T kx Tk Z s', Ok (BB w h₁ X os dr) (G.push .finished) (twoC e T kx Tk ++ (Z ++ F)) s' → E (.ref e) s') : wpAny (BB w h₁ X os dr).M A (call (.ref A_dfs) us []) (fun v s₁ => wpAny (BB w h₁ X os dr).M A (call (.type "list") [v]) Q E s₁) E s := by
  refine dfs_call (src := some 5) (dl := none) (sn := .none) g v1 .none .none h Fi hb hv1 rfl rfl fun ga L s1 h1 => ?_
  have h2 : Ok (BB w h₁ X os dr) (G.push (.fresh (.func DB (env0 L)))) ([fr (env0 L) [("source", .int 5 0), ("depth_limit", .none)] (cv0 x .none)] ++ (go ga G.size :: F)) s1 := h1.swap
  have O := dfs_once (L := L) (A := A.in1.in1.in1) (outer := outer) (d := d) (u := u) (W := fun F' => HasAll (go ga G.size :: grW (BB w h₁ X os dr) x C gd fs na aa nodes en rows ea) F' ∧ FrOk F' outer) g K h5 hz (Fit.in1 (Fit.in1 (Fit.in1 (Fi.mono (by omega) (by omega))))) hn hfr fun F' ⟨h1, h2⟩ => ⟨fun c hc => h1 c (List.mem_cons_of_mem _ hc), h2⟩
  refine list_raise (d := d) (u := u) h2 g (Fi.mono (by omega) (by omega)) rfl (.here _ _) ⟨fun c hc => ?_, hF.there⟩ (fun c F' ⟨h1, h2⟩ => ⟨h1.there, h2.there⟩) O fun e T kx Tk Z s' h3 => k e T kx Tk (Z ++ [go ga G.size]) s' ?_
  · rcases List.mem_cons.mp hc with rfl | hc
    · exact .here _ _
    · exact .there _ (hWF c hc)
  · have e1 : (Z ++ [go ga G.size]) ++ F = Z ++ (go ga G.size :: F) := by simp
    rw [e1]; exact h3
end
end Mine
namespace Mine
local macro_rules | `(tactic| walk_at "foc") => `(tactic| first | with_reducible exact Foc.here _ _ | (apply Foc.there; walk_at "foc"))
local macro_rules | `(tactic| walk_at "has") => `(tactic| first | with_reducible exact Has.here _ _ | assumption | (refine Has.there _ ?_; walk_at "has"))
local macro_rules | `(tactic| walk_at "rep") => `(tactic| first | with_reducible exact Rep.here _ _ _ | assumption | (apply Rep.there; walk_at "rep"))
local macro_rules | `(tactic| walk_at "perm") => `(tactic| first | with_reducible exact List.Perm.refl _ | (refine perm_step (by walk_at "foc") ?_; walk_at "perm"))
def tryH : Stmt → List Stmt
  | .Try _ (.ExceptHandler _ _ b _ :: _) _ _ _ => b
  | _ => []
section
variable {w : World} {h₁ : Heap} {X : List Addr} {os : OsState} {dr : Drawn} {G : Array GenState} {cs cs' F T : List Chunk} {s : Shared} {A : Around} {E : Value → Shared → Prop} {d u : Nat} {g1 : GS} {dir : Bool} {L S NL R : Addr} {n ep : Nat} {lm : Int} {nms : List Int} {ls : List LRow}
theorem law_e (g : (BB w h₁ X os dr).Good) {Q : Flow → Shared → Prop} (Fi : Fit (BB w h₁ X os dr) A (d + 100) (u + 200)) (hn : A.handled = none) (hfr : A.frames = some [LE L]) (H : T3 w h₁ X os dr dir g1 NL R ep n nms ls T) (h5 : (5 : Int) ∉ nms)
    (h : Ok (BB w h₁ X os dr) G (fr (LE L) (varsL S g1.x NL R n lm dir) [] :: ct T_post #[] :: T) s)
    (k : ∀ (e kx T' : Addr) (Tk : Value) (Z : List Chunk) (s' : Shared) (Q' : Flow → Shared → Prop) (E' : Value → Shared → Prop), Ok (BB w h₁ X os dr) (G.push .finished) (twoC e T' kx Tk ++ (Z ++ (fr (LE L) (varsL S g1.x NL R n lm dir) [] :: ct T_post #[] :: T))) s' → (∀ v s', Q (.ret v) s' → Q' (.ret v) s') →
      wpAny (BB w h₁ X os dr).M (A.mark (some (.ref e))) (execs (tryH (LB.getD 9 stPass)) (LE L)) Q' E' s') : wpAny (BB w h₁ X os dr).M A (execs (LB.drop 9) (LE L)) Q E s := by
  have I := (D_law g).inEnv g L
  have hf : (LE L).frame = some (LE L).locals := rfl
  have hk : (LE L).scope.kind ≠ .module := by
    have : (LE L).scope.kind = .function := by kernel_rfl
    rw [this]; decide
  have hkeys : g1.rows.map (·.key) = nms := by rw [← abs_keys, H.t.abs, H.kk]
  obtain ⟨rs1, m1, K1, W1, z1, ss1, hc1, hk1⟩ := H.walk g none none (fun m e => by cases e)
  have hz : g1.nodes.length ≤ 1000 := by
    have := congrArg List.length hk1
    rw [List.length_map, H.len] at this
    have := H.n6; omega
  show wpAny _ _ (execs (_ :: _) _) _ _ _
  refine x_cons (wpAny_Try_except ?_)
  refine x_cons (wpAny_Expr_any (wpAny_Call_NameR (x_ev (.type "list") h I (by kernel_rfl) fun v7 s7 hv7 h7 => ?_)))
  rw [untok_type hv7]
  refine PyProof.Rows.callWith_type1 (sp_cons (x_callf [.ref g1.x, .int 5 0] h7 I (D_dfs g) (by kernel_rfl) fun us s8 hus h8 => ?_))
  obtain ⟨v1, v2, rfl, e1, e2⟩ := args2 hus
  rw [untok_ref e1]
  refine wpAny_mono ?_ (fun v s₁ hv => sp_nil hv) fun _ _ e => e
  refine lab_raise (outer := [LE L]) (d := d) (u := u) g (kdX (dir := dir) (g0 := g1)) (by rw [hkeys]; exact h5) hz (by kernel_rfl) e2 (Fi.mono (by omega) (by omega)) hn hfr (FrOk.nil.cons hk hf (fr_mem (.here _ _))) h8 (fun c hc => .there _ (.there _ (H.hg c (hasX c hc)))) fun e T1 kx Tk Z s9 h9 => ?_
  have h9 : Ok (BB w h₁ X os dr) (G.push .finished) (tbc T1 .none :: xo e (.ref 218) (.ref T1) (.ref kx) :: xo kx (.type "KeyError") Tk .none :: (Z ++ (fr (LE L) (varsL S g1.x NL R n lm dir) [] :: ct T_post #[] :: T))) s9 := h9
  refine note_next h9 (by simp [rawInt]) hfr (FrOk.nil.cons hk hf (fr_mem (.there _ (.app_right (.here _ _))))) hf fun T2 s10 h10 => flight0 h10 fun s11 h11 => ?_
  have p1 : (tbc T2 .none :: xo e (.ref 218) (.ref T2) (.ref kx) :: xo kx (.type "KeyError") Tk .none :: (Z ++ (fr (LE L) (varsL S g1.x NL R n lm dir) [] :: ct T_post #[] :: T))).Perm (fr (LE L) (varsL S g1.x NL R n lm dir) [] :: tbc T2 .none :: xo e (.ref 218) (.ref T2) (.ref kx) :: xo kx (.type "KeyError") Tk .none :: (Z ++ (ct T_post #[] :: T))) := by
    have := List.perm_middle (a := fr (LE L) (varsL S g1.x NL R n lm dir) []) (l₁ := tbc T2 .none :: xo e (.ref 218) (.ref T2) (.ref kx) :: xo kx (.type "KeyError") Tk .none :: Z) (l₂ := ct T_post #[] :: T)
    exact this
  refine wpAny_handleBy_cons (codeAny_handlers_test (x_ref 218 (h11.perm p1) I (by kernel_rfl) fun s12 h12 => ?_)) (by intro q; cases q)
  have h13 := h12.perm p1.symm
  obtain ⟨nm, qn, N, bs, hdct, sn, sub, ab, col, dd, k0, k1, k2, k3, k5, mN, hC, hN, hni, TT⟩ := own_obj h13 g
  obtain ⟨oe, he, hc, -⟩ := h13.has (.there _ (.here _ _))
  have fin : ∀ (Q' : Flow → Shared → Prop) (E1 E2 : Value → Shared → Prop), (∀ v s', Q (.ret v) s' → Q' (.ret v) s') → wpAny (BB w h₁ X os dr).M (A.mark (some (.ref e))) (setFlight (.ref e) none) (fun _ s₁ => wpAny (BB w h₁ X os dr).M (A.mark (some (.ref e))) (execs (tryH (LB.getD 9 stPass)) (LE L)) Q' E1 s₁) E2 s12 := fun Q' E1 E2 hq =>
    flight0 h13 fun s14 h14 => k e kx T2 Tk Z s14 Q' E1 h14 hq
  clear h13 h12 h11 h10 h9
  obtain ⟨hp, gg, dd2, tk, oo⟩ := s12
  refine wpAny_excMatches_sub_self hC he hc (by decide) (codeAny_handlers_suite ?_)
  exact fin _ _ _ fun v s' hq => hq
end
end Mine
namespace Mine
local macro_rules | `(tactic| walk_at "foc") => `(tactic| first | with_reducible exact Foc.here _ _ | (apply Foc.there; walk_at "foc"))
local macro_rules | `(tactic| walk_at "has") => `(tactic| first | with_reducible exact Has.here _ _ | assumption | (refine Has.there _ ?_; walk_at "has"))
local macro_rules | `(tactic| walk_at "rep") => `(tactic| first | with_reducible exact Rep.here _ _ _ | assumption | (apply Rep.there; walk_at "rep"))
local macro_rules | `(tactic| walk_at "perm") => `(tactic| first | with_reducible exact List.Perm.refl _ | (refine perm_step (by walk_at "foc") ?_; walk_at "perm"))
section
variable {w : World} {h₁ : Heap} {X : List Addr} {os : OsState} {dr : Drawn} {G : Array GenState} {cs cs' F T : List Chunk} {s : Shared} {A : Around} {E : Value → Shared → Prop} {d u : Nat} {g1 : GS} {dir : Bool} {L S NL R : Addr} {n ep : Nat} {lm : Int} {nms : List Int} {ls : List LRow}
theorem law_f (g : (BB w h₁ X os dr).Good) {Q : Flow → Shared → Prop} (Fi : Fit (BB w h₁ X os dr) A (d + 100) (u + 200)) (H : T3 w h₁ X os dr dir g1 NL R ep n nms ls T) (hG : AllFin G)
    (h : Ok (BB w h₁ X os dr) G (fr (LE L) (varsL S g1.x NL R n lm dir) [] :: ct T_post #[] :: T) s)
    (k : ∀ G' cs' s', AllFin G' → Has cs' (ct T_post #[]) → (∀ c, Has T c → Has cs' c) → Ok (BB w h₁ X os dr) G' cs' s' → Q (.ret (.bool true)) s') : wpAny (BB w h₁ X os dr).M A (execs (tryH (LB.getD 9 stPass)) (LE L)) Q E s := by
  have I := (D_law g).inEnv g L
  have n6 := H.n6
  have n0 := H.n0
  obtain ⟨rs1, m1, K1, W1, z1, ss1, hc1, hk1⟩ := H.walk g none none (fun m e => by cases e)
  rw [H.lim hk1] at W1
  have hst : startsOf g1.nodes none = nms := hk1
  rw [hst] at W1 ss1
  have RO := H.rows hc1
  show wpAny _ _ (execs (_ :: _) _) _ _ _
  refine x_cons (wpAny_Return_some (wpAny_Compare1 (x_post (d := d) (u := u) g K1 h I (by kernel_rfl) bindp1 (Fi.mono (by omega) (by omega)) hG H.hg fun S3 G3 s10 hG3 h10 => ?_) rfl))
  refine wpAny_Call_NameR (x_ref A_law_done h10 I (by kernel_rfl) fun s4 h4 => cw_def (D_law_done g) (sp_cons (x_callf [.ref R, .ref NL, .int n 0] h4 I (D_law_whole g) (by kernel_rfl) fun us s5 hus h5 => ?_)))
  refine whole_ (k := n - 1) (d := d) (u := u) g RO hc1 (by rw [H.len]; omega) z1 ss1 W1 (Fi.mono (by omega) (by omega)) h5 H.all.there.there.there (.there _ (.there _ (.there _ H.hn))) hus fun S1 v1 c1 s6 I1 h6 => ?_
  refine sp_nil ⟨⟨_, _, h6⟩, ?_⟩
  refine done_ (d := d) (u := u) g (Fi.mono (by omega) (by omega)) h6 (.here _ _) I1 (fun c hc => .there _ (hasAll_rev c hc)) z1 fun D3 s12 h12 => ?_
  refine c_eq_ints (xs := revs rs1) (ys := revs rs1) h12 (.there _ (.there _ (.app_right (.there _ (.there _ (.here _ _)))))) (.here _ _) Fi.line ?_
  rw [beq_self_eq_true]
  exact k G3 _ s12 hG3 (.there _ (.there _ (.app_right (.there _ (.here _ _))))) (fun c hc => .there _ (.there _ (.app_right (.there _ (.there _ (.there _ hc)))))) h12
def adrs (cs : List Chunk) : List Addr := cs.flatten.map (·.1)
theorem adr_not {a : Addr} (h : Ok (BB w h₁ X os dr) G cs s) (hX : a ∉ X) (hs : ∃ o, h₁.get? a = some o) : a ∉ adrs cs := fun hm => by
  obtain ⟨p, hp, e⟩ := List.mem_map.mp hm
  obtain ⟨o, ho⟩ := hs
  have e : p.1 = a := e
  rcases h.st.off p hp with q | q
  · rw [e] at q; exact hX q
  · rw [e] at q
    have q : h₁.get? a = none := q
    rw [q] at ho; cases ho
theorem good_now (h : Ok (BB w h₁ X os dr) G cs s) (g : (BB w h₁ X os dr).Good) : (BB w s.heap (adrs cs) os dr).Good where
  gl := fun x v e => by
    obtain ⟨h1, mg, mb, N1, N2, q⟩ := g.gl x v e
    exact ⟨h1, mg, mb, h.ns g.Xg N1, h.ns g.Xb N2, q⟩
  Xg := by
    obtain ⟨mg, hmg⟩ : ∃ mg, h₁.Ns mainGlobals mg := by
      obtain ⟨h1, mg, mb, N1, N2, q⟩ := g.gl "NetworkXError" (.ref 218) (by kernel_rfl)
      exact ⟨mg, N1⟩
    obtain ⟨o, es, ep, ho, -⟩ := hmg
    exact adr_not h g.Xg ⟨o, ho⟩
  Xb := by
    obtain ⟨mb, hmb⟩ : ∃ mb, h₁.Ns builtinsNs mb := by
      obtain ⟨h1, mg, mb, N1, N2, q⟩ := g.gl "NetworkXError" (.ref 218) (by kernel_rfl)
      exact ⟨mb, N2⟩
    obtain ⟨o, es, ep, ho, -⟩ := hmb
    exact adr_not h g.Xb ⟨o, ho⟩
  Xs := by
    obtain ⟨mc, ⟨o, es, ep, ho, -⟩, -⟩ := g.nolimit
    exact adr_not h g.Xs ⟨o, ho⟩
  nolimit := h.nolimit g
  kin := h.kin g
  Xk := by
    intro a ha
    show (KX w).lookup a = none
    cases q : (KX w).lookup a with
    | none => rfl
    | some o =>
      have h1 : h₁.get? a = some o := g.kin a o q
      have hX : a ∉ X := fun hm => by
        have := g.Xk a hm
        have this : (KX w).lookup a = none := this
        rw [this] at q; cases q
      exact absurd ha (adr_not h hX ⟨o, h1⟩)
  low := by
    obtain ⟨⟨o, ho⟩, hX⟩ := g.low
    exact ⟨⟨o, h.old hX ho⟩, adr_not h hX ⟨o, ho⟩⟩
theorem ok_now (h : Ok (BB w h₁ X os dr) G cs s) : Ok (BB w s.heap (adrs cs) os dr) G cs s :=
  ⟨⟨fun x o _ e => e, fun p hp => .inl (List.mem_map_of_mem hp), h.st.nodup, h.st.at_⟩, h.gens, h.os, h.drawn⟩
theorem ok_back {s' : Shared} {G' : Array GenState} (h : Ok (BB w h₁ X os dr) G cs s) (h' : Ok (BB w s.heap (adrs cs) os dr) G' cs' s') : Ok (BB w h₁ X os dr) G' cs' s' := by
  have key : ∀ a, a ∉ X → ∀ o, h₁.get? a = some o → s.heap.get? a = some o ∧ a ∉ adrs cs := fun a hX o ho => ⟨h.st.old a o hX ho, adr_not h hX ⟨o, ho⟩⟩
  refine ⟨⟨fun x o hx ho => ?_, fun p hp => ?_, h'.st.nodup, h'.st.at_⟩, h'.gens, h'.os, h'.drawn⟩
  · obtain ⟨h1, h2⟩ := key x hx o ho
    exact h'.st.old x o h2 h1
  · by_cases hX : p.1 ∈ X
    · exact .inl hX
    · right
      show h₁.get? p.1 = none
      cases q : h₁.get? p.1 with
      | none => rfl
      | some o =>
        obtain ⟨h1, h2⟩ := key p.1 hX o q
        rcases h'.st.off p hp with r | r
        · exact absurd r h2
        · have r : s.heap.get? p.1 = none := r
          rw [r] at h1; cases h1
theorem hh_now {e k T : Addr} {Tk : Value} (h : Ok (BB w h₁ X os dr) G (twoC e T k Tk ++ cs) s) : HH (BB w s.heap (adrs cs) os dr) (A.mark (some (.ref e))) := by
  have h : Ok (BB w h₁ X os dr) G (tbc T .none :: xo e (.ref 218) (.ref T) (.ref k) :: xo k (.type "KeyError") Tk .none :: cs) s := h
  have nd := h.st.nodup
  have e0 : (tbc T .none :: xo e (.ref 218) (.ref T) (.ref k) :: xo k (.type "KeyError") Tk .none :: cs).flatten.map (·.1) = T :: e :: k :: adrs cs := by simp [tbc, xo, pt, adrs]
  rw [e0] at nd
  simp only [List.nodup_cons, List.mem_cons, not_or] at nd
  obtain ⟨-, ⟨n1, n2⟩, n3, -⟩ := nd
  obtain ⟨oe, he, hc, vs, hd, hz, v1, v2⟩ := h.has (.there _ (.here _ _))
  obtain ⟨ok, hk, hc', vs', hd', hz', v1', v2'⟩ := h.has (.there _ (.there _ (.here _ _)))
  exact .inr ⟨e, k, rfl, n2, n3, ⟨⟨oe, vs, he, hd, v2⟩, ⟨ok, vs', hk, hd', v2'⟩, fun q => n1 q.symm⟩⟩
end
end Mine
namespace Mine
local macro_rules | `(tactic| walk_at "foc") => `(tactic| first | with_reducible exact Foc.here _ _ | (apply Foc.there; walk_at "foc"))
local macro_rules | `(tactic| walk_at "has") => `(tactic| first | with_reducible exact Has.here _ _ | assumption | (refine Has.there _ ?_; walk_at "has"))
local macro_rules | `(tactic| walk_at "rep") => `(tactic| first | with_reducible exact Rep.here _ _ _ | assumption | (apply Rep.there; walk_at "rep"))
local macro_rules | `(tactic| walk_at "perm") => `(tactic| first | with_reducible exact List.Perm.refl _ | (refine perm_step (by walk_at "foc") ?_; walk_at "perm"))
def tabN (P : Addr) : Chunk := pt P fun o => o = tabObj #[]
def TabIn (cs : List Chunk) (T : Addr) : Prop := ∃ p ∈ cs.flatten, p.1 = T ∧ ∀ o, p.2 o → ∃ ps, o = tabObj ps
theorem tabIn_ct {cs : List Chunk} {P : Addr} {ps : Array Value} (h : Has cs (ct P ps)) : TabIn cs P := ⟨_, h.mem (p := (P, ctP ps)) (by simp [ct, pt]), rfl, fun o ⟨more, e, _⟩ => ⟨_, e⟩⟩
theorem tabIn_n {cs : List Chunk} {P : Addr} (h : Has cs (tabN P)) : TabIn cs P := ⟨_, h.mem (p := (P, fun o => o = tabObj #[])) (by simp [tabN, pt]), rfl, fun o e => ⟨_, e⟩⟩
section
variable {w : World} {h₁ : Heap} {X : List Addr} {os : OsState} {dr : Drawn} {G : Array GenState} {cs cs' r F T : List Chunk} {s : Shared} {A : Around} {E : Value → Shared → Prop} {d u : Nat} {L : Addr}
theorem law_ok (g : (BB w h₁ X os dr).Good) {l : Addr} {vs : List Value} {xs : List Int} (hl : h₁.IsList l vs.toArray) (hX : l ∉ X) (hx : vs.map untok = intL xs) (hz : xs.length ≤ 1000) (Fi : Fit (BB w h₁ X os dr) A (d + 200) (u + 400)) (hn : A.handled = none) (hfr : A.frames = some []) (h : Ok (BB w h₁ X os dr) #[] [ct T_post #[], tabN T_dfs] s)
    {Q : Value → Shared → Prop} (k : ∀ G' cs' s', AllFin G' → TabIn cs' T_post → TabIn cs' T_dfs → Ok (BB w h₁ X os dr) G' cs' s' → Q (.bool true) s') : wpAny (BB w h₁ X os dr).M A (call (.ref A_law) [.ref l]) Q E s := by
  have D := D_law g
  refine call_code (code_fnA (d := d + 199) (u := u + 397) [("script", .ref l)] [("script", .ref l)] [] h g (Fi.mono (by omega) (by omega)) D (by kernel_rfl) (by kernel_rfl) (by intro z; kernel_rfl) (by intro z; kernel_rfl) (fun _ => ⟨rfl, List.nodup_nil⟩) fun L s1 F' h1 => ?_)
  refine law_a (d := d) (u := u) g hl hX hx hz (F'.mono (by omega) (by omega)) h1 fun S LF NL R z ep n dir g0 s2 hv hn0 hn6 t0 h2 => ?_
  refine law_b (d := d) (u := u) g (F'.mono (by omega) (by omega)) hv hn0 hn6 t0 h2 fun z ep nms ls g1 s3 hv hp hls t1 h3 => ?_
  have nd : nms.Nodup := hp.nodup_iff.mpr (nine_nodup n)
  have hlen : nms.length = n := hp.length_eq.trans (nine_len n)
  have h0 : (0 : Int) ∈ nms := hp.mem_iff.mpr (List.mem_map.mpr ⟨0, List.mem_range.mpr hn0, rfl⟩)
  have h5 : (5 : Int) ∉ nms := fun hm => by
    obtain ⟨i, hi, e⟩ := nine_mem (hp.mem_iff.mp hm)
    omega
  refine law_c (d := d) (u := u) g (F'.mono (by omega) (by omega)) hv nd hlen hn0 hn6 t1 hls h3 fun g1 ls lm s4 hl0 hl4 t2 hkk hcl h4 => ?_
  clear h3 h2 h1 hls t1
  obtain ⟨T, hT⟩ : ∃ T : List Chunk, T = li NL (intL nms) :: di (BB w h₁ X os dr) R (lrK ls) ep :: (lrC ls ++ (gX (BB w h₁ X os dr) dir g1 ++ [tabN T_dfs])) := ⟨_, rfl⟩
  have h6 : Ok (BB w h₁ X os dr) #[] (fr (LE L) (varsL S g1.x NL R n lm dir) [] :: ct T_post #[] :: T) s4 := by
    rw [hT]
    refine h4.perm (List.Perm.cons _ ?_)
    have p1 : (lrC ls ++ (gX (BB w h₁ X os dr) dir g1 ++ [ct T_post #[], tabN T_dfs])).Perm (ct T_post #[] :: (lrC ls ++ (gX (BB w h₁ X os dr) dir g1 ++ [tabN T_dfs]))) :=
      (List.Perm.append_left _ (back1 (gX (BB w h₁ X os dr) dir g1) (ct T_post #[]) [tabN T_dfs])).trans (back1 (lrC ls) (ct T_post #[]) _)
    refine ((p1.cons (di (BB w h₁ X os dr) R (lrK ls) ep)).cons (li NL (intL nms))).trans ?_
    exact (by walk_at "perm")
  clear h4
  have H : T3 w h₁ X os dr dir g1 NL R ep n nms ls T := by
    rw [hT]
    exact ⟨nd, hlen, hn0, hn6, t2, hkk, hcl, fun c hc => .there _ (.there _ (.app_right (.app_left hc))), .here _ _, .there _ (.here _ _), fun r hr => .there _ (.there _ (lr_has hr))⟩
  have hTab : Has T (tabN T_dfs) := by rw [hT]; exact .there _ (.there _ (.app_right (.app_right (.here _ _))))
  clear hT
  refine law_d (d := d) (u := u) g (F'.mono (by omega) (by omega)) H (fun x hx => by simp at hx) h0 h6 fun G1 s5 hG1 h7 => ?_
  refine law_e (d := d) (u := u) g (F'.mono (by omega) (by omega)) hn (Around.frames_deeper hfr) H h5 h7 fun e kx T' Tk Z s7 Q' E' h8 hq => ?_
  have h9 : Ok (BB w h₁ X os dr) (G1.push .finished) (Z ++ (fr (LE L) (varsL S g1.x NL R n lm dir) [] :: ct T_post #[] :: T)) s7 := by
    have h8' : Ok (BB w h₁ X os dr) (G1.push .finished) (tbc T' .none :: xo e (.ref 218) (.ref T') (.ref kx) :: xo kx (.type "KeyError") Tk .none :: (Z ++ (fr (LE L) (varsL S g1.x NL R n lm dir) [] :: ct T_post #[] :: T))) s7 := h8
    exact h8'.drop.drop.drop
  have hh := hh_now (A := A.deeper (LE L)) h8
  have hd1 : (A.deeper (LE L)).depth + (d + 199) < recursionLimit := F'.depth
  have hu1 : (A.deeper (LE L)).units + (u + 397) < cLine := F'.units
  have p2 : (Z ++ (fr (LE L) (varsL S g1.x NL R n lm dir) [] :: ct T_post #[] :: T)).Perm (fr (LE L) (varsL S g1.x NL R n lm dir) [] :: ct T_post #[] :: (Z ++ T)) := List.perm_middle.trans (List.Perm.cons _ List.perm_middle)
  refine law_f (ls := ls) (nms := nms) (ep := ep) (w := w) (h₁ := s7.heap) (X := adrs (Z ++ (fr (LE L) (varsL S g1.x NL R n lm dir) [] :: ct T_post #[] :: T))) (os := os) (dr := dr) (T := Z ++ T) (d := d) (u := u) (good_now h9 g) ⟨hh, ?_, ?_⟩ ?_ hG1.push ((ok_now h9).perm p2) fun G3 cs3 s8 hG3 c1 c2 h10 => hq _ _ ?_
  · show (A.deeper (LE L)).depth + (d + 100) < recursionLimit
    omega
  · show (A.deeper (LE L)).units + (u + 200) < cLine
    omega
  · exact ⟨H.nd, H.len, H.n0, H.n6, H.t, H.kk, H.cl, fun c hc => .app_right (H.hg c hc), .app_right H.hn, .app_right H.hd, fun r hr => .app_right (H.hl r hr)⟩
  · exact k G3 cs3 s8 hG3 (tabIn_ct c1) (tabIn_n (c2 _ (.app_right hTab))) (ok_back h9 h10)
end
end Mine
namespace Mine
local macro_rules | `(tactic| walk_at "foc") => `(tactic| first | with_reducible exact Foc.here _ _ | (apply Foc.there; walk_at "foc"))
local macro_rules | `(tactic| walk_at "has") => `(tactic| first | with_reducible exact Has.here _ _ | assumption | (refine Has.there _ ?_; walk_at "has"))
local macro_rules | `(tactic| walk_at "rep") => `(tactic| first | with_reducible exact Rep.here _ _ _ | assumption | (apply Rep.there; walk_at "rep"))
local macro_rules | `(tactic| walk_at "perm") => `(tactic| first | with_reducible exact List.Perm.refl _ | (refine perm_step (by walk_at "foc") ?_; walk_at "perm"))
def dictOf (o : Obj) : Array DictEntry := match o.data with | .dict es _ => es | _ => #[]
theorem ns_K {h : Heap} {K : Frag} {a : Addr} {m : Str → Option Value} {o : Obj} (X : K.In h) (N : h.Ns a m) (e : K.lookup a = some o) : ∀ x, m x = nsFind (dictOf o) x := by
  obtain ⟨o', es, ep, ho, hd, hk, hm⟩ := N
  have := (X a o e).symm.trans ho
  cases this
  intro x
  rw [← hm x]
  unfold dictOf
  rw [hd]
theorem look_filter {K : Frag} {p : Addr → Bool} : ∀ {a : Addr} {o : Obj}, (K.filter fun q => p q.1).lookup a = some o → p a = true ∧ K.lookup a = some o := by
  induction K with
  | nil => intro a o e; cases e
  | cons q K ih =>
    intro a o e
    rw [List.filter_cons] at e
    by_cases h : p q.1 = true
    · rw [if_pos h, List.lookup_cons] at e
      rw [List.lookup_cons]
      by_cases hb : a = q.1
      · subst hb
        simp only [beq_self_eq_true] at e ⊢
        exact ⟨h, e⟩
      · rw [beq_eq_false_iff_ne.mpr hb] at e ⊢
        exact ih e
    · rw [if_neg h] at e
      obtain ⟨h1, h2⟩ := ih e
      refine ⟨h1, ?_⟩
      rw [List.lookup_cons]
      have hb : a ≠ q.1 := fun e => h (e ▸ h1)
      rw [beq_eq_false_iff_ne.mpr hb]
      exact h2
noncomputable def esM (P : Params) : Array DictEntry := dictOf (((KF P).lookup mainGlobals).getD { cls := .none, data := .plain })
noncomputable def esB (P : Params) : Array DictEntry := dictOf (((KF P).lookup builtinsNs).getD { cls := .none, data := .plain })
noncomputable def glAt (P : Params) (x : Str) : Option Value := match nsFind (esM P) x with | some v => some v | none => nsFind (esB P) x
theorem gl_check (P : Params) : GL.map (fun p => (untok p.2, glAt P p.1)) = GL.map (fun p => (p.2, some p.2)) := by kernel_rfl
theorem good_is {w : World} {s : Shared} {mg mb : Str → Option Value} (KI : (KF w.params).In s.heap) (N1 : s.heap.Ns mainGlobals mg) (N2 : s.heap.Ns builtinsNs mb) (nl : s.heap.NoLimit) : (BB w s.heap XX s.os s.drawn).Good where
  gl := by
    intro x v e
    have h := List.map_inj_left.mp (gl_check w.params) (x, v) (mem_lookup e)
    obtain ⟨h1, h2⟩ := Prod.mk.inj h
    refine ⟨h1, mg, mb, N1, N2, ?_⟩
    have e1 := ns_K (o := ((KF w.params).lookup mainGlobals).getD { cls := .none, data := .plain }) KI N1 (by kernel_rfl)
    have e2 := ns_K (o := ((KF w.params).lookup builtinsNs).getD { cls := .none, data := .plain }) KI N2 (by kernel_rfl)
    unfold glAt at h2
    rw [e1, e2]
    cases hq : nsFind (esM w.params) x with
    | some u => rw [hq] at h2; exact .inl (hq.trans h2)
    | none => rw [hq] at h2; exact .inr ⟨hq, h2⟩
  Xg := show mainGlobals ∉ XX by decide
  Xb := show builtinsNs ∉ XX by decide
  Xs := show cStatics ∉ XX by decide
  nolimit := nl
  kin := fun a o e => KI a o (look_filter (p := fun a => !(XX.contains a)) e).2
  Xk := by
    intro a ha
    show (KX w).lookup a = none
    cases e : (KX w).lookup a with
    | none => rfl
    | some o =>
      have := (look_filter (p := fun a => !(XX.contains a)) e).1
      rw [List.contains_eq_mem, decide_eq_true ha] at this
      cases this
  low := ⟨⟨((KF w.params).lookup sysModules).getD { cls := .none, data := .plain }, KI _ _ (by kernel_rfl)⟩, show sysModules ∉ XX by decide⟩
theorem start_is {w : World} {s : Shared} (KI : (KF w.params).In s.heap) (hg : s.gens = #[]) : Ok (BB w s.heap XX s.os s.drawn) #[] [ct T_post #[], tabN T_dfs] s := by
  have e1 : s.heap.get? T_post = some (tabObj #[]) := KI _ _ (by kernel_rfl)
  have e2 : s.heap.get? T_dfs = some (tabObj #[]) := KI _ _ (by kernel_rfl)
  refine ⟨⟨fun a o _ e => e, fun p hp => ?_, ?_, fun p hp => ?_⟩, hg, rfl, rfl⟩
  · left
    simp only [ct, tabN, pt, List.flatten_cons, List.flatten_nil, List.cons_append, List.nil_append, List.mem_cons, List.not_mem_nil, or_false] at hp
    rcases hp with rfl | rfl
    · show T_post ∈ XX; decide
    · show T_dfs ∈ XX; decide
  · show List.Nodup [T_post, T_dfs]; decide
  · simp only [ct, tabN, pt, List.flatten_cons, List.flatten_nil, List.cons_append, List.nil_append, List.mem_cons, List.not_mem_nil, or_false] at hp
    rcases hp with rfl | rfl
    · exact ⟨_, e1, #[], rfl, trivial⟩
    · exact ⟨_, e2, rfl⟩
theorem isTab_of {w : World} {h : Heap} {c T : Addr} (KI : (KF w.params).In h) (hk : codeOk (KF w.params) c T = true) (hT : h.get? T = some (tabObj #[])) : isCodeTable h T :=
  (code_of (ps := #[]) KI hk hT trivial).2.isCodeTable
theorem oldK_of {w : World} {s s' : Shared} {G : Array GenState} {cs : List Chunk} (KI : (KF w.params).In s.heap) (h : Ok (BB w s.heap XX s.os s.drawn) G cs s') (t1 : TabIn cs T_post) (t2 : TabIn cs T_dfs) : OldK s.heap s'.heap := by
  have e1 : s.heap.get? T_post = some (tabObj #[]) := KI _ _ (by kernel_rfl)
  have e2 : s.heap.get? T_dfs = some (tabObj #[]) := KI _ _ (by kernel_rfl)
  have key : ∀ {T c : Addr}, s.heap.get? T = some (tabObj #[]) → codeOk (KF w.params) c T = true → TabIn cs T → ∀ o, s.heap.get? T = some o → asItWas s.heap s'.heap T o ∧ ∃ o', s'.heap.get? T = some o' := by
    intro T c e hk t o ho
    rw [e] at ho
    cases ho
    obtain ⟨p, hp, rfl, hq⟩ := t
    obtain ⟨o', ho', hpo⟩ := h.st.at_ p hp
    obtain ⟨ps, rfl⟩ := hq o' hpo
    exact ⟨.inr (.inl ⟨isTab_of KI hk e, rfl, #[], ps, rfl, by rw [ho']; simp⟩), _, ho'⟩
  have all : ∀ b o, s.heap.get? b = some o → asItWas s.heap s'.heap b o ∧ ∃ o', s'.heap.get? b = some o' := by
    intro b o e
    by_cases hb : b ∈ XX
    · have hb' : b = T_post ∨ b = T_dfs := by simpa using hb
      rcases hb' with rfl | rfl
      · exact key (c := CO_post) e1 (by kernel_rfl) t1 o e
      · exact key (c := CO_dfs) e2 (by kernel_rfl) t2 o e
    · exact ⟨.inl (h.st.old b o hb e), o, h.st.old b o hb e⟩
  exact ⟨fun b o e => (all b o e).1, fun b o e => (all b o e).2⟩
theorem bare_of {G : Array GenState} (h : AllFin G) : AllBare G := fun y hy => by rw [h y hy]; rfl
end Mine
namespace Mine
local macro_rules | `(tactic| walk_at "foc") => `(tactic| first | with_reducible exact Foc.here _ _ | (apply Foc.there; walk_at "foc"))
local macro_rules | `(tactic| walk_at "has") => `(tactic| first | with_reducible exact Has.here _ _ | assumption | (refine Has.there _ ?_; walk_at "has"))
local macro_rules | `(tactic| walk_at "rep") => `(tactic| first | with_reducible exact Rep.here _ _ _ | assumption | (apply Rep.there; walk_at "rep"))
local macro_rules | `(tactic| walk_at "perm") => `(tactic| first | with_reducible exact List.Perm.refl _ | (refine perm_step (by walk_at "foc") ?_; walk_at "perm"))
abbrev row0 := PySem.Challenge.rw_ci0024_03.row.toRowW
noncomputable abbrev hook0 : Hook := kHook KF KA KA_is
theorem obs_all {L : List Obj} {h : Heap} {as : List Addr} (e : h.objs.toList = L) (hf : L.all (fun o => o.alive) = true) (ha : as = List.range L.length) : as.map h.get? = L.map some := by
  subst ha
  apply List.ext_getElem?
  intro i
  rw [List.getElem?_map, List.getElem?_map]
  by_cases hi : i < L.length
  · rw [List.getElem?_range hi, List.getElem?_eq_getElem hi]
    show some (h.get? i) = some (some L[i])
    congr 1
    refine (Heap.get?_eq_some h i L[i]).mpr ⟨?_, List.all_eq_true.mp hf L[i] (List.getElem_mem hi)⟩
    rw [← Array.getElem?_toList, e, List.getElem?_eq_getElem hi]
  · rw [List.getElem?_eq_none (by simpa using hi), List.getElem?_eq_none (by simpa using hi)]; rfl
theorem look_a1 : ∀ w : World, staticsOk (importedModules PR.main.body) (boot_heap w.params) (heapF w.params) = true := by intro w; kernel_rfl
theorem look_a2 : ∀ w : World, namesBound PR (heapF w.params) = true := by intro w; kernel_rfl
theorem look_a3 : ∀ (w : World) (os : OsState), gensDone ⟨heapF w.params, #[], boot_drawn, 1360, os⟩ = true := by intro w os; kernel_rfl
theorem look_a4 : ∀ w : World, laidKept (boot_heap w.params) (heapF w.params) = true := by intro w; kernel_rfl
theorem look_b : ∀ (w : World) (os : OsState), openSeen view0 loose0 (importedModules PR.main.body) (fun s => xlAt view0 [] s && recOk (RowW.records row0) s) true ⟨heapF w.params, #[], boot_drawn, 1360, os⟩ = openGood view0 loose0 := by
  intro w os
  rw [Fast.te4187177175401517315, Fast.te5923862056798008813]
  kernel_rfl
theorem look_c : ∀ (w : World) (os : OsState), Hook.obs hook0 ⟨heapF w.params, #[], boot_drawn, 1360, os⟩ = Hook.val hook0 w := by
  intro w os
  show KA.map (heapF w.params).get? = (KF w.params).map fun p => some p.2
  rw [obs_all (L := (KF w.params).map (·.2)) (by kernel_rfl) (by kernel_rfl) (by kernel_rfl), List.map_map]
  rfl
theorem looks_is : ∀ w : World, (fun os => ((staticsOk (importedModules PR.main.body) (boot_heap w.params) (heapF w.params) && namesBound PR (heapF w.params) && gensDone ⟨heapF w.params, #[], boot_drawn, 1360, os⟩ && laidKept (boot_heap w.params) (heapF w.params)),
        openSeen view0 loose0 (importedModules PR.main.body) (fun s => xlAt view0 [] s && recOk (RowW.records row0) s) true ⟨heapF w.params, #[], boot_drawn, 1360, os⟩, Hook.obs hook0 ⟨heapF w.params, #[], boot_drawn, 1360, os⟩)) = fun _ => (true, openGood view0 loose0, Hook.val hook0 w) := by
  intro w
  funext os
  rw [look_a1, look_a2, look_a3, look_a4, look_b, look_c]
  rfl
theorem left_is : LeftO PySem.Challenge.pw_ci0024_03 view0 loose0 (fun s => xlAt view0 [] s && recOk (RowW.records row0) s) (Hook.obs hook0) (Hook.val hook0) 15910 :=
  LeftO.of_pieces (M := M0) (H₀ := boot_heap) (H₁ := heapF) open_is size_is run_all (by kernel_rfl) looks_is
noncomputable def lawRec : DefRec := { name := "law", params := fpar [24], body := fbodyL [24], scope := fscope [24], pos := ⟨548, 0, 578, 16⟩ }
theorem head_is (walk : WalkO view0 loose0 (XL view0 []) (Hook.says hook0) row0 lawRec [] fun f vs => call f vs) : PySem.Challenge.rw_ci0024_03.Holds := by
  w_on
  o_law
  refine holds_open (q := view0) (loose := loose0) (Xt := fun s => xlAt view0 [] s && recOk (RowW.records row0) s) (XP := XL view0 []) (Yf := Hook.obs hook0) (Ya := Hook.val hook0) (YP := Hook.says hook0) (N := 15910) left_is (Hook.of hook0) (Hook.keeps hook0) (fun s e => xl_of s (Bool.and_eq_true_iff.mp e).1) XL.keeps (by kernel_rfl) (by kernel_rfl) (by kernel_rfl) (fun s e => recFacts_of (Bool.and_eq_true_iff.mp e).2) (by kernel_rfl) (by assumption) (by kernel_rfl) ⟨rfl, rfl, rfl, rfl, rfl, by decide +kernel⟩ ?hw walk
  case hw => w_witness2
theorem walk_is : WalkO view0 loose0 (XL view0 []) (Hook.says hook0) row0 lawRec [] fun f vs => call f vs := by
  intro w s₀ s₁ mg mb G y fa o pm cd doc dV kV ho hd hcd hD hmg hg args vals as hpre hlay hrd hwl hlo
  have KX : (KF w.params).In s₁.heap := y
  have T := G.T
  wrow_args hpre hlay hrd hwl hlo
  rename_i ns hs hlay0 hL1 hr1 hl2 a1 a2 l vs a3 hL ra w1 r0 hI hr hc1 hc2
  have hfa : fa = A_law := by
    have e1 := ns_K (o := ((KF w.params).lookup mainGlobals).getD { cls := .none, data := .plain }) KX T.g (by kernel_rfl) ("law" : Str)
    have e2 : nsFind (esM w.params) ("law" : Str) = some (.ref A_law) := by kernel_rfl
    have e3 : mg ("law" : Str) = some (.ref fa) := hmg
    have e4 : nsFind (esM w.params) ("law" : Str) = some (.ref fa) := e1.symm.trans e3
    rw [e2] at e4
    cases e4; rfl
  subst hfa
  have hlX : l ∉ XX := by
    intro hm
    obtain ⟨o', ho', hc', _⟩ := hL
    have hb' : l = T_post ∨ l = T_dfs := by simpa using hm
    rcases hb' with rfl | rfl
    · have e1 : s₁.heap.get? T_post = some (tabObj #[]) := KX _ _ (by kernel_rfl)
      rw [e1] at ho'; cases ho'; cases hc'
    · have e1 : s₁.heap.get? T_dfs = some (tabObj #[]) := KX _ _ (by kernel_rfl)
      rw [e1] at ho'; cases ho'; cases hc'
  have hlen : ns.length ≤ 1000 := by
    have : ¬ ((63 : Int) < ns.length) := by simpa using hc1
    omega
  show wpAny _ _ (call (.ref A_law) [.ref l]) _ _ _
  refine law_ok (d := 0) (u := 0) (good_is KX T.g T.b T.nolimit) hL hlX (of_intsAre hI) hlen ⟨.inl rfl, by decide, by decide⟩ rfl rfl (start_is KX hg) fun G' cs' s' hG' t1 t2 h' => ?_
  exact ⟨.inl ⟨_, _, [], rfl, fun _ => rfl, ReadsW.bool true, by first | rfl | wrow_post, fun _ => ⟨List.nodup_nil, fun _ hm => (nomatch hm)⟩⟩, oldK_of KX h' t1 t2, h'.os, (by rw [h'.gens]; exact bare_of hG')⟩
theorem law_holds : PySem.Challenge.rw_ci0024_03.Holds := head_is walk_is
end Mine
set_option maxRecDepth 100000 in
set_option maxHeartbeats 8000000 in
theorem PySem.Challenge.cw_ci0024_03_holds : PySem.Challenge.rw_ci0024_03.Holds := by
  exact Mine.law_holds

