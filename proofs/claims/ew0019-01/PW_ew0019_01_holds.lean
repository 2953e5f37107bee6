import PyProof.Rows.All
import Wide.All
import OpenK.AllK
import Wide.FinOn
import Lean
import PySem.Challenge.RW_ew0019_01
open PySem PySem.W PyProof.Rows
set_option Elab.async false
set_option maxRecDepth 100000
set_option maxHeartbeats 8000000
set_option linter.unusedVariables false
open PySem.Calls
namespace Mine
namespace Hd
noncomputable abbrev pw : Program := PySem.Challenge.pw_ew0019_01
noncomputable def stAt : List Stmt → List Nat → Option Stmt
  | _, [] => none
  | ss, [i] => ss[i]?
  | ss, i :: r => match ss[i]? with
    | some (.ClassDef _ _ _ b _ _ _ _ _ _ _) => stAt b r
    | some (.FunctionDef _ _ b _ _ _ _ _ _ _) => stAt b r
    | _ => none
noncomputable def defParts : Option Stmt → Arguments × List Stmt × Scope
  | some (.FunctionDef _ a b _ _ _ s _ _ _) => (a, b, s)
  | _ => (⟨[], [], none, [], [], none, []⟩, [], ⟨.function, [], false, false, []⟩)
noncomputable def sel (path : List Nat) : Arguments × List Stmt × Scope := defParts (stAt pw.main.body path)
noncomputable abbrev D0 : PSigma fun t : Arguments × List Stmt × Scope => sel [0] = t := ⟨_, by (conv => lhs; whnf)⟩
noncomputable abbrev D2 : PSigma fun t : Arguments × List Stmt × Scope => sel [2] = t := ⟨_, by (conv => lhs; whnf)⟩
noncomputable abbrev D4 : PSigma fun t : Arguments × List Stmt × Scope => sel [4] = t := ⟨_, by (conv => lhs; whnf)⟩
noncomputable abbrev D5 : PSigma fun t : Arguments × List Stmt × Scope => sel [5] = t := ⟨_, by (conv => lhs; whnf)⟩
noncomputable abbrev D6 : PSigma fun t : Arguments × List Stmt × Scope => sel [6] = t := ⟨_, by (conv => lhs; whnf)⟩
noncomputable abbrev D7 : PSigma fun t : Arguments × List Stmt × Scope => sel [7] = t := ⟨_, by (conv => lhs; whnf)⟩
noncomputable abbrev D8 : PSigma fun t : Arguments × List Stmt × Scope => sel [8] = t := ⟨_, by (conv => lhs; whnf)⟩
noncomputable abbrev D9 : PSigma fun t : Arguments × List Stmt × Scope => sel [9] = t := ⟨_, by (conv => lhs; whnf)⟩
noncomputable abbrev D10 : PSigma fun t : Arguments × List Stmt × Scope => sel [10] = t := ⟨_, by (conv => lhs; whnf)⟩
noncomputable abbrev D11 : PSigma fun t : Arguments × List Stmt × Scope => sel [11] = t := ⟨_, by (conv => lhs; whnf)⟩
noncomputable abbrev D12 : PSigma fun t : Arguments × List Stmt × Scope => sel [12] = t := ⟨_, by (conv => lhs; whnf)⟩
noncomputable abbrev D13 : PSigma fun t : Arguments × List Stmt × Scope => sel [13] = t := ⟨_, by (conv => lhs; whnf)⟩
noncomputable abbrev D16x2 : PSigma fun t : Arguments × List Stmt × Scope => sel [16, 2] = t := ⟨_, by (conv => lhs; whnf)⟩
noncomputable abbrev D16x3 : PSigma fun t : Arguments × List Stmt × Scope => sel [16, 3] = t := ⟨_, by (conv => lhs; whnf)⟩
noncomputable abbrev D16x4 : PSigma fun t : Arguments × List Stmt × Scope => sel [16, 4] = t := ⟨_, by (conv => lhs; whnf)⟩
noncomputable abbrev D16x5 : PSigma fun t : Arguments × List Stmt × Scope => sel [16, 5] = t := ⟨_, by (conv => lhs; whnf)⟩
noncomputable abbrev D16x6 : PSigma fun t : Arguments × List Stmt × Scope => sel [16, 6] = t := ⟨_, by (conv => lhs; whnf)⟩
noncomputable abbrev D16x7 : PSigma fun t : Arguments × List Stmt × Scope => sel [16, 7] = t := ⟨_, by (conv => lhs; whnf)⟩
noncomputable abbrev D16x8 : PSigma fun t : Arguments × List Stmt × Scope => sel [16, 8] = t := ⟨_, by (conv => lhs; whnf)⟩
noncomputable abbrev D16x9 : PSigma fun t : Arguments × List Stmt × Scope => sel [16, 9] = t := ⟨_, by (conv => lhs; whnf)⟩
noncomputable abbrev D16x10 : PSigma fun t : Arguments × List Stmt × Scope => sel [16, 10] = t := ⟨_, by (conv => lhs; whnf)⟩
noncomputable abbrev D16x11 : PSigma fun t : Arguments × List Stmt × Scope => sel [16, 11] = t := ⟨_, by (conv => lhs; whnf)⟩
noncomputable abbrev D16x12 : PSigma fun t : Arguments × List Stmt × Scope => sel [16, 12] = t := ⟨_, by (conv => lhs; whnf)⟩
noncomputable abbrev D16x13 : PSigma fun t : Arguments × List Stmt × Scope => sel [16, 13] = t := ⟨_, by (conv => lhs; whnf)⟩
noncomputable abbrev D16x14 : PSigma fun t : Arguments × List Stmt × Scope => sel [16, 14] = t := ⟨_, by (conv => lhs; whnf)⟩
noncomputable abbrev D16x15 : PSigma fun t : Arguments × List Stmt × Scope => sel [16, 15] = t := ⟨_, by (conv => lhs; whnf)⟩
noncomputable abbrev D16x16 : PSigma fun t : Arguments × List Stmt × Scope => sel [16, 16] = t := ⟨_, by (conv => lhs; whnf)⟩
noncomputable abbrev D16x17 : PSigma fun t : Arguments × List Stmt × Scope => sel [16, 17] = t := ⟨_, by (conv => lhs; whnf)⟩
noncomputable abbrev D16x18 : PSigma fun t : Arguments × List Stmt × Scope => sel [16, 18] = t := ⟨_, by (conv => lhs; whnf)⟩
noncomputable abbrev D16x19 : PSigma fun t : Arguments × List Stmt × Scope => sel [16, 19] = t := ⟨_, by (conv => lhs; whnf)⟩
noncomputable abbrev D16x20 : PSigma fun t : Arguments × List Stmt × Scope => sel [16, 20] = t := ⟨_, by (conv => lhs; whnf)⟩
noncomputable abbrev D16x21 : PSigma fun t : Arguments × List Stmt × Scope => sel [16, 21] = t := ⟨_, by (conv => lhs; whnf)⟩
noncomputable abbrev D16x22 : PSigma fun t : Arguments × List Stmt × Scope => sel [16, 22] = t := ⟨_, by (conv => lhs; whnf)⟩
noncomputable abbrev D16x23 : PSigma fun t : Arguments × List Stmt × Scope => sel [16, 23] = t := ⟨_, by (conv => lhs; whnf)⟩
noncomputable abbrev D16x24 : PSigma fun t : Arguments × List Stmt × Scope => sel [16, 24] = t := ⟨_, by (conv => lhs; whnf)⟩
noncomputable abbrev D16x25 : PSigma fun t : Arguments × List Stmt × Scope => sel [16, 25] = t := ⟨_, by (conv => lhs; whnf)⟩
noncomputable abbrev D18x2 : PSigma fun t : Arguments × List Stmt × Scope => sel [18, 2] = t := ⟨_, by (conv => lhs; whnf)⟩
noncomputable abbrev D18x3 : PSigma fun t : Arguments × List Stmt × Scope => sel [18, 3] = t := ⟨_, by (conv => lhs; whnf)⟩
noncomputable abbrev D18x4 : PSigma fun t : Arguments × List Stmt × Scope => sel [18, 4] = t := ⟨_, by (conv => lhs; whnf)⟩
noncomputable abbrev D18x5 : PSigma fun t : Arguments × List Stmt × Scope => sel [18, 5] = t := ⟨_, by (conv => lhs; whnf)⟩
noncomputable abbrev D18x6 : PSigma fun t : Arguments × List Stmt × Scope => sel [18, 6] = t := ⟨_, by (conv => lhs; whnf)⟩
noncomputable abbrev D18x7 : PSigma fun t : Arguments × List Stmt × Scope => sel [18, 7] = t := ⟨_, by (conv => lhs; whnf)⟩
noncomputable abbrev D18x8 : PSigma fun t : Arguments × List Stmt × Scope => sel [18, 8] = t := ⟨_, by (conv => lhs; whnf)⟩
noncomputable abbrev D18x9 : PSigma fun t : Arguments × List Stmt × Scope => sel [18, 9] = t := ⟨_, by (conv => lhs; whnf)⟩
noncomputable abbrev D18x10 : PSigma fun t : Arguments × List Stmt × Scope => sel [18, 10] = t := ⟨_, by (conv => lhs; whnf)⟩
noncomputable abbrev D18x11 : PSigma fun t : Arguments × List Stmt × Scope => sel [18, 11] = t := ⟨_, by (conv => lhs; whnf)⟩
noncomputable abbrev D18x12 : PSigma fun t : Arguments × List Stmt × Scope => sel [18, 12] = t := ⟨_, by (conv => lhs; whnf)⟩
noncomputable abbrev D18x13 : PSigma fun t : Arguments × List Stmt × Scope => sel [18, 13] = t := ⟨_, by (conv => lhs; whnf)⟩
noncomputable abbrev D18x14 : PSigma fun t : Arguments × List Stmt × Scope => sel [18, 14] = t := ⟨_, by (conv => lhs; whnf)⟩
noncomputable abbrev D18x15 : PSigma fun t : Arguments × List Stmt × Scope => sel [18, 15] = t := ⟨_, by (conv => lhs; whnf)⟩
noncomputable abbrev D18x16 : PSigma fun t : Arguments × List Stmt × Scope => sel [18, 16] = t := ⟨_, by (conv => lhs; whnf)⟩
noncomputable abbrev D18x17 : PSigma fun t : Arguments × List Stmt × Scope => sel [18, 17] = t := ⟨_, by (conv => lhs; whnf)⟩
noncomputable abbrev D18x18 : PSigma fun t : Arguments × List Stmt × Scope => sel [18, 18] = t := ⟨_, by (conv => lhs; whnf)⟩
noncomputable abbrev D18x19 : PSigma fun t : Arguments × List Stmt × Scope => sel [18, 19] = t := ⟨_, by (conv => lhs; whnf)⟩
noncomputable abbrev D18x20 : PSigma fun t : Arguments × List Stmt × Scope => sel [18, 20] = t := ⟨_, by (conv => lhs; whnf)⟩
noncomputable abbrev D18x21 : PSigma fun t : Arguments × List Stmt × Scope => sel [18, 21] = t := ⟨_, by (conv => lhs; whnf)⟩
noncomputable abbrev D18x22 : PSigma fun t : Arguments × List Stmt × Scope => sel [18, 22] = t := ⟨_, by (conv => lhs; whnf)⟩
noncomputable abbrev D18x23 : PSigma fun t : Arguments × List Stmt × Scope => sel [18, 23] = t := ⟨_, by (conv => lhs; whnf)⟩
noncomputable abbrev D18x24 : PSigma fun t : Arguments × List Stmt × Scope => sel [18, 24] = t := ⟨_, by (conv => lhs; whnf)⟩
noncomputable abbrev D18x25 : PSigma fun t : Arguments × List Stmt × Scope => sel [18, 25] = t := ⟨_, by (conv => lhs; whnf)⟩
noncomputable abbrev D18x26 : PSigma fun t : Arguments × List Stmt × Scope => sel [18, 26] = t := ⟨_, by (conv => lhs; whnf)⟩
noncomputable abbrev D18x27 : PSigma fun t : Arguments × List Stmt × Scope => sel [18, 27] = t := ⟨_, by (conv => lhs; whnf)⟩
noncomputable abbrev D18x28 : PSigma fun t : Arguments × List Stmt × Scope => sel [18, 28] = t := ⟨_, by (conv => lhs; whnf)⟩
noncomputable abbrev D18x29 : PSigma fun t : Arguments × List Stmt × Scope => sel [18, 29] = t := ⟨_, by (conv => lhs; whnf)⟩
noncomputable abbrev D19x0 : PSigma fun t : Arguments × List Stmt × Scope => sel [19, 0] = t := ⟨_, by (conv => lhs; whnf)⟩
noncomputable abbrev D19x1 : PSigma fun t : Arguments × List Stmt × Scope => sel [19, 1] = t := ⟨_, by (conv => lhs; whnf)⟩
noncomputable abbrev D19x2 : PSigma fun t : Arguments × List Stmt × Scope => sel [19, 2] = t := ⟨_, by (conv => lhs; whnf)⟩
noncomputable abbrev D19x3 : PSigma fun t : Arguments × List Stmt × Scope => sel [19, 3] = t := ⟨_, by (conv => lhs; whnf)⟩
noncomputable abbrev D20x12 : PSigma fun t : Arguments × List Stmt × Scope => sel [20, 12] = t := ⟨_, by (conv => lhs; whnf)⟩
noncomputable abbrev D20x13 : PSigma fun t : Arguments × List Stmt × Scope => sel [20, 13] = t := ⟨_, by (conv => lhs; whnf)⟩
noncomputable abbrev D20x14 : PSigma fun t : Arguments × List Stmt × Scope => sel [20, 14] = t := ⟨_, by (conv => lhs; whnf)⟩
noncomputable abbrev D20x15 : PSigma fun t : Arguments × List Stmt × Scope => sel [20, 15] = t := ⟨_, by (conv => lhs; whnf)⟩
noncomputable abbrev D20x16 : PSigma fun t : Arguments × List Stmt × Scope => sel [20, 16] = t := ⟨_, by (conv => lhs; whnf)⟩
noncomputable abbrev D20x17 : PSigma fun t : Arguments × List Stmt × Scope => sel [20, 17] = t := ⟨_, by (conv => lhs; whnf)⟩
noncomputable abbrev D20x18 : PSigma fun t : Arguments × List Stmt × Scope => sel [20, 18] = t := ⟨_, by (conv => lhs; whnf)⟩
noncomputable abbrev D20x19 : PSigma fun t : Arguments × List Stmt × Scope => sel [20, 19] = t := ⟨_, by (conv => lhs; whnf)⟩
noncomputable abbrev D20x20 : PSigma fun t : Arguments × List Stmt × Scope => sel [20, 20] = t := ⟨_, by (conv => lhs; whnf)⟩
noncomputable abbrev D20x21 : PSigma fun t : Arguments × List Stmt × Scope => sel [20, 21] = t := ⟨_, by (conv => lhs; whnf)⟩
noncomputable abbrev D20x22 : PSigma fun t : Arguments × List Stmt × Scope => sel [20, 22] = t := ⟨_, by (conv => lhs; whnf)⟩
noncomputable abbrev D20x23 : PSigma fun t : Arguments × List Stmt × Scope => sel [20, 23] = t := ⟨_, by (conv => lhs; whnf)⟩
noncomputable abbrev D20x24 : PSigma fun t : Arguments × List Stmt × Scope => sel [20, 24] = t := ⟨_, by (conv => lhs; whnf)⟩
noncomputable abbrev D23 : PSigma fun t : Arguments × List Stmt × Scope => sel [23] = t := ⟨_, by (conv => lhs; whnf)⟩
noncomputable abbrev D25 : PSigma fun t : Arguments × List Stmt × Scope => sel [25] = t := ⟨_, by (conv => lhs; whnf)⟩
noncomputable abbrev D26 : PSigma fun t : Arguments × List Stmt × Scope => sel [26] = t := ⟨_, by (conv => lhs; whnf)⟩
noncomputable abbrev D27 : PSigma fun t : Arguments × List Stmt × Scope => sel [27] = t := ⟨_, by (conv => lhs; whnf)⟩
noncomputable abbrev D28 : PSigma fun t : Arguments × List Stmt × Scope => sel [28] = t := ⟨_, by (conv => lhs; whnf)⟩
noncomputable abbrev D29 : PSigma fun t : Arguments × List Stmt × Scope => sel [29] = t := ⟨_, by (conv => lhs; whnf)⟩
noncomputable abbrev D30 : PSigma fun t : Arguments × List Stmt × Scope => sel [30] = t := ⟨_, by (conv => lhs; whnf)⟩
noncomputable abbrev D31 : PSigma fun t : Arguments × List Stmt × Scope => sel [31] = t := ⟨_, by (conv => lhs; whnf)⟩
noncomputable abbrev D32 : PSigma fun t : Arguments × List Stmt × Scope => sel [32] = t := ⟨_, by (conv => lhs; whnf)⟩
noncomputable abbrev D33 : PSigma fun t : Arguments × List Stmt × Scope => sel [33] = t := ⟨_, by (conv => lhs; whnf)⟩
noncomputable abbrev D35 : PSigma fun t : Arguments × List Stmt × Scope => sel [35] = t := ⟨_, by (conv => lhs; whnf)⟩
noncomputable abbrev D38 : PSigma fun t : Arguments × List Stmt × Scope => sel [38] = t := ⟨_, by (conv => lhs; whnf)⟩
noncomputable abbrev D39 : PSigma fun t : Arguments × List Stmt × Scope => sel [39] = t := ⟨_, by (conv => lhs; whnf)⟩
noncomputable abbrev D40 : PSigma fun t : Arguments × List Stmt × Scope => sel [40] = t := ⟨_, by (conv => lhs; whnf)⟩
noncomputable abbrev D41 : PSigma fun t : Arguments × List Stmt × Scope => sel [41] = t := ⟨_, by (conv => lhs; whnf)⟩
noncomputable abbrev D42 : PSigma fun t : Arguments × List Stmt × Scope => sel [42] = t := ⟨_, by (conv => lhs; whnf)⟩
noncomputable abbrev D43 : PSigma fun t : Arguments × List Stmt × Scope => sel [43] = t := ⟨_, by (conv => lhs; whnf)⟩
noncomputable abbrev D44 : PSigma fun t : Arguments × List Stmt × Scope => sel [44] = t := ⟨_, by (conv => lhs; whnf)⟩
noncomputable abbrev D45 : PSigma fun t : Arguments × List Stmt × Scope => sel [45] = t := ⟨_, by (conv => lhs; whnf)⟩
noncomputable abbrev D46 : PSigma fun t : Arguments × List Stmt × Scope => sel [46] = t := ⟨_, by (conv => lhs; whnf)⟩
noncomputable abbrev D47 : PSigma fun t : Arguments × List Stmt × Scope => sel [47] = t := ⟨_, by (conv => lhs; whnf)⟩
noncomputable abbrev D48 : PSigma fun t : Arguments × List Stmt × Scope => sel [48] = t := ⟨_, by (conv => lhs; whnf)⟩
noncomputable abbrev o0v0 (P : Params) : Obj := ⟨.type "dict", none, .dict #[⟨PyData.keyHash P "__name__", .str "__name__" 1, .str "builtins" 160⟩, ⟨PyData.keyHash P "__doc__", .str "__doc__" 2, .builtin "builtins.__doc__:str#opaque"⟩, ⟨PyData.keyHash P "__package__", .str "__package__" 3, .builtin "builtins.__package__:str#opaque"⟩, ⟨PyData.keyHash P "__loader__", .str "__loader__" 4, .builtin "builtins.__loader__:shared#opaque"⟩, ⟨PyData.keyHash P "__spec__", .str "__spec__" 5, .builtin "builtins.__spec__#opaque"⟩, ⟨PyData.keyHash P "__build_class__", .str "__build_class__" 6, .builtin "__build_class__"⟩, ⟨PyData.keyHash P "__import__", .str "__import__" 7, .builtin "__import__"⟩, ⟨PyData.keyHash P "abs", .str "abs" 8, .builtin "abs"⟩, ⟨PyData.keyHash P "all", .str "all" 9, .builtin "all"⟩, ⟨PyData.keyHash P "any", .str "any" 10, .builtin "any"⟩, ⟨PyData.keyHash P "ascii", .str "ascii" 11, .builtin "ascii"⟩, ⟨PyData.keyHash P "bin", .str "bin" 12, .builtin "bin"⟩, ⟨PyData.keyHash P "breakpoint", .str "breakpoint" 13, .builtin "breakpoint"⟩, ⟨PyData.keyHash P "callable", .str "callable" 14, .builtin "callable"⟩, ⟨PyData.keyHash P "chr", .str "chr" 15, .builtin "chr"⟩, ⟨PyData.keyHash P "compile", .str "compile" 16, .builtin "compile"⟩, ⟨PyData.keyHash P "delattr", .str "delattr" 17, .builtin "delattr"⟩, ⟨PyData.keyHash P "dir", .str "dir" 18, .builtin "dir"⟩, ⟨PyData.keyHash P "divmod", .str "divmod" 19, .builtin "divmod"⟩, ⟨PyData.keyHash P "eval", .str "eval" 20, .builtin "eval"⟩, ⟨PyData.keyHash P "exec", .str "exec" 21, .builtin "exec"⟩, ⟨PyData.keyHash P "format", .str "format" 22, .builtin "format"⟩, ⟨PyData.keyHash P "getattr", .str "getattr" 23, .builtin "getattr"⟩, ⟨PyData.keyHash P "globals", .str "globals" 24, .builtin "globals"⟩, ⟨PyData.keyHash P "hasattr", .str "hasattr" 25, .builtin "hasattr"⟩, ⟨PyData.keyHash P "hash", .str "hash" 26, .builtin "hash"⟩, ⟨PyData.keyHash P "hex", .str "hex" 27, .builtin "hex"⟩, ⟨PyData.keyHash P "id", .str "id" 28, .builtin "id"⟩, ⟨PyData.keyHash P "input", .str "input" 29, .builtin "input"⟩, ⟨PyData.keyHash P "isinstance", .str "isinstance" 30, .builtin "isinstance"⟩, ⟨PyData.keyHash P "issubclass", .str "issubclass" 31, .builtin "issubclass"⟩, ⟨PyData.keyHash P "iter", .str "iter" 32, .builtin "iter"⟩, ⟨PyData.keyHash P "aiter", .str "aiter" 33, .builtin "aiter"⟩, ⟨PyData.keyHash P "len", .str "len" 34, .builtin "len"⟩, ⟨PyData.keyHash P "locals", .str "locals" 35, .builtin "locals"⟩, ⟨PyData.keyHash P "max", .str "max" 36, .builtin "max"⟩, ⟨PyData.keyHash P "min", .str "min" 37, .builtin "min"⟩, ⟨PyData.keyHash P "next", .str "next" 38, .builtin "next"⟩, ⟨PyData.keyHash P "anext", .str "anext" 39, .builtin "anext"⟩, ⟨PyData.keyHash P "oct", .str "oct" 40, .builtin "oct"⟩, ⟨PyData.keyHash P "ord", .str "ord" 41, .builtin "ord"⟩, ⟨PyData.keyHash P "pow", .str "pow" 42, .builtin "pow"⟩, ⟨PyData.keyHash P "print", .str "print" 43, .builtin "print"⟩, ⟨PyData.keyHash P "repr", .str "repr" 44, .builtin "repr"⟩, ⟨PyData.keyHash P "round", .str "round" 45, .builtin "round"⟩, ⟨PyData.keyHash P "setattr", .str "setattr" 46, .builtin "setattr"⟩, ⟨PyData.keyHash P "sorted", .str "sorted" 47, .builtin "sorted"⟩, ⟨PyData.keyHash P "sum", .str "sum" 48, .builtin "sum"⟩, ⟨PyData.keyHash P "vars", .str "vars" 49, .builtin "vars"⟩, ⟨PyData.keyHash P "None", .str "None" 50, .none⟩, ⟨PyData.keyHash P "Ellipsis", .str "Ellipsis" 51, .ellipsis⟩, ⟨PyData.keyHash P "NotImplemented", .str "NotImplemented" 52, .notImplemented⟩, ⟨PyData.keyHash P "False", .str "False" 53, .bool false⟩, ⟨PyData.keyHash P "True", .str "True" 54, .bool true⟩, ⟨PyData.keyHash P "bool", .str "bool" 55, .type "bool"⟩, ⟨PyData.keyHash P "memoryview", .str "memoryview" 56, .type "memoryview"⟩, ⟨PyData.keyHash P "bytearray", .str "bytearray" 57, .type "bytearray"⟩, ⟨PyData.keyHash P "bytes", .str "bytes" 58, .type "bytes"⟩, ⟨PyData.keyHash P "classmethod", .str "classmethod" 59, .type "classmethod"⟩, ⟨PyData.keyHash P "complex", .str "complex" 60, .type "complex"⟩, ⟨PyData.keyHash P "dict", .str "dict" 61, .type "dict"⟩, ⟨PyData.keyHash P "enumerate", .str "enumerate" 62, .type "enumerate"⟩, ⟨PyData.keyHash P "filter", .str "filter" 63, .type "filter"⟩, ⟨PyData.keyHash P "float", .str "float" 64, .type "float"⟩, ⟨PyData.keyHash P "frozenset", .str "frozenset" 65, .type "frozenset"⟩, ⟨PyData.keyHash P "property", .str "property" 66, .type "property"⟩, ⟨PyData.keyHash P "int", .str "int" 67, .type "int"⟩, ⟨PyData.keyHash P "list", .str "list" 68, .type "list"⟩, ⟨PyData.keyHash P "map", .str "map" 69, .type "map"⟩, ⟨PyData.keyHash P "object", .str "object" 70, .type "object"⟩, ⟨PyData.keyHash P "range", .str "range" 71, .type "range"⟩, ⟨PyData.keyHash P "reversed", .str "reversed" 72, .type "reversed"⟩, ⟨PyData.keyHash P "set", .str "set" 73, .type "set"⟩, ⟨PyData.keyHash P "slice", .str "slice" 74, .type "slice"⟩, ⟨PyData.keyHash P "staticmethod", .str "staticmethod" 75, .type "staticmethod"⟩, ⟨PyData.keyHash P "str", .str "str" 76, .type "str"⟩, ⟨PyData.keyHash P "super", .str "super" 77, .type "super"⟩, ⟨PyData.keyHash P "tuple", .str "tuple" 78, .type "tuple"⟩, ⟨PyData.keyHash P "type", .str "type" 79, .type "type"⟩, ⟨PyData.keyHash P "zip", .str "zip" 80, .type "zip"⟩, ⟨PyData.keyHash P "__debug__", .str "__debug__" 81, .bool true⟩, ⟨PyData.keyHash P "BaseException", .str "BaseException" 82, .type "BaseException"⟩, ⟨PyData.keyHash P "BaseExceptionGroup", .str "BaseExceptionGroup" 83, .type "BaseExceptionGroup"⟩, ⟨PyData.keyHash P "Exception", .str "Exception" 84, .type "Exception"⟩, ⟨PyData.keyHash P "GeneratorExit", .str "GeneratorExit" 85, .type "GeneratorExit"⟩, ⟨PyData.keyHash P "KeyboardInterrupt", .str "KeyboardInterrupt" 86, .type "KeyboardInterrupt"⟩, ⟨PyData.keyHash P "SystemExit", .str "SystemExit" 87, .type "SystemExit"⟩, ⟨PyData.keyHash P "ArithmeticError", .str "ArithmeticError" 88, .type "ArithmeticError"⟩, ⟨PyData.keyHash P "AssertionError", .str "AssertionError" 89, .type "AssertionError"⟩, ⟨PyData.keyHash P "AttributeError", .str "AttributeError" 90, .type "AttributeError"⟩, ⟨PyData.keyHash P "BufferError", .str "BufferError" 91, .type "BufferError"⟩, ⟨PyData.keyHash P "EOFError", .str "EOFError" 92, .type "EOFError"⟩, ⟨PyData.keyHash P "ImportError", .str "ImportError" 93, .type "ImportError"⟩, ⟨PyData.keyHash P "LookupError", .str "LookupError" 94, .type "LookupError"⟩, ⟨PyData.keyHash P "MemoryError", .str "MemoryError" 95, .type "MemoryError"⟩, ⟨PyData.keyHash P "NameError", .str "NameError" 96, .type "NameError"⟩, ⟨PyData.keyHash P "OSError", .str "OSError" 97, .type "OSError"⟩, ⟨PyData.keyHash P "ReferenceError", .str "ReferenceError" 98, .type "ReferenceError"⟩, ⟨PyData.keyHash P "RuntimeError", .str "RuntimeError" 99, .type "RuntimeError"⟩, ⟨PyData.keyHash P "StopAsyncIteration", .str "StopAsyncIteration" 100, .type "StopAsyncIteration"⟩, ⟨PyData.keyHash P "StopIteration", .str "StopIteration" 101, .type "StopIteration"⟩, ⟨PyData.keyHash P "SyntaxError", .str "SyntaxError" 102, .type "SyntaxError"⟩, ⟨PyData.keyHash P "SystemError", .str "SystemError" 103, .type "SystemError"⟩, ⟨PyData.keyHash P "TypeError", .str "TypeError" 104, .type "TypeError"⟩, ⟨PyData.keyHash P "ValueError", .str "ValueError" 105, .type "ValueError"⟩, ⟨PyData.keyHash P "Warning", .str "Warning" 106, .type "Warning"⟩, ⟨PyData.keyHash P "FloatingPointError", .str "FloatingPointError" 107, .type "FloatingPointError"⟩, ⟨PyData.keyHash P "OverflowError", .str "OverflowError" 108, .type "OverflowError"⟩, ⟨PyData.keyHash P "ZeroDivisionError", .str "ZeroDivisionError" 109, .type "ZeroDivisionError"⟩, ⟨PyData.keyHash P "BytesWarning", .str "BytesWarning" 110, .type "BytesWarning"⟩, ⟨PyData.keyHash P "DeprecationWarning", .str "DeprecationWarning" 111, .type "DeprecationWarning"⟩, ⟨PyData.keyHash P "EncodingWarning", .str "EncodingWarning" 112, .type "EncodingWarning"⟩, ⟨PyData.keyHash P "FutureWarning", .str "FutureWarning" 113, .type "FutureWarning"⟩, ⟨PyData.keyHash P "ImportWarning", .str "ImportWarning" 114, .type "ImportWarning"⟩, ⟨PyData.keyHash P "PendingDeprecationWarning", .str "PendingDeprecationWarning" 115, .type "PendingDeprecationWarning"⟩, ⟨PyData.keyHash P "ResourceWarning", .str "ResourceWarning" 116, .type "ResourceWarning"⟩, ⟨PyData.keyHash P "RuntimeWarning", .str "RuntimeWarning" 117, .type "RuntimeWarning"⟩, ⟨PyData.keyHash P "SyntaxWarning", .str "SyntaxWarning" 118, .type "SyntaxWarning"⟩, ⟨PyData.keyHash P "UnicodeWarning", .str "UnicodeWarning" 119, .type "UnicodeWarning"⟩, ⟨PyData.keyHash P "UserWarning", .str "UserWarning" 120, .type "UserWarning"⟩, ⟨PyData.keyHash P "BlockingIOError", .str "BlockingIOError" 121, .type "BlockingIOError"⟩, ⟨PyData.keyHash P "ChildProcessError", .str "ChildProcessError" 122, .type "ChildProcessError"⟩, ⟨PyData.keyHash P "ConnectionError", .str "ConnectionError" 123, .type "ConnectionError"⟩, ⟨PyData.keyHash P "FileExistsError", .str "FileExistsError" 124, .type "FileExistsError"⟩, ⟨PyData.keyHash P "FileNotFoundError", .str "FileNotFoundError" 125, .type "FileNotFoundError"⟩, ⟨PyData.keyHash P "InterruptedError", .str "InterruptedError" 126, .type "InterruptedError"⟩, ⟨PyData.keyHash P "IsADirectoryError", .str "IsADirectoryError" 127, .type "IsADirectoryError"⟩, ⟨PyData.keyHash P "NotADirectoryError", .str "NotADirectoryError" 128, .type "NotADirectoryError"⟩, ⟨PyData.keyHash P "PermissionError", .str "PermissionError" 129, .type "PermissionError"⟩, ⟨PyData.keyHash P "ProcessLookupError", .str "ProcessLookupError" 130, .type "ProcessLookupError"⟩, ⟨PyData.keyHash P "TimeoutError", .str "TimeoutError" 131, .type "TimeoutError"⟩, ⟨PyData.keyHash P "IndentationError", .str "IndentationError" 132, .type "IndentationError"⟩, ⟨PyData.keyHash P "_IncompleteInputError", .str "_IncompleteInputError" 133, .type "_IncompleteInputError"⟩, ⟨PyData.keyHash P "IndexError", .str "IndexError" 134, .type "IndexError"⟩, ⟨PyData.keyHash P "KeyError", .str "KeyError" 135, .type "KeyError"⟩, ⟨PyData.keyHash P "ModuleNotFoundError", .str "ModuleNotFoundError" 136, .type "ModuleNotFoundError"⟩, ⟨PyData.keyHash P "NotImplementedError", .str "NotImplementedError" 137, .type "NotImplementedError"⟩, ⟨PyData.keyHash P "PythonFinalizationError", .str "PythonFinalizationError" 138, .type "PythonFinalizationError"⟩, ⟨PyData.keyHash P "RecursionError", .str "RecursionError" 139, .type "RecursionError"⟩, ⟨PyData.keyHash P "UnboundLocalError", .str "UnboundLocalError" 140, .type "UnboundLocalError"⟩, ⟨PyData.keyHash P "UnicodeError", .str "UnicodeError" 141, .type "UnicodeError"⟩, ⟨PyData.keyHash P "BrokenPipeError", .str "BrokenPipeError" 142, .type "BrokenPipeError"⟩, ⟨PyData.keyHash P "ConnectionAbortedError", .str "ConnectionAbortedError" 143, .type "ConnectionAbortedError"⟩, ⟨PyData.keyHash P "ConnectionRefusedError", .str "ConnectionRefusedError" 144, .type "ConnectionRefusedError"⟩, ⟨PyData.keyHash P "ConnectionResetError", .str "ConnectionResetError" 145, .type "ConnectionResetError"⟩, ⟨PyData.keyHash P "TabError", .str "TabError" 146, .type "TabError"⟩, ⟨PyData.keyHash P "UnicodeDecodeError", .str "UnicodeDecodeError" 147, .type "UnicodeDecodeError"⟩, ⟨PyData.keyHash P "UnicodeEncodeError", .str "UnicodeEncodeError" 148, .type "UnicodeEncodeError"⟩, ⟨PyData.keyHash P "UnicodeTranslateError", .str "UnicodeTranslateError" 149, .type "UnicodeTranslateError"⟩, ⟨PyData.keyHash P "ExceptionGroup", .str "ExceptionGroup" 150, .type "ExceptionGroup"⟩, ⟨PyData.keyHash P "EnvironmentError", .str "EnvironmentError" 151, .type "OSError"⟩, ⟨PyData.keyHash P "IOError", .str "IOError" 152, .type "OSError"⟩, ⟨PyData.keyHash P "open", .str "open" 153, .builtin "open"⟩, ⟨PyData.keyHash P "quit", .str "quit" 154, .builtin "builtins.quit#opaque"⟩, ⟨PyData.keyHash P "exit", .str "exit" 155, .builtin "builtins.exit#opaque"⟩, ⟨PyData.keyHash P "copyright", .str "copyright" 156, .builtin "builtins.copyright#opaque"⟩, ⟨PyData.keyHash P "credits", .str "credits" 157, .builtin "builtins.credits#opaque"⟩, ⟨PyData.keyHash P "license", .str "license" 158, .builtin "builtins.license#opaque"⟩, ⟨PyData.keyHash P "help", .str "help" 159, .builtin "builtins.help#opaque"⟩] 159, #[]⟩
noncomputable abbrev o1v0 (P : Params) : Obj := ⟨.type "dict", none, .dict #[⟨PyData.keyHash P "builtins", .str "builtins" 162, .ref 4⟩, ⟨PyData.keyHash P "__main__", .str "__main__" 163, .ref 5⟩] 2, #[]⟩
noncomputable abbrev o2v0 (P : Params) : Obj := ⟨.none, none, .dict #[] 0, #[]⟩
noncomputable abbrev o3v0 (P : Params) : Obj := ⟨.type "dict", none, .dict #[⟨PyData.keyHash P "__name__", .str "__name__" 165, .str "__main__" 164⟩, ⟨PyData.keyHash P "__doc__", .str "__doc__" 166, .none⟩, ⟨PyData.keyHash P "__package__", .str "__package__" 167, .none⟩, ⟨PyData.keyHash P "__loader__", .str "__loader__" 168, .builtin "__main__.__loader__#opaque"⟩, ⟨PyData.keyHash P "__spec__", .str "__spec__" 169, .none⟩, ⟨PyData.keyHash P "__annotations__", .str "__annotations__" 170, .ref 6⟩, ⟨PyData.keyHash P "__builtins__", .str "__builtins__" 171, .ref 4⟩, ⟨PyData.keyHash P "__file__", .str "__file__" 173, .str "/claim/cut.py" 172⟩, ⟨PyData.keyHash P "__cached__", .str "__cached__" 174, .none⟩] 9, #[]⟩
noncomputable abbrev o4v0 (P : Params) : Obj := ⟨.type "module", some (0), .plain, #[]⟩
noncomputable abbrev o5v0 (P : Params) : Obj := ⟨.type "module", some (3), .plain, #[]⟩
noncomputable abbrev o6v0 (P : Params) : Obj := ⟨.type "dict", none, .dict #[] 0, #[]⟩
noncomputable abbrev o7v0 (P : Params) : Obj := ⟨.type "tuple", none, .seq #[] 0, #[]⟩
noncomputable abbrev o8v0 (P : Params) : Obj := ⟨.none, none, .fields #[], #[]⟩
noncomputable abbrev o9v0 (P : Params) : Obj := ⟨.type "code", none, .fields #[.str "<module>" 176, .str "<module>" 177, .str "/claim/cut.py" 178, .int 1 0, .int 0 0, .int 0 0, .int 0 0, .int 0 0, .ref 7, .bool false, .int 175 0, .ref 8, .none, .none, .none, .none, .int 179 0, .int 1 0, .str "/claim/cut.py" 180], #[]⟩
noncomputable abbrev o10v0 (P : Params) : Obj := ⟨.type "frame", none, .plain, #[some (.ref 9), some (.ref 3), some (.ref 3), none, some (.str "__main__" 164), none, some (.ref 0)]⟩
noncomputable abbrev o11v0 (P : Params) : Obj := ⟨.type "tuple", none, .seq #[] 0, #[]⟩
noncomputable abbrev o12v0 (P : Params) : Obj := ⟨.none, none, .fields #[], #[]⟩
noncomputable abbrev o13v0 (P : Params) : Obj := ⟨.type "code", none, .fields #[.str "<module>" 182, .str "<module>" 183, .str "/claim/cut.py" 184, .int 1 0, .int 0 0, .int 0 0, .int 0 0, .int 0 0, .ref 11, .bool false, .int 181 0, .ref 12, .none, .none, .none, .none, .int 185 0, .int 1 0, .str "/claim/cut.py" 186], #[]⟩
noncomputable abbrev o14v0 (P : Params) : Obj := ⟨.type "frame", none, .plain, #[some (.ref 13), some (.ref 3), some (.ref 3), none, some (.str "__main__" 164), none, some (.ref 0)]⟩
noncomputable abbrev o3v1 (P : Params) : Obj := ⟨.type "dict", none, .dict #[⟨PyData.keyHash P "__name__", .str "__name__" 165, .str "enum" 279⟩, ⟨PyData.keyHash P "__doc__", .str "__doc__" 166, .none⟩, ⟨PyData.keyHash P "__package__", .str "__package__" 167, .none⟩, ⟨PyData.keyHash P "__loader__", .str "__loader__" 168, .builtin "__main__.__loader__#opaque"⟩, ⟨PyData.keyHash P "__spec__", .str "__spec__" 169, .none⟩, ⟨PyData.keyHash P "__annotations__", .str "__annotations__" 170, .ref 6⟩, ⟨PyData.keyHash P "__builtins__", .str "__builtins__" 171, .ref 4⟩, ⟨PyData.keyHash P "__file__", .str "__file__" 173, .str "/claim/cut.py" 172⟩, ⟨PyData.keyHash P "__cached__", .str "__cached__" 174, .none⟩, ⟨PyData.keyHash P "_wall", .str "_wall" 193, .ref 21⟩, ⟨PyData.keyHash P "kind_of", .str "kind_of" 202, .ref 28⟩, ⟨PyData.keyHash P "bool_in", .str "bool_in" 211, .ref 35⟩, ⟨PyData.keyHash P "bool_out", .str "bool_out" 218, .ref 42⟩, ⟨PyData.keyHash P "bytes_in", .str "bytes_in" 225, .ref 49⟩, ⟨PyData.keyHash P "bytes_out", .str "bytes_out" 232, .ref 56⟩, ⟨PyData.keyHash P "int_in", .str "int_in" 239, .ref 63⟩, ⟨PyData.keyHash P "int_out", .str "int_out" 246, .ref 70⟩, ⟨PyData.keyHash P "null_out", .str "null_out" 253, .ref 77⟩, ⟨PyData.keyHash P "range_out", .str "range_out" 264, .ref 84⟩, ⟨PyData.keyHash P "string_in", .str "string_in" 271, .ref 91⟩, ⟨PyData.keyHash P "string_out", .str "string_out" 278, .ref 98⟩, ⟨PyData.keyHash P "_OWN_NAMES", .str "_OWN_NAMES" 286, .ref 99⟩, ⟨PyData.keyHash P "mappingproxy", .str "mappingproxy" 494, .ref 280⟩, ⟨PyData.keyHash P "_MEMBERS_VIEW", .str "_MEMBERS_VIEW" 495, .ref 280⟩] 24, #[]⟩
noncomputable abbrev o12v1 (P : Params) : Obj := ⟨.none, none, .fields #[.int 1 0, .int 0 0, .ref 20, .int 5 0, .int 0 0, .ref 27, .int 12 0, .int 0 0, .ref 34, .int 14 0, .int 0 0, .ref 41, .int 16 0, .int 0 0, .ref 48, .int 18 0, .int 0 0, .ref 55, .int 20 0, .int 0 0, .ref 62, .int 22 0, .int 0 0, .ref 69, .int 24 0, .int 0 0, .ref 76, .int 26 0, .int 0 0, .ref 83, .int 35 0, .int 0 0, .ref 90, .int 37 0, .int 0 0, .ref 97, .int 41 0, .int 0 0, .ref 105], #[]⟩
noncomputable abbrev o15v0 (P : Params) : Obj := ⟨.type "tuple", none, .seq #[] 0, #[]⟩
noncomputable abbrev o16v0 (P : Params) : Obj := ⟨.none, none, .fields #[], #[]⟩
noncomputable abbrev o17v0 (P : Params) : Obj := ⟨.type "tuple", none, .seq #[.str "k" 190] 0, #[]⟩
noncomputable abbrev o18v0 (P : Params) : Obj := ⟨.type "tuple", none, .seq #[] 0, #[]⟩
noncomputable abbrev o19v0 (P : Params) : Obj := ⟨.none, none, .func ⟨"_wall", "_wall", D0.1.1, .stmts D0.1.2.1, D0.1.2.2, 0, [], .none, .none, .none, .none, none, .none, .none, 0⟩, #[]⟩
noncomputable abbrev o20v0 (P : Params) : Obj := ⟨.type "code", none, .fields #[.str "_wall" 187, .str "_wall" 188, .str "/claim/cut.py" 189, .int 1 0, .int 1 0, .int 0 0, .int 0 0, .int 3 0, .ref 15, .bool true, .int 181 0, .ref 16, .none, .ref 17, .ref 18, .ref 19, .int 191 0, .int 1 0, .str "/claim/cut.py" 192], #[]⟩
noncomputable abbrev o21v0 (P : Params) : Obj := ⟨.type "function", none, .func ⟨"_wall", "_wall", D0.1.1, .stmts D0.1.2.1, D0.1.2.2, 3, [], .none, .none, .none, .str "__main__" 164, none, .ref 20, .none, 0⟩, #[]⟩
noncomputable abbrev o22v0 (P : Params) : Obj := ⟨.type "tuple", none, .seq #[] 0, #[]⟩
noncomputable abbrev o23v0 (P : Params) : Obj := ⟨.none, none, .fields #[], #[]⟩
noncomputable abbrev o24v0 (P : Params) : Obj := ⟨.type "tuple", none, .seq #[.str "value" 199] 0, #[]⟩
noncomputable abbrev o25v0 (P : Params) : Obj := ⟨.type "tuple", none, .seq #[] 0, #[]⟩
noncomputable abbrev o26v0 (P : Params) : Obj := ⟨.none, none, .func ⟨"kind_of", "kind_of", D2.1.1, .stmts D2.1.2.1, D2.1.2.2, 0, [], .none, .none, .none, .none, none, .none, .none, 0⟩, #[]⟩
noncomputable abbrev o27v0 (P : Params) : Obj := ⟨.type "code", none, .fields #[.str "kind_of" 196, .str "kind_of" 197, .str "/claim/cut.py" 198, .int 5 0, .int 1 0, .int 0 0, .int 0 0, .int 3 0, .ref 22, .bool true, .int 181 0, .ref 23, .none, .ref 24, .ref 25, .ref 26, .int 200 0, .int 5 0, .str "/claim/cut.py" 201], #[]⟩
noncomputable abbrev o28v0 (P : Params) : Obj := ⟨.type "function", none, .func ⟨"kind_of", "kind_of", D2.1.1, .stmts D2.1.2.1, D2.1.2.2, 3, [], .none, .none, .none, .str "pg8000.handed" 194, none, .ref 27, .none, 0⟩, #[]⟩
noncomputable abbrev o29v0 (P : Params) : Obj := ⟨.type "tuple", none, .seq #[] 0, #[]⟩
noncomputable abbrev o30v0 (P : Params) : Obj := ⟨.none, none, .fields #[], #[]⟩
noncomputable abbrev o31v0 (P : Params) : Obj := ⟨.type "tuple", none, .seq #[.str "data" 208] 0, #[]⟩
noncomputable abbrev o32v0 (P : Params) : Obj := ⟨.type "tuple", none, .seq #[] 0, #[]⟩
noncomputable abbrev o33v0 (P : Params) : Obj := ⟨.none, none, .func ⟨"bool_in", "bool_in", D4.1.1, .stmts D4.1.2.1, D4.1.2.2, 0, [], .none, .none, .none, .none, none, .none, .none, 0⟩, #[]⟩
noncomputable abbrev o34v0 (P : Params) : Obj := ⟨.type "code", none, .fields #[.str "bool_in" 205, .str "bool_in" 206, .str "/claim/cut.py" 207, .int 12 0, .int 1 0, .int 0 0, .int 0 0, .int 3 0, .ref 29, .bool true, .int 181 0, .ref 30, .none, .ref 31, .ref 32, .ref 33, .int 209 0, .int 12 0, .str "/claim/cut.py" 210], #[]⟩
noncomputable abbrev o35v0 (P : Params) : Obj := ⟨.type "function", none, .func ⟨"bool_in", "bool_in", D4.1.1, .stmts D4.1.2.1, D4.1.2.2, 3, [], .none, .none, .none, .str "pg8000.converters" 203, none, .ref 34, .none, 0⟩, #[]⟩
noncomputable abbrev o36v0 (P : Params) : Obj := ⟨.type "tuple", none, .seq #[] 0, #[]⟩
noncomputable abbrev o37v0 (P : Params) : Obj := ⟨.none, none, .fields #[], #[]⟩
noncomputable abbrev o38v0 (P : Params) : Obj := ⟨.type "tuple", none, .seq #[.str "v" 215] 0, #[]⟩
noncomputable abbrev o39v0 (P : Params) : Obj := ⟨.type "tuple", none, .seq #[] 0, #[]⟩
noncomputable abbrev o40v0 (P : Params) : Obj := ⟨.none, none, .func ⟨"bool_out", "bool_out", D5.1.1, .stmts D5.1.2.1, D5.1.2.2, 0, [], .none, .none, .none, .none, none, .none, .none, 0⟩, #[]⟩
noncomputable abbrev o41v0 (P : Params) : Obj := ⟨.type "code", none, .fields #[.str "bool_out" 212, .str "bool_out" 213, .str "/claim/cut.py" 214, .int 14 0, .int 1 0, .int 0 0, .int 0 0, .int 3 0, .ref 36, .bool true, .int 181 0, .ref 37, .none, .ref 38, .ref 39, .ref 40, .int 216 0, .int 14 0, .str "/claim/cut.py" 217], #[]⟩
noncomputable abbrev o42v0 (P : Params) : Obj := ⟨.type "function", none, .func ⟨"bool_out", "bool_out", D5.1.1, .stmts D5.1.2.1, D5.1.2.2, 3, [], .none, .none, .none, .str "pg8000.converters" 203, none, .ref 41, .none, 0⟩, #[]⟩
noncomputable abbrev o43v0 (P : Params) : Obj := ⟨.type "tuple", none, .seq #[] 0, #[]⟩
noncomputable abbrev o44v0 (P : Params) : Obj := ⟨.none, none, .fields #[], #[]⟩
noncomputable abbrev o45v0 (P : Params) : Obj := ⟨.type "tuple", none, .seq #[.str "data" 222] 0, #[]⟩
noncomputable abbrev o46v0 (P : Params) : Obj := ⟨.type "tuple", none, .seq #[] 0, #[]⟩
noncomputable abbrev o47v0 (P : Params) : Obj := ⟨.none, none, .func ⟨"bytes_in", "bytes_in", D6.1.1, .stmts D6.1.2.1, D6.1.2.2, 0, [], .none, .none, .none, .none, none, .none, .none, 0⟩, #[]⟩
noncomputable abbrev o48v0 (P : Params) : Obj := ⟨.type "code", none, .fields #[.str "bytes_in" 219, .str "bytes_in" 220, .str "/claim/cut.py" 221, .int 16 0, .int 1 0, .int 0 0, .int 0 0, .int 3 0, .ref 43, .bool true, .int 181 0, .ref 44, .none, .ref 45, .ref 46, .ref 47, .int 223 0, .int 16 0, .str "/claim/cut.py" 224], #[]⟩
noncomputable abbrev o49v0 (P : Params) : Obj := ⟨.type "function", none, .func ⟨"bytes_in", "bytes_in", D6.1.1, .stmts D6.1.2.1, D6.1.2.2, 3, [], .none, .none, .none, .str "pg8000.converters" 203, none, .ref 48, .none, 0⟩, #[]⟩
noncomputable abbrev o50v0 (P : Params) : Obj := ⟨.type "tuple", none, .seq #[] 0, #[]⟩
noncomputable abbrev o51v0 (P : Params) : Obj := ⟨.none, none, .fields #[], #[]⟩
noncomputable abbrev o52v0 (P : Params) : Obj := ⟨.type "tuple", none, .seq #[.str "v" 229] 0, #[]⟩
noncomputable abbrev o53v0 (P : Params) : Obj := ⟨.type "tuple", none, .seq #[] 0, #[]⟩
noncomputable abbrev o54v0 (P : Params) : Obj := ⟨.none, none, .func ⟨"bytes_out", "bytes_out", D7.1.1, .stmts D7.1.2.1, D7.1.2.2, 0, [], .none, .none, .none, .none, none, .none, .none, 0⟩, #[]⟩
noncomputable abbrev o55v0 (P : Params) : Obj := ⟨.type "code", none, .fields #[.str "bytes_out" 226, .str "bytes_out" 227, .str "/claim/cut.py" 228, .int 18 0, .int 1 0, .int 0 0, .int 0 0, .int 3 0, .ref 50, .bool true, .int 181 0, .ref 51, .none, .ref 52, .ref 53, .ref 54, .int 230 0, .int 18 0, .str "/claim/cut.py" 231], #[]⟩
noncomputable abbrev o56v0 (P : Params) : Obj := ⟨.type "function", none, .func ⟨"bytes_out", "bytes_out", D7.1.1, .stmts D7.1.2.1, D7.1.2.2, 3, [], .none, .none, .none, .str "pg8000.converters" 203, none, .ref 55, .none, 0⟩, #[]⟩
noncomputable abbrev o57v0 (P : Params) : Obj := ⟨.type "tuple", none, .seq #[] 0, #[]⟩
noncomputable abbrev o58v0 (P : Params) : Obj := ⟨.none, none, .fields #[], #[]⟩
noncomputable abbrev o59v0 (P : Params) : Obj := ⟨.type "tuple", none, .seq #[.str "data" 236] 0, #[]⟩
noncomputable abbrev o60v0 (P : Params) : Obj := ⟨.type "tuple", none, .seq #[] 0, #[]⟩
noncomputable abbrev o61v0 (P : Params) : Obj := ⟨.none, none, .func ⟨"int_in", "int_in", D8.1.1, .stmts D8.1.2.1, D8.1.2.2, 0, [], .none, .none, .none, .none, none, .none, .none, 0⟩, #[]⟩
noncomputable abbrev o62v0 (P : Params) : Obj := ⟨.type "code", none, .fields #[.str "int_in" 233, .str "int_in" 234, .str "/claim/cut.py" 235, .int 20 0, .int 1 0, .int 0 0, .int 0 0, .int 3 0, .ref 57, .bool true, .int 181 0, .ref 58, .none, .ref 59, .ref 60, .ref 61, .int 237 0, .int 20 0, .str "/claim/cut.py" 238], #[]⟩
noncomputable abbrev o63v0 (P : Params) : Obj := ⟨.type "function", none, .func ⟨"int_in", "int_in", D8.1.1, .stmts D8.1.2.1, D8.1.2.2, 3, [], .none, .none, .none, .str "pg8000.converters" 203, none, .ref 62, .none, 0⟩, #[]⟩
noncomputable abbrev o64v0 (P : Params) : Obj := ⟨.type "tuple", none, .seq #[] 0, #[]⟩
noncomputable abbrev o65v0 (P : Params) : Obj := ⟨.none, none, .fields #[], #[]⟩
noncomputable abbrev o66v0 (P : Params) : Obj := ⟨.type "tuple", none, .seq #[.str "v" 243] 0, #[]⟩
noncomputable abbrev o67v0 (P : Params) : Obj := ⟨.type "tuple", none, .seq #[] 0, #[]⟩
noncomputable abbrev o68v0 (P : Params) : Obj := ⟨.none, none, .func ⟨"int_out", "int_out", D9.1.1, .stmts D9.1.2.1, D9.1.2.2, 0, [], .none, .none, .none, .none, none, .none, .none, 0⟩, #[]⟩
noncomputable abbrev o69v0 (P : Params) : Obj := ⟨.type "code", none, .fields #[.str "int_out" 240, .str "int_out" 241, .str "/claim/cut.py" 242, .int 22 0, .int 1 0, .int 0 0, .int 0 0, .int 3 0, .ref 64, .bool true, .int 181 0, .ref 65, .none, .ref 66, .ref 67, .ref 68, .int 244 0, .int 22 0, .str "/claim/cut.py" 245], #[]⟩
noncomputable abbrev o70v0 (P : Params) : Obj := ⟨.type "function", none, .func ⟨"int_out", "int_out", D9.1.1, .stmts D9.1.2.1, D9.1.2.2, 3, [], .none, .none, .none, .str "pg8000.converters" 203, none, .ref 69, .none, 0⟩, #[]⟩
noncomputable abbrev o71v0 (P : Params) : Obj := ⟨.type "tuple", none, .seq #[] 0, #[]⟩
noncomputable abbrev o72v0 (P : Params) : Obj := ⟨.none, none, .fields #[], #[]⟩
noncomputable abbrev o73v0 (P : Params) : Obj := ⟨.type "tuple", none, .seq #[.str "v" 250] 0, #[]⟩
noncomputable abbrev o74v0 (P : Params) : Obj := ⟨.type "tuple", none, .seq #[] 0, #[]⟩
noncomputable abbrev o75v0 (P : Params) : Obj := ⟨.none, none, .func ⟨"null_out", "null_out", D10.1.1, .stmts D10.1.2.1, D10.1.2.2, 0, [], .none, .none, .none, .none, none, .none, .none, 0⟩, #[]⟩
noncomputable abbrev o76v0 (P : Params) : Obj := ⟨.type "code", none, .fields #[.str "null_out" 247, .str "null_out" 248, .str "/claim/cut.py" 249, .int 24 0, .int 1 0, .int 0 0, .int 0 0, .int 3 0, .ref 71, .bool true, .int 181 0, .ref 72, .none, .ref 73, .ref 74, .ref 75, .int 251 0, .int 24 0, .str "/claim/cut.py" 252], #[]⟩
noncomputable abbrev o77v0 (P : Params) : Obj := ⟨.type "function", none, .func ⟨"null_out", "null_out", D10.1.1, .stmts D10.1.2.1, D10.1.2.2, 3, [], .none, .none, .none, .str "pg8000.converters" 203, none, .ref 76, .none, 0⟩, #[]⟩
noncomputable abbrev o78v0 (P : Params) : Obj := ⟨.type "tuple", none, .seq #[] 0, #[]⟩
noncomputable abbrev o79v0 (P : Params) : Obj := ⟨.none, none, .fields #[], #[]⟩
noncomputable abbrev o80v0 (P : Params) : Obj := ⟨.type "tuple", none, .seq #[.str "v" 257, .str "le" 258, .str "val_lower" 259, .str "ue" 260, .str "val_upper" 261] 0, #[]⟩
noncomputable abbrev o81v0 (P : Params) : Obj := ⟨.type "tuple", none, .seq #[] 0, #[]⟩
noncomputable abbrev o82v0 (P : Params) : Obj := ⟨.none, none, .func ⟨"range_out", "range_out", D11.1.1, .stmts D11.1.2.1, D11.1.2.2, 0, [], .none, .none, .none, .none, none, .none, .none, 0⟩, #[]⟩
noncomputable abbrev o83v0 (P : Params) : Obj := ⟨.type "code", none, .fields #[.str "range_out" 254, .str "range_out" 255, .str "/claim/cut.py" 256, .int 26 0, .int 1 0, .int 0 0, .int 0 0, .int 3 0, .ref 78, .bool true, .int 181 0, .ref 79, .none, .ref 80, .ref 81, .ref 82, .int 262 0, .int 26 0, .str "/claim/cut.py" 263], #[]⟩
noncomputable abbrev o84v0 (P : Params) : Obj := ⟨.type "function", none, .func ⟨"range_out", "range_out", D11.1.1, .stmts D11.1.2.1, D11.1.2.2, 3, [], .none, .none, .none, .str "pg8000.converters" 203, none, .ref 83, .none, 0⟩, #[]⟩
noncomputable abbrev o85v0 (P : Params) : Obj := ⟨.type "tuple", none, .seq #[] 0, #[]⟩
noncomputable abbrev o86v0 (P : Params) : Obj := ⟨.none, none, .fields #[], #[]⟩
noncomputable abbrev o87v0 (P : Params) : Obj := ⟨.type "tuple", none, .seq #[.str "data" 268] 0, #[]⟩
noncomputable abbrev o88v0 (P : Params) : Obj := ⟨.type "tuple", none, .seq #[] 0, #[]⟩
noncomputable abbrev o89v0 (P : Params) : Obj := ⟨.none, none, .func ⟨"string_in", "string_in", D12.1.1, .stmts D12.1.2.1, D12.1.2.2, 0, [], .none, .none, .none, .none, none, .none, .none, 0⟩, #[]⟩
noncomputable abbrev o90v0 (P : Params) : Obj := ⟨.type "code", none, .fields #[.str "string_in" 265, .str "string_in" 266, .str "/claim/cut.py" 267, .int 35 0, .int 1 0, .int 0 0, .int 0 0, .int 3 0, .ref 85, .bool true, .int 181 0, .ref 86, .none, .ref 87, .ref 88, .ref 89, .int 269 0, .int 35 0, .str "/claim/cut.py" 270], #[]⟩
noncomputable abbrev o91v0 (P : Params) : Obj := ⟨.type "function", none, .func ⟨"string_in", "string_in", D12.1.1, .stmts D12.1.2.1, D12.1.2.2, 3, [], .none, .none, .none, .str "pg8000.converters" 203, none, .ref 90, .none, 0⟩, #[]⟩
noncomputable abbrev o92v0 (P : Params) : Obj := ⟨.type "tuple", none, .seq #[] 0, #[]⟩
noncomputable abbrev o93v0 (P : Params) : Obj := ⟨.none, none, .fields #[], #[]⟩
noncomputable abbrev o94v0 (P : Params) : Obj := ⟨.type "tuple", none, .seq #[.str "v" 275] 0, #[]⟩
noncomputable abbrev o95v0 (P : Params) : Obj := ⟨.type "tuple", none, .seq #[] 0, #[]⟩
noncomputable abbrev o96v0 (P : Params) : Obj := ⟨.none, none, .func ⟨"string_out", "string_out", D13.1.1, .stmts D13.1.2.1, D13.1.2.2, 0, [], .none, .none, .none, .none, none, .none, .none, 0⟩, #[]⟩
noncomputable abbrev o97v0 (P : Params) : Obj := ⟨.type "code", none, .fields #[.str "string_out" 272, .str "string_out" 273, .str "/claim/cut.py" 274, .int 37 0, .int 1 0, .int 0 0, .int 0 0, .int 3 0, .ref 92, .bool true, .int 181 0, .ref 93, .none, .ref 94, .ref 95, .ref 96, .int 276 0, .int 37 0, .str "/claim/cut.py" 277], #[]⟩
noncomputable abbrev o98v0 (P : Params) : Obj := ⟨.type "function", none, .func ⟨"string_out", "string_out", D13.1.1, .stmts D13.1.2.1, D13.1.2.2, 3, [], .none, .none, .none, .str "pg8000.converters" 203, none, .ref 97, .none, 0⟩, #[]⟩
noncomputable abbrev o99v0 (P : Params) : Obj := ⟨.type "tuple", none, .seq #[.str "_written_out_" 281, .str "_is_flag_" 282, .str "_given_values_" 283, .str "_held_init_" 284, .str "_making_" 285] 0, #[]⟩
noncomputable abbrev o100v0 (P : Params) : Obj := ⟨.type "tuple", none, .seq #[] 0, #[]⟩
noncomputable abbrev o101v0 (P : Params) : Obj := ⟨.type "builtin_function_or_method", none, .fields #[.builtin "type.__prepare__", .type "type"], #[]⟩
noncomputable abbrev o102v0 (P : Params) : Obj := ⟨.type "dict", none, .dict #[⟨PyData.keyHash P "__module__", .str "__module__" 294, .str "builtins" 299⟩, ⟨PyData.keyHash P "__qualname__", .str "__qualname__" 296, .str "mappingproxy" 295⟩, ⟨PyData.keyHash P "__firstlineno__", .str "__firstlineno__" 298, .int 41 297⟩, ⟨PyData.keyHash P "__slots__", .str "__slots__" 302, .ref 107⟩, ⟨PyData.keyHash P "__new__", .str "__new__" 311, .ref 114⟩, ⟨PyData.keyHash P "__reduce_ex__", .str "__reduce_ex__" 319, .ref 121⟩, ⟨PyData.keyHash P "__getitem__", .str "__getitem__" 327, .ref 128⟩, ⟨PyData.keyHash P "__len__", .str "__len__" 334, .ref 135⟩, ⟨PyData.keyHash P "__iter__", .str "__iter__" 341, .ref 142⟩, ⟨PyData.keyHash P "__reversed__", .str "__reversed__" 348, .ref 149⟩, ⟨PyData.keyHash P "__contains__", .str "__contains__" 356, .ref 156⟩, ⟨PyData.keyHash P "__repr__", .str "__repr__" 363, .ref 163⟩, ⟨PyData.keyHash P "__str__", .str "__str__" 370, .ref 170⟩, ⟨PyData.keyHash P "__eq__", .str "__eq__" 378, .ref 177⟩, ⟨PyData.keyHash P "__ne__", .str "__ne__" 386, .ref 184⟩, ⟨PyData.keyHash P "__lt__", .str "__lt__" 394, .ref 191⟩, ⟨PyData.keyHash P "__le__", .str "__le__" 402, .ref 198⟩, ⟨PyData.keyHash P "__gt__", .str "__gt__" 410, .ref 205⟩, ⟨PyData.keyHash P "__ge__", .str "__ge__" 418, .ref 212⟩, ⟨PyData.keyHash P "__hash__", .str "__hash__" 425, .ref 219⟩, ⟨PyData.keyHash P "__or__", .str "__or__" 433, .ref 226⟩, ⟨PyData.keyHash P "__ror__", .str "__ror__" 441, .ref 233⟩, ⟨PyData.keyHash P "__ior__", .str "__ior__" 449, .ref 240⟩, ⟨PyData.keyHash P "get", .str "get" 458, .ref 248⟩, ⟨PyData.keyHash P "keys", .str "keys" 465, .ref 255⟩, ⟨PyData.keyHash P "values", .str "values" 472, .ref 262⟩, ⟨PyData.keyHash P "items", .str "items" 479, .ref 269⟩, ⟨PyData.keyHash P "copy", .str "copy" 486, .ref 276⟩, ⟨PyData.keyHash P "__static_attributes__", .str "__static_attributes__" 488, .ref 277⟩] 29, #[]⟩
noncomputable abbrev o103v0 (P : Params) : Obj := ⟨.type "tuple", none, .seq #[] 0, #[]⟩
noncomputable abbrev o104v0 (P : Params) : Obj := ⟨.none, none, .fields #[.int 45 0, .int 4 0, .ref 113, .int 52 0, .int 4 0, .ref 120, .int 55 0, .int 4 0, .ref 127, .int 58 0, .int 4 0, .ref 134, .int 61 0, .int 4 0, .ref 141, .int 64 0, .int 4 0, .ref 148, .int 67 0, .int 4 0, .ref 155, .int 70 0, .int 4 0, .ref 162, .int 73 0, .int 4 0, .ref 169, .int 76 0, .int 4 0, .ref 176, .int 79 0, .int 4 0, .ref 183, .int 82 0, .int 4 0, .ref 190, .int 85 0, .int 4 0, .ref 197, .int 88 0, .int 4 0, .ref 204, .int 91 0, .int 4 0, .ref 211, .int 94 0, .int 4 0, .ref 218, .int 97 0, .int 4 0, .ref 225, .int 102 0, .int 4 0, .ref 232, .int 105 0, .int 4 0, .ref 239, .int 108 0, .int 4 0, .ref 247, .int 111 0, .int 4 0, .ref 254, .int 114 0, .int 4 0, .ref 261, .int 117 0, .int 4 0, .ref 268, .int 120 0, .int 4 0, .ref 275], #[]⟩
noncomputable abbrev o105v0 (P : Params) : Obj := ⟨.type "code", none, .fields #[.str "mappingproxy" 289, .str "mappingproxy" 290, .str "/claim/cut.py" 291, .int 41 0, .int 0 0, .int 0 0, .int 0 0, .int 0 0, .ref 103, .bool false, .int 181 0, .ref 104, .none, .none, .none, .none, .int 292 0, .int 41 0, .str "/claim/cut.py" 293], #[]⟩
noncomputable abbrev o106v0 (P : Params) : Obj := ⟨.type "frame", none, .plain, #[some (.ref 105), some (.ref 3), some (.ref 102), none, some (.str "enum" 279), none, some (.ref 0)]⟩
noncomputable abbrev o107v0 (P : Params) : Obj := ⟨.type "tuple", none, .seq #[.str "_mapping" 301] 0, #[]⟩
noncomputable abbrev o108v0 (P : Params) : Obj := ⟨.type "tuple", none, .seq #[] 0, #[]⟩
noncomputable abbrev o109v0 (P : Params) : Obj := ⟨.none, none, .fields #[], #[]⟩
noncomputable abbrev o110v0 (P : Params) : Obj := ⟨.type "tuple", none, .seq #[.str "cls" 306, .str "mapping" 307, .str "self" 308] 0, #[]⟩
noncomputable abbrev o111v0 (P : Params) : Obj := ⟨.type "tuple", none, .seq #[] 0, #[]⟩
noncomputable abbrev o112v0 (P : Params) : Obj := ⟨.none, none, .func ⟨"__new__", "mappingproxy.__new__", D16x2.1.1, .stmts D16x2.1.2.1, D16x2.1.2.2, 0, [], .none, .none, .none, .none, none, .none, .none, 0⟩, #[]⟩
noncomputable abbrev o113v0 (P : Params) : Obj := ⟨.type "code", none, .fields #[.str "__new__" 303, .str "mappingproxy.__new__" 304, .str "/claim/cut.py" 305, .int 45 0, .int 2 0, .int 0 0, .int 0 0, .int 3 0, .ref 108, .bool true, .int 181 0, .ref 109, .none, .ref 110, .ref 111, .ref 112, .int 309 0, .int 45 0, .str "/claim/cut.py" 310], #[]⟩
noncomputable abbrev o114v0 (P : Params) : Obj := ⟨.type "function", none, .func ⟨"__new__", "mappingproxy.__new__", D16x2.1.1, .stmts D16x2.1.2.1, D16x2.1.2.2, 3, [], .none, .none, .none, .str "enum" 279, none, .ref 113, .none, 0⟩, #[]⟩
noncomputable abbrev o115v0 (P : Params) : Obj := ⟨.type "tuple", none, .seq #[] 0, #[]⟩
noncomputable abbrev o116v0 (P : Params) : Obj := ⟨.none, none, .fields #[], #[]⟩
noncomputable abbrev o117v0 (P : Params) : Obj := ⟨.type "tuple", none, .seq #[.str "self" 315, .str "protocol" 316] 0, #[]⟩
noncomputable abbrev o118v0 (P : Params) : Obj := ⟨.type "tuple", none, .seq #[] 0, #[]⟩
noncomputable abbrev o119v0 (P : Params) : Obj := ⟨.none, none, .func ⟨"__reduce_ex__", "mappingproxy.__reduce_ex__", D16x3.1.1, .stmts D16x3.1.2.1, D16x3.1.2.2, 0, [], .none, .none, .none, .none, none, .none, .none, 0⟩, #[]⟩
noncomputable abbrev o120v0 (P : Params) : Obj := ⟨.type "code", none, .fields #[.str "__reduce_ex__" 312, .str "mappingproxy.__reduce_ex__" 313, .str "/claim/cut.py" 314, .int 52 0, .int 2 0, .int 0 0, .int 0 0, .int 3 0, .ref 115, .bool true, .int 181 0, .ref 116, .none, .ref 117, .ref 118, .ref 119, .int 317 0, .int 52 0, .str "/claim/cut.py" 318], #[]⟩
noncomputable abbrev o121v0 (P : Params) : Obj := ⟨.type "function", none, .func ⟨"__reduce_ex__", "mappingproxy.__reduce_ex__", D16x3.1.1, .stmts D16x3.1.2.1, D16x3.1.2.2, 3, [], .none, .none, .none, .str "enum" 279, none, .ref 120, .none, 0⟩, #[]⟩
noncomputable abbrev o122v0 (P : Params) : Obj := ⟨.type "tuple", none, .seq #[] 0, #[]⟩
noncomputable abbrev o123v0 (P : Params) : Obj := ⟨.none, none, .fields #[], #[]⟩
noncomputable abbrev o124v0 (P : Params) : Obj := ⟨.type "tuple", none, .seq #[.str "self" 323, .str "key" 324] 0, #[]⟩
noncomputable abbrev o125v0 (P : Params) : Obj := ⟨.type "tuple", none, .seq #[] 0, #[]⟩
noncomputable abbrev o126v0 (P : Params) : Obj := ⟨.none, none, .func ⟨"__getitem__", "mappingproxy.__getitem__", D16x4.1.1, .stmts D16x4.1.2.1, D16x4.1.2.2, 0, [], .none, .none, .none, .none, none, .none, .none, 0⟩, #[]⟩
noncomputable abbrev o127v0 (P : Params) : Obj := ⟨.type "code", none, .fields #[.str "__getitem__" 320, .str "mappingproxy.__getitem__" 321, .str "/claim/cut.py" 322, .int 55 0, .int 2 0, .int 0 0, .int 0 0, .int 3 0, .ref 122, .bool true, .int 181 0, .ref 123, .none, .ref 124, .ref 125, .ref 126, .int 325 0, .int 55 0, .str "/claim/cut.py" 326], #[]⟩
noncomputable abbrev o128v0 (P : Params) : Obj := ⟨.type "function", none, .func ⟨"__getitem__", "mappingproxy.__getitem__", D16x4.1.1, .stmts D16x4.1.2.1, D16x4.1.2.2, 3, [], .none, .none, .none, .str "enum" 279, none, .ref 127, .none, 0⟩, #[]⟩
noncomputable abbrev o129v0 (P : Params) : Obj := ⟨.type "tuple", none, .seq #[] 0, #[]⟩
noncomputable abbrev o130v0 (P : Params) : Obj := ⟨.none, none, .fields #[], #[]⟩
noncomputable abbrev o131v0 (P : Params) : Obj := ⟨.type "tuple", none, .seq #[.str "self" 331] 0, #[]⟩
noncomputable abbrev o132v0 (P : Params) : Obj := ⟨.type "tuple", none, .seq #[] 0, #[]⟩
noncomputable abbrev o133v0 (P : Params) : Obj := ⟨.none, none, .func ⟨"__len__", "mappingproxy.__len__", D16x5.1.1, .stmts D16x5.1.2.1, D16x5.1.2.2, 0, [], .none, .none, .none, .none, none, .none, .none, 0⟩, #[]⟩
noncomputable abbrev o134v0 (P : Params) : Obj := ⟨.type "code", none, .fields #[.str "__len__" 328, .str "mappingproxy.__len__" 329, .str "/claim/cut.py" 330, .int 58 0, .int 1 0, .int 0 0, .int 0 0, .int 3 0, .ref 129, .bool true, .int 181 0, .ref 130, .none, .ref 131, .ref 132, .ref 133, .int 332 0, .int 58 0, .str "/claim/cut.py" 333], #[]⟩
noncomputable abbrev o135v0 (P : Params) : Obj := ⟨.type "function", none, .func ⟨"__len__", "mappingproxy.__len__", D16x5.1.1, .stmts D16x5.1.2.1, D16x5.1.2.2, 3, [], .none, .none, .none, .str "enum" 279, none, .ref 134, .none, 0⟩, #[]⟩
noncomputable abbrev o136v0 (P : Params) : Obj := ⟨.type "tuple", none, .seq #[] 0, #[]⟩
noncomputable abbrev o137v0 (P : Params) : Obj := ⟨.none, none, .fields #[], #[]⟩
noncomputable abbrev o138v0 (P : Params) : Obj := ⟨.type "tuple", none, .seq #[.str "self" 338] 0, #[]⟩
noncomputable abbrev o139v0 (P : Params) : Obj := ⟨.type "tuple", none, .seq #[] 0, #[]⟩
noncomputable abbrev o140v0 (P : Params) : Obj := ⟨.none, none, .func ⟨"__iter__", "mappingproxy.__iter__", D16x6.1.1, .stmts D16x6.1.2.1, D16x6.1.2.2, 0, [], .none, .none, .none, .none, none, .none, .none, 0⟩, #[]⟩
noncomputable abbrev o141v0 (P : Params) : Obj := ⟨.type "code", none, .fields #[.str "__iter__" 335, .str "mappingproxy.__iter__" 336, .str "/claim/cut.py" 337, .int 61 0, .int 1 0, .int 0 0, .int 0 0, .int 3 0, .ref 136, .bool true, .int 181 0, .ref 137, .none, .ref 138, .ref 139, .ref 140, .int 339 0, .int 61 0, .str "/claim/cut.py" 340], #[]⟩
noncomputable abbrev o142v0 (P : Params) : Obj := ⟨.type "function", none, .func ⟨"__iter__", "mappingproxy.__iter__", D16x6.1.1, .stmts D16x6.1.2.1, D16x6.1.2.2, 3, [], .none, .none, .none, .str "enum" 279, none, .ref 141, .none, 0⟩, #[]⟩
noncomputable abbrev o143v0 (P : Params) : Obj := ⟨.type "tuple", none, .seq #[] 0, #[]⟩
noncomputable abbrev o144v0 (P : Params) : Obj := ⟨.none, none, .fields #[], #[]⟩
noncomputable abbrev o145v0 (P : Params) : Obj := ⟨.type "tuple", none, .seq #[.str "self" 345] 0, #[]⟩
noncomputable abbrev o146v0 (P : Params) : Obj := ⟨.type "tuple", none, .seq #[] 0, #[]⟩
noncomputable abbrev o147v0 (P : Params) : Obj := ⟨.none, none, .func ⟨"__reversed__", "mappingproxy.__reversed__", D16x7.1.1, .stmts D16x7.1.2.1, D16x7.1.2.2, 0, [], .none, .none, .none, .none, none, .none, .none, 0⟩, #[]⟩
noncomputable abbrev o148v0 (P : Params) : Obj := ⟨.type "code", none, .fields #[.str "__reversed__" 342, .str "mappingproxy.__reversed__" 343, .str "/claim/cut.py" 344, .int 64 0, .int 1 0, .int 0 0, .int 0 0, .int 3 0, .ref 143, .bool true, .int 181 0, .ref 144, .none, .ref 145, .ref 146, .ref 147, .int 346 0, .int 64 0, .str "/claim/cut.py" 347], #[]⟩
noncomputable abbrev o149v0 (P : Params) : Obj := ⟨.type "function", none, .func ⟨"__reversed__", "mappingproxy.__reversed__", D16x7.1.1, .stmts D16x7.1.2.1, D16x7.1.2.2, 3, [], .none, .none, .none, .str "enum" 279, none, .ref 148, .none, 0⟩, #[]⟩
noncomputable abbrev o150v0 (P : Params) : Obj := ⟨.type "tuple", none, .seq #[] 0, #[]⟩
noncomputable abbrev o151v0 (P : Params) : Obj := ⟨.none, none, .fields #[], #[]⟩
noncomputable abbrev o152v0 (P : Params) : Obj := ⟨.type "tuple", none, .seq #[.str "self" 352, .str "key" 353] 0, #[]⟩
noncomputable abbrev o153v0 (P : Params) : Obj := ⟨.type "tuple", none, .seq #[] 0, #[]⟩
noncomputable abbrev o154v0 (P : Params) : Obj := ⟨.none, none, .func ⟨"__contains__", "mappingproxy.__contains__", D16x8.1.1, .stmts D16x8.1.2.1, D16x8.1.2.2, 0, [], .none, .none, .none, .none, none, .none, .none, 0⟩, #[]⟩
noncomputable abbrev o155v0 (P : Params) : Obj := ⟨.type "code", none, .fields #[.str "__contains__" 349, .str "mappingproxy.__contains__" 350, .str "/claim/cut.py" 351, .int 67 0, .int 2 0, .int 0 0, .int 0 0, .int 3 0, .ref 150, .bool true, .int 181 0, .ref 151, .none, .ref 152, .ref 153, .ref 154, .int 354 0, .int 67 0, .str "/claim/cut.py" 355], #[]⟩
noncomputable abbrev o156v0 (P : Params) : Obj := ⟨.type "function", none, .func ⟨"__contains__", "mappingproxy.__contains__", D16x8.1.1, .stmts D16x8.1.2.1, D16x8.1.2.2, 3, [], .none, .none, .none, .str "enum" 279, none, .ref 155, .none, 0⟩, #[]⟩
noncomputable abbrev o157v0 (P : Params) : Obj := ⟨.type "tuple", none, .seq #[] 0, #[]⟩
noncomputable abbrev o158v0 (P : Params) : Obj := ⟨.none, none, .fields #[], #[]⟩
noncomputable abbrev o159v0 (P : Params) : Obj := ⟨.type "tuple", none, .seq #[.str "self" 360] 0, #[]⟩
noncomputable abbrev o160v0 (P : Params) : Obj := ⟨.type "tuple", none, .seq #[] 0, #[]⟩
noncomputable abbrev o161v0 (P : Params) : Obj := ⟨.none, none, .func ⟨"__repr__", "mappingproxy.__repr__", D16x9.1.1, .stmts D16x9.1.2.1, D16x9.1.2.2, 0, [], .none, .none, .none, .none, none, .none, .none, 0⟩, #[]⟩
noncomputable abbrev o162v0 (P : Params) : Obj := ⟨.type "code", none, .fields #[.str "__repr__" 357, .str "mappingproxy.__repr__" 358, .str "/claim/cut.py" 359, .int 70 0, .int 1 0, .int 0 0, .int 0 0, .int 3 0, .ref 157, .bool true, .int 181 0, .ref 158, .none, .ref 159, .ref 160, .ref 161, .int 361 0, .int 70 0, .str "/claim/cut.py" 362], #[]⟩
noncomputable abbrev o163v0 (P : Params) : Obj := ⟨.type "function", none, .func ⟨"__repr__", "mappingproxy.__repr__", D16x9.1.1, .stmts D16x9.1.2.1, D16x9.1.2.2, 3, [], .none, .none, .none, .str "enum" 279, none, .ref 162, .none, 0⟩, #[]⟩
noncomputable abbrev o164v0 (P : Params) : Obj := ⟨.type "tuple", none, .seq #[] 0, #[]⟩
noncomputable abbrev o165v0 (P : Params) : Obj := ⟨.none, none, .fields #[], #[]⟩
noncomputable abbrev o166v0 (P : Params) : Obj := ⟨.type "tuple", none, .seq #[.str "self" 367] 0, #[]⟩
noncomputable abbrev o167v0 (P : Params) : Obj := ⟨.type "tuple", none, .seq #[] 0, #[]⟩
noncomputable abbrev o168v0 (P : Params) : Obj := ⟨.none, none, .func ⟨"__str__", "mappingproxy.__str__", D16x10.1.1, .stmts D16x10.1.2.1, D16x10.1.2.2, 0, [], .none, .none, .none, .none, none, .none, .none, 0⟩, #[]⟩
noncomputable abbrev o169v0 (P : Params) : Obj := ⟨.type "code", none, .fields #[.str "__str__" 364, .str "mappingproxy.__str__" 365, .str "/claim/cut.py" 366, .int 73 0, .int 1 0, .int 0 0, .int 0 0, .int 3 0, .ref 164, .bool true, .int 181 0, .ref 165, .none, .ref 166, .ref 167, .ref 168, .int 368 0, .int 73 0, .str "/claim/cut.py" 369], #[]⟩
noncomputable abbrev o170v0 (P : Params) : Obj := ⟨.type "function", none, .func ⟨"__str__", "mappingproxy.__str__", D16x10.1.1, .stmts D16x10.1.2.1, D16x10.1.2.2, 3, [], .none, .none, .none, .str "enum" 279, none, .ref 169, .none, 0⟩, #[]⟩
noncomputable abbrev o171v0 (P : Params) : Obj := ⟨.type "tuple", none, .seq #[] 0, #[]⟩
noncomputable abbrev o172v0 (P : Params) : Obj := ⟨.none, none, .fields #[], #[]⟩
noncomputable abbrev o173v0 (P : Params) : Obj := ⟨.type "tuple", none, .seq #[.str "self" 374, .str "other" 375] 0, #[]⟩
noncomputable abbrev o174v0 (P : Params) : Obj := ⟨.type "tuple", none, .seq #[] 0, #[]⟩
noncomputable abbrev o175v0 (P : Params) : Obj := ⟨.none, none, .func ⟨"__eq__", "mappingproxy.__eq__", D16x11.1.1, .stmts D16x11.1.2.1, D16x11.1.2.2, 0, [], .none, .none, .none, .none, none, .none, .none, 0⟩, #[]⟩
noncomputable abbrev o176v0 (P : Params) : Obj := ⟨.type "code", none, .fields #[.str "__eq__" 371, .str "mappingproxy.__eq__" 372, .str "/claim/cut.py" 373, .int 76 0, .int 2 0, .int 0 0, .int 0 0, .int 3 0, .ref 171, .bool true, .int 181 0, .ref 172, .none, .ref 173, .ref 174, .ref 175, .int 376 0, .int 76 0, .str "/claim/cut.py" 377], #[]⟩
noncomputable abbrev o177v0 (P : Params) : Obj := ⟨.type "function", none, .func ⟨"__eq__", "mappingproxy.__eq__", D16x11.1.1, .stmts D16x11.1.2.1, D16x11.1.2.2, 3, [], .none, .none, .none, .str "enum" 279, none, .ref 176, .none, 0⟩, #[]⟩
noncomputable abbrev o178v0 (P : Params) : Obj := ⟨.type "tuple", none, .seq #[] 0, #[]⟩
noncomputable abbrev o179v0 (P : Params) : Obj := ⟨.none, none, .fields #[], #[]⟩
noncomputable abbrev o180v0 (P : Params) : Obj := ⟨.type "tuple", none, .seq #[.str "self" 382, .str "other" 383] 0, #[]⟩
noncomputable abbrev o181v0 (P : Params) : Obj := ⟨.type "tuple", none, .seq #[] 0, #[]⟩
noncomputable abbrev o182v0 (P : Params) : Obj := ⟨.none, none, .func ⟨"__ne__", "mappingproxy.__ne__", D16x12.1.1, .stmts D16x12.1.2.1, D16x12.1.2.2, 0, [], .none, .none, .none, .none, none, .none, .none, 0⟩, #[]⟩
noncomputable abbrev o183v0 (P : Params) : Obj := ⟨.type "code", none, .fields #[.str "__ne__" 379, .str "mappingproxy.__ne__" 380, .str "/claim/cut.py" 381, .int 79 0, .int 2 0, .int 0 0, .int 0 0, .int 3 0, .ref 178, .bool true, .int 181 0, .ref 179, .none, .ref 180, .ref 181, .ref 182, .int 384 0, .int 79 0, .str "/claim/cut.py" 385], #[]⟩
noncomputable abbrev o184v0 (P : Params) : Obj := ⟨.type "function", none, .func ⟨"__ne__", "mappingproxy.__ne__", D16x12.1.1, .stmts D16x12.1.2.1, D16x12.1.2.2, 3, [], .none, .none, .none, .str "enum" 279, none, .ref 183, .none, 0⟩, #[]⟩
noncomputable abbrev o185v0 (P : Params) : Obj := ⟨.type "tuple", none, .seq #[] 0, #[]⟩
noncomputable abbrev o186v0 (P : Params) : Obj := ⟨.none, none, .fields #[], #[]⟩
noncomputable abbrev o187v0 (P : Params) : Obj := ⟨.type "tuple", none, .seq #[.str "self" 390, .str "other" 391] 0, #[]⟩
noncomputable abbrev o188v0 (P : Params) : Obj := ⟨.type "tuple", none, .seq #[] 0, #[]⟩
noncomputable abbrev o189v0 (P : Params) : Obj := ⟨.none, none, .func ⟨"__lt__", "mappingproxy.__lt__", D16x13.1.1, .stmts D16x13.1.2.1, D16x13.1.2.2, 0, [], .none, .none, .none, .none, none, .none, .none, 0⟩, #[]⟩
noncomputable abbrev o190v0 (P : Params) : Obj := ⟨.type "code", none, .fields #[.str "__lt__" 387, .str "mappingproxy.__lt__" 388, .str "/claim/cut.py" 389, .int 82 0, .int 2 0, .int 0 0, .int 0 0, .int 3 0, .ref 185, .bool true, .int 181 0, .ref 186, .none, .ref 187, .ref 188, .ref 189, .int 392 0, .int 82 0, .str "/claim/cut.py" 393], #[]⟩
noncomputable abbrev o191v0 (P : Params) : Obj := ⟨.type "function", none, .func ⟨"__lt__", "mappingproxy.__lt__", D16x13.1.1, .stmts D16x13.1.2.1, D16x13.1.2.2, 3, [], .none, .none, .none, .str "enum" 279, none, .ref 190, .none, 0⟩, #[]⟩
noncomputable abbrev o192v0 (P : Params) : Obj := ⟨.type "tuple", none, .seq #[] 0, #[]⟩
noncomputable abbrev o193v0 (P : Params) : Obj := ⟨.none, none, .fields #[], #[]⟩
noncomputable abbrev o194v0 (P : Params) : Obj := ⟨.type "tuple", none, .seq #[.str "self" 398, .str "other" 399] 0, #[]⟩
noncomputable abbrev o195v0 (P : Params) : Obj := ⟨.type "tuple", none, .seq #[] 0, #[]⟩
noncomputable abbrev o196v0 (P : Params) : Obj := ⟨.none, none, .func ⟨"__le__", "mappingproxy.__le__", D16x14.1.1, .stmts D16x14.1.2.1, D16x14.1.2.2, 0, [], .none, .none, .none, .none, none, .none, .none, 0⟩, #[]⟩
noncomputable abbrev o197v0 (P : Params) : Obj := ⟨.type "code", none, .fields #[.str "__le__" 395, .str "mappingproxy.__le__" 396, .str "/claim/cut.py" 397, .int 85 0, .int 2 0, .int 0 0, .int 0 0, .int 3 0, .ref 192, .bool true, .int 181 0, .ref 193, .none, .ref 194, .ref 195, .ref 196, .int 400 0, .int 85 0, .str "/claim/cut.py" 401], #[]⟩
noncomputable abbrev o198v0 (P : Params) : Obj := ⟨.type "function", none, .func ⟨"__le__", "mappingproxy.__le__", D16x14.1.1, .stmts D16x14.1.2.1, D16x14.1.2.2, 3, [], .none, .none, .none, .str "enum" 279, none, .ref 197, .none, 0⟩, #[]⟩
noncomputable abbrev o199v0 (P : Params) : Obj := ⟨.type "tuple", none, .seq #[] 0, #[]⟩
noncomputable abbrev o200v0 (P : Params) : Obj := ⟨.none, none, .fields #[], #[]⟩
noncomputable abbrev o201v0 (P : Params) : Obj := ⟨.type "tuple", none, .seq #[.str "self" 406, .str "other" 407] 0, #[]⟩
noncomputable abbrev o202v0 (P : Params) : Obj := ⟨.type "tuple", none, .seq #[] 0, #[]⟩
noncomputable abbrev o203v0 (P : Params) : Obj := ⟨.none, none, .func ⟨"__gt__", "mappingproxy.__gt__", D16x15.1.1, .stmts D16x15.1.2.1, D16x15.1.2.2, 0, [], .none, .none, .none, .none, none, .none, .none, 0⟩, #[]⟩
noncomputable abbrev o204v0 (P : Params) : Obj := ⟨.type "code", none, .fields #[.str "__gt__" 403, .str "mappingproxy.__gt__" 404, .str "/claim/cut.py" 405, .int 88 0, .int 2 0, .int 0 0, .int 0 0, .int 3 0, .ref 199, .bool true, .int 181 0, .ref 200, .none, .ref 201, .ref 202, .ref 203, .int 408 0, .int 88 0, .str "/claim/cut.py" 409], #[]⟩
noncomputable abbrev o205v0 (P : Params) : Obj := ⟨.type "function", none, .func ⟨"__gt__", "mappingproxy.__gt__", D16x15.1.1, .stmts D16x15.1.2.1, D16x15.1.2.2, 3, [], .none, .none, .none, .str "enum" 279, none, .ref 204, .none, 0⟩, #[]⟩
noncomputable abbrev o206v0 (P : Params) : Obj := ⟨.type "tuple", none, .seq #[] 0, #[]⟩
noncomputable abbrev o207v0 (P : Params) : Obj := ⟨.none, none, .fields #[], #[]⟩
noncomputable abbrev o208v0 (P : Params) : Obj := ⟨.type "tuple", none, .seq #[.str "self" 414, .str "other" 415] 0, #[]⟩
noncomputable abbrev o209v0 (P : Params) : Obj := ⟨.type "tuple", none, .seq #[] 0, #[]⟩
noncomputable abbrev o210v0 (P : Params) : Obj := ⟨.none, none, .func ⟨"__ge__", "mappingproxy.__ge__", D16x16.1.1, .stmts D16x16.1.2.1, D16x16.1.2.2, 0, [], .none, .none, .none, .none, none, .none, .none, 0⟩, #[]⟩
noncomputable abbrev o211v0 (P : Params) : Obj := ⟨.type "code", none, .fields #[.str "__ge__" 411, .str "mappingproxy.__ge__" 412, .str "/claim/cut.py" 413, .int 91 0, .int 2 0, .int 0 0, .int 0 0, .int 3 0, .ref 206, .bool true, .int 181 0, .ref 207, .none, .ref 208, .ref 209, .ref 210, .int 416 0, .int 91 0, .str "/claim/cut.py" 417], #[]⟩
noncomputable abbrev o212v0 (P : Params) : Obj := ⟨.type "function", none, .func ⟨"__ge__", "mappingproxy.__ge__", D16x16.1.1, .stmts D16x16.1.2.1, D16x16.1.2.2, 3, [], .none, .none, .none, .str "enum" 279, none, .ref 211, .none, 0⟩, #[]⟩
noncomputable abbrev o213v0 (P : Params) : Obj := ⟨.type "tuple", none, .seq #[] 0, #[]⟩
noncomputable abbrev o214v0 (P : Params) : Obj := ⟨.none, none, .fields #[], #[]⟩
noncomputable abbrev o215v0 (P : Params) : Obj := ⟨.type "tuple", none, .seq #[.str "self" 422] 0, #[]⟩
noncomputable abbrev o216v0 (P : Params) : Obj := ⟨.type "tuple", none, .seq #[] 0, #[]⟩
noncomputable abbrev o217v0 (P : Params) : Obj := ⟨.none, none, .func ⟨"__hash__", "mappingproxy.__hash__", D16x17.1.1, .stmts D16x17.1.2.1, D16x17.1.2.2, 0, [], .none, .none, .none, .none, none, .none, .none, 0⟩, #[]⟩
noncomputable abbrev o218v0 (P : Params) : Obj := ⟨.type "code", none, .fields #[.str "__hash__" 419, .str "mappingproxy.__hash__" 420, .str "/claim/cut.py" 421, .int 94 0, .int 1 0, .int 0 0, .int 0 0, .int 3 0, .ref 213, .bool true, .int 181 0, .ref 214, .none, .ref 215, .ref 216, .ref 217, .int 423 0, .int 94 0, .str "/claim/cut.py" 424], #[]⟩
noncomputable abbrev o219v0 (P : Params) : Obj := ⟨.type "function", none, .func ⟨"__hash__", "mappingproxy.__hash__", D16x17.1.1, .stmts D16x17.1.2.1, D16x17.1.2.2, 3, [], .none, .none, .none, .str "enum" 279, none, .ref 218, .none, 0⟩, #[]⟩
noncomputable abbrev o220v0 (P : Params) : Obj := ⟨.type "tuple", none, .seq #[] 0, #[]⟩
noncomputable abbrev o221v0 (P : Params) : Obj := ⟨.none, none, .fields #[], #[]⟩
noncomputable abbrev o222v0 (P : Params) : Obj := ⟨.type "tuple", none, .seq #[.str "self" 429, .str "other" 430] 0, #[]⟩
noncomputable abbrev o223v0 (P : Params) : Obj := ⟨.type "tuple", none, .seq #[] 0, #[]⟩
noncomputable abbrev o224v0 (P : Params) : Obj := ⟨.none, none, .func ⟨"__or__", "mappingproxy.__or__", D16x18.1.1, .stmts D16x18.1.2.1, D16x18.1.2.2, 0, [], .none, .none, .none, .none, none, .none, .none, 0⟩, #[]⟩
noncomputable abbrev o225v0 (P : Params) : Obj := ⟨.type "code", none, .fields #[.str "__or__" 426, .str "mappingproxy.__or__" 427, .str "/claim/cut.py" 428, .int 97 0, .int 2 0, .int 0 0, .int 0 0, .int 3 0, .ref 220, .bool true, .int 181 0, .ref 221, .none, .ref 222, .ref 223, .ref 224, .int 431 0, .int 97 0, .str "/claim/cut.py" 432], #[]⟩
noncomputable abbrev o226v0 (P : Params) : Obj := ⟨.type "function", none, .func ⟨"__or__", "mappingproxy.__or__", D16x18.1.1, .stmts D16x18.1.2.1, D16x18.1.2.2, 3, [], .none, .none, .none, .str "enum" 279, none, .ref 225, .none, 0⟩, #[]⟩
noncomputable abbrev o227v0 (P : Params) : Obj := ⟨.type "tuple", none, .seq #[] 0, #[]⟩
noncomputable abbrev o228v0 (P : Params) : Obj := ⟨.none, none, .fields #[], #[]⟩
noncomputable abbrev o229v0 (P : Params) : Obj := ⟨.type "tuple", none, .seq #[.str "self" 437, .str "other" 438] 0, #[]⟩
noncomputable abbrev o230v0 (P : Params) : Obj := ⟨.type "tuple", none, .seq #[] 0, #[]⟩
noncomputable abbrev o231v0 (P : Params) : Obj := ⟨.none, none, .func ⟨"__ror__", "mappingproxy.__ror__", D16x19.1.1, .stmts D16x19.1.2.1, D16x19.1.2.2, 0, [], .none, .none, .none, .none, none, .none, .none, 0⟩, #[]⟩
noncomputable abbrev o232v0 (P : Params) : Obj := ⟨.type "code", none, .fields #[.str "__ror__" 434, .str "mappingproxy.__ror__" 435, .str "/claim/cut.py" 436, .int 102 0, .int 2 0, .int 0 0, .int 0 0, .int 3 0, .ref 227, .bool true, .int 181 0, .ref 228, .none, .ref 229, .ref 230, .ref 231, .int 439 0, .int 102 0, .str "/claim/cut.py" 440], #[]⟩
noncomputable abbrev o233v0 (P : Params) : Obj := ⟨.type "function", none, .func ⟨"__ror__", "mappingproxy.__ror__", D16x19.1.1, .stmts D16x19.1.2.1, D16x19.1.2.2, 3, [], .none, .none, .none, .str "enum" 279, none, .ref 232, .none, 0⟩, #[]⟩
noncomputable abbrev o234v0 (P : Params) : Obj := ⟨.type "tuple", none, .seq #[] 0, #[]⟩
noncomputable abbrev o235v0 (P : Params) : Obj := ⟨.none, none, .fields #[], #[]⟩
noncomputable abbrev o236v0 (P : Params) : Obj := ⟨.type "tuple", none, .seq #[.str "self" 445, .str "other" 446] 0, #[]⟩
noncomputable abbrev o237v0 (P : Params) : Obj := ⟨.type "tuple", none, .seq #[] 0, #[]⟩
noncomputable abbrev o238v0 (P : Params) : Obj := ⟨.none, none, .func ⟨"__ior__", "mappingproxy.__ior__", D16x20.1.1, .stmts D16x20.1.2.1, D16x20.1.2.2, 0, [], .none, .none, .none, .none, none, .none, .none, 0⟩, #[]⟩
noncomputable abbrev o239v0 (P : Params) : Obj := ⟨.type "code", none, .fields #[.str "__ior__" 442, .str "mappingproxy.__ior__" 443, .str "/claim/cut.py" 444, .int 105 0, .int 2 0, .int 0 0, .int 0 0, .int 3 0, .ref 234, .bool true, .int 181 0, .ref 235, .none, .ref 236, .ref 237, .ref 238, .int 447 0, .int 105 0, .str "/claim/cut.py" 448], #[]⟩
noncomputable abbrev o240v0 (P : Params) : Obj := ⟨.type "function", none, .func ⟨"__ior__", "mappingproxy.__ior__", D16x20.1.1, .stmts D16x20.1.2.1, D16x20.1.2.2, 3, [], .none, .none, .none, .str "enum" 279, none, .ref 239, .none, 0⟩, #[]⟩
noncomputable abbrev o241v0 (P : Params) : Obj := ⟨.type "tuple", none, .seq #[.none] 0, #[]⟩
noncomputable abbrev o242v0 (P : Params) : Obj := ⟨.type "tuple", none, .seq #[] 0, #[]⟩
noncomputable abbrev o243v0 (P : Params) : Obj := ⟨.none, none, .fields #[], #[]⟩
noncomputable abbrev o244v0 (P : Params) : Obj := ⟨.type "tuple", none, .seq #[.str "self" 453, .str "key" 454, .str "default" 455] 0, #[]⟩
noncomputable abbrev o245v0 (P : Params) : Obj := ⟨.type "tuple", none, .seq #[] 0, #[]⟩
noncomputable abbrev o246v0 (P : Params) : Obj := ⟨.none, none, .func ⟨"get", "mappingproxy.get", D16x21.1.1, .stmts D16x21.1.2.1, D16x21.1.2.2, 0, [], .none, .none, .none, .none, none, .none, .none, 0⟩, #[]⟩
noncomputable abbrev o247v0 (P : Params) : Obj := ⟨.type "code", none, .fields #[.str "get" 450, .str "mappingproxy.get" 451, .str "/claim/cut.py" 452, .int 108 0, .int 3 0, .int 3 0, .int 0 0, .int 3 0, .ref 242, .bool true, .int 181 0, .ref 243, .none, .ref 244, .ref 245, .ref 246, .int 456 0, .int 108 0, .str "/claim/cut.py" 457], #[]⟩
noncomputable abbrev o248v0 (P : Params) : Obj := ⟨.type "function", none, .func ⟨"get", "mappingproxy.get", D16x21.1.1, .stmts D16x21.1.2.1, D16x21.1.2.2, 3, [], .ref 241, .none, .none, .str "enum" 279, none, .ref 247, .none, 0⟩, #[]⟩
noncomputable abbrev o249v0 (P : Params) : Obj := ⟨.type "tuple", none, .seq #[] 0, #[]⟩
noncomputable abbrev o250v0 (P : Params) : Obj := ⟨.none, none, .fields #[], #[]⟩
noncomputable abbrev o251v0 (P : Params) : Obj := ⟨.type "tuple", none, .seq #[.str "self" 462] 0, #[]⟩
noncomputable abbrev o252v0 (P : Params) : Obj := ⟨.type "tuple", none, .seq #[] 0, #[]⟩
noncomputable abbrev o253v0 (P : Params) : Obj := ⟨.none, none, .func ⟨"keys", "mappingproxy.keys", D16x22.1.1, .stmts D16x22.1.2.1, D16x22.1.2.2, 0, [], .none, .none, .none, .none, none, .none, .none, 0⟩, #[]⟩
noncomputable abbrev o254v0 (P : Params) : Obj := ⟨.type "code", none, .fields #[.str "keys" 459, .str "mappingproxy.keys" 460, .str "/claim/cut.py" 461, .int 111 0, .int 1 0, .int 0 0, .int 0 0, .int 3 0, .ref 249, .bool true, .int 181 0, .ref 250, .none, .ref 251, .ref 252, .ref 253, .int 463 0, .int 111 0, .str "/claim/cut.py" 464], #[]⟩
noncomputable abbrev o255v0 (P : Params) : Obj := ⟨.type "function", none, .func ⟨"keys", "mappingproxy.keys", D16x22.1.1, .stmts D16x22.1.2.1, D16x22.1.2.2, 3, [], .none, .none, .none, .str "enum" 279, none, .ref 254, .none, 0⟩, #[]⟩
noncomputable abbrev o256v0 (P : Params) : Obj := ⟨.type "tuple", none, .seq #[] 0, #[]⟩
noncomputable abbrev o257v0 (P : Params) : Obj := ⟨.none, none, .fields #[], #[]⟩
noncomputable abbrev o258v0 (P : Params) : Obj := ⟨.type "tuple", none, .seq #[.str "self" 469] 0, #[]⟩
noncomputable abbrev o259v0 (P : Params) : Obj := ⟨.type "tuple", none, .seq #[] 0, #[]⟩
noncomputable abbrev o260v0 (P : Params) : Obj := ⟨.none, none, .func ⟨"values", "mappingproxy.values", D16x23.1.1, .stmts D16x23.1.2.1, D16x23.1.2.2, 0, [], .none, .none, .none, .none, none, .none, .none, 0⟩, #[]⟩
noncomputable abbrev o261v0 (P : Params) : Obj := ⟨.type "code", none, .fields #[.str "values" 466, .str "mappingproxy.values" 467, .str "/claim/cut.py" 468, .int 114 0, .int 1 0, .int 0 0, .int 0 0, .int 3 0, .ref 256, .bool true, .int 181 0, .ref 257, .none, .ref 258, .ref 259, .ref 260, .int 470 0, .int 114 0, .str "/claim/cut.py" 471], #[]⟩
noncomputable abbrev o262v0 (P : Params) : Obj := ⟨.type "function", none, .func ⟨"values", "mappingproxy.values", D16x23.1.1, .stmts D16x23.1.2.1, D16x23.1.2.2, 3, [], .none, .none, .none, .str "enum" 279, none, .ref 261, .none, 0⟩, #[]⟩
noncomputable abbrev o263v0 (P : Params) : Obj := ⟨.type "tuple", none, .seq #[] 0, #[]⟩
noncomputable abbrev o264v0 (P : Params) : Obj := ⟨.none, none, .fields #[], #[]⟩
noncomputable abbrev o265v0 (P : Params) : Obj := ⟨.type "tuple", none, .seq #[.str "self" 476] 0, #[]⟩
noncomputable abbrev o266v0 (P : Params) : Obj := ⟨.type "tuple", none, .seq #[] 0, #[]⟩
noncomputable abbrev o267v0 (P : Params) : Obj := ⟨.none, none, .func ⟨"items", "mappingproxy.items", D16x24.1.1, .stmts D16x24.1.2.1, D16x24.1.2.2, 0, [], .none, .none, .none, .none, none, .none, .none, 0⟩, #[]⟩
noncomputable abbrev o268v0 (P : Params) : Obj := ⟨.type "code", none, .fields #[.str "items" 473, .str "mappingproxy.items" 474, .str "/claim/cut.py" 475, .int 117 0, .int 1 0, .int 0 0, .int 0 0, .int 3 0, .ref 263, .bool true, .int 181 0, .ref 264, .none, .ref 265, .ref 266, .ref 267, .int 477 0, .int 117 0, .str "/claim/cut.py" 478], #[]⟩
noncomputable abbrev o269v0 (P : Params) : Obj := ⟨.type "function", none, .func ⟨"items", "mappingproxy.items", D16x24.1.1, .stmts D16x24.1.2.1, D16x24.1.2.2, 3, [], .none, .none, .none, .str "enum" 279, none, .ref 268, .none, 0⟩, #[]⟩
noncomputable abbrev o270v0 (P : Params) : Obj := ⟨.type "tuple", none, .seq #[] 0, #[]⟩
noncomputable abbrev o271v0 (P : Params) : Obj := ⟨.none, none, .fields #[], #[]⟩
noncomputable abbrev o272v0 (P : Params) : Obj := ⟨.type "tuple", none, .seq #[.str "self" 483] 0, #[]⟩
noncomputable abbrev o273v0 (P : Params) : Obj := ⟨.type "tuple", none, .seq #[] 0, #[]⟩
noncomputable abbrev o274v0 (P : Params) : Obj := ⟨.none, none, .func ⟨"copy", "mappingproxy.copy", D16x25.1.1, .stmts D16x25.1.2.1, D16x25.1.2.2, 0, [], .none, .none, .none, .none, none, .none, .none, 0⟩, #[]⟩
noncomputable abbrev o275v0 (P : Params) : Obj := ⟨.type "code", none, .fields #[.str "copy" 480, .str "mappingproxy.copy" 481, .str "/claim/cut.py" 482, .int 120 0, .int 1 0, .int 0 0, .int 0 0, .int 3 0, .ref 270, .bool true, .int 181 0, .ref 271, .none, .ref 272, .ref 273, .ref 274, .int 484 0, .int 120 0, .str "/claim/cut.py" 485], #[]⟩
noncomputable abbrev o276v0 (P : Params) : Obj := ⟨.type "function", none, .func ⟨"copy", "mappingproxy.copy", D16x25.1.1, .stmts D16x25.1.2.1, D16x25.1.2.2, 3, [], .none, .none, .none, .str "enum" 279, none, .ref 275, .none, 0⟩, #[]⟩
noncomputable abbrev o277v0 (P : Params) : Obj := ⟨.type "tuple", none, .seq #[.str "_mapping" 487] 0, #[]⟩
noncomputable abbrev o278v0 (P : Params) : Obj := ⟨.type "list", none, .seq #[.str "_mapping" 301] 1, #[]⟩
noncomputable abbrev o279v0 (P : Params) : Obj := ⟨.type "dict", none, .dict #[⟨PyData.keyHash P "__module__", .str "__module__" 294, .str "builtins" 299⟩, ⟨PyData.keyHash P "__firstlineno__", .str "__firstlineno__" 298, .int 41 297⟩, ⟨PyData.keyHash P "__slots__", .str "__slots__" 302, .ref 107⟩, ⟨PyData.keyHash P "__new__", .str "__new__" 311, .ref 281⟩, ⟨PyData.keyHash P "__reduce_ex__", .str "__reduce_ex__" 319, .ref 121⟩, ⟨PyData.keyHash P "__getitem__", .str "__getitem__" 327, .ref 128⟩, ⟨PyData.keyHash P "__len__", .str "__len__" 334, .ref 135⟩, ⟨PyData.keyHash P "__iter__", .str "__iter__" 341, .ref 142⟩, ⟨PyData.keyHash P "__reversed__", .str "__reversed__" 348, .ref 149⟩, ⟨PyData.keyHash P "__contains__", .str "__contains__" 356, .ref 156⟩, ⟨PyData.keyHash P "__repr__", .str "__repr__" 363, .ref 163⟩, ⟨PyData.keyHash P "__str__", .str "__str__" 370, .ref 170⟩, ⟨PyData.keyHash P "__eq__", .str "__eq__" 378, .ref 177⟩, ⟨PyData.keyHash P "__ne__", .str "__ne__" 386, .ref 184⟩, ⟨PyData.keyHash P "__lt__", .str "__lt__" 394, .ref 191⟩, ⟨PyData.keyHash P "__le__", .str "__le__" 402, .ref 198⟩, ⟨PyData.keyHash P "__gt__", .str "__gt__" 410, .ref 205⟩, ⟨PyData.keyHash P "__ge__", .str "__ge__" 418, .ref 212⟩, ⟨PyData.keyHash P "__hash__", .str "__hash__" 425, .ref 219⟩, ⟨PyData.keyHash P "__or__", .str "__or__" 433, .ref 226⟩, ⟨PyData.keyHash P "__ror__", .str "__ror__" 441, .ref 233⟩, ⟨PyData.keyHash P "__ior__", .str "__ior__" 449, .ref 240⟩, ⟨PyData.keyHash P "get", .str "get" 458, .ref 248⟩, ⟨PyData.keyHash P "keys", .str "keys" 465, .ref 255⟩, ⟨PyData.keyHash P "values", .str "values" 472, .ref 262⟩, ⟨PyData.keyHash P "items", .str "items" 479, .ref 269⟩, ⟨PyData.keyHash P "copy", .str "copy" 486, .ref 276⟩, ⟨PyData.keyHash P "__static_attributes__", .str "__static_attributes__" 488, .ref 277⟩, ⟨PyData.keyHash P "_mapping", .str "_mapping" 491, .ref 282⟩, ⟨PyData.keyHash P "__doc__", .str "__doc__" 492, .none⟩] 3, #[]⟩
noncomputable abbrev o280v0 (P : Params) : Obj := ⟨.type "type", none, .cls ⟨"mappingproxy", [.type "object"], [.ref 280, .type "object"], 279, "mappingproxy", false, ["_mapping"], [], false, none, false⟩, #[none, none, some (.str "mappingproxy" 287), some (.str "mappingproxy" 295), some (.none), some (.bool false)]⟩
noncomputable abbrev o281v0 (P : Params) : Obj := ⟨.type "staticmethod", none, .fields #[.ref 114], #[]⟩
noncomputable abbrev o282v0 (P : Params) : Obj := ⟨.type "member_descriptor", none, .fields #[.str "_mapping" 490, .ref 280, .builtin "proto.slot", .builtin "proto.slot#set", .int 0 0], #[]⟩
noncomputable abbrev o283v0 (P : Params) : Obj := ⟨.type "super", none, .fields #[.ref 280, .ref 280, .ref 280], #[]⟩
noncomputable abbrev o284v0 (P : Params) : Obj := ⟨.type "builtin_function_or_method", none, .fields #[.builtin "object.__init_subclass__", .ref 280], #[]⟩
noncomputable abbrev o3v2 (P : Params) : Obj := ⟨.type "dict", none, .dict #[⟨PyData.keyHash P "__name__", .str "__name__" 165, .str "enum" 279⟩, ⟨PyData.keyHash P "__doc__", .str "__doc__" 166, .none⟩, ⟨PyData.keyHash P "__package__", .str "__package__" 167, .none⟩, ⟨PyData.keyHash P "__loader__", .str "__loader__" 168, .builtin "__main__.__loader__#opaque"⟩, ⟨PyData.keyHash P "__spec__", .str "__spec__" 169, .none⟩, ⟨PyData.keyHash P "__annotations__", .str "__annotations__" 170, .ref 6⟩, ⟨PyData.keyHash P "__builtins__", .str "__builtins__" 171, .ref 4⟩, ⟨PyData.keyHash P "__file__", .str "__file__" 173, .str "/claim/cut.py" 172⟩, ⟨PyData.keyHash P "__cached__", .str "__cached__" 174, .none⟩, ⟨PyData.keyHash P "_wall", .str "_wall" 193, .ref 21⟩, ⟨PyData.keyHash P "kind_of", .str "kind_of" 202, .ref 28⟩, ⟨PyData.keyHash P "bool_in", .str "bool_in" 211, .ref 35⟩, ⟨PyData.keyHash P "bool_out", .str "bool_out" 218, .ref 42⟩, ⟨PyData.keyHash P "bytes_in", .str "bytes_in" 225, .ref 49⟩, ⟨PyData.keyHash P "bytes_out", .str "bytes_out" 232, .ref 56⟩, ⟨PyData.keyHash P "int_in", .str "int_in" 239, .ref 63⟩, ⟨PyData.keyHash P "int_out", .str "int_out" 246, .ref 70⟩, ⟨PyData.keyHash P "null_out", .str "null_out" 253, .ref 77⟩, ⟨PyData.keyHash P "range_out", .str "range_out" 264, .ref 84⟩, ⟨PyData.keyHash P "string_in", .str "string_in" 271, .ref 91⟩, ⟨PyData.keyHash P "string_out", .str "string_out" 278, .ref 98⟩, ⟨PyData.keyHash P "_OWN_NAMES", .str "_OWN_NAMES" 286, .ref 99⟩, ⟨PyData.keyHash P "mappingproxy", .str "mappingproxy" 494, .ref 280⟩, ⟨PyData.keyHash P "_MEMBERS_VIEW", .str "_MEMBERS_VIEW" 495, .ref 280⟩, ⟨PyData.keyHash P "EnumType", .str "EnumType" 755, .ref 496⟩, ⟨PyData.keyHash P "_EnumField", .str "_EnumField" 810, .ref 538⟩] 26, #[]⟩
noncomputable abbrev o12v2 (P : Params) : Obj := ⟨.none, none, .fields #[.int 1 0, .int 0 0, .ref 20, .int 5 0, .int 0 0, .ref 27, .int 12 0, .int 0 0, .ref 34, .int 14 0, .int 0 0, .ref 41, .int 16 0, .int 0 0, .ref 48, .int 18 0, .int 0 0, .ref 55, .int 20 0, .int 0 0, .ref 62, .int 22 0, .int 0 0, .ref 69, .int 24 0, .int 0 0, .ref 76, .int 26 0, .int 0 0, .ref 83, .int 35 0, .int 0 0, .ref 90, .int 37 0, .int 0 0, .ref 97, .int 41 0, .int 0 0, .ref 105, .int 123 0, .int 0 0, .ref 291, .int 253 0, .int 0 0, .ref 505], #[]⟩
noncomputable abbrev o285v0 (P : Params) : Obj := ⟨.type "tuple", none, .seq #[.type "type"] 0, #[]⟩
noncomputable abbrev o286v0 (P : Params) : Obj := ⟨.type "builtin_function_or_method", none, .fields #[.builtin "type.__prepare__", .type "type"], #[]⟩
noncomputable abbrev o287v0 (P : Params) : Obj := ⟨.type "dict", none, .dict #[⟨PyData.keyHash P "__module__", .str "__module__" 503, .str "enum" 508⟩, ⟨PyData.keyHash P "__qualname__", .str "__qualname__" 505, .str "EnumType" 504⟩, ⟨PyData.keyHash P "__firstlineno__", .str "__firstlineno__" 507, .int 123 506⟩, ⟨PyData.keyHash P "_written_out_", .str "_written_out_" 511, .int 0 510⟩, ⟨PyData.keyHash P "__new__", .str "__new__" 524, .ref 300⟩, ⟨PyData.keyHash P "_planted_", .str "_planted_" 533, .ref 307⟩, ⟨PyData.keyHash P "_planted_at_", .str "_planted_at_" 540, .ref 314⟩, ⟨PyData.keyHash P "_held_value_", .str "_held_value_" 550, .ref 321⟩, ⟨PyData.keyHash P "_canonical_", .str "_canonical_" 560, .ref 328⟩, ⟨PyData.keyHash P "_book_value_", .str "_book_value_" 570, .ref 335⟩, ⟨PyData.keyHash P "_mixed_", .str "_mixed_" 578, .ref 342⟩, ⟨PyData.keyHash P "_held_def_", .str "_held_def_" 587, .ref 349⟩, ⟨PyData.keyHash P "_closed_", .str "_closed_" 594, .ref 356⟩, ⟨PyData.keyHash P "_held_auto_", .str "_held_auto_" 603, .ref 363⟩, ⟨PyData.keyHash P "_unique_", .str "_unique_" 610, .ref 370⟩, ⟨PyData.keyHash P "_close_", .str "_close_" 617, .ref 377⟩, ⟨PyData.keyHash P "_expect_", .str "_expect_" 625, .ref 384⟩, ⟨PyData.keyHash P "_value_of_", .str "_value_of_" 634, .ref 391⟩, ⟨PyData.keyHash P "_args_of_", .str "_args_of_" 642, .ref 398⟩, ⟨PyData.keyHash P "__bool__", .str "__bool__" 649, .ref 405⟩, ⟨PyData.keyHash P "__call__", .str "__call__" 658, .ref 412⟩, ⟨PyData.keyHash P "__contains__", .str "__contains__" 667, .ref 419⟩, ⟨PyData.keyHash P "__getitem__", .str "__getitem__" 675, .ref 426⟩, ⟨PyData.keyHash P "__iter__", .str "__iter__" 683, .ref 433⟩, ⟨PyData.keyHash P "__len__", .str "__len__" 690, .ref 440⟩, ⟨PyData.keyHash P "__members__", .str "__members__" 698, .ref 448⟩, ⟨PyData.keyHash P "__repr__", .str "__repr__" 705, .ref 455⟩, ⟨PyData.keyHash P "__reversed__", .str "__reversed__" 713, .ref 462⟩, ⟨PyData.keyHash P "__setattr__", .str "__setattr__" 723, .ref 470⟩, ⟨PyData.keyHash P "__delattr__", .str "__delattr__" 732, .ref 478⟩, ⟨PyData.keyHash P "_store_", .str "_store_" 742, .ref 486⟩, ⟨PyData.keyHash P "__dir__", .str "__dir__" 749, .ref 493⟩, ⟨PyData.keyHash P "__static_attributes__", .str "__static_attributes__" 750, .ref 494⟩, ⟨PyData.keyHash P "__classcell__", .str "__classcell__" 751, .ref 288⟩] 34, #[]⟩
noncomputable abbrev o288v0 (P : Params) : Obj := ⟨.type "cell", none, .cell (some (.ref 496)), #[]⟩
noncomputable abbrev o289v0 (P : Params) : Obj := ⟨.type "tuple", none, .seq #[] 0, #[]⟩
noncomputable abbrev o290v0 (P : Params) : Obj := ⟨.none, none, .fields #[.int 127 0, .int 4 0, .ref 299, .int 136 0, .int 4 0, .ref 306, .int 148 0, .int 4 0, .ref 313, .int 151 0, .int 4 0, .ref 320, .int 154 0, .int 4 0, .ref 327, .int 157 0, .int 4 0, .ref 334, .int 160 0, .int 4 0, .ref 341, .int 163 0, .int 4 0, .ref 348, .int 166 0, .int 4 0, .ref 355, .int 169 0, .int 4 0, .ref 362, .int 172 0, .int 4 0, .ref 369, .int 175 0, .int 4 0, .ref 376, .int 178 0, .int 4 0, .ref 383, .int 181 0, .int 4 0, .ref 390, .int 184 0, .int 4 0, .ref 397, .int 187 0, .int 4 0, .ref 404, .int 190 0, .int 4 0, .ref 411, .int 203 0, .int 4 0, .ref 418, .int 214 0, .int 4 0, .ref 425, .int 217 0, .int 4 0, .ref 432, .int 220 0, .int 4 0, .ref 439, .int 224 0, .int 4 0, .ref 446, .int 227 0, .int 4 0, .ref 454, .int 233 0, .int 4 0, .ref 461, .int 236 0, .int 4 0, .ref 469, .int 243 0, .int 4 0, .ref 477, .int 248 0, .int 4 0, .ref 485, .int 251 0, .int 4 0, .ref 492], #[]⟩
noncomputable abbrev o291v0 (P : Params) : Obj := ⟨.type "code", none, .fields #[.str "EnumType" 498, .str "EnumType" 499, .str "/claim/cut.py" 500, .int 123 0, .int 0 0, .int 0 0, .int 0 0, .int 0 0, .ref 289, .bool false, .int 181 0, .ref 290, .none, .none, .none, .none, .int 501 0, .int 123 0, .str "/claim/cut.py" 502], #[]⟩
noncomputable abbrev o292v0 (P : Params) : Obj := ⟨.type "frame", none, .plain, #[some (.ref 291), some (.ref 3), some (.ref 287), none, some (.str "enum" 279), none, some (.ref 0)]⟩
noncomputable abbrev o293v0 (P : Params) : Obj := ⟨.type "tuple", none, .seq #[.ref 288] 0, #[]⟩
noncomputable abbrev o294v0 (P : Params) : Obj := ⟨.type "tuple", none, .seq #[.str "__class__" 515] 0, #[]⟩
noncomputable abbrev o295v0 (P : Params) : Obj := ⟨.none, none, .fields #[], #[]⟩
noncomputable abbrev o296v0 (P : Params) : Obj := ⟨.type "tuple", none, .seq #[.str "metacls" 516, .str "cls" 517, .str "bases" 518, .str "classdict" 519, .str "kwds" 520, .str "made" 521] 0, #[]⟩
noncomputable abbrev o297v0 (P : Params) : Obj := ⟨.type "tuple", none, .seq #[] 0, #[]⟩
noncomputable abbrev o298v0 (P : Params) : Obj := ⟨.none, none, .func ⟨"__new__", "EnumType.__new__", D18x2.1.1, .stmts D18x2.1.2.1, D18x2.1.2.2, 0, [], .none, .none, .none, .none, none, .none, .none, 0⟩, #[]⟩
noncomputable abbrev o299v0 (P : Params) : Obj := ⟨.type "code", none, .fields #[.str "__new__" 512, .str "EnumType.__new__" 513, .str "/claim/cut.py" 514, .int 127 0, .int 4 0, .int 0 0, .int 0 0, .int 11 0, .ref 294, .bool true, .int 181 0, .ref 295, .none, .ref 296, .ref 297, .ref 298, .int 522 0, .int 127 0, .str "/claim/cut.py" 523], #[]⟩
noncomputable abbrev o300v0 (P : Params) : Obj := ⟨.type "function", none, .func ⟨"__new__", "EnumType.__new__", D18x2.1.1, .stmts D18x2.1.2.1, D18x2.1.2.2, 3, [("__class__", 288)], .none, .none, .none, .str "enum" 279, none, .ref 299, .ref 293, 0⟩, #[]⟩
noncomputable abbrev o301v0 (P : Params) : Obj := ⟨.type "tuple", none, .seq #[] 0, #[]⟩
noncomputable abbrev o302v0 (P : Params) : Obj := ⟨.none, none, .fields #[], #[]⟩
noncomputable abbrev o303v0 (P : Params) : Obj := ⟨.type "tuple", none, .seq #[.str "cls" 528, .str "own_init" 529, .str "asks_new" 530] 0, #[]⟩
noncomputable abbrev o304v0 (P : Params) : Obj := ⟨.type "tuple", none, .seq #[] 0, #[]⟩
noncomputable abbrev o305v0 (P : Params) : Obj := ⟨.none, none, .func ⟨"_planted_", "EnumType._planted_", D18x3.1.1, .stmts D18x3.1.2.1, D18x3.1.2.2, 0, [], .none, .none, .none, .none, none, .none, .none, 0⟩, #[]⟩
noncomputable abbrev o306v0 (P : Params) : Obj := ⟨.type "code", none, .fields #[.str "_planted_" 525, .str "EnumType._planted_" 526, .str "/claim/cut.py" 527, .int 136 0, .int 3 0, .int 0 0, .int 0 0, .int 3 0, .ref 301, .bool true, .int 181 0, .ref 302, .none, .ref 303, .ref 304, .ref 305, .int 531 0, .int 136 0, .str "/claim/cut.py" 532], #[]⟩
noncomputable abbrev o307v0 (P : Params) : Obj := ⟨.type "function", none, .func ⟨"_planted_", "EnumType._planted_", D18x3.1.1, .stmts D18x3.1.2.1, D18x3.1.2.2, 3, [], .none, .none, .none, .str "enum" 279, none, .ref 306, .none, 0⟩, #[]⟩
noncomputable abbrev o308v0 (P : Params) : Obj := ⟨.type "tuple", none, .seq #[] 0, #[]⟩
noncomputable abbrev o309v0 (P : Params) : Obj := ⟨.none, none, .fields #[], #[]⟩
noncomputable abbrev o310v0 (P : Params) : Obj := ⟨.type "tuple", none, .seq #[.str "cls" 537] 0, #[]⟩
noncomputable abbrev o311v0 (P : Params) : Obj := ⟨.type "tuple", none, .seq #[] 0, #[]⟩
noncomputable abbrev o312v0 (P : Params) : Obj := ⟨.none, none, .func ⟨"_planted_at_", "EnumType._planted_at_", D18x4.1.1, .stmts D18x4.1.2.1, D18x4.1.2.2, 0, [], .none, .none, .none, .none, none, .none, .none, 0⟩, #[]⟩
noncomputable abbrev o313v0 (P : Params) : Obj := ⟨.type "code", none, .fields #[.str "_planted_at_" 534, .str "EnumType._planted_at_" 535, .str "/claim/cut.py" 536, .int 148 0, .int 1 0, .int 0 0, .int 0 0, .int 3 0, .ref 308, .bool true, .int 181 0, .ref 309, .none, .ref 310, .ref 311, .ref 312, .int 538 0, .int 148 0, .str "/claim/cut.py" 539], #[]⟩
noncomputable abbrev o314v0 (P : Params) : Obj := ⟨.type "function", none, .func ⟨"_planted_at_", "EnumType._planted_at_", D18x4.1.1, .stmts D18x4.1.2.1, D18x4.1.2.2, 3, [], .none, .none, .none, .str "enum" 279, none, .ref 313, .none, 0⟩, #[]⟩
noncomputable abbrev o315v0 (P : Params) : Obj := ⟨.type "tuple", none, .seq #[] 0, #[]⟩
noncomputable abbrev o316v0 (P : Params) : Obj := ⟨.none, none, .fields #[], #[]⟩
noncomputable abbrev o317v0 (P : Params) : Obj := ⟨.type "tuple", none, .seq #[.str "cls" 544, .str "value" 545, .str "name" 546, .str "data" 547] 0, #[]⟩
noncomputable abbrev o318v0 (P : Params) : Obj := ⟨.type "tuple", none, .seq #[] 0, #[]⟩
noncomputable abbrev o319v0 (P : Params) : Obj := ⟨.none, none, .func ⟨"_held_value_", "EnumType._held_value_", D18x5.1.1, .stmts D18x5.1.2.1, D18x5.1.2.2, 0, [], .none, .none, .none, .none, none, .none, .none, 0⟩, #[]⟩
noncomputable abbrev o320v0 (P : Params) : Obj := ⟨.type "code", none, .fields #[.str "_held_value_" 541, .str "EnumType._held_value_" 542, .str "/claim/cut.py" 543, .int 151 0, .int 4 0, .int 0 0, .int 0 0, .int 3 0, .ref 315, .bool true, .int 181 0, .ref 316, .none, .ref 317, .ref 318, .ref 319, .int 548 0, .int 151 0, .str "/claim/cut.py" 549], #[]⟩
noncomputable abbrev o321v0 (P : Params) : Obj := ⟨.type "function", none, .func ⟨"_held_value_", "EnumType._held_value_", D18x5.1.1, .stmts D18x5.1.2.1, D18x5.1.2.2, 3, [], .none, .none, .none, .str "enum" 279, none, .ref 320, .none, 0⟩, #[]⟩
noncomputable abbrev o322v0 (P : Params) : Obj := ⟨.type "tuple", none, .seq #[] 0, #[]⟩
noncomputable abbrev o323v0 (P : Params) : Obj := ⟨.none, none, .fields #[], #[]⟩
noncomputable abbrev o324v0 (P : Params) : Obj := ⟨.type "tuple", none, .seq #[.str "cls" 554, .str "value" 555, .str "member" 556, .str "name" 557] 0, #[]⟩
noncomputable abbrev o325v0 (P : Params) : Obj := ⟨.type "tuple", none, .seq #[] 0, #[]⟩
noncomputable abbrev o326v0 (P : Params) : Obj := ⟨.none, none, .func ⟨"_canonical_", "EnumType._canonical_", D18x6.1.1, .stmts D18x6.1.2.1, D18x6.1.2.2, 0, [], .none, .none, .none, .none, none, .none, .none, 0⟩, #[]⟩
noncomputable abbrev o327v0 (P : Params) : Obj := ⟨.type "code", none, .fields #[.str "_canonical_" 551, .str "EnumType._canonical_" 552, .str "/claim/cut.py" 553, .int 154 0, .int 4 0, .int 0 0, .int 0 0, .int 3 0, .ref 322, .bool true, .int 181 0, .ref 323, .none, .ref 324, .ref 325, .ref 326, .int 558 0, .int 154 0, .str "/claim/cut.py" 559], #[]⟩
noncomputable abbrev o328v0 (P : Params) : Obj := ⟨.type "function", none, .func ⟨"_canonical_", "EnumType._canonical_", D18x6.1.1, .stmts D18x6.1.2.1, D18x6.1.2.2, 3, [], .none, .none, .none, .str "enum" 279, none, .ref 327, .none, 0⟩, #[]⟩
noncomputable abbrev o329v0 (P : Params) : Obj := ⟨.type "tuple", none, .seq #[] 0, #[]⟩
noncomputable abbrev o330v0 (P : Params) : Obj := ⟨.none, none, .fields #[], #[]⟩
noncomputable abbrev o331v0 (P : Params) : Obj := ⟨.type "tuple", none, .seq #[.str "cls" 564, .str "value" 565, .str "member" 566, .str "name" 567] 0, #[]⟩
noncomputable abbrev o332v0 (P : Params) : Obj := ⟨.type "tuple", none, .seq #[] 0, #[]⟩
noncomputable abbrev o333v0 (P : Params) : Obj := ⟨.none, none, .func ⟨"_book_value_", "EnumType._book_value_", D18x7.1.1, .stmts D18x7.1.2.1, D18x7.1.2.2, 0, [], .none, .none, .none, .none, none, .none, .none, 0⟩, #[]⟩
noncomputable abbrev o334v0 (P : Params) : Obj := ⟨.type "code", none, .fields #[.str "_book_value_" 561, .str "EnumType._book_value_" 562, .str "/claim/cut.py" 563, .int 157 0, .int 4 0, .int 0 0, .int 0 0, .int 3 0, .ref 329, .bool true, .int 181 0, .ref 330, .none, .ref 331, .ref 332, .ref 333, .int 568 0, .int 157 0, .str "/claim/cut.py" 569], #[]⟩
noncomputable abbrev o335v0 (P : Params) : Obj := ⟨.type "function", none, .func ⟨"_book_value_", "EnumType._book_value_", D18x7.1.1, .stmts D18x7.1.2.1, D18x7.1.2.2, 3, [], .none, .none, .none, .str "enum" 279, none, .ref 334, .none, 0⟩, #[]⟩
noncomputable abbrev o336v0 (P : Params) : Obj := ⟨.type "tuple", none, .seq #[] 0, #[]⟩
noncomputable abbrev o337v0 (P : Params) : Obj := ⟨.none, none, .fields #[], #[]⟩
noncomputable abbrev o338v0 (P : Params) : Obj := ⟨.type "tuple", none, .seq #[.str "cls" 574, .str "mixins" 575] 0, #[]⟩
noncomputable abbrev o339v0 (P : Params) : Obj := ⟨.type "tuple", none, .seq #[] 0, #[]⟩
noncomputable abbrev o340v0 (P : Params) : Obj := ⟨.none, none, .func ⟨"_mixed_", "EnumType._mixed_", D18x8.1.1, .stmts D18x8.1.2.1, D18x8.1.2.2, 0, [], .none, .none, .none, .none, none, .none, .none, 0⟩, #[]⟩
noncomputable abbrev o341v0 (P : Params) : Obj := ⟨.type "code", none, .fields #[.str "_mixed_" 571, .str "EnumType._mixed_" 572, .str "/claim/cut.py" 573, .int 160 0, .int 2 0, .int 0 0, .int 0 0, .int 3 0, .ref 336, .bool true, .int 181 0, .ref 337, .none, .ref 338, .ref 339, .ref 340, .int 576 0, .int 160 0, .str "/claim/cut.py" 577], #[]⟩
noncomputable abbrev o342v0 (P : Params) : Obj := ⟨.type "function", none, .func ⟨"_mixed_", "EnumType._mixed_", D18x8.1.1, .stmts D18x8.1.2.1, D18x8.1.2.2, 3, [], .none, .none, .none, .str "enum" 279, none, .ref 341, .none, 0⟩, #[]⟩
noncomputable abbrev o343v0 (P : Params) : Obj := ⟨.type "tuple", none, .seq #[] 0, #[]⟩
noncomputable abbrev o344v0 (P : Params) : Obj := ⟨.none, none, .fields #[], #[]⟩
noncomputable abbrev o345v0 (P : Params) : Obj := ⟨.type "tuple", none, .seq #[.str "cls" 582, .str "value" 583, .str "maker" 584] 0, #[]⟩
noncomputable abbrev o346v0 (P : Params) : Obj := ⟨.type "tuple", none, .seq #[] 0, #[]⟩
noncomputable abbrev o347v0 (P : Params) : Obj := ⟨.none, none, .func ⟨"_held_def_", "EnumType._held_def_", D18x9.1.1, .stmts D18x9.1.2.1, D18x9.1.2.2, 0, [], .none, .none, .none, .none, none, .none, .none, 0⟩, #[]⟩
noncomputable abbrev o348v0 (P : Params) : Obj := ⟨.type "code", none, .fields #[.str "_held_def_" 579, .str "EnumType._held_def_" 580, .str "/claim/cut.py" 581, .int 163 0, .int 3 0, .int 0 0, .int 0 0, .int 3 0, .ref 343, .bool true, .int 181 0, .ref 344, .none, .ref 345, .ref 346, .ref 347, .int 585 0, .int 163 0, .str "/claim/cut.py" 586], #[]⟩
noncomputable abbrev o349v0 (P : Params) : Obj := ⟨.type "function", none, .func ⟨"_held_def_", "EnumType._held_def_", D18x9.1.1, .stmts D18x9.1.2.1, D18x9.1.2.2, 3, [], .none, .none, .none, .str "enum" 279, none, .ref 348, .none, 0⟩, #[]⟩
noncomputable abbrev o350v0 (P : Params) : Obj := ⟨.type "tuple", none, .seq #[] 0, #[]⟩
noncomputable abbrev o351v0 (P : Params) : Obj := ⟨.none, none, .fields #[], #[]⟩
noncomputable abbrev o352v0 (P : Params) : Obj := ⟨.type "tuple", none, .seq #[.str "cls" 591] 0, #[]⟩
noncomputable abbrev o353v0 (P : Params) : Obj := ⟨.type "tuple", none, .seq #[] 0, #[]⟩
noncomputable abbrev o354v0 (P : Params) : Obj := ⟨.none, none, .func ⟨"_closed_", "EnumType._closed_", D18x10.1.1, .stmts D18x10.1.2.1, D18x10.1.2.2, 0, [], .none, .none, .none, .none, none, .none, .none, 0⟩, #[]⟩
noncomputable abbrev o355v0 (P : Params) : Obj := ⟨.type "code", none, .fields #[.str "_closed_" 588, .str "EnumType._closed_" 589, .str "/claim/cut.py" 590, .int 166 0, .int 1 0, .int 0 0, .int 0 0, .int 3 0, .ref 350, .bool true, .int 181 0, .ref 351, .none, .ref 352, .ref 353, .ref 354, .int 592 0, .int 166 0, .str "/claim/cut.py" 593], #[]⟩
noncomputable abbrev o356v0 (P : Params) : Obj := ⟨.type "function", none, .func ⟨"_closed_", "EnumType._closed_", D18x10.1.1, .stmts D18x10.1.2.1, D18x10.1.2.2, 3, [], .none, .none, .none, .str "enum" 279, none, .ref 355, .none, 0⟩, #[]⟩
noncomputable abbrev o357v0 (P : Params) : Obj := ⟨.type "tuple", none, .seq #[] 0, #[]⟩
noncomputable abbrev o358v0 (P : Params) : Obj := ⟨.none, none, .fields #[], #[]⟩
noncomputable abbrev o359v0 (P : Params) : Obj := ⟨.type "tuple", none, .seq #[.str "cls" 598, .str "value" 599, .str "data" 600] 0, #[]⟩
noncomputable abbrev o360v0 (P : Params) : Obj := ⟨.type "tuple", none, .seq #[] 0, #[]⟩
noncomputable abbrev o361v0 (P : Params) : Obj := ⟨.none, none, .func ⟨"_held_auto_", "EnumType._held_auto_", D18x11.1.1, .stmts D18x11.1.2.1, D18x11.1.2.2, 0, [], .none, .none, .none, .none, none, .none, .none, 0⟩, #[]⟩
noncomputable abbrev o362v0 (P : Params) : Obj := ⟨.type "code", none, .fields #[.str "_held_auto_" 595, .str "EnumType._held_auto_" 596, .str "/claim/cut.py" 597, .int 169 0, .int 3 0, .int 0 0, .int 0 0, .int 3 0, .ref 357, .bool true, .int 181 0, .ref 358, .none, .ref 359, .ref 360, .ref 361, .int 601 0, .int 169 0, .str "/claim/cut.py" 602], #[]⟩
noncomputable abbrev o363v0 (P : Params) : Obj := ⟨.type "function", none, .func ⟨"_held_auto_", "EnumType._held_auto_", D18x11.1.1, .stmts D18x11.1.2.1, D18x11.1.2.2, 3, [], .none, .none, .none, .str "enum" 279, none, .ref 362, .none, 0⟩, #[]⟩
noncomputable abbrev o364v0 (P : Params) : Obj := ⟨.type "tuple", none, .seq #[] 0, #[]⟩
noncomputable abbrev o365v0 (P : Params) : Obj := ⟨.none, none, .fields #[], #[]⟩
noncomputable abbrev o366v0 (P : Params) : Obj := ⟨.type "tuple", none, .seq #[.str "cls" 607] 0, #[]⟩
noncomputable abbrev o367v0 (P : Params) : Obj := ⟨.type "tuple", none, .seq #[] 0, #[]⟩
noncomputable abbrev o368v0 (P : Params) : Obj := ⟨.none, none, .func ⟨"_unique_", "EnumType._unique_", D18x12.1.1, .stmts D18x12.1.2.1, D18x12.1.2.2, 0, [], .none, .none, .none, .none, none, .none, .none, 0⟩, #[]⟩
noncomputable abbrev o369v0 (P : Params) : Obj := ⟨.type "code", none, .fields #[.str "_unique_" 604, .str "EnumType._unique_" 605, .str "/claim/cut.py" 606, .int 172 0, .int 1 0, .int 0 0, .int 0 0, .int 3 0, .ref 364, .bool true, .int 181 0, .ref 365, .none, .ref 366, .ref 367, .ref 368, .int 608 0, .int 172 0, .str "/claim/cut.py" 609], #[]⟩
noncomputable abbrev o370v0 (P : Params) : Obj := ⟨.type "function", none, .func ⟨"_unique_", "EnumType._unique_", D18x12.1.1, .stmts D18x12.1.2.1, D18x12.1.2.2, 3, [], .none, .none, .none, .str "enum" 279, none, .ref 369, .none, 0⟩, #[]⟩
noncomputable abbrev o371v0 (P : Params) : Obj := ⟨.type "tuple", none, .seq #[] 0, #[]⟩
noncomputable abbrev o372v0 (P : Params) : Obj := ⟨.none, none, .fields #[], #[]⟩
noncomputable abbrev o373v0 (P : Params) : Obj := ⟨.type "tuple", none, .seq #[.str "cls" 614] 0, #[]⟩
noncomputable abbrev o374v0 (P : Params) : Obj := ⟨.type "tuple", none, .seq #[] 0, #[]⟩
noncomputable abbrev o375v0 (P : Params) : Obj := ⟨.none, none, .func ⟨"_close_", "EnumType._close_", D18x13.1.1, .stmts D18x13.1.2.1, D18x13.1.2.2, 0, [], .none, .none, .none, .none, none, .none, .none, 0⟩, #[]⟩
noncomputable abbrev o376v0 (P : Params) : Obj := ⟨.type "code", none, .fields #[.str "_close_" 611, .str "EnumType._close_" 612, .str "/claim/cut.py" 613, .int 175 0, .int 1 0, .int 0 0, .int 0 0, .int 3 0, .ref 371, .bool true, .int 181 0, .ref 372, .none, .ref 373, .ref 374, .ref 375, .int 615 0, .int 175 0, .str "/claim/cut.py" 616], #[]⟩
noncomputable abbrev o377v0 (P : Params) : Obj := ⟨.type "function", none, .func ⟨"_close_", "EnumType._close_", D18x13.1.1, .stmts D18x13.1.2.1, D18x13.1.2.2, 3, [], .none, .none, .none, .str "enum" 279, none, .ref 376, .none, 0⟩, #[]⟩
noncomputable abbrev o378v0 (P : Params) : Obj := ⟨.type "tuple", none, .seq #[] 0, #[]⟩
noncomputable abbrev o379v0 (P : Params) : Obj := ⟨.none, none, .fields #[], #[]⟩
noncomputable abbrev o380v0 (P : Params) : Obj := ⟨.type "tuple", none, .seq #[.str "cls" 621, .str "names" 622] 0, #[]⟩
noncomputable abbrev o381v0 (P : Params) : Obj := ⟨.type "tuple", none, .seq #[] 0, #[]⟩
noncomputable abbrev o382v0 (P : Params) : Obj := ⟨.none, none, .func ⟨"_expect_", "EnumType._expect_", D18x14.1.1, .stmts D18x14.1.2.1, D18x14.1.2.2, 0, [], .none, .none, .none, .none, none, .none, .none, 0⟩, #[]⟩
noncomputable abbrev o383v0 (P : Params) : Obj := ⟨.type "code", none, .fields #[.str "_expect_" 618, .str "EnumType._expect_" 619, .str "/claim/cut.py" 620, .int 178 0, .int 2 0, .int 0 0, .int 0 0, .int 3 0, .ref 378, .bool true, .int 181 0, .ref 379, .none, .ref 380, .ref 381, .ref 382, .int 623 0, .int 178 0, .str "/claim/cut.py" 624], #[]⟩
noncomputable abbrev o384v0 (P : Params) : Obj := ⟨.type "function", none, .func ⟨"_expect_", "EnumType._expect_", D18x14.1.1, .stmts D18x14.1.2.1, D18x14.1.2.2, 3, [], .none, .none, .none, .str "enum" 279, none, .ref 383, .none, 0⟩, #[]⟩
noncomputable abbrev o385v0 (P : Params) : Obj := ⟨.type "tuple", none, .seq #[] 0, #[]⟩
noncomputable abbrev o386v0 (P : Params) : Obj := ⟨.none, none, .fields #[], #[]⟩
noncomputable abbrev o387v0 (P : Params) : Obj := ⟨.type "tuple", none, .seq #[.str "cls" 629, .str "data" 630, .str "args" 631] 0, #[]⟩
noncomputable abbrev o388v0 (P : Params) : Obj := ⟨.type "tuple", none, .seq #[] 0, #[]⟩
noncomputable abbrev o389v0 (P : Params) : Obj := ⟨.none, none, .func ⟨"_value_of_", "EnumType._value_of_", D18x15.1.1, .stmts D18x15.1.2.1, D18x15.1.2.2, 0, [], .none, .none, .none, .none, none, .none, .none, 0⟩, #[]⟩
noncomputable abbrev o390v0 (P : Params) : Obj := ⟨.type "code", none, .fields #[.str "_value_of_" 626, .str "EnumType._value_of_" 627, .str "/claim/cut.py" 628, .int 181 0, .int 3 0, .int 0 0, .int 0 0, .int 3 0, .ref 385, .bool true, .int 181 0, .ref 386, .none, .ref 387, .ref 388, .ref 389, .int 632 0, .int 181 0, .str "/claim/cut.py" 633], #[]⟩
noncomputable abbrev o391v0 (P : Params) : Obj := ⟨.type "function", none, .func ⟨"_value_of_", "EnumType._value_of_", D18x15.1.1, .stmts D18x15.1.2.1, D18x15.1.2.2, 3, [], .none, .none, .none, .str "enum" 279, none, .ref 390, .none, 0⟩, #[]⟩
noncomputable abbrev o392v0 (P : Params) : Obj := ⟨.type "tuple", none, .seq #[] 0, #[]⟩
noncomputable abbrev o393v0 (P : Params) : Obj := ⟨.none, none, .fields #[], #[]⟩
noncomputable abbrev o394v0 (P : Params) : Obj := ⟨.type "tuple", none, .seq #[.str "cls" 638, .str "value" 639] 0, #[]⟩
noncomputable abbrev o395v0 (P : Params) : Obj := ⟨.type "tuple", none, .seq #[] 0, #[]⟩
noncomputable abbrev o396v0 (P : Params) : Obj := ⟨.none, none, .func ⟨"_args_of_", "EnumType._args_of_", D18x16.1.1, .stmts D18x16.1.2.1, D18x16.1.2.2, 0, [], .none, .none, .none, .none, none, .none, .none, 0⟩, #[]⟩
noncomputable abbrev o397v0 (P : Params) : Obj := ⟨.type "code", none, .fields #[.str "_args_of_" 635, .str "EnumType._args_of_" 636, .str "/claim/cut.py" 637, .int 184 0, .int 2 0, .int 0 0, .int 0 0, .int 3 0, .ref 392, .bool true, .int 181 0, .ref 393, .none, .ref 394, .ref 395, .ref 396, .int 640 0, .int 184 0, .str "/claim/cut.py" 641], #[]⟩
noncomputable abbrev o398v0 (P : Params) : Obj := ⟨.type "function", none, .func ⟨"_args_of_", "EnumType._args_of_", D18x16.1.1, .stmts D18x16.1.2.1, D18x16.1.2.2, 3, [], .none, .none, .none, .str "enum" 279, none, .ref 397, .none, 0⟩, #[]⟩
noncomputable abbrev o399v0 (P : Params) : Obj := ⟨.type "tuple", none, .seq #[] 0, #[]⟩
noncomputable abbrev o400v0 (P : Params) : Obj := ⟨.none, none, .fields #[], #[]⟩
noncomputable abbrev o401v0 (P : Params) : Obj := ⟨.type "tuple", none, .seq #[.str "cls" 646] 0, #[]⟩
noncomputable abbrev o402v0 (P : Params) : Obj := ⟨.type "tuple", none, .seq #[] 0, #[]⟩
noncomputable abbrev o403v0 (P : Params) : Obj := ⟨.none, none, .func ⟨"__bool__", "EnumType.__bool__", D18x17.1.1, .stmts D18x17.1.2.1, D18x17.1.2.2, 0, [], .none, .none, .none, .none, none, .none, .none, 0⟩, #[]⟩
noncomputable abbrev o404v0 (P : Params) : Obj := ⟨.type "code", none, .fields #[.str "__bool__" 643, .str "EnumType.__bool__" 644, .str "/claim/cut.py" 645, .int 187 0, .int 1 0, .int 0 0, .int 0 0, .int 3 0, .ref 399, .bool true, .int 181 0, .ref 400, .none, .ref 401, .ref 402, .ref 403, .int 647 0, .int 187 0, .str "/claim/cut.py" 648], #[]⟩
noncomputable abbrev o405v0 (P : Params) : Obj := ⟨.type "function", none, .func ⟨"__bool__", "EnumType.__bool__", D18x17.1.1, .stmts D18x17.1.2.1, D18x17.1.2.2, 3, [], .none, .none, .none, .str "enum" 279, none, .ref 404, .none, 0⟩, #[]⟩
noncomputable abbrev o406v0 (P : Params) : Obj := ⟨.type "tuple", none, .seq #[] 0, #[]⟩
noncomputable abbrev o407v0 (P : Params) : Obj := ⟨.none, none, .fields #[], #[]⟩
noncomputable abbrev o408v0 (P : Params) : Obj := ⟨.type "tuple", none, .seq #[.str "cls" 653, .str "values" 654, .str "kwds" 655] 0, #[]⟩
noncomputable abbrev o409v0 (P : Params) : Obj := ⟨.type "tuple", none, .seq #[] 0, #[]⟩
noncomputable abbrev o410v0 (P : Params) : Obj := ⟨.none, none, .func ⟨"__call__", "EnumType.__call__", D18x18.1.1, .stmts D18x18.1.2.1, D18x18.1.2.2, 0, [], .none, .none, .none, .none, none, .none, .none, 0⟩, #[]⟩
noncomputable abbrev o411v0 (P : Params) : Obj := ⟨.type "code", none, .fields #[.str "__call__" 650, .str "EnumType.__call__" 651, .str "/claim/cut.py" 652, .int 190 0, .int 1 0, .int 0 0, .int 0 0, .int 15 0, .ref 406, .bool true, .int 181 0, .ref 407, .none, .ref 408, .ref 409, .ref 410, .int 656 0, .int 190 0, .str "/claim/cut.py" 657], #[]⟩
noncomputable abbrev o412v0 (P : Params) : Obj := ⟨.type "function", none, .func ⟨"__call__", "EnumType.__call__", D18x18.1.1, .stmts D18x18.1.2.1, D18x18.1.2.2, 3, [], .none, .none, .none, .str "enum" 279, none, .ref 411, .none, 0⟩, #[]⟩
noncomputable abbrev o413v0 (P : Params) : Obj := ⟨.type "tuple", none, .seq #[] 0, #[]⟩
noncomputable abbrev o414v0 (P : Params) : Obj := ⟨.none, none, .fields #[], #[]⟩
noncomputable abbrev o415v0 (P : Params) : Obj := ⟨.type "tuple", none, .seq #[.str "cls" 662, .str "value" 663, .str "result" 664] 0, #[]⟩
noncomputable abbrev o416v0 (P : Params) : Obj := ⟨.type "tuple", none, .seq #[] 0, #[]⟩
noncomputable abbrev o417v0 (P : Params) : Obj := ⟨.none, none, .func ⟨"__contains__", "EnumType.__contains__", D18x19.1.1, .stmts D18x19.1.2.1, D18x19.1.2.2, 0, [], .none, .none, .none, .none, none, .none, .none, 0⟩, #[]⟩
noncomputable abbrev o418v0 (P : Params) : Obj := ⟨.type "code", none, .fields #[.str "__contains__" 659, .str "EnumType.__contains__" 660, .str "/claim/cut.py" 661, .int 203 0, .int 2 0, .int 0 0, .int 0 0, .int 3 0, .ref 413, .bool true, .int 181 0, .ref 414, .none, .ref 415, .ref 416, .ref 417, .int 665 0, .int 203 0, .str "/claim/cut.py" 666], #[]⟩
noncomputable abbrev o419v0 (P : Params) : Obj := ⟨.type "function", none, .func ⟨"__contains__", "EnumType.__contains__", D18x19.1.1, .stmts D18x19.1.2.1, D18x19.1.2.2, 3, [], .none, .none, .none, .str "enum" 279, none, .ref 418, .none, 0⟩, #[]⟩
noncomputable abbrev o420v0 (P : Params) : Obj := ⟨.type "tuple", none, .seq #[] 0, #[]⟩
noncomputable abbrev o421v0 (P : Params) : Obj := ⟨.none, none, .fields #[], #[]⟩
noncomputable abbrev o422v0 (P : Params) : Obj := ⟨.type "tuple", none, .seq #[.str "cls" 671, .str "name" 672] 0, #[]⟩
noncomputable abbrev o423v0 (P : Params) : Obj := ⟨.type "tuple", none, .seq #[] 0, #[]⟩
noncomputable abbrev o424v0 (P : Params) : Obj := ⟨.none, none, .func ⟨"__getitem__", "EnumType.__getitem__", D18x20.1.1, .stmts D18x20.1.2.1, D18x20.1.2.2, 0, [], .none, .none, .none, .none, none, .none, .none, 0⟩, #[]⟩
noncomputable abbrev o425v0 (P : Params) : Obj := ⟨.type "code", none, .fields #[.str "__getitem__" 668, .str "EnumType.__getitem__" 669, .str "/claim/cut.py" 670, .int 214 0, .int 2 0, .int 0 0, .int 0 0, .int 3 0, .ref 420, .bool true, .int 181 0, .ref 421, .none, .ref 422, .ref 423, .ref 424, .int 673 0, .int 214 0, .str "/claim/cut.py" 674], #[]⟩
noncomputable abbrev o426v0 (P : Params) : Obj := ⟨.type "function", none, .func ⟨"__getitem__", "EnumType.__getitem__", D18x20.1.1, .stmts D18x20.1.2.1, D18x20.1.2.2, 3, [], .none, .none, .none, .str "enum" 279, none, .ref 425, .none, 0⟩, #[]⟩
noncomputable abbrev o427v0 (P : Params) : Obj := ⟨.type "tuple", none, .seq #[] 0, #[]⟩
noncomputable abbrev o428v0 (P : Params) : Obj := ⟨.none, none, .fields #[], #[]⟩
noncomputable abbrev o429v0 (P : Params) : Obj := ⟨.type "tuple", none, .seq #[.str "cls" 679] 0, #[]⟩
noncomputable abbrev o430v0 (P : Params) : Obj := ⟨.type "tuple", none, .seq #[.str "cls" 680] 0, #[]⟩
noncomputable abbrev o431v0 (P : Params) : Obj := ⟨.none, none, .func ⟨"__iter__", "EnumType.__iter__", D18x21.1.1, .stmts D18x21.1.2.1, D18x21.1.2.2, 0, [], .none, .none, .none, .none, none, .none, .none, 0⟩, #[]⟩
noncomputable abbrev o432v0 (P : Params) : Obj := ⟨.type "code", none, .fields #[.str "__iter__" 676, .str "EnumType.__iter__" 677, .str "/claim/cut.py" 678, .int 217 0, .int 1 0, .int 0 0, .int 0 0, .int 3 0, .ref 427, .bool true, .int 181 0, .ref 428, .none, .ref 429, .ref 430, .ref 431, .int 681 0, .int 217 0, .str "/claim/cut.py" 682], #[]⟩
noncomputable abbrev o433v0 (P : Params) : Obj := ⟨.type "function", none, .func ⟨"__iter__", "EnumType.__iter__", D18x21.1.1, .stmts D18x21.1.2.1, D18x21.1.2.2, 3, [], .none, .none, .none, .str "enum" 279, none, .ref 432, .none, 0⟩, #[]⟩
noncomputable abbrev o434v0 (P : Params) : Obj := ⟨.type "tuple", none, .seq #[] 0, #[]⟩
noncomputable abbrev o435v0 (P : Params) : Obj := ⟨.none, none, .fields #[], #[]⟩
noncomputable abbrev o436v0 (P : Params) : Obj := ⟨.type "tuple", none, .seq #[.str "cls" 687] 0, #[]⟩
noncomputable abbrev o437v0 (P : Params) : Obj := ⟨.type "tuple", none, .seq #[] 0, #[]⟩
noncomputable abbrev o438v0 (P : Params) : Obj := ⟨.none, none, .func ⟨"__len__", "EnumType.__len__", D18x22.1.1, .stmts D18x22.1.2.1, D18x22.1.2.2, 0, [], .none, .none, .none, .none, none, .none, .none, 0⟩, #[]⟩
noncomputable abbrev o439v0 (P : Params) : Obj := ⟨.type "code", none, .fields #[.str "__len__" 684, .str "EnumType.__len__" 685, .str "/claim/cut.py" 686, .int 220 0, .int 1 0, .int 0 0, .int 0 0, .int 3 0, .ref 434, .bool true, .int 181 0, .ref 435, .none, .ref 436, .ref 437, .ref 438, .int 688 0, .int 220 0, .str "/claim/cut.py" 689], #[]⟩
noncomputable abbrev o440v0 (P : Params) : Obj := ⟨.type "function", none, .func ⟨"__len__", "EnumType.__len__", D18x22.1.1, .stmts D18x22.1.2.1, D18x22.1.2.2, 3, [], .none, .none, .none, .str "enum" 279, none, .ref 439, .none, 0⟩, #[]⟩
noncomputable abbrev o441v0 (P : Params) : Obj := ⟨.type "tuple", none, .seq #[] 0, #[]⟩
noncomputable abbrev o442v0 (P : Params) : Obj := ⟨.none, none, .fields #[], #[]⟩
noncomputable abbrev o443v0 (P : Params) : Obj := ⟨.type "tuple", none, .seq #[.str "cls" 694] 0, #[]⟩
noncomputable abbrev o444v0 (P : Params) : Obj := ⟨.type "tuple", none, .seq #[] 0, #[]⟩
noncomputable abbrev o445v0 (P : Params) : Obj := ⟨.none, none, .func ⟨"__members__", "EnumType.__members__", D18x23.1.1, .stmts D18x23.1.2.1, D18x23.1.2.2, 0, [], .none, .none, .none, .none, none, .none, .none, 0⟩, #[]⟩
noncomputable abbrev o446v0 (P : Params) : Obj := ⟨.type "code", none, .fields #[.str "__members__" 691, .str "EnumType.__members__" 692, .str "/claim/cut.py" 693, .int 223 0, .int 1 0, .int 0 0, .int 0 0, .int 3 0, .ref 441, .bool true, .int 181 0, .ref 442, .none, .ref 443, .ref 444, .ref 445, .int 695 0, .int 223 0, .str "/claim/cut.py" 696], #[]⟩
noncomputable abbrev o447v0 (P : Params) : Obj := ⟨.type "function", none, .func ⟨"__members__", "EnumType.__members__", D18x23.1.1, .stmts D18x23.1.2.1, D18x23.1.2.2, 3, [], .none, .none, .none, .str "enum" 279, none, .ref 446, .none, 0⟩, #[]⟩
noncomputable abbrev o448v0 (P : Params) : Obj := ⟨.type "property", none, .fields #[.ref 447, .none, .none, .none, .str "__members__" 698, .bool false], #[]⟩
noncomputable abbrev o449v0 (P : Params) : Obj := ⟨.type "tuple", none, .seq #[] 0, #[]⟩
noncomputable abbrev o450v0 (P : Params) : Obj := ⟨.none, none, .fields #[], #[]⟩
noncomputable abbrev o451v0 (P : Params) : Obj := ⟨.type "tuple", none, .seq #[.str "cls" 702] 0, #[]⟩
noncomputable abbrev o452v0 (P : Params) : Obj := ⟨.type "tuple", none, .seq #[] 0, #[]⟩
noncomputable abbrev o453v0 (P : Params) : Obj := ⟨.none, none, .func ⟨"__repr__", "EnumType.__repr__", D18x24.1.1, .stmts D18x24.1.2.1, D18x24.1.2.2, 0, [], .none, .none, .none, .none, none, .none, .none, 0⟩, #[]⟩
noncomputable abbrev o454v0 (P : Params) : Obj := ⟨.type "code", none, .fields #[.str "__repr__" 699, .str "EnumType.__repr__" 700, .str "/claim/cut.py" 701, .int 227 0, .int 1 0, .int 0 0, .int 0 0, .int 3 0, .ref 449, .bool true, .int 181 0, .ref 450, .none, .ref 451, .ref 452, .ref 453, .int 703 0, .int 227 0, .str "/claim/cut.py" 704], #[]⟩
noncomputable abbrev o455v0 (P : Params) : Obj := ⟨.type "function", none, .func ⟨"__repr__", "EnumType.__repr__", D18x24.1.1, .stmts D18x24.1.2.1, D18x24.1.2.2, 3, [], .none, .none, .none, .str "enum" 279, none, .ref 454, .none, 0⟩, #[]⟩
noncomputable abbrev o456v0 (P : Params) : Obj := ⟨.type "tuple", none, .seq #[] 0, #[]⟩
noncomputable abbrev o457v0 (P : Params) : Obj := ⟨.none, none, .fields #[], #[]⟩
noncomputable abbrev o458v0 (P : Params) : Obj := ⟨.type "tuple", none, .seq #[.str "cls" 709] 0, #[]⟩
noncomputable abbrev o459v0 (P : Params) : Obj := ⟨.type "tuple", none, .seq #[.str "cls" 710] 0, #[]⟩
noncomputable abbrev o460v0 (P : Params) : Obj := ⟨.none, none, .func ⟨"__reversed__", "EnumType.__reversed__", D18x25.1.1, .stmts D18x25.1.2.1, D18x25.1.2.2, 0, [], .none, .none, .none, .none, none, .none, .none, 0⟩, #[]⟩
noncomputable abbrev o461v0 (P : Params) : Obj := ⟨.type "code", none, .fields #[.str "__reversed__" 706, .str "EnumType.__reversed__" 707, .str "/claim/cut.py" 708, .int 233 0, .int 1 0, .int 0 0, .int 0 0, .int 3 0, .ref 456, .bool true, .int 181 0, .ref 457, .none, .ref 458, .ref 459, .ref 460, .int 711 0, .int 233 0, .str "/claim/cut.py" 712], #[]⟩
noncomputable abbrev o462v0 (P : Params) : Obj := ⟨.type "function", none, .func ⟨"__reversed__", "EnumType.__reversed__", D18x25.1.1, .stmts D18x25.1.2.1, D18x25.1.2.2, 3, [], .none, .none, .none, .str "enum" 279, none, .ref 461, .none, 0⟩, #[]⟩
noncomputable abbrev o463v0 (P : Params) : Obj := ⟨.type "tuple", none, .seq #[.ref 288] 0, #[]⟩
noncomputable abbrev o464v0 (P : Params) : Obj := ⟨.type "tuple", none, .seq #[.str "__class__" 717] 0, #[]⟩
noncomputable abbrev o465v0 (P : Params) : Obj := ⟨.none, none, .fields #[], #[]⟩
noncomputable abbrev o466v0 (P : Params) : Obj := ⟨.type "tuple", none, .seq #[.str "cls" 718, .str "name" 719, .str "value" 720] 0, #[]⟩
noncomputable abbrev o467v0 (P : Params) : Obj := ⟨.type "tuple", none, .seq #[] 0, #[]⟩
noncomputable abbrev o468v0 (P : Params) : Obj := ⟨.none, none, .func ⟨"__setattr__", "EnumType.__setattr__", D18x26.1.1, .stmts D18x26.1.2.1, D18x26.1.2.2, 0, [], .none, .none, .none, .none, none, .none, .none, 0⟩, #[]⟩
noncomputable abbrev o469v0 (P : Params) : Obj := ⟨.type "code", none, .fields #[.str "__setattr__" 714, .str "EnumType.__setattr__" 715, .str "/claim/cut.py" 716, .int 236 0, .int 3 0, .int 0 0, .int 0 0, .int 3 0, .ref 464, .bool true, .int 181 0, .ref 465, .none, .ref 466, .ref 467, .ref 468, .int 721 0, .int 236 0, .str "/claim/cut.py" 722], #[]⟩
noncomputable abbrev o470v0 (P : Params) : Obj := ⟨.type "function", none, .func ⟨"__setattr__", "EnumType.__setattr__", D18x26.1.1, .stmts D18x26.1.2.1, D18x26.1.2.2, 3, [("__class__", 288)], .none, .none, .none, .str "enum" 279, none, .ref 469, .ref 463, 0⟩, #[]⟩
noncomputable abbrev o471v0 (P : Params) : Obj := ⟨.type "tuple", none, .seq #[.ref 288] 0, #[]⟩
noncomputable abbrev o472v0 (P : Params) : Obj := ⟨.type "tuple", none, .seq #[.str "__class__" 727] 0, #[]⟩
noncomputable abbrev o473v0 (P : Params) : Obj := ⟨.none, none, .fields #[], #[]⟩
noncomputable abbrev o474v0 (P : Params) : Obj := ⟨.type "tuple", none, .seq #[.str "cls" 728, .str "attr" 729] 0, #[]⟩
noncomputable abbrev o475v0 (P : Params) : Obj := ⟨.type "tuple", none, .seq #[] 0, #[]⟩
noncomputable abbrev o476v0 (P : Params) : Obj := ⟨.none, none, .func ⟨"__delattr__", "EnumType.__delattr__", D18x27.1.1, .stmts D18x27.1.2.1, D18x27.1.2.2, 0, [], .none, .none, .none, .none, none, .none, .none, 0⟩, #[]⟩
noncomputable abbrev o477v0 (P : Params) : Obj := ⟨.type "code", none, .fields #[.str "__delattr__" 724, .str "EnumType.__delattr__" 725, .str "/claim/cut.py" 726, .int 243 0, .int 2 0, .int 0 0, .int 0 0, .int 3 0, .ref 472, .bool true, .int 181 0, .ref 473, .none, .ref 474, .ref 475, .ref 476, .int 730 0, .int 243 0, .str "/claim/cut.py" 731], #[]⟩
noncomputable abbrev o478v0 (P : Params) : Obj := ⟨.type "function", none, .func ⟨"__delattr__", "EnumType.__delattr__", D18x27.1.1, .stmts D18x27.1.2.1, D18x27.1.2.2, 3, [("__class__", 288)], .none, .none, .none, .str "enum" 279, none, .ref 477, .ref 471, 0⟩, #[]⟩
noncomputable abbrev o479v0 (P : Params) : Obj := ⟨.type "tuple", none, .seq #[.ref 288] 0, #[]⟩
noncomputable abbrev o480v0 (P : Params) : Obj := ⟨.type "tuple", none, .seq #[.str "__class__" 736] 0, #[]⟩
noncomputable abbrev o481v0 (P : Params) : Obj := ⟨.none, none, .fields #[], #[]⟩
noncomputable abbrev o482v0 (P : Params) : Obj := ⟨.type "tuple", none, .seq #[.str "cls" 737, .str "name" 738, .str "value" 739] 0, #[]⟩
noncomputable abbrev o483v0 (P : Params) : Obj := ⟨.type "tuple", none, .seq #[] 0, #[]⟩
noncomputable abbrev o484v0 (P : Params) : Obj := ⟨.none, none, .func ⟨"_store_", "EnumType._store_", D18x28.1.1, .stmts D18x28.1.2.1, D18x28.1.2.2, 0, [], .none, .none, .none, .none, none, .none, .none, 0⟩, #[]⟩
noncomputable abbrev o485v0 (P : Params) : Obj := ⟨.type "code", none, .fields #[.str "_store_" 733, .str "EnumType._store_" 734, .str "/claim/cut.py" 735, .int 248 0, .int 3 0, .int 0 0, .int 0 0, .int 3 0, .ref 480, .bool true, .int 181 0, .ref 481, .none, .ref 482, .ref 483, .ref 484, .int 740 0, .int 248 0, .str "/claim/cut.py" 741], #[]⟩
noncomputable abbrev o486v0 (P : Params) : Obj := ⟨.type "function", none, .func ⟨"_store_", "EnumType._store_", D18x28.1.1, .stmts D18x28.1.2.1, D18x28.1.2.2, 3, [("__class__", 288)], .none, .none, .none, .str "enum" 279, none, .ref 485, .ref 479, 0⟩, #[]⟩
noncomputable abbrev o487v0 (P : Params) : Obj := ⟨.type "tuple", none, .seq #[] 0, #[]⟩
noncomputable abbrev o488v0 (P : Params) : Obj := ⟨.none, none, .fields #[], #[]⟩
noncomputable abbrev o489v0 (P : Params) : Obj := ⟨.type "tuple", none, .seq #[.str "cls" 746] 0, #[]⟩
noncomputable abbrev o490v0 (P : Params) : Obj := ⟨.type "tuple", none, .seq #[] 0, #[]⟩
noncomputable abbrev o491v0 (P : Params) : Obj := ⟨.none, none, .func ⟨"__dir__", "EnumType.__dir__", D18x29.1.1, .stmts D18x29.1.2.1, D18x29.1.2.2, 0, [], .none, .none, .none, .none, none, .none, .none, 0⟩, #[]⟩
noncomputable abbrev o492v0 (P : Params) : Obj := ⟨.type "code", none, .fields #[.str "__dir__" 743, .str "EnumType.__dir__" 744, .str "/claim/cut.py" 745, .int 251 0, .int 1 0, .int 0 0, .int 0 0, .int 3 0, .ref 487, .bool true, .int 181 0, .ref 488, .none, .ref 489, .ref 490, .ref 491, .int 747 0, .int 251 0, .str "/claim/cut.py" 748], #[]⟩
noncomputable abbrev o493v0 (P : Params) : Obj := ⟨.type "function", none, .func ⟨"__dir__", "EnumType.__dir__", D18x29.1.1, .stmts D18x29.1.2.1, D18x29.1.2.2, 3, [], .none, .none, .none, .str "enum" 279, none, .ref 492, .none, 0⟩, #[]⟩
noncomputable abbrev o494v0 (P : Params) : Obj := ⟨.type "tuple", none, .seq #[] 0, #[]⟩
noncomputable abbrev o495v0 (P : Params) : Obj := ⟨.type "dict", none, .dict #[⟨PyData.keyHash P "__module__", .str "__module__" 503, .str "enum" 508⟩, ⟨PyData.keyHash P "__firstlineno__", .str "__firstlineno__" 507, .int 123 506⟩, ⟨PyData.keyHash P "_written_out_", .str "_written_out_" 511, .int 0 510⟩, ⟨PyData.keyHash P "__new__", .str "__new__" 524, .ref 497⟩, ⟨PyData.keyHash P "_planted_", .str "_planted_" 533, .ref 307⟩, ⟨PyData.keyHash P "_planted_at_", .str "_planted_at_" 540, .ref 314⟩, ⟨PyData.keyHash P "_held_value_", .str "_held_value_" 550, .ref 321⟩, ⟨PyData.keyHash P "_canonical_", .str "_canonical_" 560, .ref 328⟩, ⟨PyData.keyHash P "_book_value_", .str "_book_value_" 570, .ref 335⟩, ⟨PyData.keyHash P "_mixed_", .str "_mixed_" 578, .ref 342⟩, ⟨PyData.keyHash P "_held_def_", .str "_held_def_" 587, .ref 349⟩, ⟨PyData.keyHash P "_closed_", .str "_closed_" 594, .ref 356⟩, ⟨PyData.keyHash P "_held_auto_", .str "_held_auto_" 603, .ref 363⟩, ⟨PyData.keyHash P "_unique_", .str "_unique_" 610, .ref 370⟩, ⟨PyData.keyHash P "_close_", .str "_close_" 617, .ref 377⟩, ⟨PyData.keyHash P "_expect_", .str "_expect_" 625, .ref 384⟩, ⟨PyData.keyHash P "_value_of_", .str "_value_of_" 634, .ref 391⟩, ⟨PyData.keyHash P "_args_of_", .str "_args_of_" 642, .ref 398⟩, ⟨PyData.keyHash P "__bool__", .str "__bool__" 649, .ref 405⟩, ⟨PyData.keyHash P "__call__", .str "__call__" 658, .ref 412⟩, ⟨PyData.keyHash P "__contains__", .str "__contains__" 667, .ref 419⟩, ⟨PyData.keyHash P "__getitem__", .str "__getitem__" 675, .ref 426⟩, ⟨PyData.keyHash P "__iter__", .str "__iter__" 683, .ref 433⟩, ⟨PyData.keyHash P "__len__", .str "__len__" 690, .ref 440⟩, ⟨PyData.keyHash P "__members__", .str "__members__" 698, .ref 448⟩, ⟨PyData.keyHash P "__repr__", .str "__repr__" 705, .ref 455⟩, ⟨PyData.keyHash P "__reversed__", .str "__reversed__" 713, .ref 462⟩, ⟨PyData.keyHash P "__setattr__", .str "__setattr__" 723, .ref 470⟩, ⟨PyData.keyHash P "__delattr__", .str "__delattr__" 732, .ref 478⟩, ⟨PyData.keyHash P "_store_", .str "_store_" 742, .ref 486⟩, ⟨PyData.keyHash P "__dir__", .str "__dir__" 749, .ref 493⟩, ⟨PyData.keyHash P "__static_attributes__", .str "__static_attributes__" 750, .ref 494⟩, ⟨PyData.keyHash P "__doc__", .str "__doc__" 753, .none⟩] 3, #[]⟩
noncomputable abbrev o496v0 (P : Params) : Obj := ⟨.type "type", none, .cls ⟨"EnumType", [.type "type"], [.ref 496, .type "type", .type "object"], 495, "EnumType", true, [], [], false, none, false⟩, #[some (.ref 285), none, some (.str "EnumType" 496), some (.str "EnumType" 504), some (.none), some (.bool true)]⟩
noncomputable abbrev o497v0 (P : Params) : Obj := ⟨.type "staticmethod", none, .fields #[.ref 300], #[]⟩
noncomputable abbrev o498v0 (P : Params) : Obj := ⟨.type "super", none, .fields #[.ref 496, .ref 496, .ref 496], #[]⟩
noncomputable abbrev o499v0 (P : Params) : Obj := ⟨.type "builtin_function_or_method", none, .fields #[.builtin "object.__init_subclass__", .ref 496], #[]⟩
noncomputable abbrev o500v0 (P : Params) : Obj := ⟨.type "tuple", none, .seq #[] 0, #[]⟩
noncomputable abbrev o501v0 (P : Params) : Obj := ⟨.type "builtin_function_or_method", none, .fields #[.builtin "type.__prepare__", .type "type"], #[]⟩
noncomputable abbrev o502v0 (P : Params) : Obj := ⟨.type "dict", none, .dict #[⟨PyData.keyHash P "__module__", .str "__module__" 763, .str "enum" 279⟩, ⟨PyData.keyHash P "__qualname__", .str "__qualname__" 765, .str "_EnumField" 764⟩, ⟨PyData.keyHash P "__firstlineno__", .str "__firstlineno__" 767, .int 253 766⟩, ⟨PyData.keyHash P "__init__", .str "__init__" 775, .ref 513⟩, ⟨PyData.keyHash P "__get__", .str "__get__" 784, .ref 521⟩, ⟨PyData.keyHash P "__set__", .str "__set__" 793, .ref 528⟩, ⟨PyData.keyHash P "__delete__", .str "__delete__" 801, .ref 535⟩, ⟨PyData.keyHash P "__static_attributes__", .str "__static_attributes__" 803, .ref 536⟩] 8, #[]⟩
noncomputable abbrev o503v0 (P : Params) : Obj := ⟨.type "tuple", none, .seq #[] 0, #[]⟩
noncomputable abbrev o504v0 (P : Params) : Obj := ⟨.none, none, .fields #[.int 255 0, .int 4 0, .ref 512, .int 258 0, .int 4 0, .ref 520, .int 265 0, .int 4 0, .ref 527, .int 268 0, .int 4 0, .ref 534], #[]⟩
noncomputable abbrev o505v0 (P : Params) : Obj := ⟨.type "code", none, .fields #[.str "_EnumField" 758, .str "_EnumField" 759, .str "/claim/cut.py" 760, .int 253 0, .int 0 0, .int 0 0, .int 0 0, .int 0 0, .ref 503, .bool false, .int 181 0, .ref 504, .none, .none, .none, .none, .int 761 0, .int 253 0, .str "/claim/cut.py" 762], #[]⟩
noncomputable abbrev o506v0 (P : Params) : Obj := ⟨.type "frame", none, .plain, #[some (.ref 505), some (.ref 3), some (.ref 502), none, some (.str "enum" 279), none, some (.ref 0)]⟩
noncomputable abbrev o507v0 (P : Params) : Obj := ⟨.type "tuple", none, .seq #[] 0, #[]⟩
noncomputable abbrev o508v0 (P : Params) : Obj := ⟨.none, none, .fields #[], #[]⟩
noncomputable abbrev o509v0 (P : Params) : Obj := ⟨.type "tuple", none, .seq #[.str "self" 771, .str "name" 772] 0, #[]⟩
noncomputable abbrev o510v0 (P : Params) : Obj := ⟨.type "tuple", none, .seq #[] 0, #[]⟩
noncomputable abbrev o511v0 (P : Params) : Obj := ⟨.none, none, .func ⟨"__init__", "_EnumField.__init__", D19x0.1.1, .stmts D19x0.1.2.1, D19x0.1.2.2, 0, [], .none, .none, .none, .none, none, .none, .none, 0⟩, #[]⟩
noncomputable abbrev o512v0 (P : Params) : Obj := ⟨.type "code", none, .fields #[.str "__init__" 768, .str "_EnumField.__init__" 769, .str "/claim/cut.py" 770, .int 255 0, .int 2 0, .int 0 0, .int 0 0, .int 3 0, .ref 507, .bool true, .int 181 0, .ref 508, .none, .ref 509, .ref 510, .ref 511, .int 773 0, .int 255 0, .str "/claim/cut.py" 774], #[]⟩
noncomputable abbrev o513v0 (P : Params) : Obj := ⟨.type "function", none, .func ⟨"__init__", "_EnumField.__init__", D19x0.1.1, .stmts D19x0.1.2.1, D19x0.1.2.2, 3, [], .none, .none, .none, .str "enum" 279, none, .ref 512, .none, 0⟩, #[]⟩
noncomputable abbrev o514v0 (P : Params) : Obj := ⟨.type "tuple", none, .seq #[.none] 0, #[]⟩
noncomputable abbrev o515v0 (P : Params) : Obj := ⟨.type "tuple", none, .seq #[] 0, #[]⟩
noncomputable abbrev o516v0 (P : Params) : Obj := ⟨.none, none, .fields #[], #[]⟩
noncomputable abbrev o517v0 (P : Params) : Obj := ⟨.type "tuple", none, .seq #[.str "self" 779, .str "instance" 780, .str "ownerclass" 781] 0, #[]⟩
noncomputable abbrev o518v0 (P : Params) : Obj := ⟨.type "tuple", none, .seq #[] 0, #[]⟩
noncomputable abbrev o519v0 (P : Params) : Obj := ⟨.none, none, .func ⟨"__get__", "_EnumField.__get__", D19x1.1.1, .stmts D19x1.1.2.1, D19x1.1.2.2, 0, [], .none, .none, .none, .none, none, .none, .none, 0⟩, #[]⟩
noncomputable abbrev o520v0 (P : Params) : Obj := ⟨.type "code", none, .fields #[.str "__get__" 776, .str "_EnumField.__get__" 777, .str "/claim/cut.py" 778, .int 258 0, .int 3 0, .int 0 0, .int 0 0, .int 3 0, .ref 515, .bool true, .int 181 0, .ref 516, .none, .ref 517, .ref 518, .ref 519, .int 782 0, .int 258 0, .str "/claim/cut.py" 783], #[]⟩
noncomputable abbrev o521v0 (P : Params) : Obj := ⟨.type "function", none, .func ⟨"__get__", "_EnumField.__get__", D19x1.1.1, .stmts D19x1.1.2.1, D19x1.1.2.2, 3, [], .ref 514, .none, .none, .str "enum" 279, none, .ref 520, .none, 0⟩, #[]⟩
noncomputable abbrev o522v0 (P : Params) : Obj := ⟨.type "tuple", none, .seq #[] 0, #[]⟩
noncomputable abbrev o523v0 (P : Params) : Obj := ⟨.none, none, .fields #[], #[]⟩
noncomputable abbrev o524v0 (P : Params) : Obj := ⟨.type "tuple", none, .seq #[.str "self" 788, .str "instance" 789, .str "value" 790] 0, #[]⟩
noncomputable abbrev o525v0 (P : Params) : Obj := ⟨.type "tuple", none, .seq #[] 0, #[]⟩
noncomputable abbrev o526v0 (P : Params) : Obj := ⟨.none, none, .func ⟨"__set__", "_EnumField.__set__", D19x2.1.1, .stmts D19x2.1.2.1, D19x2.1.2.2, 0, [], .none, .none, .none, .none, none, .none, .none, 0⟩, #[]⟩
noncomputable abbrev o527v0 (P : Params) : Obj := ⟨.type "code", none, .fields #[.str "__set__" 785, .str "_EnumField.__set__" 786, .str "/claim/cut.py" 787, .int 265 0, .int 3 0, .int 0 0, .int 0 0, .int 3 0, .ref 522, .bool true, .int 181 0, .ref 523, .none, .ref 524, .ref 525, .ref 526, .int 791 0, .int 265 0, .str "/claim/cut.py" 792], #[]⟩
noncomputable abbrev o528v0 (P : Params) : Obj := ⟨.type "function", none, .func ⟨"__set__", "_EnumField.__set__", D19x2.1.1, .stmts D19x2.1.2.1, D19x2.1.2.2, 3, [], .none, .none, .none, .str "enum" 279, none, .ref 527, .none, 0⟩, #[]⟩
noncomputable abbrev o529v0 (P : Params) : Obj := ⟨.type "tuple", none, .seq #[] 0, #[]⟩
noncomputable abbrev o530v0 (P : Params) : Obj := ⟨.none, none, .fields #[], #[]⟩
noncomputable abbrev o531v0 (P : Params) : Obj := ⟨.type "tuple", none, .seq #[.str "self" 797, .str "instance" 798] 0, #[]⟩
noncomputable abbrev o532v0 (P : Params) : Obj := ⟨.type "tuple", none, .seq #[] 0, #[]⟩
noncomputable abbrev o533v0 (P : Params) : Obj := ⟨.none, none, .func ⟨"__delete__", "_EnumField.__delete__", D19x3.1.1, .stmts D19x3.1.2.1, D19x3.1.2.2, 0, [], .none, .none, .none, .none, none, .none, .none, 0⟩, #[]⟩
noncomputable abbrev o534v0 (P : Params) : Obj := ⟨.type "code", none, .fields #[.str "__delete__" 794, .str "_EnumField.__delete__" 795, .str "/claim/cut.py" 796, .int 268 0, .int 2 0, .int 0 0, .int 0 0, .int 3 0, .ref 529, .bool true, .int 181 0, .ref 530, .none, .ref 531, .ref 532, .ref 533, .int 799 0, .int 268 0, .str "/claim/cut.py" 800], #[]⟩
noncomputable abbrev o535v0 (P : Params) : Obj := ⟨.type "function", none, .func ⟨"__delete__", "_EnumField.__delete__", D19x3.1.1, .stmts D19x3.1.2.1, D19x3.1.2.2, 3, [], .none, .none, .none, .str "enum" 279, none, .ref 534, .none, 0⟩, #[]⟩
noncomputable abbrev o536v0 (P : Params) : Obj := ⟨.type "tuple", none, .seq #[.str "name" 802] 0, #[]⟩
noncomputable abbrev o537v0 (P : Params) : Obj := ⟨.type "dict", none, .dict #[⟨PyData.keyHash P "__module__", .str "__module__" 763, .str "enum" 279⟩, ⟨PyData.keyHash P "__firstlineno__", .str "__firstlineno__" 767, .int 253 766⟩, ⟨PyData.keyHash P "__init__", .str "__init__" 775, .ref 513⟩, ⟨PyData.keyHash P "__get__", .str "__get__" 784, .ref 521⟩, ⟨PyData.keyHash P "__set__", .str "__set__" 793, .ref 528⟩, ⟨PyData.keyHash P "__delete__", .str "__delete__" 801, .ref 535⟩, ⟨PyData.keyHash P "__static_attributes__", .str "__static_attributes__" 803, .ref 536⟩, ⟨PyData.keyHash P "__dict__", .str "__dict__" 805, .ref 539⟩, ⟨PyData.keyHash P "__weakref__", .str "__weakref__" 807, .ref 540⟩, ⟨PyData.keyHash P "__doc__", .str "__doc__" 808, .none⟩] 4, #[]⟩
noncomputable abbrev o538v0 (P : Params) : Obj := ⟨.type "type", none, .cls ⟨"_EnumField", [.type "object"], [.ref 538, .type "object"], 537, "_EnumField", true, [], [], false, none, false⟩, #[none, none, some (.str "_EnumField" 756), some (.str "_EnumField" 764), some (.builtin "object.__new__"), some (.bool true)]⟩
noncomputable abbrev o539v0 (P : Params) : Obj := ⟨.type "getset_descriptor", none, .fields #[.str "__dict__" 804, .ref 538, .builtin "function.__dict__", .builtin "function.__dict__#set"], #[]⟩
noncomputable abbrev o540v0 (P : Params) : Obj := ⟨.type "getset_descriptor", none, .fields #[.str "__weakref__" 806, .ref 538, .builtin "ExceptionGroup.__weakref__", .none], #[]⟩
noncomputable abbrev o541v0 (P : Params) : Obj := ⟨.type "super", none, .fields #[.ref 538, .ref 538, .ref 538], #[]⟩
noncomputable abbrev o542v0 (P : Params) : Obj := ⟨.type "builtin_function_or_method", none, .fields #[.builtin "object.__init_subclass__", .ref 538], #[]⟩
noncomputable abbrev o3v3 (P : Params) : Obj := ⟨.type "dict", none, .dict #[⟨PyData.keyHash P "__name__", .str "__name__" 165, .str "pg8000.converters" 998⟩, ⟨PyData.keyHash P "__doc__", .str "__doc__" 166, .none⟩, ⟨PyData.keyHash P "__package__", .str "__package__" 167, .none⟩, ⟨PyData.keyHash P "__loader__", .str "__loader__" 168, .builtin "__main__.__loader__#opaque"⟩, ⟨PyData.keyHash P "__spec__", .str "__spec__" 169, .none⟩, ⟨PyData.keyHash P "__annotations__", .str "__annotations__" 170, .ref 6⟩, ⟨PyData.keyHash P "__builtins__", .str "__builtins__" 171, .ref 4⟩, ⟨PyData.keyHash P "__file__", .str "__file__" 173, .str "/claim/cut.py" 172⟩, ⟨PyData.keyHash P "__cached__", .str "__cached__" 174, .none⟩, ⟨PyData.keyHash P "_wall", .str "_wall" 193, .ref 21⟩, ⟨PyData.keyHash P "kind_of", .str "kind_of" 202, .ref 28⟩, ⟨PyData.keyHash P "bool_in", .str "bool_in" 211, .ref 35⟩, ⟨PyData.keyHash P "bool_out", .str "bool_out" 218, .ref 42⟩, ⟨PyData.keyHash P "bytes_in", .str "bytes_in" 225, .ref 49⟩, ⟨PyData.keyHash P "bytes_out", .str "bytes_out" 232, .ref 56⟩, ⟨PyData.keyHash P "int_in", .str "int_in" 239, .ref 63⟩, ⟨PyData.keyHash P "int_out", .str "int_out" 246, .ref 70⟩, ⟨PyData.keyHash P "null_out", .str "null_out" 253, .ref 77⟩, ⟨PyData.keyHash P "range_out", .str "range_out" 264, .ref 84⟩, ⟨PyData.keyHash P "string_in", .str "string_in" 271, .ref 91⟩, ⟨PyData.keyHash P "string_out", .str "string_out" 278, .ref 98⟩, ⟨PyData.keyHash P "_OWN_NAMES", .str "_OWN_NAMES" 286, .ref 99⟩, ⟨PyData.keyHash P "mappingproxy", .str "mappingproxy" 494, .ref 280⟩, ⟨PyData.keyHash P "_MEMBERS_VIEW", .str "_MEMBERS_VIEW" 495, .ref 280⟩, ⟨PyData.keyHash P "EnumType", .str "EnumType" 755, .ref 496⟩, ⟨PyData.keyHash P "_EnumField", .str "_EnumField" 810, .ref 538⟩, ⟨PyData.keyHash P "Enum", .str "Enum" 997, .ref 662⟩, ⟨PyData.keyHash P "ParserState", .str "ParserState" 1044, .ref 685⟩, ⟨PyData.keyHash P "_lay_ParserState", .str "_lay_ParserState" 1058, .ref 698⟩] 29, #[]⟩
noncomputable abbrev o12v3 (P : Params) : Obj := ⟨.none, none, .fields #[.int 1 0, .int 0 0, .ref 20, .int 5 0, .int 0 0, .ref 27, .int 12 0, .int 0 0, .ref 34, .int 14 0, .int 0 0, .ref 41, .int 16 0, .int 0 0, .ref 48, .int 18 0, .int 0 0, .ref 55, .int 20 0, .int 0 0, .ref 62, .int 22 0, .int 0 0, .ref 69, .int 24 0, .int 0 0, .ref 76, .int 26 0, .int 0 0, .ref 83, .int 35 0, .int 0 0, .ref 90, .int 37 0, .int 0 0, .ref 97, .int 41 0, .int 0 0, .ref 105, .int 123 0, .int 0 0, .ref 291, .int 253 0, .int 0 0, .ref 505, .int 270 0, .int 0 0, .ref 548, .int 364 0, .int 0 0, .ref 677, .int 368 0, .int 0 0, .ref 697], #[]⟩
noncomputable abbrev o543v0 (P : Params) : Obj := ⟨.type "tuple", none, .seq #[] 0, #[]⟩
noncomputable abbrev o544v0 (P : Params) : Obj := ⟨.type "builtin_function_or_method", none, .fields #[.builtin "type.__prepare__", .ref 496], #[]⟩
noncomputable abbrev o545v0 (P : Params) : Obj := ⟨.type "dict", none, .dict #[⟨PyData.keyHash P "__module__", .str "__module__" 818, .str "enum" 823⟩, ⟨PyData.keyHash P "__qualname__", .str "__qualname__" 820, .str "Enum" 819⟩, ⟨PyData.keyHash P "__firstlineno__", .str "__firstlineno__" 822, .int 270 821⟩, ⟨PyData.keyHash P "_written_out_", .str "_written_out_" 826, .int 4 825⟩, ⟨PyData.keyHash P "_member_names_", .str "_member_names_" 827, .ref 550⟩, ⟨PyData.keyHash P "_member_map_", .str "_member_map_" 828, .ref 551⟩, ⟨PyData.keyHash P "_value2member_map_", .str "_value2member_map_" 829, .ref 552⟩, ⟨PyData.keyHash P "_hashable_values_", .str "_hashable_values_" 830, .ref 553⟩, ⟨PyData.keyHash P "_unhashable_values_", .str "_unhashable_values_" 831, .ref 554⟩, ⟨PyData.keyHash P "_unhashable_values_map_", .str "_unhashable_values_map_" 832, .ref 555⟩, ⟨PyData.keyHash P "_members_", .str "_members_" 833, .ref 556⟩, ⟨PyData.keyHash P "_value_repr_", .str "_value_repr_" 834, .none⟩, ⟨PyData.keyHash P "_is_flag_", .str "_is_flag_" 835, .bool false⟩, ⟨PyData.keyHash P "_making_", .str "_making_" 836, .bool false⟩, ⟨PyData.keyHash P "__new__", .str "__new__" 851, .ref 563⟩, ⟨PyData.keyHash P "_missing_", .str "_missing_" 871, .ref 572⟩, ⟨PyData.keyHash P "__init__", .str "__init__" 880, .ref 580⟩, ⟨PyData.keyHash P "__repr__", .str "__repr__" 888, .ref 587⟩, ⟨PyData.keyHash P "__str__", .str "__str__" 895, .ref 594⟩, ⟨PyData.keyHash P "__format__", .str "__format__" 903, .ref 601⟩, ⟨PyData.keyHash P "__hash__", .str "__hash__" 910, .ref 608⟩, ⟨PyData.keyHash P "__reduce_ex__", .str "__reduce_ex__" 918, .ref 615⟩, ⟨PyData.keyHash P "__deepcopy__", .str "__deepcopy__" 926, .ref 622⟩, ⟨PyData.keyHash P "__copy__", .str "__copy__" 933, .ref 629⟩, ⟨PyData.keyHash P "__dir__", .str "__dir__" 940, .ref 636⟩, ⟨PyData.keyHash P "_add_alias_", .str "_add_alias_" 948, .ref 643⟩, ⟨PyData.keyHash P "_add_value_alias_", .str "_add_value_alias_" 956, .ref 650⟩, ⟨PyData.keyHash P "name", .str "name" 962, .ref 652⟩, ⟨PyData.keyHash P "value", .str "value" 968, .ref 655⟩, ⟨PyData.keyHash P "__static_attributes__", .str "__static_attributes__" 969, .ref 657⟩] 30, #[]⟩
noncomputable abbrev o546v0 (P : Params) : Obj := ⟨.type "tuple", none, .seq #[] 0, #[]⟩
noncomputable abbrev o547v0 (P : Params) : Obj := ⟨.none, none, .fields #[.int 284 0, .int 4 0, .ref 562, .int 325 0, .int 4 0, .ref 569, .int 328 0, .int 4 0, .ref 579, .int 331 0, .int 4 0, .ref 586, .int 335 0, .int 4 0, .ref 593, .int 338 0, .int 4 0, .ref 600, .int 341 0, .int 4 0, .ref 607, .int 344 0, .int 4 0, .ref 614, .int 347 0, .int 4 0, .ref 621, .int 350 0, .int 4 0, .ref 628, .int 353 0, .int 4 0, .ref 635, .int 356 0, .int 4 0, .ref 642, .int 359 0, .int 4 0, .ref 649], #[]⟩
noncomputable abbrev o548v0 (P : Params) : Obj := ⟨.type "code", none, .fields #[.str "Enum" 813, .str "Enum" 814, .str "/claim/cut.py" 815, .int 270 0, .int 0 0, .int 0 0, .int 0 0, .int 0 0, .ref 546, .bool false, .int 181 0, .ref 547, .none, .none, .none, .none, .int 816 0, .int 270 0, .str "/claim/cut.py" 817], #[]⟩
noncomputable abbrev o549v0 (P : Params) : Obj := ⟨.type "frame", none, .plain, #[some (.ref 548), some (.ref 3), some (.ref 545), none, some (.str "enum" 279), none, some (.ref 0)]⟩
noncomputable abbrev o550v0 (P : Params) : Obj := ⟨.type "list", none, .seq #[] 0, #[]⟩
noncomputable abbrev o551v0 (P : Params) : Obj := ⟨.type "dict", none, .dict #[] 0, #[]⟩
noncomputable abbrev o552v0 (P : Params) : Obj := ⟨.type "dict", none, .dict #[] 0, #[]⟩
noncomputable abbrev o553v0 (P : Params) : Obj := ⟨.type "list", none, .seq #[] 0, #[]⟩
noncomputable abbrev o554v0 (P : Params) : Obj := ⟨.type "list", none, .seq #[] 0, #[]⟩
noncomputable abbrev o555v0 (P : Params) : Obj := ⟨.type "dict", none, .dict #[] 0, #[]⟩
noncomputable abbrev o556v0 (P : Params) : Obj := ⟨.type "tuple", none, .seq #[] 0, #[]⟩
noncomputable abbrev o557v0 (P : Params) : Obj := ⟨.type "tuple", none, .seq #[] 0, #[]⟩
noncomputable abbrev o558v0 (P : Params) : Obj := ⟨.none, none, .fields #[], #[]⟩
noncomputable abbrev o559v0 (P : Params) : Obj := ⟨.type "tuple", none, .seq #[.str "cls" 840, .str "value" 841, .str "name" 842, .str "unhashable_values" 843, .str "member" 844, .str "exc" 845, .str "result" 846, .str "e" 847, .str "ve_exc" 848] 0, #[]⟩
noncomputable abbrev o560v0 (P : Params) : Obj := ⟨.type "tuple", none, .seq #[] 0, #[]⟩
noncomputable abbrev o561v0 (P : Params) : Obj := ⟨.none, none, .func ⟨"__new__", "Enum.__new__", D20x12.1.1, .stmts D20x12.1.2.1, D20x12.1.2.2, 0, [], .none, .none, .none, .none, none, .none, .none, 0⟩, #[]⟩
noncomputable abbrev o562v0 (P : Params) : Obj := ⟨.type "code", none, .fields #[.str "__new__" 837, .str "Enum.__new__" 838, .str "/claim/cut.py" 839, .int 284 0, .int 2 0, .int 0 0, .int 0 0, .int 3 0, .ref 557, .bool true, .int 181 0, .ref 558, .none, .ref 559, .ref 560, .ref 561, .int 849 0, .int 284 0, .str "/claim/cut.py" 850], #[]⟩
noncomputable abbrev o563v0 (P : Params) : Obj := ⟨.type "function", none, .func ⟨"__new__", "Enum.__new__", D20x12.1.1, .stmts D20x12.1.2.1, D20x12.1.2.2, 3, [], .none, .none, .none, .str "enum" 279, none, .ref 562, .none, 0⟩, #[]⟩
noncomputable abbrev o564v0 (P : Params) : Obj := ⟨.type "tuple", none, .seq #[] 0, #[]⟩
noncomputable abbrev o565v0 (P : Params) : Obj := ⟨.none, none, .fields #[], #[]⟩
noncomputable abbrev o566v0 (P : Params) : Obj := ⟨.type "tuple", none, .seq #[.str "cls" 855, .str "value" 856] 0, #[]⟩
noncomputable abbrev o567v0 (P : Params) : Obj := ⟨.type "tuple", none, .seq #[] 0, #[]⟩
noncomputable abbrev o568v0 (P : Params) : Obj := ⟨.none, none, .func ⟨"_missing_", "Enum._missing_", D20x13.1.1, .stmts D20x13.1.2.1, D20x13.1.2.2, 0, [], .none, .none, .none, .none, none, .none, .none, 0⟩, #[]⟩
noncomputable abbrev o569v0 (P : Params) : Obj := ⟨.type "code", none, .fields #[.str "_missing_" 852, .str "Enum._missing_" 853, .str "/claim/cut.py" 854, .int 324 0, .int 2 0, .int 0 0, .int 0 0, .int 3 0, .ref 564, .bool true, .int 181 0, .ref 565, .none, .ref 566, .ref 567, .ref 568, .int 857 0, .int 324 0, .str "/claim/cut.py" 858], #[]⟩
noncomputable abbrev o570v0 (P : Params) : Obj := ⟨.type "function", none, .func ⟨"_missing_", "Enum._missing_", D20x13.1.1, .stmts D20x13.1.2.1, D20x13.1.2.2, 3, [], .none, .none, .none, .str "enum" 279, some (573), .ref 569, .none, 0⟩, #[]⟩
noncomputable abbrev o571v0 (P : Params) : Obj := ⟨.type "dict", none, .dict #[⟨PyData.keyHash P "__module__", .str "__module__" 860, .str "enum" 279⟩, ⟨PyData.keyHash P "__name__", .str "__name__" 863, .str "_missing_" 862⟩, ⟨PyData.keyHash P "__qualname__", .str "__qualname__" 866, .str "Enum._missing_" 865⟩, ⟨PyData.keyHash P "__doc__", .str "__doc__" 868, .none⟩, ⟨PyData.keyHash P "__annotations__", .str "__annotations__" 870, .ref 573⟩] 5, #[]⟩
noncomputable abbrev o572v0 (P : Params) : Obj := ⟨.type "classmethod", some (571), .fields #[.ref 570, .bool false], #[]⟩
noncomputable abbrev o573v0 (P : Params) : Obj := ⟨.type "dict", none, .dict #[] 0, #[]⟩
noncomputable abbrev o574v0 (P : Params) : Obj := ⟨.type "tuple", none, .seq #[] 0, #[]⟩
noncomputable abbrev o575v0 (P : Params) : Obj := ⟨.none, none, .fields #[], #[]⟩
noncomputable abbrev o576v0 (P : Params) : Obj := ⟨.type "tuple", none, .seq #[.str "self" 875, .str "args" 876, .str "kwds" 877] 0, #[]⟩
noncomputable abbrev o577v0 (P : Params) : Obj := ⟨.type "tuple", none, .seq #[] 0, #[]⟩
noncomputable abbrev o578v0 (P : Params) : Obj := ⟨.none, none, .func ⟨"__init__", "Enum.__init__", D20x14.1.1, .stmts D20x14.1.2.1, D20x14.1.2.2, 0, [], .none, .none, .none, .none, none, .none, .none, 0⟩, #[]⟩
noncomputable abbrev o579v0 (P : Params) : Obj := ⟨.type "code", none, .fields #[.str "__init__" 872, .str "Enum.__init__" 873, .str "/claim/cut.py" 874, .int 328 0, .int 1 0, .int 0 0, .int 0 0, .int 15 0, .ref 574, .bool true, .int 181 0, .ref 575, .none, .ref 576, .ref 577, .ref 578, .int 878 0, .int 328 0, .str "/claim/cut.py" 879], #[]⟩
noncomputable abbrev o580v0 (P : Params) : Obj := ⟨.type "function", none, .func ⟨"__init__", "Enum.__init__", D20x14.1.1, .stmts D20x14.1.2.1, D20x14.1.2.2, 3, [], .none, .none, .none, .str "enum" 279, none, .ref 579, .none, 0⟩, #[]⟩
noncomputable abbrev o581v0 (P : Params) : Obj := ⟨.type "tuple", none, .seq #[] 0, #[]⟩
noncomputable abbrev o582v0 (P : Params) : Obj := ⟨.none, none, .fields #[], #[]⟩
noncomputable abbrev o583v0 (P : Params) : Obj := ⟨.type "tuple", none, .seq #[.str "self" 884, .str "v_repr" 885] 0, #[]⟩
noncomputable abbrev o584v0 (P : Params) : Obj := ⟨.type "tuple", none, .seq #[] 0, #[]⟩
noncomputable abbrev o585v0 (P : Params) : Obj := ⟨.none, none, .func ⟨"__repr__", "Enum.__repr__", D20x15.1.1, .stmts D20x15.1.2.1, D20x15.1.2.2, 0, [], .none, .none, .none, .none, none, .none, .none, 0⟩, #[]⟩
noncomputable abbrev o586v0 (P : Params) : Obj := ⟨.type "code", none, .fields #[.str "__repr__" 881, .str "Enum.__repr__" 882, .str "/claim/cut.py" 883, .int 331 0, .int 1 0, .int 0 0, .int 0 0, .int 3 0, .ref 581, .bool true, .int 181 0, .ref 582, .none, .ref 583, .ref 584, .ref 585, .int 886 0, .int 331 0, .str "/claim/cut.py" 887], #[]⟩
noncomputable abbrev o587v0 (P : Params) : Obj := ⟨.type "function", none, .func ⟨"__repr__", "Enum.__repr__", D20x15.1.1, .stmts D20x15.1.2.1, D20x15.1.2.2, 3, [], .none, .none, .none, .str "enum" 279, none, .ref 586, .none, 0⟩, #[]⟩
noncomputable abbrev o588v0 (P : Params) : Obj := ⟨.type "tuple", none, .seq #[] 0, #[]⟩
noncomputable abbrev o589v0 (P : Params) : Obj := ⟨.none, none, .fields #[], #[]⟩
noncomputable abbrev o590v0 (P : Params) : Obj := ⟨.type "tuple", none, .seq #[.str "self" 892] 0, #[]⟩
noncomputable abbrev o591v0 (P : Params) : Obj := ⟨.type "tuple", none, .seq #[] 0, #[]⟩
noncomputable abbrev o592v0 (P : Params) : Obj := ⟨.none, none, .func ⟨"__str__", "Enum.__str__", D20x16.1.1, .stmts D20x16.1.2.1, D20x16.1.2.2, 0, [], .none, .none, .none, .none, none, .none, .none, 0⟩, #[]⟩
noncomputable abbrev o593v0 (P : Params) : Obj := ⟨.type "code", none, .fields #[.str "__str__" 889, .str "Enum.__str__" 890, .str "/claim/cut.py" 891, .int 335 0, .int 1 0, .int 0 0, .int 0 0, .int 3 0, .ref 588, .bool true, .int 181 0, .ref 589, .none, .ref 590, .ref 591, .ref 592, .int 893 0, .int 335 0, .str "/claim/cut.py" 894], #[]⟩
noncomputable abbrev o594v0 (P : Params) : Obj := ⟨.type "function", none, .func ⟨"__str__", "Enum.__str__", D20x16.1.1, .stmts D20x16.1.2.1, D20x16.1.2.2, 3, [], .none, .none, .none, .str "enum" 279, none, .ref 593, .none, 0⟩, #[]⟩
noncomputable abbrev o595v0 (P : Params) : Obj := ⟨.type "tuple", none, .seq #[] 0, #[]⟩
noncomputable abbrev o596v0 (P : Params) : Obj := ⟨.none, none, .fields #[], #[]⟩
noncomputable abbrev o597v0 (P : Params) : Obj := ⟨.type "tuple", none, .seq #[.str "self" 899, .str "format_spec" 900] 0, #[]⟩
noncomputable abbrev o598v0 (P : Params) : Obj := ⟨.type "tuple", none, .seq #[] 0, #[]⟩
noncomputable abbrev o599v0 (P : Params) : Obj := ⟨.none, none, .func ⟨"__format__", "Enum.__format__", D20x17.1.1, .stmts D20x17.1.2.1, D20x17.1.2.2, 0, [], .none, .none, .none, .none, none, .none, .none, 0⟩, #[]⟩
noncomputable abbrev o600v0 (P : Params) : Obj := ⟨.type "code", none, .fields #[.str "__format__" 896, .str "Enum.__format__" 897, .str "/claim/cut.py" 898, .int 338 0, .int 2 0, .int 0 0, .int 0 0, .int 3 0, .ref 595, .bool true, .int 181 0, .ref 596, .none, .ref 597, .ref 598, .ref 599, .int 901 0, .int 338 0, .str "/claim/cut.py" 902], #[]⟩
noncomputable abbrev o601v0 (P : Params) : Obj := ⟨.type "function", none, .func ⟨"__format__", "Enum.__format__", D20x17.1.1, .stmts D20x17.1.2.1, D20x17.1.2.2, 3, [], .none, .none, .none, .str "enum" 279, none, .ref 600, .none, 0⟩, #[]⟩
noncomputable abbrev o602v0 (P : Params) : Obj := ⟨.type "tuple", none, .seq #[] 0, #[]⟩
noncomputable abbrev o603v0 (P : Params) : Obj := ⟨.none, none, .fields #[], #[]⟩
noncomputable abbrev o604v0 (P : Params) : Obj := ⟨.type "tuple", none, .seq #[.str "self" 907] 0, #[]⟩
noncomputable abbrev o605v0 (P : Params) : Obj := ⟨.type "tuple", none, .seq #[] 0, #[]⟩
noncomputable abbrev o606v0 (P : Params) : Obj := ⟨.none, none, .func ⟨"__hash__", "Enum.__hash__", D20x18.1.1, .stmts D20x18.1.2.1, D20x18.1.2.2, 0, [], .none, .none, .none, .none, none, .none, .none, 0⟩, #[]⟩
noncomputable abbrev o607v0 (P : Params) : Obj := ⟨.type "code", none, .fields #[.str "__hash__" 904, .str "Enum.__hash__" 905, .str "/claim/cut.py" 906, .int 341 0, .int 1 0, .int 0 0, .int 0 0, .int 3 0, .ref 602, .bool true, .int 181 0, .ref 603, .none, .ref 604, .ref 605, .ref 606, .int 908 0, .int 341 0, .str "/claim/cut.py" 909], #[]⟩
noncomputable abbrev o608v0 (P : Params) : Obj := ⟨.type "function", none, .func ⟨"__hash__", "Enum.__hash__", D20x18.1.1, .stmts D20x18.1.2.1, D20x18.1.2.2, 3, [], .none, .none, .none, .str "enum" 279, none, .ref 607, .none, 0⟩, #[]⟩
noncomputable abbrev o609v0 (P : Params) : Obj := ⟨.type "tuple", none, .seq #[] 0, #[]⟩
noncomputable abbrev o610v0 (P : Params) : Obj := ⟨.none, none, .fields #[], #[]⟩
noncomputable abbrev o611v0 (P : Params) : Obj := ⟨.type "tuple", none, .seq #[.str "self" 914, .str "proto" 915] 0, #[]⟩
noncomputable abbrev o612v0 (P : Params) : Obj := ⟨.type "tuple", none, .seq #[] 0, #[]⟩
noncomputable abbrev o613v0 (P : Params) : Obj := ⟨.none, none, .func ⟨"__reduce_ex__", "Enum.__reduce_ex__", D20x19.1.1, .stmts D20x19.1.2.1, D20x19.1.2.2, 0, [], .none, .none, .none, .none, none, .none, .none, 0⟩, #[]⟩
noncomputable abbrev o614v0 (P : Params) : Obj := ⟨.type "code", none, .fields #[.str "__reduce_ex__" 911, .str "Enum.__reduce_ex__" 912, .str "/claim/cut.py" 913, .int 344 0, .int 2 0, .int 0 0, .int 0 0, .int 3 0, .ref 609, .bool true, .int 181 0, .ref 610, .none, .ref 611, .ref 612, .ref 613, .int 916 0, .int 344 0, .str "/claim/cut.py" 917], #[]⟩
noncomputable abbrev o615v0 (P : Params) : Obj := ⟨.type "function", none, .func ⟨"__reduce_ex__", "Enum.__reduce_ex__", D20x19.1.1, .stmts D20x19.1.2.1, D20x19.1.2.2, 3, [], .none, .none, .none, .str "enum" 279, none, .ref 614, .none, 0⟩, #[]⟩
noncomputable abbrev o616v0 (P : Params) : Obj := ⟨.type "tuple", none, .seq #[] 0, #[]⟩
noncomputable abbrev o617v0 (P : Params) : Obj := ⟨.none, none, .fields #[], #[]⟩
noncomputable abbrev o618v0 (P : Params) : Obj := ⟨.type "tuple", none, .seq #[.str "self" 922, .str "memo" 923] 0, #[]⟩
noncomputable abbrev o619v0 (P : Params) : Obj := ⟨.type "tuple", none, .seq #[] 0, #[]⟩
noncomputable abbrev o620v0 (P : Params) : Obj := ⟨.none, none, .func ⟨"__deepcopy__", "Enum.__deepcopy__", D20x20.1.1, .stmts D20x20.1.2.1, D20x20.1.2.2, 0, [], .none, .none, .none, .none, none, .none, .none, 0⟩, #[]⟩
noncomputable abbrev o621v0 (P : Params) : Obj := ⟨.type "code", none, .fields #[.str "__deepcopy__" 919, .str "Enum.__deepcopy__" 920, .str "/claim/cut.py" 921, .int 347 0, .int 2 0, .int 0 0, .int 0 0, .int 3 0, .ref 616, .bool true, .int 181 0, .ref 617, .none, .ref 618, .ref 619, .ref 620, .int 924 0, .int 347 0, .str "/claim/cut.py" 925], #[]⟩
noncomputable abbrev o622v0 (P : Params) : Obj := ⟨.type "function", none, .func ⟨"__deepcopy__", "Enum.__deepcopy__", D20x20.1.1, .stmts D20x20.1.2.1, D20x20.1.2.2, 3, [], .none, .none, .none, .str "enum" 279, none, .ref 621, .none, 0⟩, #[]⟩
noncomputable abbrev o623v0 (P : Params) : Obj := ⟨.type "tuple", none, .seq #[] 0, #[]⟩
noncomputable abbrev o624v0 (P : Params) : Obj := ⟨.none, none, .fields #[], #[]⟩
noncomputable abbrev o625v0 (P : Params) : Obj := ⟨.type "tuple", none, .seq #[.str "self" 930] 0, #[]⟩
noncomputable abbrev o626v0 (P : Params) : Obj := ⟨.type "tuple", none, .seq #[] 0, #[]⟩
noncomputable abbrev o627v0 (P : Params) : Obj := ⟨.none, none, .func ⟨"__copy__", "Enum.__copy__", D20x21.1.1, .stmts D20x21.1.2.1, D20x21.1.2.2, 0, [], .none, .none, .none, .none, none, .none, .none, 0⟩, #[]⟩
noncomputable abbrev o628v0 (P : Params) : Obj := ⟨.type "code", none, .fields #[.str "__copy__" 927, .str "Enum.__copy__" 928, .str "/claim/cut.py" 929, .int 350 0, .int 1 0, .int 0 0, .int 0 0, .int 3 0, .ref 623, .bool true, .int 181 0, .ref 624, .none, .ref 625, .ref 626, .ref 627, .int 931 0, .int 350 0, .str "/claim/cut.py" 932], #[]⟩
noncomputable abbrev o629v0 (P : Params) : Obj := ⟨.type "function", none, .func ⟨"__copy__", "Enum.__copy__", D20x21.1.1, .stmts D20x21.1.2.1, D20x21.1.2.2, 3, [], .none, .none, .none, .str "enum" 279, none, .ref 628, .none, 0⟩, #[]⟩
noncomputable abbrev o630v0 (P : Params) : Obj := ⟨.type "tuple", none, .seq #[] 0, #[]⟩
noncomputable abbrev o631v0 (P : Params) : Obj := ⟨.none, none, .fields #[], #[]⟩
noncomputable abbrev o632v0 (P : Params) : Obj := ⟨.type "tuple", none, .seq #[.str "self" 937] 0, #[]⟩
noncomputable abbrev o633v0 (P : Params) : Obj := ⟨.type "tuple", none, .seq #[] 0, #[]⟩
noncomputable abbrev o634v0 (P : Params) : Obj := ⟨.none, none, .func ⟨"__dir__", "Enum.__dir__", D20x22.1.1, .stmts D20x22.1.2.1, D20x22.1.2.2, 0, [], .none, .none, .none, .none, none, .none, .none, 0⟩, #[]⟩
noncomputable abbrev o635v0 (P : Params) : Obj := ⟨.type "code", none, .fields #[.str "__dir__" 934, .str "Enum.__dir__" 935, .str "/claim/cut.py" 936, .int 353 0, .int 1 0, .int 0 0, .int 0 0, .int 3 0, .ref 630, .bool true, .int 181 0, .ref 631, .none, .ref 632, .ref 633, .ref 634, .int 938 0, .int 353 0, .str "/claim/cut.py" 939], #[]⟩
noncomputable abbrev o636v0 (P : Params) : Obj := ⟨.type "function", none, .func ⟨"__dir__", "Enum.__dir__", D20x22.1.1, .stmts D20x22.1.2.1, D20x22.1.2.2, 3, [], .none, .none, .none, .str "enum" 279, none, .ref 635, .none, 0⟩, #[]⟩
noncomputable abbrev o637v0 (P : Params) : Obj := ⟨.type "tuple", none, .seq #[] 0, #[]⟩
noncomputable abbrev o638v0 (P : Params) : Obj := ⟨.none, none, .fields #[], #[]⟩
noncomputable abbrev o639v0 (P : Params) : Obj := ⟨.type "tuple", none, .seq #[.str "self" 944, .str "name" 945] 0, #[]⟩
noncomputable abbrev o640v0 (P : Params) : Obj := ⟨.type "tuple", none, .seq #[] 0, #[]⟩
noncomputable abbrev o641v0 (P : Params) : Obj := ⟨.none, none, .func ⟨"_add_alias_", "Enum._add_alias_", D20x23.1.1, .stmts D20x23.1.2.1, D20x23.1.2.2, 0, [], .none, .none, .none, .none, none, .none, .none, 0⟩, #[]⟩
noncomputable abbrev o642v0 (P : Params) : Obj := ⟨.type "code", none, .fields #[.str "_add_alias_" 941, .str "Enum._add_alias_" 942, .str "/claim/cut.py" 943, .int 356 0, .int 2 0, .int 0 0, .int 0 0, .int 3 0, .ref 637, .bool true, .int 181 0, .ref 638, .none, .ref 639, .ref 640, .ref 641, .int 946 0, .int 356 0, .str "/claim/cut.py" 947], #[]⟩
noncomputable abbrev o643v0 (P : Params) : Obj := ⟨.type "function", none, .func ⟨"_add_alias_", "Enum._add_alias_", D20x23.1.1, .stmts D20x23.1.2.1, D20x23.1.2.2, 3, [], .none, .none, .none, .str "enum" 279, none, .ref 642, .none, 0⟩, #[]⟩
noncomputable abbrev o644v0 (P : Params) : Obj := ⟨.type "tuple", none, .seq #[] 0, #[]⟩
noncomputable abbrev o645v0 (P : Params) : Obj := ⟨.none, none, .fields #[], #[]⟩
noncomputable abbrev o646v0 (P : Params) : Obj := ⟨.type "tuple", none, .seq #[.str "self" 952, .str "value" 953] 0, #[]⟩
noncomputable abbrev o647v0 (P : Params) : Obj := ⟨.type "tuple", none, .seq #[] 0, #[]⟩
noncomputable abbrev o648v0 (P : Params) : Obj := ⟨.none, none, .func ⟨"_add_value_alias_", "Enum._add_value_alias_", D20x24.1.1, .stmts D20x24.1.2.1, D20x24.1.2.2, 0, [], .none, .none, .none, .none, none, .none, .none, 0⟩, #[]⟩
noncomputable abbrev o649v0 (P : Params) : Obj := ⟨.type "code", none, .fields #[.str "_add_value_alias_" 949, .str "Enum._add_value_alias_" 950, .str "/claim/cut.py" 951, .int 359 0, .int 2 0, .int 0 0, .int 0 0, .int 3 0, .ref 644, .bool true, .int 181 0, .ref 645, .none, .ref 646, .ref 647, .ref 648, .int 954 0, .int 359 0, .str "/claim/cut.py" 955], #[]⟩
noncomputable abbrev o650v0 (P : Params) : Obj := ⟨.type "function", none, .func ⟨"_add_value_alias_", "Enum._add_value_alias_", D20x24.1.1, .stmts D20x24.1.2.1, D20x24.1.2.2, 3, [], .none, .none, .none, .str "enum" 279, none, .ref 649, .none, 0⟩, #[]⟩
noncomputable abbrev o651v0 (P : Params) : Obj := ⟨.type "dict", none, .dict #[⟨PyData.keyHash P "name", .str "name" 961, .str "name" 957⟩] 1, #[]⟩
noncomputable abbrev o652v0 (P : Params) : Obj := ⟨.ref 538, some (651), .plain, #[]⟩
noncomputable abbrev o653v0 (P : Params) : Obj := ⟨.type "frame", none, .dict #[⟨PyData.keyHash P "self", .str "self" 958, .ref 652⟩, ⟨PyData.keyHash P "name", .str "name" 959, .str "name" 957⟩] 2, #[]⟩
noncomputable abbrev o654v0 (P : Params) : Obj := ⟨.type "dict", none, .dict #[⟨PyData.keyHash P "name", .str "name" 967, .str "value" 963⟩] 1, #[]⟩
noncomputable abbrev o655v0 (P : Params) : Obj := ⟨.ref 538, some (654), .plain, #[]⟩
noncomputable abbrev o656v0 (P : Params) : Obj := ⟨.type "frame", none, .dict #[⟨PyData.keyHash P "self", .str "self" 964, .ref 655⟩, ⟨PyData.keyHash P "name", .str "name" 965, .str "value" 963⟩] 2, #[]⟩
noncomputable abbrev o657v0 (P : Params) : Obj := ⟨.type "tuple", none, .seq #[] 0, #[]⟩
noncomputable abbrev o658v0 (P : Params) : Obj := ⟨.type "dict", none, .dict #[] 0, #[]⟩
noncomputable abbrev o659v0 (P : Params) : Obj := ⟨.type "frame", none, .dict #[⟨PyData.keyHash P "metacls", .str "metacls" 971, .ref 496⟩, ⟨PyData.keyHash P "cls", .str "cls" 972, .str "Enum" 811⟩, ⟨PyData.keyHash P "bases", .str "bases" 973, .ref 543⟩, ⟨PyData.keyHash P "classdict", .str "classdict" 974, .ref 545⟩, ⟨PyData.keyHash P "kwds", .str "kwds" 975, .ref 658⟩, ⟨PyData.keyHash P "made", .str "made" 986, .ref 662⟩] 6, #[]⟩
noncomputable abbrev o660v0 (P : Params) : Obj := ⟨.type "super", none, .fields #[.ref 496, .ref 496, .ref 496], #[]⟩
noncomputable abbrev o661v0 (P : Params) : Obj := ⟨.type "dict", none, .dict #[⟨PyData.keyHash P "__module__", .str "__module__" 818, .str "enum" 823⟩, ⟨PyData.keyHash P "__firstlineno__", .str "__firstlineno__" 822, .int 270 821⟩, ⟨PyData.keyHash P "_written_out_", .str "_written_out_" 826, .int 0 991⟩, ⟨PyData.keyHash P "_member_names_", .str "_member_names_" 827, .ref 550⟩, ⟨PyData.keyHash P "_member_map_", .str "_member_map_" 828, .ref 551⟩, ⟨PyData.keyHash P "_value2member_map_", .str "_value2member_map_" 829, .ref 552⟩, ⟨PyData.keyHash P "_hashable_values_", .str "_hashable_values_" 830, .ref 553⟩, ⟨PyData.keyHash P "_unhashable_values_", .str "_unhashable_values_" 831, .ref 554⟩, ⟨PyData.keyHash P "_unhashable_values_map_", .str "_unhashable_values_map_" 832, .ref 555⟩, ⟨PyData.keyHash P "_members_", .str "_members_" 833, .ref 556⟩, ⟨PyData.keyHash P "_value_repr_", .str "_value_repr_" 834, .none⟩, ⟨PyData.keyHash P "_is_flag_", .str "_is_flag_" 835, .bool false⟩, ⟨PyData.keyHash P "_making_", .str "_making_" 836, .bool false⟩, ⟨PyData.keyHash P "__new__", .str "__new__" 851, .ref 663⟩, ⟨PyData.keyHash P "_missing_", .str "_missing_" 871, .ref 572⟩, ⟨PyData.keyHash P "__init__", .str "__init__" 880, .ref 580⟩, ⟨PyData.keyHash P "__repr__", .str "__repr__" 888, .ref 587⟩, ⟨PyData.keyHash P "__str__", .str "__str__" 895, .ref 594⟩, ⟨PyData.keyHash P "__format__", .str "__format__" 903, .ref 601⟩, ⟨PyData.keyHash P "__hash__", .str "__hash__" 910, .ref 608⟩, ⟨PyData.keyHash P "__reduce_ex__", .str "__reduce_ex__" 918, .ref 615⟩, ⟨PyData.keyHash P "__deepcopy__", .str "__deepcopy__" 926, .ref 622⟩, ⟨PyData.keyHash P "__copy__", .str "__copy__" 933, .ref 629⟩, ⟨PyData.keyHash P "__dir__", .str "__dir__" 940, .ref 636⟩, ⟨PyData.keyHash P "_add_alias_", .str "_add_alias_" 948, .ref 643⟩, ⟨PyData.keyHash P "_add_value_alias_", .str "_add_value_alias_" 956, .ref 650⟩, ⟨PyData.keyHash P "name", .str "name" 962, .ref 652⟩, ⟨PyData.keyHash P "value", .str "value" 968, .ref 655⟩, ⟨PyData.keyHash P "__static_attributes__", .str "__static_attributes__" 969, .ref 657⟩, ⟨PyData.keyHash P "__dict__", .str "__dict__" 981, .ref 664⟩, ⟨PyData.keyHash P "__weakref__", .str "__weakref__" 983, .ref 665⟩, ⟨PyData.keyHash P "__doc__", .str "__doc__" 984, .none⟩] 4, #[]⟩
noncomputable abbrev o662v0 (P : Params) : Obj := ⟨.ref 496, none, .cls ⟨"Enum", [.type "object"], [.ref 662, .type "object"], 661, "Enum", true, [], [.ref 685], false, none, false⟩, #[none, none, some (.str "Enum" 811), some (.str "Enum" 819), some (.none), some (.bool true)]⟩
noncomputable abbrev o663v0 (P : Params) : Obj := ⟨.type "staticmethod", none, .fields #[.ref 563], #[]⟩
noncomputable abbrev o664v0 (P : Params) : Obj := ⟨.type "getset_descriptor", none, .fields #[.str "__dict__" 980, .ref 662, .builtin "function.__dict__", .builtin "function.__dict__#set"], #[]⟩
noncomputable abbrev o665v0 (P : Params) : Obj := ⟨.type "getset_descriptor", none, .fields #[.str "__weakref__" 982, .ref 662, .builtin "ExceptionGroup.__weakref__", .none], #[]⟩
noncomputable abbrev o666v0 (P : Params) : Obj := ⟨.type "super", none, .fields #[.ref 662, .ref 662, .ref 662], #[]⟩
noncomputable abbrev o667v0 (P : Params) : Obj := ⟨.type "builtin_function_or_method", none, .fields #[.builtin "object.__init_subclass__", .ref 662], #[]⟩
noncomputable abbrev o668v0 (P : Params) : Obj := ⟨.type "method", none, .fields #[.ref 486, .ref 662], #[]⟩
noncomputable abbrev o669v0 (P : Params) : Obj := ⟨.type "frame", none, .dict #[⟨PyData.keyHash P "cls", .str "cls" 992, .ref 662⟩, ⟨PyData.keyHash P "name", .str "name" 993, .str "_written_out_" 990⟩, ⟨PyData.keyHash P "value", .str "value" 994, .int 0 991⟩] 3, #[]⟩
noncomputable abbrev o670v0 (P : Params) : Obj := ⟨.type "super", none, .fields #[.ref 496, .ref 662, .ref 496], #[]⟩
noncomputable abbrev o671v0 (P : Params) : Obj := ⟨.type "method-wrapper", none, .fields #[.builtin "type.__setattr__", .ref 662], #[]⟩
noncomputable abbrev o672v0 (P : Params) : Obj := ⟨.type "tuple", none, .seq #[.ref 662] 0, #[]⟩
noncomputable abbrev o673v0 (P : Params) : Obj := ⟨.type "builtin_function_or_method", none, .fields #[.builtin "type.__prepare__", .ref 496], #[]⟩
noncomputable abbrev o674v0 (P : Params) : Obj := ⟨.type "dict", none, .dict #[⟨PyData.keyHash P "__module__", .str "__module__" 1007, .str "pg8000.converters" 998⟩, ⟨PyData.keyHash P "__qualname__", .str "__qualname__" 1009, .str "ParserState" 1008⟩, ⟨PyData.keyHash P "__firstlineno__", .str "__firstlineno__" 1011, .int 364 1010⟩, ⟨PyData.keyHash P "_written_out_", .str "_written_out_" 1013, .int 4 1012⟩, ⟨PyData.keyHash P "_member_names_", .str "_member_names_" 1018, .ref 679⟩, ⟨PyData.keyHash P "_value_repr_", .str "_value_repr_" 1020, .none⟩, ⟨PyData.keyHash P "__static_attributes__", .str "__static_attributes__" 1021, .ref 680⟩] 7, #[]⟩
noncomputable abbrev o675v0 (P : Params) : Obj := ⟨.type "tuple", none, .seq #[] 0, #[]⟩
noncomputable abbrev o676v0 (P : Params) : Obj := ⟨.none, none, .fields #[], #[]⟩
noncomputable abbrev o677v0 (P : Params) : Obj := ⟨.type "code", none, .fields #[.str "ParserState" 1002, .str "ParserState" 1003, .str "/claim/cut.py" 1004, .int 364 0, .int 0 0, .int 0 0, .int 0 0, .int 0 0, .ref 675, .bool false, .int 181 0, .ref 676, .none, .none, .none, .none, .int 1005 0, .int 364 0, .str "/claim/cut.py" 1006], #[]⟩
noncomputable abbrev o678v0 (P : Params) : Obj := ⟨.type "frame", none, .plain, #[some (.ref 677), some (.ref 3), some (.ref 674), none, some (.str "pg8000.converters" 998), none, some (.ref 0)]⟩
noncomputable abbrev o679v0 (P : Params) : Obj := ⟨.type "list", none, .seq #[.str "InString" 1014, .str "InEscape" 1015, .str "InValue" 1016, .str "Out" 1017] 0, #[]⟩
noncomputable abbrev o680v0 (P : Params) : Obj := ⟨.type "tuple", none, .seq #[] 0, #[]⟩
noncomputable abbrev o681v0 (P : Params) : Obj := ⟨.type "dict", none, .dict #[] 0, #[]⟩
noncomputable abbrev o682v0 (P : Params) : Obj := ⟨.type "frame", none, .dict #[⟨PyData.keyHash P "metacls", .str "metacls" 1023, .ref 496⟩, ⟨PyData.keyHash P "cls", .str "cls" 1024, .str "ParserState" 1000⟩, ⟨PyData.keyHash P "bases", .str "bases" 1025, .ref 672⟩, ⟨PyData.keyHash P "classdict", .str "classdict" 1026, .ref 674⟩, ⟨PyData.keyHash P "kwds", .str "kwds" 1027, .ref 681⟩, ⟨PyData.keyHash P "made", .str "made" 1033, .ref 685⟩] 6, #[]⟩
noncomputable abbrev o683v0 (P : Params) : Obj := ⟨.type "super", none, .fields #[.ref 496, .ref 496, .ref 496], #[]⟩
noncomputable abbrev o684v0 (P : Params) : Obj := ⟨.type "dict", none, .dict #[⟨PyData.keyHash P "__module__", .str "__module__" 1007, .str "pg8000.converters" 998⟩, ⟨PyData.keyHash P "__firstlineno__", .str "__firstlineno__" 1011, .int 364 1010⟩, ⟨PyData.keyHash P "_written_out_", .str "_written_out_" 1013, .int 0 1038⟩, ⟨PyData.keyHash P "_member_names_", .str "_member_names_" 1018, .ref 679⟩, ⟨PyData.keyHash P "_value_repr_", .str "_value_repr_" 1020, .none⟩, ⟨PyData.keyHash P "__static_attributes__", .str "__static_attributes__" 1021, .ref 680⟩, ⟨PyData.keyHash P "__doc__", .str "__doc__" 1031, .none⟩] 2, #[]⟩
noncomputable abbrev o685v0 (P : Params) : Obj := ⟨.ref 496, none, .cls ⟨"ParserState", [.ref 662], [.ref 685, .ref 662, .type "object"], 684, "ParserState", true, [], [], false, none, false⟩, #[some (.ref 672), none, some (.str "ParserState" 1000), some (.str "ParserState" 1008), some (.none), some (.bool true)]⟩
noncomputable abbrev o686v0 (P : Params) : Obj := ⟨.type "super", none, .fields #[.ref 685, .ref 685, .ref 685], #[]⟩
noncomputable abbrev o687v0 (P : Params) : Obj := ⟨.type "builtin_function_or_method", none, .fields #[.builtin "object.__init_subclass__", .ref 685], #[]⟩
noncomputable abbrev o688v0 (P : Params) : Obj := ⟨.type "method", none, .fields #[.ref 486, .ref 685], #[]⟩
noncomputable abbrev o689v0 (P : Params) : Obj := ⟨.type "frame", none, .dict #[⟨PyData.keyHash P "cls", .str "cls" 1039, .ref 685⟩, ⟨PyData.keyHash P "name", .str "name" 1040, .str "_written_out_" 1037⟩, ⟨PyData.keyHash P "value", .str "value" 1041, .int 0 1038⟩] 3, #[]⟩
noncomputable abbrev o690v0 (P : Params) : Obj := ⟨.type "super", none, .fields #[.ref 496, .ref 685, .ref 496], #[]⟩
noncomputable abbrev o691v0 (P : Params) : Obj := ⟨.type "method-wrapper", none, .fields #[.builtin "type.__setattr__", .ref 685], #[]⟩
noncomputable abbrev o692v0 (P : Params) : Obj := ⟨.type "tuple", none, .seq #[] 0, #[]⟩
noncomputable abbrev o693v0 (P : Params) : Obj := ⟨.none, none, .fields #[], #[]⟩
noncomputable abbrev o694v0 (P : Params) : Obj := ⟨.type "tuple", none, .seq #[.str "_v0" 1048, .str "_m0" 1049, .str "_v1" 1050, .str "_m1" 1051, .str "_v2" 1052, .str "_m2" 1053, .str "_v3" 1054, .str "_m3" 1055] 0, #[]⟩
noncomputable abbrev o695v0 (P : Params) : Obj := ⟨.type "tuple", none, .seq #[] 0, #[]⟩
noncomputable abbrev o696v0 (P : Params) : Obj := ⟨.none, none, .func ⟨"_lay_ParserState", "_lay_ParserState", D23.1.1, .stmts D23.1.2.1, D23.1.2.2, 0, [], .none, .none, .none, .none, none, .none, .none, 0⟩, #[]⟩
noncomputable abbrev o697v0 (P : Params) : Obj := ⟨.type "code", none, .fields #[.str "_lay_ParserState" 1045, .str "_lay_ParserState" 1046, .str "/claim/cut.py" 1047, .int 368 0, .int 0 0, .int 0 0, .int 0 0, .int 3 0, .ref 692, .bool true, .int 181 0, .ref 693, .none, .ref 694, .ref 695, .ref 696, .int 1056 0, .int 368 0, .str "/claim/cut.py" 1057], #[]⟩
noncomputable abbrev o698v0 (P : Params) : Obj := ⟨.type "function", none, .func ⟨"_lay_ParserState", "_lay_ParserState", D23.1.1, .stmts D23.1.2.1, D23.1.2.2, 3, [], .none, .none, .none, .str "pg8000.converters" 998, none, .ref 697, .none, 0⟩, #[]⟩
noncomputable abbrev o684v1 (P : Params) : Obj := ⟨.type "dict", none, .dict #[⟨PyData.keyHash P "__module__", .str "__module__" 1007, .str "pg8000.converters" 998⟩, ⟨PyData.keyHash P "__firstlineno__", .str "__firstlineno__" 1011, .int 364 1010⟩, ⟨PyData.keyHash P "_written_out_", .str "_written_out_" 1013, .int 0 1038⟩, ⟨PyData.keyHash P "_member_names_", .str "_member_names_" 1018, .ref 679⟩, ⟨PyData.keyHash P "_value_repr_", .str "_value_repr_" 1020, .none⟩, ⟨PyData.keyHash P "__static_attributes__", .str "__static_attributes__" 1021, .ref 680⟩, ⟨PyData.keyHash P "__doc__", .str "__doc__" 1031, .none⟩, ⟨PyData.keyHash P "__new__", .str "__new__" 1079, .ref 563⟩, ⟨PyData.keyHash P "InString", .str "InString" 1143, .ref 710⟩, ⟨PyData.keyHash P "InEscape", .str "InEscape" 1151, .ref 712⟩, ⟨PyData.keyHash P "InValue", .str "InValue" 1159, .ref 714⟩, ⟨PyData.keyHash P "Out", .str "Out" 1167, .ref 716⟩, ⟨PyData.keyHash P "_member_map_", .str "_member_map_" 1183, .ref 729⟩, ⟨PyData.keyHash P "_value2member_map_", .str "_value2member_map_" 1195, .ref 733⟩, ⟨PyData.keyHash P "_hashable_values_", .str "_hashable_values_" 1203, .ref 737⟩] 10, #[]⟩
noncomputable abbrev o699v0 (P : Params) : Obj := ⟨.type "frame", none, .dict #[⟨PyData.keyHash P "_v0", .str "_v0" 1081, .int 1 1080⟩, ⟨PyData.keyHash P "_m0", .str "_m0" 1083, .ref 710⟩, ⟨PyData.keyHash P "_v1", .str "_v1" 1095, .int 2 1094⟩, ⟨PyData.keyHash P "_m1", .str "_m1" 1097, .ref 712⟩, ⟨PyData.keyHash P "_v2", .str "_v2" 1109, .int 3 1108⟩, ⟨PyData.keyHash P "_m2", .str "_m2" 1111, .ref 714⟩, ⟨PyData.keyHash P "_v3", .str "_v3" 1123, .int 4 1122⟩, ⟨PyData.keyHash P "_m3", .str "_m3" 1125, .ref 716⟩] 8, #[]⟩
noncomputable abbrev o700v0 (P : Params) : Obj := ⟨.type "method", none, .fields #[.ref 307, .ref 685], #[]⟩
noncomputable abbrev o701v0 (P : Params) : Obj := ⟨.type "frame", none, .dict #[⟨PyData.keyHash P "cls", .str "cls" 1060, .ref 685⟩, ⟨PyData.keyHash P "own_init", .str "own_init" 1061, .bool false⟩, ⟨PyData.keyHash P "asks_new", .str "asks_new" 1062, .bool true⟩] 3, #[]⟩
noncomputable abbrev o702v0 (P : Params) : Obj := ⟨.type "builtin_function_or_method", none, .fields #[.builtin "object.__init_subclass__", .ref 685], #[]⟩
noncomputable abbrev o703v0 (P : Params) : Obj := ⟨.type "builtin_function_or_method", none, .fields #[.builtin "object.__init_subclass__", .type "object"], #[]⟩
noncomputable abbrev o704v0 (P : Params) : Obj := ⟨.type "tuple", none, .seq #[.str "type object 'ParserState' has no attribute '_value_'" 1070] 0, #[]⟩
noncomputable abbrev o705v0 (P : Params) : Obj := ⟨.type "AttributeError", none, .fields #[.ref 704, .none, .none, .none, .bool false, .none, .int 0 0, .int 0 0], #[]⟩
noncomputable abbrev o706v0 (P : Params) : Obj := ⟨.type "frame", none, .dict #[⟨PyData.keyHash P "cls", .str "cls" 1073, .ref 685⟩, ⟨PyData.keyHash P "name", .str "name" 1074, .str "__new__" 1072⟩, ⟨PyData.keyHash P "value", .str "value" 1075, .ref 563⟩] 3, #[]⟩
noncomputable abbrev o707v0 (P : Params) : Obj := ⟨.type "super", none, .fields #[.ref 496, .ref 685, .ref 496], #[]⟩
noncomputable abbrev o708v0 (P : Params) : Obj := ⟨.type "method-wrapper", none, .fields #[.builtin "type.__setattr__", .ref 685], #[]⟩
noncomputable abbrev o709v0 (P : Params) : Obj := ⟨.type "dict", none, .dict #[⟨PyData.keyHash P "_value_", .str "_value_" 1085, .int 1 1080⟩, ⟨PyData.keyHash P "_name_", .str "_name_" 1088, .str "InString" 1086⟩, ⟨PyData.keyHash P "__objclass__", .str "__objclass__" 1090, .ref 685⟩, ⟨PyData.keyHash P "_sort_order_", .str "_sort_order_" 1093, .int 0 1091⟩] 4, #[]⟩
noncomputable abbrev o710v0 (P : Params) : Obj := ⟨.ref 685, some (709), .plain, #[]⟩
noncomputable abbrev o711v0 (P : Params) : Obj := ⟨.type "dict", none, .dict #[⟨PyData.keyHash P "_value_", .str "_value_" 1099, .int 2 1094⟩, ⟨PyData.keyHash P "_name_", .str "_name_" 1102, .str "InEscape" 1100⟩, ⟨PyData.keyHash P "__objclass__", .str "__objclass__" 1104, .ref 685⟩, ⟨PyData.keyHash P "_sort_order_", .str "_sort_order_" 1107, .int 1 1105⟩] 4, #[]⟩
noncomputable abbrev o712v0 (P : Params) : Obj := ⟨.ref 685, some (711), .plain, #[]⟩
noncomputable abbrev o713v0 (P : Params) : Obj := ⟨.type "dict", none, .dict #[⟨PyData.keyHash P "_value_", .str "_value_" 1113, .int 3 1108⟩, ⟨PyData.keyHash P "_name_", .str "_name_" 1116, .str "InValue" 1114⟩, ⟨PyData.keyHash P "__objclass__", .str "__objclass__" 1118, .ref 685⟩, ⟨PyData.keyHash P "_sort_order_", .str "_sort_order_" 1121, .int 2 1119⟩] 4, #[]⟩
noncomputable abbrev o714v0 (P : Params) : Obj := ⟨.ref 685, some (713), .plain, #[]⟩
noncomputable abbrev o715v0 (P : Params) : Obj := ⟨.type "dict", none, .dict #[⟨PyData.keyHash P "_value_", .str "_value_" 1127, .int 4 1122⟩, ⟨PyData.keyHash P "_name_", .str "_name_" 1130, .str "Out" 1128⟩, ⟨PyData.keyHash P "__objclass__", .str "__objclass__" 1132, .ref 685⟩, ⟨PyData.keyHash P "_sort_order_", .str "_sort_order_" 1135, .int 3 1133⟩] 4, #[]⟩
noncomputable abbrev o716v0 (P : Params) : Obj := ⟨.ref 685, some (715), .plain, #[]⟩
noncomputable abbrev o717v0 (P : Params) : Obj := ⟨.type "frame", none, .dict #[⟨PyData.keyHash P "cls", .str "cls" 1137, .ref 685⟩, ⟨PyData.keyHash P "name", .str "name" 1138, .str "InString" 1136⟩, ⟨PyData.keyHash P "value", .str "value" 1139, .ref 710⟩] 3, #[]⟩
noncomputable abbrev o718v0 (P : Params) : Obj := ⟨.type "super", none, .fields #[.ref 496, .ref 685, .ref 496], #[]⟩
noncomputable abbrev o719v0 (P : Params) : Obj := ⟨.type "method-wrapper", none, .fields #[.builtin "type.__setattr__", .ref 685], #[]⟩
noncomputable abbrev o720v0 (P : Params) : Obj := ⟨.type "frame", none, .dict #[⟨PyData.keyHash P "cls", .str "cls" 1145, .ref 685⟩, ⟨PyData.keyHash P "name", .str "name" 1146, .str "InEscape" 1144⟩, ⟨PyData.keyHash P "value", .str "value" 1147, .ref 712⟩] 3, #[]⟩
noncomputable abbrev o721v0 (P : Params) : Obj := ⟨.type "super", none, .fields #[.ref 496, .ref 685, .ref 496], #[]⟩
noncomputable abbrev o722v0 (P : Params) : Obj := ⟨.type "method-wrapper", none, .fields #[.builtin "type.__setattr__", .ref 685], #[]⟩
noncomputable abbrev o723v0 (P : Params) : Obj := ⟨.type "frame", none, .dict #[⟨PyData.keyHash P "cls", .str "cls" 1153, .ref 685⟩, ⟨PyData.keyHash P "name", .str "name" 1154, .str "InValue" 1152⟩, ⟨PyData.keyHash P "value", .str "value" 1155, .ref 714⟩] 3, #[]⟩
noncomputable abbrev o724v0 (P : Params) : Obj := ⟨.type "super", none, .fields #[.ref 496, .ref 685, .ref 496], #[]⟩
noncomputable abbrev o725v0 (P : Params) : Obj := ⟨.type "method-wrapper", none, .fields #[.builtin "type.__setattr__", .ref 685], #[]⟩
noncomputable abbrev o726v0 (P : Params) : Obj := ⟨.type "frame", none, .dict #[⟨PyData.keyHash P "cls", .str "cls" 1161, .ref 685⟩, ⟨PyData.keyHash P "name", .str "name" 1162, .str "Out" 1160⟩, ⟨PyData.keyHash P "value", .str "value" 1163, .ref 716⟩] 3, #[]⟩
noncomputable abbrev o727v0 (P : Params) : Obj := ⟨.type "super", none, .fields #[.ref 496, .ref 685, .ref 496], #[]⟩
noncomputable abbrev o728v0 (P : Params) : Obj := ⟨.type "method-wrapper", none, .fields #[.builtin "type.__setattr__", .ref 685], #[]⟩
noncomputable abbrev o729v0 (P : Params) : Obj := ⟨.type "dict", none, .dict #[⟨PyData.keyHash P "InString", .str "InString" 1168, .ref 710⟩, ⟨PyData.keyHash P "InEscape", .str "InEscape" 1169, .ref 712⟩, ⟨PyData.keyHash P "InValue", .str "InValue" 1170, .ref 714⟩, ⟨PyData.keyHash P "Out", .str "Out" 1171, .ref 716⟩] 4, #[]⟩
noncomputable abbrev o730v0 (P : Params) : Obj := ⟨.type "frame", none, .dict #[⟨PyData.keyHash P "cls", .str "cls" 1177, .ref 685⟩, ⟨PyData.keyHash P "name", .str "name" 1178, .str "_member_map_" 1176⟩, ⟨PyData.keyHash P "value", .str "value" 1179, .ref 729⟩] 3, #[]⟩
noncomputable abbrev o731v0 (P : Params) : Obj := ⟨.type "super", none, .fields #[.ref 496, .ref 685, .ref 496], #[]⟩
noncomputable abbrev o732v0 (P : Params) : Obj := ⟨.type "method-wrapper", none, .fields #[.builtin "type.__setattr__", .ref 685], #[]⟩
noncomputable abbrev o733v0 (P : Params) : Obj := ⟨.type "dict", none, .dict #[⟨1, .int 1 1080, .ref 710⟩, ⟨2, .int 2 1094, .ref 712⟩, ⟨3, .int 3 1108, .ref 714⟩, ⟨4, .int 4 1122, .ref 716⟩] 4, #[]⟩
noncomputable abbrev o734v0 (P : Params) : Obj := ⟨.type "frame", none, .dict #[⟨PyData.keyHash P "cls", .str "cls" 1189, .ref 685⟩, ⟨PyData.keyHash P "name", .str "name" 1190, .str "_value2member_map_" 1188⟩, ⟨PyData.keyHash P "value", .str "value" 1191, .ref 733⟩] 3, #[]⟩
noncomputable abbrev o735v0 (P : Params) : Obj := ⟨.type "super", none, .fields #[.ref 496, .ref 685, .ref 496], #[]⟩
noncomputable abbrev o736v0 (P : Params) : Obj := ⟨.type "method-wrapper", none, .fields #[.builtin "type.__setattr__", .ref 685], #[]⟩
noncomputable abbrev o737v0 (P : Params) : Obj := ⟨.type "list", none, .seq #[.int 1 1080, .int 2 1094, .int 3 1108, .int 4 1122] 0, #[]⟩
noncomputable abbrev o738v0 (P : Params) : Obj := ⟨.type "frame", none, .dict #[⟨PyData.keyHash P "cls", .str "cls" 1197, .ref 685⟩, ⟨PyData.keyHash P "name", .str "name" 1198, .str "_hashable_values_" 1196⟩, ⟨PyData.keyHash P "value", .str "value" 1199, .ref 737⟩] 3, #[]⟩
noncomputable abbrev o739v0 (P : Params) : Obj := ⟨.type "super", none, .fields #[.ref 496, .ref 685, .ref 496], #[]⟩
noncomputable abbrev o740v0 (P : Params) : Obj := ⟨.type "method-wrapper", none, .fields #[.builtin "type.__setattr__", .ref 685], #[]⟩
noncomputable abbrev o3v4 (P : Params) : Obj := ⟨.type "dict", none, .dict #[⟨PyData.keyHash P "__name__", .str "__name__" 165, .str "law_ew0019_01" 1303⟩, ⟨PyData.keyHash P "__doc__", .str "__doc__" 166, .none⟩, ⟨PyData.keyHash P "__package__", .str "__package__" 167, .none⟩, ⟨PyData.keyHash P "__loader__", .str "__loader__" 168, .builtin "__main__.__loader__#opaque"⟩, ⟨PyData.keyHash P "__spec__", .str "__spec__" 169, .none⟩, ⟨PyData.keyHash P "__annotations__", .str "__annotations__" 170, .ref 6⟩, ⟨PyData.keyHash P "__builtins__", .str "__builtins__" 171, .ref 4⟩, ⟨PyData.keyHash P "__file__", .str "__file__" 173, .str "/claim/cut.py" 172⟩, ⟨PyData.keyHash P "__cached__", .str "__cached__" 174, .none⟩, ⟨PyData.keyHash P "_wall", .str "_wall" 193, .ref 21⟩, ⟨PyData.keyHash P "kind_of", .str "kind_of" 202, .ref 28⟩, ⟨PyData.keyHash P "bool_in", .str "bool_in" 211, .ref 35⟩, ⟨PyData.keyHash P "bool_out", .str "bool_out" 218, .ref 42⟩, ⟨PyData.keyHash P "bytes_in", .str "bytes_in" 225, .ref 49⟩, ⟨PyData.keyHash P "bytes_out", .str "bytes_out" 232, .ref 56⟩, ⟨PyData.keyHash P "int_in", .str "int_in" 239, .ref 63⟩, ⟨PyData.keyHash P "int_out", .str "int_out" 246, .ref 70⟩, ⟨PyData.keyHash P "null_out", .str "null_out" 253, .ref 77⟩, ⟨PyData.keyHash P "range_out", .str "range_out" 264, .ref 84⟩, ⟨PyData.keyHash P "string_in", .str "string_in" 271, .ref 91⟩, ⟨PyData.keyHash P "string_out", .str "string_out" 278, .ref 98⟩, ⟨PyData.keyHash P "_OWN_NAMES", .str "_OWN_NAMES" 286, .ref 99⟩, ⟨PyData.keyHash P "mappingproxy", .str "mappingproxy" 494, .ref 280⟩, ⟨PyData.keyHash P "_MEMBERS_VIEW", .str "_MEMBERS_VIEW" 495, .ref 280⟩, ⟨PyData.keyHash P "EnumType", .str "EnumType" 755, .ref 496⟩, ⟨PyData.keyHash P "_EnumField", .str "_EnumField" 810, .ref 538⟩, ⟨PyData.keyHash P "Enum", .str "Enum" 997, .ref 662⟩, ⟨PyData.keyHash P "ParserState", .str "ParserState" 1044, .ref 685⟩, ⟨PyData.keyHash P "_lay_ParserState", .str "_lay_ParserState" 1058, .ref 698⟩, ⟨PyData.keyHash P "_parse_array", .str "_parse_array" 1217, .ref 747⟩, ⟨PyData.keyHash P "_array_in", .str "_array_in" 1226, .ref 754⟩, ⟨PyData.keyHash P "bool_array_in", .str "bool_array_in" 1233, .ref 761⟩, ⟨PyData.keyHash P "bytes_array_in", .str "bytes_array_in" 1240, .ref 768⟩, ⟨PyData.keyHash P "int_array_in", .str "int_array_in" 1247, .ref 775⟩, ⟨PyData.keyHash P "string_array_in", .str "string_array_in" 1254, .ref 782⟩, ⟨PyData.keyHash P "array_string_escape", .str "array_string_escape" 1264, .ref 789⟩, ⟨PyData.keyHash P "array_out", .str "array_out" 1270, .ref 794⟩, ⟨PyData.keyHash P "composite_out", .str "composite_out" 1276, .ref 799⟩, ⟨PyData.keyHash P "PY_TYPES", .str "PY_TYPES" 1293, .ref 800⟩, ⟨PyData.keyHash P "make_param", .str "make_param" 1302, .ref 807⟩, ⟨PyData.keyHash P "_law_signs", .str "_law_signs" 1306, .str "aNUL\"\\{}, \n\t'é x" 1305⟩, ⟨PyData.keyHash P "_law_text", .str "_law_text" 1312, .ref 812⟩, ⟨PyData.keyHash P "_law_worth", .str "_law_worth" 1318, .ref 817⟩, ⟨PyData.keyHash P "_law_shaped", .str "_law_shaped" 1324, .ref 822⟩, ⟨PyData.keyHash P "_law_sizes", .str "_law_sizes" 1331, .ref 829⟩, ⟨PyData.keyHash P "_law_flat", .str "_law_flat" 1337, .ref 834⟩, ⟨PyData.keyHash P "_law_word", .str "_law_word" 1343, .ref 839⟩, ⟨PyData.keyHash P "_law_laid", .str "_law_laid" 1349, .ref 844⟩, ⟨PyData.keyHash P "_law_joined", .str "_law_joined" 1355, .ref 849⟩, ⟨PyData.keyHash P "_law_read", .str "_law_read" 1363, .ref 856⟩, ⟨PyData.keyHash P "_law_alike", .str "_law_alike" 1369, .ref 861⟩, ⟨PyData.keyHash P "law", .str "law" 1375, .ref 866⟩] 52, #[]⟩
noncomputable abbrev o12v4 (P : Params) : Obj := ⟨.none, none, .fields #[.int 1 0, .int 0 0, .ref 20, .int 5 0, .int 0 0, .ref 27, .int 12 0, .int 0 0, .ref 34, .int 14 0, .int 0 0, .ref 41, .int 16 0, .int 0 0, .ref 48, .int 18 0, .int 0 0, .ref 55, .int 20 0, .int 0 0, .ref 62, .int 22 0, .int 0 0, .ref 69, .int 24 0, .int 0 0, .ref 76, .int 26 0, .int 0 0, .ref 83, .int 35 0, .int 0 0, .ref 90, .int 37 0, .int 0 0, .ref 97, .int 41 0, .int 0 0, .ref 105, .int 123 0, .int 0 0, .ref 291, .int 253 0, .int 0 0, .ref 505, .int 270 0, .int 0 0, .ref 548, .int 364 0, .int 0 0, .ref 677, .int 368 0, .int 0 0, .ref 697, .int 402 0, .int 0 0, .ref 746, .int 441 0, .int 0 0, .ref 753, .int 446 0, .int 0 0, .ref 760, .int 448 0, .int 0 0, .ref 767, .int 450 0, .int 0 0, .ref 774, .int 452 0, .int 0 0, .ref 781, .int 454 0, .int 0 0, .ref 788, .int 466 0, .int 0 0, .ref 793, .int 479 0, .int 0 0, .ref 798, .int 487 0, .int 0 0, .ref 806, .int 495 0, .int 0 0, .ref 811, .int 498 0, .int 0 0, .ref 816, .int 509 0, .int 0 0, .ref 821, .int 514 0, .int 0 0, .ref 828, .int 518 0, .int 0 0, .ref 833, .int 523 0, .int 0 0, .ref 838, .int 529 0, .int 0 0, .ref 843, .int 536 0, .int 0 0, .ref 848, .int 540 0, .int 0 0, .ref 855, .int 546 0, .int 0 0, .ref 860, .int 550 0, .int 0 0, .ref 865], #[]⟩
noncomputable abbrev o741v0 (P : Params) : Obj := ⟨.type "tuple", none, .seq #[] 0, #[]⟩
noncomputable abbrev o742v0 (P : Params) : Obj := ⟨.none, none, .fields #[], #[]⟩
noncomputable abbrev o743v0 (P : Params) : Obj := ⟨.type "tuple", none, .seq #[.str "data" 1207, .str "adapter" 1208, .str "state" 1209, .str "stack" 1210, .str "val" 1211, .str "c" 1212, .str "value" 1213, .str "a" 1214] 0, #[]⟩
noncomputable abbrev o744v0 (P : Params) : Obj := ⟨.type "tuple", none, .seq #[] 0, #[]⟩
noncomputable abbrev o745v0 (P : Params) : Obj := ⟨.none, none, .func ⟨"_parse_array", "_parse_array", D25.1.1, .stmts D25.1.2.1, D25.1.2.2, 0, [], .none, .none, .none, .none, none, .none, .none, 0⟩, #[]⟩
noncomputable abbrev o746v0 (P : Params) : Obj := ⟨.type "code", none, .fields #[.str "_parse_array" 1204, .str "_parse_array" 1205, .str "/claim/cut.py" 1206, .int 402 0, .int 2 0, .int 0 0, .int 0 0, .int 3 0, .ref 741, .bool true, .int 181 0, .ref 742, .none, .ref 743, .ref 744, .ref 745, .int 1215 0, .int 402 0, .str "/claim/cut.py" 1216], #[]⟩
noncomputable abbrev o747v0 (P : Params) : Obj := ⟨.type "function", none, .func ⟨"_parse_array", "_parse_array", D25.1.1, .stmts D25.1.2.1, D25.1.2.2, 3, [], .none, .none, .none, .str "pg8000.converters" 998, none, .ref 746, .none, 0⟩, #[]⟩
noncomputable abbrev o748v0 (P : Params) : Obj := ⟨.type "tuple", none, .seq #[] 0, #[]⟩
noncomputable abbrev o749v0 (P : Params) : Obj := ⟨.none, none, .fields #[], #[]⟩
noncomputable abbrev o750v0 (P : Params) : Obj := ⟨.type "tuple", none, .seq #[.str "adapter" 1221, .str "f" 1222] 0, #[]⟩
noncomputable abbrev o751v0 (P : Params) : Obj := ⟨.type "tuple", none, .seq #[.str "adapter" 1223] 0, #[]⟩
noncomputable abbrev o752v0 (P : Params) : Obj := ⟨.none, none, .func ⟨"_array_in", "_array_in", D26.1.1, .stmts D26.1.2.1, D26.1.2.2, 0, [], .none, .none, .none, .none, none, .none, .none, 0⟩, #[]⟩
noncomputable abbrev o753v0 (P : Params) : Obj := ⟨.type "code", none, .fields #[.str "_array_in" 1218, .str "_array_in" 1219, .str "/claim/cut.py" 1220, .int 441 0, .int 1 0, .int 0 0, .int 0 0, .int 3 0, .ref 748, .bool true, .int 181 0, .ref 749, .none, .ref 750, .ref 751, .ref 752, .int 1224 0, .int 441 0, .str "/claim/cut.py" 1225], #[]⟩
noncomputable abbrev o754v0 (P : Params) : Obj := ⟨.type "function", none, .func ⟨"_array_in", "_array_in", D26.1.1, .stmts D26.1.2.1, D26.1.2.2, 3, [], .none, .none, .none, .str "pg8000.converters" 998, none, .ref 753, .none, 0⟩, #[]⟩
noncomputable abbrev o755v0 (P : Params) : Obj := ⟨.type "tuple", none, .seq #[] 0, #[]⟩
noncomputable abbrev o756v0 (P : Params) : Obj := ⟨.none, none, .fields #[], #[]⟩
noncomputable abbrev o757v0 (P : Params) : Obj := ⟨.type "tuple", none, .seq #[.str "data" 1230] 0, #[]⟩
noncomputable abbrev o758v0 (P : Params) : Obj := ⟨.type "tuple", none, .seq #[] 0, #[]⟩
noncomputable abbrev o759v0 (P : Params) : Obj := ⟨.none, none, .func ⟨"bool_array_in", "bool_array_in", D27.1.1, .stmts D27.1.2.1, D27.1.2.2, 0, [], .none, .none, .none, .none, none, .none, .none, 0⟩, #[]⟩
noncomputable abbrev o760v0 (P : Params) : Obj := ⟨.type "code", none, .fields #[.str "bool_array_in" 1227, .str "bool_array_in" 1228, .str "/claim/cut.py" 1229, .int 446 0, .int 1 0, .int 0 0, .int 0 0, .int 3 0, .ref 755, .bool true, .int 181 0, .ref 756, .none, .ref 757, .ref 758, .ref 759, .int 1231 0, .int 446 0, .str "/claim/cut.py" 1232], #[]⟩
noncomputable abbrev o761v0 (P : Params) : Obj := ⟨.type "function", none, .func ⟨"bool_array_in", "bool_array_in", D27.1.1, .stmts D27.1.2.1, D27.1.2.2, 3, [], .none, .none, .none, .str "pg8000.converters" 998, none, .ref 760, .none, 0⟩, #[]⟩
noncomputable abbrev o762v0 (P : Params) : Obj := ⟨.type "tuple", none, .seq #[] 0, #[]⟩
noncomputable abbrev o763v0 (P : Params) : Obj := ⟨.none, none, .fields #[], #[]⟩
noncomputable abbrev o764v0 (P : Params) : Obj := ⟨.type "tuple", none, .seq #[.str "data" 1237] 0, #[]⟩
noncomputable abbrev o765v0 (P : Params) : Obj := ⟨.type "tuple", none, .seq #[] 0, #[]⟩
noncomputable abbrev o766v0 (P : Params) : Obj := ⟨.none, none, .func ⟨"bytes_array_in", "bytes_array_in", D28.1.1, .stmts D28.1.2.1, D28.1.2.2, 0, [], .none, .none, .none, .none, none, .none, .none, 0⟩, #[]⟩
noncomputable abbrev o767v0 (P : Params) : Obj := ⟨.type "code", none, .fields #[.str "bytes_array_in" 1234, .str "bytes_array_in" 1235, .str "/claim/cut.py" 1236, .int 448 0, .int 1 0, .int 0 0, .int 0 0, .int 3 0, .ref 762, .bool true, .int 181 0, .ref 763, .none, .ref 764, .ref 765, .ref 766, .int 1238 0, .int 448 0, .str "/claim/cut.py" 1239], #[]⟩
noncomputable abbrev o768v0 (P : Params) : Obj := ⟨.type "function", none, .func ⟨"bytes_array_in", "bytes_array_in", D28.1.1, .stmts D28.1.2.1, D28.1.2.2, 3, [], .none, .none, .none, .str "pg8000.converters" 998, none, .ref 767, .none, 0⟩, #[]⟩
noncomputable abbrev o769v0 (P : Params) : Obj := ⟨.type "tuple", none, .seq #[] 0, #[]⟩
noncomputable abbrev o770v0 (P : Params) : Obj := ⟨.none, none, .fields #[], #[]⟩
noncomputable abbrev o771v0 (P : Params) : Obj := ⟨.type "tuple", none, .seq #[.str "data" 1244] 0, #[]⟩
noncomputable abbrev o772v0 (P : Params) : Obj := ⟨.type "tuple", none, .seq #[] 0, #[]⟩
noncomputable abbrev o773v0 (P : Params) : Obj := ⟨.none, none, .func ⟨"int_array_in", "int_array_in", D29.1.1, .stmts D29.1.2.1, D29.1.2.2, 0, [], .none, .none, .none, .none, none, .none, .none, 0⟩, #[]⟩
noncomputable abbrev o774v0 (P : Params) : Obj := ⟨.type "code", none, .fields #[.str "int_array_in" 1241, .str "int_array_in" 1242, .str "/claim/cut.py" 1243, .int 450 0, .int 1 0, .int 0 0, .int 0 0, .int 3 0, .ref 769, .bool true, .int 181 0, .ref 770, .none, .ref 771, .ref 772, .ref 773, .int 1245 0, .int 450 0, .str "/claim/cut.py" 1246], #[]⟩
noncomputable abbrev o775v0 (P : Params) : Obj := ⟨.type "function", none, .func ⟨"int_array_in", "int_array_in", D29.1.1, .stmts D29.1.2.1, D29.1.2.2, 3, [], .none, .none, .none, .str "pg8000.converters" 998, none, .ref 774, .none, 0⟩, #[]⟩
noncomputable abbrev o776v0 (P : Params) : Obj := ⟨.type "tuple", none, .seq #[] 0, #[]⟩
noncomputable abbrev o777v0 (P : Params) : Obj := ⟨.none, none, .fields #[], #[]⟩
noncomputable abbrev o778v0 (P : Params) : Obj := ⟨.type "tuple", none, .seq #[.str "data" 1251] 0, #[]⟩
noncomputable abbrev o779v0 (P : Params) : Obj := ⟨.type "tuple", none, .seq #[] 0, #[]⟩
noncomputable abbrev o780v0 (P : Params) : Obj := ⟨.none, none, .func ⟨"string_array_in", "string_array_in", D30.1.1, .stmts D30.1.2.1, D30.1.2.2, 0, [], .none, .none, .none, .none, none, .none, .none, 0⟩, #[]⟩
noncomputable abbrev o781v0 (P : Params) : Obj := ⟨.type "code", none, .fields #[.str "string_array_in" 1248, .str "string_array_in" 1249, .str "/claim/cut.py" 1250, .int 452 0, .int 1 0, .int 0 0, .int 0 0, .int 3 0, .ref 776, .bool true, .int 181 0, .ref 777, .none, .ref 778, .ref 779, .ref 780, .int 1252 0, .int 452 0, .str "/claim/cut.py" 1253], #[]⟩
noncomputable abbrev o782v0 (P : Params) : Obj := ⟨.type "function", none, .func ⟨"string_array_in", "string_array_in", D30.1.1, .stmts D30.1.2.1, D30.1.2.2, 3, [], .none, .none, .none, .str "pg8000.converters" 998, none, .ref 781, .none, 0⟩, #[]⟩
noncomputable abbrev o783v0 (P : Params) : Obj := ⟨.type "tuple", none, .seq #[] 0, #[]⟩
noncomputable abbrev o784v0 (P : Params) : Obj := ⟨.none, none, .fields #[], #[]⟩
noncomputable abbrev o785v0 (P : Params) : Obj := ⟨.type "tuple", none, .seq #[.str "v" 1258, .str "cs" 1259, .str "c" 1260] 0, #[]⟩
noncomputable abbrev o786v0 (P : Params) : Obj := ⟨.type "tuple", none, .seq #[.str "val" 1261] 0, #[]⟩
noncomputable abbrev o787v0 (P : Params) : Obj := ⟨.none, none, .func ⟨"array_string_escape", "array_string_escape", D31.1.1, .stmts D31.1.2.1, D31.1.2.2, 0, [], .none, .none, .none, .none, none, .none, .none, 0⟩, #[]⟩
noncomputable abbrev o788v0 (P : Params) : Obj := ⟨.type "code", none, .fields #[.str "array_string_escape" 1255, .str "array_string_escape" 1256, .str "/claim/cut.py" 1257, .int 454 0, .int 1 0, .int 0 0, .int 0 0, .int 3 0, .ref 783, .bool true, .int 181 0, .ref 784, .none, .ref 785, .ref 786, .ref 787, .int 1262 0, .int 454 0, .str "/claim/cut.py" 1263], #[]⟩
noncomputable abbrev o789v0 (P : Params) : Obj := ⟨.type "function", none, .func ⟨"array_string_escape", "array_string_escape", D31.1.1, .stmts D31.1.2.1, D31.1.2.2, 3, [], .none, .none, .none, .str "pg8000.converters" 998, none, .ref 788, .none, 0⟩, #[]⟩
noncomputable abbrev o790v0 (P : Params) : Obj := ⟨.type "tuple", none, .seq #[] 0, #[]⟩
noncomputable abbrev o791v0 (P : Params) : Obj := ⟨.none, none, .fields #[], #[]⟩
noncomputable abbrev o792v0 (P : Params) : Obj := ⟨.none, none, .func ⟨"array_out", "array_out", D32.1.1, .stmts D32.1.2.1, D32.1.2.2, 0, [], .none, .none, .none, .none, none, .none, .none, 0⟩, #[]⟩
noncomputable abbrev o793v0 (P : Params) : Obj := ⟨.type "code", none, .fields #[.str "array_out" 1265, .str "array_out" 1266, .str "/claim/cut.py" 1267, .int 466 0, .int 1 0, .int 0 0, .int 0 0, .int 3 0, .ref 790, .bool true, .int 181 0, .ref 791, .none, .none, .none, .ref 792, .int 1268 0, .int 466 0, .str "/claim/cut.py" 1269], #[]⟩
noncomputable abbrev o794v0 (P : Params) : Obj := ⟨.type "function", none, .func ⟨"array_out", "array_out", D32.1.1, .stmts D32.1.2.1, D32.1.2.2, 3, [], .none, .none, .none, .str "pg8000.converters" 998, none, .ref 793, .none, 0⟩, #[]⟩
noncomputable abbrev o795v0 (P : Params) : Obj := ⟨.type "tuple", none, .seq #[] 0, #[]⟩
noncomputable abbrev o796v0 (P : Params) : Obj := ⟨.none, none, .fields #[], #[]⟩
noncomputable abbrev o797v0 (P : Params) : Obj := ⟨.none, none, .func ⟨"composite_out", "composite_out", D33.1.1, .stmts D33.1.2.1, D33.1.2.2, 0, [], .none, .none, .none, .none, none, .none, .none, 0⟩, #[]⟩
noncomputable abbrev o798v0 (P : Params) : Obj := ⟨.type "code", none, .fields #[.str "composite_out" 1271, .str "composite_out" 1272, .str "/claim/cut.py" 1273, .int 479 0, .int 1 0, .int 0 0, .int 0 0, .int 3 0, .ref 795, .bool true, .int 181 0, .ref 796, .none, .none, .none, .ref 797, .int 1274 0, .int 479 0, .str "/claim/cut.py" 1275], #[]⟩
noncomputable abbrev o799v0 (P : Params) : Obj := ⟨.type "function", none, .func ⟨"composite_out", "composite_out", D33.1.1, .stmts D33.1.2.1, D33.1.2.2, 3, [], .none, .none, .none, .str "pg8000.converters" 998, none, .ref 798, .none, 0⟩, #[]⟩
noncomputable abbrev o800v0 (P : Params) : Obj := ⟨.type "dict", none, .dict #[⟨PyData.keyHash P "Range", .str "Range" 1277, .ref 84⟩, ⟨PyData.keyHash P "bool", .str "bool" 1278, .ref 42⟩, ⟨PyData.keyHash P "bytes", .str "bytes" 1279, .ref 56⟩, ⟨PyData.keyHash P "None", .str "None" 1280, .ref 77⟩, ⟨PyData.keyHash P "str", .str "str" 1281, .ref 98⟩, ⟨PyData.keyHash P "int", .str "int" 1282, .ref 70⟩, ⟨PyData.keyHash P "list", .str "list" 1283, .ref 794⟩, ⟨PyData.keyHash P "tuple", .str "tuple" 1284, .ref 799⟩] 8, #[]⟩
noncomputable abbrev o801v0 (P : Params) : Obj := ⟨.type "tuple", none, .seq #[] 0, #[]⟩
noncomputable abbrev o802v0 (P : Params) : Obj := ⟨.none, none, .fields #[], #[]⟩
noncomputable abbrev o803v0 (P : Params) : Obj := ⟨.type "tuple", none, .seq #[.str "py_types" 1297, .str "value" 1298, .str "func" 1299] 0, #[]⟩
noncomputable abbrev o804v0 (P : Params) : Obj := ⟨.type "tuple", none, .seq #[] 0, #[]⟩
noncomputable abbrev o805v0 (P : Params) : Obj := ⟨.none, none, .func ⟨"make_param", "make_param", D35.1.1, .stmts D35.1.2.1, D35.1.2.2, 0, [], .none, .none, .none, .none, none, .none, .none, 0⟩, #[]⟩
noncomputable abbrev o806v0 (P : Params) : Obj := ⟨.type "code", none, .fields #[.str "make_param" 1294, .str "make_param" 1295, .str "/claim/cut.py" 1296, .int 487 0, .int 2 0, .int 0 0, .int 0 0, .int 3 0, .ref 801, .bool true, .int 181 0, .ref 802, .none, .ref 803, .ref 804, .ref 805, .int 1300 0, .int 487 0, .str "/claim/cut.py" 1301], #[]⟩
noncomputable abbrev o807v0 (P : Params) : Obj := ⟨.type "function", none, .func ⟨"make_param", "make_param", D35.1.1, .stmts D35.1.2.1, D35.1.2.2, 3, [], .none, .none, .none, .str "pg8000.converters" 998, none, .ref 806, .none, 0⟩, #[]⟩
noncomputable abbrev o808v0 (P : Params) : Obj := ⟨.type "tuple", none, .seq #[] 0, #[]⟩
noncomputable abbrev o809v0 (P : Params) : Obj := ⟨.none, none, .fields #[], #[]⟩
noncomputable abbrev o810v0 (P : Params) : Obj := ⟨.none, none, .func ⟨"_law_text", "_law_text", D38.1.1, .stmts D38.1.2.1, D38.1.2.2, 0, [], .none, .none, .none, .none, none, .none, .none, 0⟩, #[]⟩
noncomputable abbrev o811v0 (P : Params) : Obj := ⟨.type "code", none, .fields #[.str "_law_text" 1307, .str "_law_text" 1308, .str "/claim/cut.py" 1309, .int 495 0, .int 1 0, .int 0 0, .int 0 0, .int 3 0, .ref 808, .bool true, .int 181 0, .ref 809, .none, .none, .none, .ref 810, .int 1310 0, .int 495 0, .str "/claim/cut.py" 1311], #[]⟩
noncomputable abbrev o812v0 (P : Params) : Obj := ⟨.type "function", none, .func ⟨"_law_text", "_law_text", D38.1.1, .stmts D38.1.2.1, D38.1.2.2, 3, [], .none, .none, .none, .str "law_ew0019_01" 1303, none, .ref 811, .none, 0⟩, #[]⟩
noncomputable abbrev o813v0 (P : Params) : Obj := ⟨.type "tuple", none, .seq #[] 0, #[]⟩
noncomputable abbrev o814v0 (P : Params) : Obj := ⟨.none, none, .fields #[], #[]⟩
noncomputable abbrev o815v0 (P : Params) : Obj := ⟨.none, none, .func ⟨"_law_worth", "_law_worth", D39.1.1, .stmts D39.1.2.1, D39.1.2.2, 0, [], .none, .none, .none, .none, none, .none, .none, 0⟩, #[]⟩
noncomputable abbrev o816v0 (P : Params) : Obj := ⟨.type "code", none, .fields #[.str "_law_worth" 1313, .str "_law_worth" 1314, .str "/claim/cut.py" 1315, .int 498 0, .int 2 0, .int 0 0, .int 0 0, .int 3 0, .ref 813, .bool true, .int 181 0, .ref 814, .none, .none, .none, .ref 815, .int 1316 0, .int 498 0, .str "/claim/cut.py" 1317], #[]⟩
noncomputable abbrev o817v0 (P : Params) : Obj := ⟨.type "function", none, .func ⟨"_law_worth", "_law_worth", D39.1.1, .stmts D39.1.2.1, D39.1.2.2, 3, [], .none, .none, .none, .str "law_ew0019_01" 1303, none, .ref 816, .none, 0⟩, #[]⟩
noncomputable abbrev o818v0 (P : Params) : Obj := ⟨.type "tuple", none, .seq #[] 0, #[]⟩
noncomputable abbrev o819v0 (P : Params) : Obj := ⟨.none, none, .fields #[], #[]⟩
noncomputable abbrev o820v0 (P : Params) : Obj := ⟨.none, none, .func ⟨"_law_shaped", "_law_shaped", D40.1.1, .stmts D40.1.2.1, D40.1.2.2, 0, [], .none, .none, .none, .none, none, .none, .none, 0⟩, #[]⟩
noncomputable abbrev o821v0 (P : Params) : Obj := ⟨.type "code", none, .fields #[.str "_law_shaped" 1319, .str "_law_shaped" 1320, .str "/claim/cut.py" 1321, .int 509 0, .int 2 0, .int 0 0, .int 0 0, .int 3 0, .ref 818, .bool true, .int 181 0, .ref 819, .none, .none, .none, .ref 820, .int 1322 0, .int 509 0, .str "/claim/cut.py" 1323], #[]⟩
noncomputable abbrev o822v0 (P : Params) : Obj := ⟨.type "function", none, .func ⟨"_law_shaped", "_law_shaped", D40.1.1, .stmts D40.1.2.1, D40.1.2.2, 3, [], .none, .none, .none, .str "law_ew0019_01" 1303, none, .ref 821, .none, 0⟩, #[]⟩
noncomputable abbrev o823v0 (P : Params) : Obj := ⟨.type "tuple", none, .seq #[] 0, #[]⟩
noncomputable abbrev o824v0 (P : Params) : Obj := ⟨.none, none, .fields #[], #[]⟩
noncomputable abbrev o825v0 (P : Params) : Obj := ⟨.type "tuple", none, .seq #[.str "head" 1328] 0, #[]⟩
noncomputable abbrev o826v0 (P : Params) : Obj := ⟨.type "tuple", none, .seq #[] 0, #[]⟩
noncomputable abbrev o827v0 (P : Params) : Obj := ⟨.none, none, .func ⟨"_law_sizes", "_law_sizes", D41.1.1, .stmts D41.1.2.1, D41.1.2.2, 0, [], .none, .none, .none, .none, none, .none, .none, 0⟩, #[]⟩
noncomputable abbrev o828v0 (P : Params) : Obj := ⟨.type "code", none, .fields #[.str "_law_sizes" 1325, .str "_law_sizes" 1326, .str "/claim/cut.py" 1327, .int 514 0, .int 1 0, .int 0 0, .int 0 0, .int 3 0, .ref 823, .bool true, .int 181 0, .ref 824, .none, .ref 825, .ref 826, .ref 827, .int 1329 0, .int 514 0, .str "/claim/cut.py" 1330], #[]⟩
noncomputable abbrev o829v0 (P : Params) : Obj := ⟨.type "function", none, .func ⟨"_law_sizes", "_law_sizes", D41.1.1, .stmts D41.1.2.1, D41.1.2.2, 3, [], .none, .none, .none, .str "law_ew0019_01" 1303, none, .ref 828, .none, 0⟩, #[]⟩
noncomputable abbrev o830v0 (P : Params) : Obj := ⟨.type "tuple", none, .seq #[] 0, #[]⟩
noncomputable abbrev o831v0 (P : Params) : Obj := ⟨.none, none, .fields #[], #[]⟩
noncomputable abbrev o832v0 (P : Params) : Obj := ⟨.none, none, .func ⟨"_law_flat", "_law_flat", D42.1.1, .stmts D42.1.2.1, D42.1.2.2, 0, [], .none, .none, .none, .none, none, .none, .none, 0⟩, #[]⟩
noncomputable abbrev o833v0 (P : Params) : Obj := ⟨.type "code", none, .fields #[.str "_law_flat" 1332, .str "_law_flat" 1333, .str "/claim/cut.py" 1334, .int 518 0, .int 3 0, .int 0 0, .int 0 0, .int 3 0, .ref 830, .bool true, .int 181 0, .ref 831, .none, .none, .none, .ref 832, .int 1335 0, .int 518 0, .str "/claim/cut.py" 1336], #[]⟩
noncomputable abbrev o834v0 (P : Params) : Obj := ⟨.type "function", none, .func ⟨"_law_flat", "_law_flat", D42.1.1, .stmts D42.1.2.1, D42.1.2.2, 3, [], .none, .none, .none, .str "law_ew0019_01" 1303, none, .ref 833, .none, 0⟩, #[]⟩
noncomputable abbrev o835v0 (P : Params) : Obj := ⟨.type "tuple", none, .seq #[] 0, #[]⟩
noncomputable abbrev o836v0 (P : Params) : Obj := ⟨.none, none, .fields #[], #[]⟩
noncomputable abbrev o837v0 (P : Params) : Obj := ⟨.none, none, .func ⟨"_law_word", "_law_word", D43.1.1, .stmts D43.1.2.1, D43.1.2.2, 0, [], .none, .none, .none, .none, none, .none, .none, 0⟩, #[]⟩
noncomputable abbrev o838v0 (P : Params) : Obj := ⟨.type "code", none, .fields #[.str "_law_word" 1338, .str "_law_word" 1339, .str "/claim/cut.py" 1340, .int 523 0, .int 2 0, .int 0 0, .int 0 0, .int 3 0, .ref 835, .bool true, .int 181 0, .ref 836, .none, .none, .none, .ref 837, .int 1341 0, .int 523 0, .str "/claim/cut.py" 1342], #[]⟩
noncomputable abbrev o839v0 (P : Params) : Obj := ⟨.type "function", none, .func ⟨"_law_word", "_law_word", D43.1.1, .stmts D43.1.2.1, D43.1.2.2, 3, [], .none, .none, .none, .str "law_ew0019_01" 1303, none, .ref 838, .none, 0⟩, #[]⟩
noncomputable abbrev o840v0 (P : Params) : Obj := ⟨.type "tuple", none, .seq #[] 0, #[]⟩
noncomputable abbrev o841v0 (P : Params) : Obj := ⟨.none, none, .fields #[], #[]⟩
noncomputable abbrev o842v0 (P : Params) : Obj := ⟨.none, none, .func ⟨"_law_laid", "_law_laid", D44.1.1, .stmts D44.1.2.1, D44.1.2.2, 0, [], .none, .none, .none, .none, none, .none, .none, 0⟩, #[]⟩
noncomputable abbrev o843v0 (P : Params) : Obj := ⟨.type "code", none, .fields #[.str "_law_laid" 1344, .str "_law_laid" 1345, .str "/claim/cut.py" 1346, .int 529 0, .int 3 0, .int 0 0, .int 0 0, .int 3 0, .ref 840, .bool true, .int 181 0, .ref 841, .none, .none, .none, .ref 842, .int 1347 0, .int 529 0, .str "/claim/cut.py" 1348], #[]⟩
noncomputable abbrev o844v0 (P : Params) : Obj := ⟨.type "function", none, .func ⟨"_law_laid", "_law_laid", D44.1.1, .stmts D44.1.2.1, D44.1.2.2, 3, [], .none, .none, .none, .str "law_ew0019_01" 1303, none, .ref 843, .none, 0⟩, #[]⟩
noncomputable abbrev o845v0 (P : Params) : Obj := ⟨.type "tuple", none, .seq #[] 0, #[]⟩
noncomputable abbrev o846v0 (P : Params) : Obj := ⟨.none, none, .fields #[], #[]⟩
noncomputable abbrev o847v0 (P : Params) : Obj := ⟨.none, none, .func ⟨"_law_joined", "_law_joined", D45.1.1, .stmts D45.1.2.1, D45.1.2.2, 0, [], .none, .none, .none, .none, none, .none, .none, 0⟩, #[]⟩
noncomputable abbrev o848v0 (P : Params) : Obj := ⟨.type "code", none, .fields #[.str "_law_joined" 1350, .str "_law_joined" 1351, .str "/claim/cut.py" 1352, .int 536 0, .int 1 0, .int 0 0, .int 0 0, .int 3 0, .ref 845, .bool true, .int 181 0, .ref 846, .none, .none, .none, .ref 847, .int 1353 0, .int 536 0, .str "/claim/cut.py" 1354], #[]⟩
noncomputable abbrev o849v0 (P : Params) : Obj := ⟨.type "function", none, .func ⟨"_law_joined", "_law_joined", D45.1.1, .stmts D45.1.2.1, D45.1.2.2, 3, [], .none, .none, .none, .str "law_ew0019_01" 1303, none, .ref 848, .none, 0⟩, #[]⟩
noncomputable abbrev o850v0 (P : Params) : Obj := ⟨.type "tuple", none, .seq #[] 0, #[]⟩
noncomputable abbrev o851v0 (P : Params) : Obj := ⟨.none, none, .fields #[], #[]⟩
noncomputable abbrev o852v0 (P : Params) : Obj := ⟨.type "tuple", none, .seq #[.str "kind" 1359, .str "text" 1360] 0, #[]⟩
noncomputable abbrev o853v0 (P : Params) : Obj := ⟨.type "tuple", none, .seq #[] 0, #[]⟩
noncomputable abbrev o854v0 (P : Params) : Obj := ⟨.none, none, .func ⟨"_law_read", "_law_read", D46.1.1, .stmts D46.1.2.1, D46.1.2.2, 0, [], .none, .none, .none, .none, none, .none, .none, 0⟩, #[]⟩
noncomputable abbrev o855v0 (P : Params) : Obj := ⟨.type "code", none, .fields #[.str "_law_read" 1356, .str "_law_read" 1357, .str "/claim/cut.py" 1358, .int 540 0, .int 2 0, .int 0 0, .int 0 0, .int 3 0, .ref 850, .bool true, .int 181 0, .ref 851, .none, .ref 852, .ref 853, .ref 854, .int 1361 0, .int 540 0, .str "/claim/cut.py" 1362], #[]⟩
noncomputable abbrev o856v0 (P : Params) : Obj := ⟨.type "function", none, .func ⟨"_law_read", "_law_read", D46.1.1, .stmts D46.1.2.1, D46.1.2.2, 3, [], .none, .none, .none, .str "law_ew0019_01" 1303, none, .ref 855, .none, 0⟩, #[]⟩
noncomputable abbrev o857v0 (P : Params) : Obj := ⟨.type "tuple", none, .seq #[] 0, #[]⟩
noncomputable abbrev o858v0 (P : Params) : Obj := ⟨.none, none, .fields #[], #[]⟩
noncomputable abbrev o859v0 (P : Params) : Obj := ⟨.none, none, .func ⟨"_law_alike", "_law_alike", D47.1.1, .stmts D47.1.2.1, D47.1.2.2, 0, [], .none, .none, .none, .none, none, .none, .none, 0⟩, #[]⟩
noncomputable abbrev o860v0 (P : Params) : Obj := ⟨.type "code", none, .fields #[.str "_law_alike" 1364, .str "_law_alike" 1365, .str "/claim/cut.py" 1366, .int 546 0, .int 2 0, .int 0 0, .int 0 0, .int 3 0, .ref 857, .bool true, .int 181 0, .ref 858, .none, .none, .none, .ref 859, .int 1367 0, .int 546 0, .str "/claim/cut.py" 1368], #[]⟩
noncomputable abbrev o861v0 (P : Params) : Obj := ⟨.type "function", none, .func ⟨"_law_alike", "_law_alike", D47.1.1, .stmts D47.1.2.1, D47.1.2.2, 3, [], .none, .none, .none, .str "law_ew0019_01" 1303, none, .ref 860, .none, 0⟩, #[]⟩
noncomputable abbrev o862v0 (P : Params) : Obj := ⟨.type "tuple", none, .seq #[] 0, #[]⟩
noncomputable abbrev o863v0 (P : Params) : Obj := ⟨.none, none, .fields #[], #[]⟩
noncomputable abbrev o864v0 (P : Params) : Obj := ⟨.none, none, .func ⟨"law", "law", D48.1.1, .stmts D48.1.2.1, D48.1.2.2, 0, [], .none, .none, .none, .none, none, .none, .none, 0⟩, #[]⟩
noncomputable abbrev o865v0 (P : Params) : Obj := ⟨.type "code", none, .fields #[.str "law" 1370, .str "law" 1371, .str "/claim/cut.py" 1372, .int 550 0, .int 1 0, .int 0 0, .int 0 0, .int 3 0, .ref 862, .bool true, .int 181 0, .ref 863, .none, .none, .none, .ref 864, .int 1373 0, .int 550 0, .str "/claim/cut.py" 1374], #[]⟩
noncomputable abbrev o866v0 (P : Params) : Obj := ⟨.type "function", none, .func ⟨"law", "law", D48.1.1, .stmts D48.1.2.1, D48.1.2.2, 3, [], .none, .none, .none, .str "law_ew0019_01" 1303, none, .ref 865, .none, 0⟩, #[]⟩
noncomputable def Ha (P : Params) : Heap := ⟨Array.mk [o0v0 P, o1v0 P, o2v0 P, o3v0 P, o4v0 P, o5v0 P, o6v0 P, o7v0 P, o8v0 P, o9v0 P, o10v0 P, o11v0 P, o12v0 P, o13v0 P, o14v0 P], {}⟩
-- a: size 15 toks 187 pos ⟨0, 0, 0, 0⟩
noncomputable def T0 (P : Params) : BT := .node (o0v0 P) (.node (o1v0 P) (.node (o3v0 P) (.node (o7v0 P) (.nil) (.nil)) (.node (o11v0 P) (.nil) (.nil))) (.node (o5v0 P) (.node (o9v0 P) (.nil) (.nil)) (.node (o13v0 P) (.nil) (.nil)))) (.node (o2v0 P) (.node (o4v0 P) (.node (o8v0 P) (.nil) (.nil)) (.node (o12v0 P) (.nil) (.nil))) (.node (o6v0 P) (.node (o10v0 P) (.nil) (.nil)) (.node (o14v0 P) (.nil) (.nil))))
-- 0: size 15 toks 187 pos ⟨0, 0, 0, 0⟩
noncomputable def T18 (P : Params) : BT := .node (o0v0 P) (.node (o1v0 P) (.node (o3v1 P) (.node (o7v0 P) (.node (o15v0 P) (.node (o31v0 P) (.node (o63v0 P) (.node (o127v0 P) (.node (o255v0 P) (.nil) (.nil)) (.nil)) (.node (o191v0 P) (.nil) (.nil))) (.node (o95v0 P) (.node (o159v0 P) (.nil) (.nil)) (.node (o223v0 P) (.nil) (.nil)))) (.node (o47v0 P) (.node (o79v0 P) (.node (o143v0 P) (.node (o271v0 P) (.nil) (.nil)) (.nil)) (.node (o207v0 P) (.nil) (.nil))) (.node (o111v0 P) (.node (o175v0 P) (.nil) (.nil)) (.node (o239v0 P) (.nil) (.nil))))) (.node (o23v0 P) (.node (o39v0 P) (.node (o71v0 P) (.node (o135v0 P) (.node (o263v0 P) (.nil) (.nil)) (.nil)) (.node (o199v0 P) (.nil) (.nil))) (.node (o103v0 P) (.node (o167v0 P) (.nil) (.nil)) (.node (o231v0 P) (.nil) (.nil)))) (.node (o55v0 P) (.node (o87v0 P) (.node (o151v0 P) (.node (o279v0 P) (.nil) (.nil)) (.nil)) (.node (o215v0 P) (.nil) (.nil))) (.node (o119v0 P) (.node (o183v0 P) (.nil) (.nil)) (.node (o247v0 P) (.nil) (.nil)))))) (.node (o11v0 P) (.node (o19v0 P) (.node (o35v0 P) (.node (o67v0 P) (.node (o131v0 P) (.node (o259v0 P) (.nil) (.nil)) (.nil)) (.node (o195v0 P) (.nil) (.nil))) (.node (o99v0 P) (.node (o163v0 P) (.nil) (.nil)) (.node (o227v0 P) (.nil) (.nil)))) (.node (o51v0 P) (.node (o83v0 P) (.node (o147v0 P) (.node (o275v0 P) (.nil) (.nil)) (.nil)) (.node (o211v0 P) (.nil) (.nil))) (.node (o115v0 P) (.node (o179v0 P) (.nil) (.nil)) (.node (o243v0 P) (.nil) (.nil))))) (.node (o27v0 P) (.node (o43v0 P) (.node (o75v0 P) (.node (o139v0 P) (.node (o267v0 P) (.nil) (.nil)) (.nil)) (.node (o203v0 P) (.nil) (.nil))) (.node (o107v0 P) (.node (o171v0 P) (.nil) (.nil)) (.node (o235v0 P) (.nil) (.nil)))) (.node (o59v0 P) (.node (o91v0 P) (.node (o155v0 P) (.node (o283v0 P) (.nil) (.nil)) (.nil)) (.node (o219v0 P) (.nil) (.nil))) (.node (o123v0 P) (.node (o187v0 P) (.nil) (.nil)) (.node (o251v0 P) (.nil) (.nil))))))) (.node (o5v0 P) (.node (o9v0 P) (.node (o17v0 P) (.node (o33v0 P) (.node (o65v0 P) (.node (o129v0 P) (.node (o257v0 P) (.nil) (.nil)) (.nil)) (.node (o193v0 P) (.nil) (.nil))) (.node (o97v0 P) (.node (o161v0 P) (.nil) (.nil)) (.node (o225v0 P) (.nil) (.nil)))) (.node (o49v0 P) (.node (o81v0 P) (.node (o145v0 P) (.node (o273v0 P) (.nil) (.nil)) (.nil)) (.node (o209v0 P) (.nil) (.nil))) (.node (o113v0 P) (.node (o177v0 P) (.nil) (.nil)) (.node (o241v0 P) (.nil) (.nil))))) (.node (o25v0 P) (.node (o41v0 P) (.node (o73v0 P) (.node (o137v0 P) (.node (o265v0 P) (.nil) (.nil)) (.nil)) (.node (o201v0 P) (.nil) (.nil))) (.node (o105v0 P) (.node (o169v0 P) (.nil) (.nil)) (.node (o233v0 P) (.nil) (.nil)))) (.node (o57v0 P) (.node (o89v0 P) (.node (o153v0 P) (.node (o281v0 P) (.nil) (.nil)) (.nil)) (.node (o217v0 P) (.nil) (.nil))) (.node (o121v0 P) (.node (o185v0 P) (.nil) (.nil)) (.node (o249v0 P) (.nil) (.nil)))))) (.node (o13v0 P) (.node (o21v0 P) (.node (o37v0 P) (.node (o69v0 P) (.node (o133v0 P) (.node (o261v0 P) (.nil) (.nil)) (.nil)) (.node (o197v0 P) (.nil) (.nil))) (.node (o101v0 P) (.node (o165v0 P) (.nil) (.nil)) (.node (o229v0 P) (.nil) (.nil)))) (.node (o53v0 P) (.node (o85v0 P) (.node (o149v0 P) (.node (o277v0 P) (.nil) (.nil)) (.nil)) (.node (o213v0 P) (.nil) (.nil))) (.node (o117v0 P) (.node (o181v0 P) (.nil) (.nil)) (.node (o245v0 P) (.nil) (.nil))))) (.node (o29v0 P) (.node (o45v0 P) (.node (o77v0 P) (.node (o141v0 P) (.node (o269v0 P) (.nil) (.nil)) (.nil)) (.node (o205v0 P) (.nil) (.nil))) (.node (o109v0 P) (.node (o173v0 P) (.nil) (.nil)) (.node (o237v0 P) (.nil) (.nil)))) (.node (o61v0 P) (.node (o93v0 P) (.node (o157v0 P) (.nil) (.nil)) (.node (o221v0 P) (.nil) (.nil))) (.node (o125v0 P) (.node (o189v0 P) (.nil) (.nil)) (.node (o253v0 P) (.nil) (.nil)))))))) (.node (o2v0 P) (.node (o4v0 P) (.node (o8v0 P) (.node (o16v0 P) (.node (o32v0 P) (.node (o64v0 P) (.node (o128v0 P) (.node (o256v0 P) (.nil) (.nil)) (.nil)) (.node (o192v0 P) (.nil) (.nil))) (.node (o96v0 P) (.node (o160v0 P) (.nil) (.nil)) (.node (o224v0 P) (.nil) (.nil)))) (.node (o48v0 P) (.node (o80v0 P) (.node (o144v0 P) (.node (o272v0 P) (.nil) (.nil)) (.nil)) (.node (o208v0 P) (.nil) (.nil))) (.node (o112v0 P) (.node (o176v0 P) (.nil) (.nil)) (.node (o240v0 P) (.nil) (.nil))))) (.node (o24v0 P) (.node (o40v0 P) (.node (o72v0 P) (.node (o136v0 P) (.node (o264v0 P) (.nil) (.nil)) (.nil)) (.node (o200v0 P) (.nil) (.nil))) (.node (o104v0 P) (.node (o168v0 P) (.nil) (.nil)) (.node (o232v0 P) (.nil) (.nil)))) (.node (o56v0 P) (.node (o88v0 P) (.node (o152v0 P) (.node (o280v0 P) (.nil) (.nil)) (.nil)) (.node (o216v0 P) (.nil) (.nil))) (.node (o120v0 P) (.node (o184v0 P) (.nil) (.nil)) (.node (o248v0 P) (.nil) (.nil)))))) (.node (o12v1 P) (.node (o20v0 P) (.node (o36v0 P) (.node (o68v0 P) (.node (o132v0 P) (.node (o260v0 P) (.nil) (.nil)) (.nil)) (.node (o196v0 P) (.nil) (.nil))) (.node (o100v0 P) (.node (o164v0 P) (.nil) (.nil)) (.node (o228v0 P) (.nil) (.nil)))) (.node (o52v0 P) (.node (o84v0 P) (.node (o148v0 P) (.node (o276v0 P) (.nil) (.nil)) (.nil)) (.node (o212v0 P) (.nil) (.nil))) (.node (o116v0 P) (.node (o180v0 P) (.nil) (.nil)) (.node (o244v0 P) (.nil) (.nil))))) (.node (o28v0 P) (.node (o44v0 P) (.node (o76v0 P) (.node (o140v0 P) (.node (o268v0 P) (.nil) (.nil)) (.nil)) (.node (o204v0 P) (.nil) (.nil))) (.node (o108v0 P) (.node (o172v0 P) (.nil) (.nil)) (.node (o236v0 P) (.nil) (.nil)))) (.node (o60v0 P) (.node (o92v0 P) (.node (o156v0 P) (.node (o284v0 P) (.nil) (.nil)) (.nil)) (.node (o220v0 P) (.nil) (.nil))) (.node (o124v0 P) (.node (o188v0 P) (.nil) (.nil)) (.node (o252v0 P) (.nil) (.nil))))))) (.node (o6v0 P) (.node (o10v0 P) (.node (o18v0 P) (.node (o34v0 P) (.node (o66v0 P) (.node (o130v0 P) (.node (o258v0 P) (.nil) (.nil)) (.nil)) (.node (o194v0 P) (.nil) (.nil))) (.node (o98v0 P) (.node (o162v0 P) (.nil) (.nil)) (.node (o226v0 P) (.nil) (.nil)))) (.node (o50v0 P) (.node (o82v0 P) (.node (o146v0 P) (.node (o274v0 P) (.nil) (.nil)) (.nil)) (.node (o210v0 P) (.nil) (.nil))) (.node (o114v0 P) (.node (o178v0 P) (.nil) (.nil)) (.node (o242v0 P) (.nil) (.nil))))) (.node (o26v0 P) (.node (o42v0 P) (.node (o74v0 P) (.node (o138v0 P) (.node (o266v0 P) (.nil) (.nil)) (.nil)) (.node (o202v0 P) (.nil) (.nil))) (.node (o106v0 P) (.node (o170v0 P) (.nil) (.nil)) (.node (o234v0 P) (.nil) (.nil)))) (.node (o58v0 P) (.node (o90v0 P) (.node (o154v0 P) (.node (o282v0 P) (.nil) (.nil)) (.nil)) (.node (o218v0 P) (.nil) (.nil))) (.node (o122v0 P) (.node (o186v0 P) (.nil) (.nil)) (.node (o250v0 P) (.nil) (.nil)))))) (.node (o14v0 P) (.node (o22v0 P) (.node (o38v0 P) (.node (o70v0 P) (.node (o134v0 P) (.node (o262v0 P) (.nil) (.nil)) (.nil)) (.node (o198v0 P) (.nil) (.nil))) (.node (o102v0 P) (.node (o166v0 P) (.nil) (.nil)) (.node (o230v0 P) (.nil) (.nil)))) (.node (o54v0 P) (.node (o86v0 P) (.node (o150v0 P) (.node (o278v0 P) (.nil) (.nil)) (.nil)) (.node (o214v0 P) (.nil) (.nil))) (.node (o118v0 P) (.node (o182v0 P) (.nil) (.nil)) (.node (o246v0 P) (.nil) (.nil))))) (.node (o30v0 P) (.node (o46v0 P) (.node (o78v0 P) (.node (o142v0 P) (.node (o270v0 P) (.nil) (.nil)) (.nil)) (.node (o206v0 P) (.nil) (.nil))) (.node (o110v0 P) (.node (o174v0 P) (.nil) (.nil)) (.node (o238v0 P) (.nil) (.nil)))) (.node (o62v0 P) (.node (o94v0 P) (.node (o158v0 P) (.nil) (.nil)) (.node (o222v0 P) (.nil) (.nil))) (.node (o126v0 P) (.node (o190v0 P) (.nil) (.nil)) (.node (o254v0 P) (.nil) (.nil))))))))
-- 18: size 285 toks 496 pos ⟨122, 0, 122, 13⟩
noncomputable def T20 (P : Params) : BT := .node (o0v0 P) (.node (o1v0 P) (.node (o3v2 P) (.node (o7v0 P) (.node (o15v0 P) (.node (o31v0 P) (.node (o63v0 P) (.node (o127v0 P) (.node (o255v0 P) (.node (o511v0 P) (.nil) (.nil)) (.nil)) (.node (o383v0 P) (.nil) (.nil))) (.node (o191v0 P) (.node (o319v0 P) (.nil) (.nil)) (.node (o447v0 P) (.nil) (.nil)))) (.node (o95v0 P) (.node (o159v0 P) (.node (o287v0 P) (.nil) (.nil)) (.node (o415v0 P) (.nil) (.nil))) (.node (o223v0 P) (.node (o351v0 P) (.nil) (.nil)) (.node (o479v0 P) (.nil) (.nil))))) (.node (o47v0 P) (.node (o79v0 P) (.node (o143v0 P) (.node (o271v0 P) (.node (o527v0 P) (.nil) (.nil)) (.nil)) (.node (o399v0 P) (.nil) (.nil))) (.node (o207v0 P) (.node (o335v0 P) (.nil) (.nil)) (.node (o463v0 P) (.nil) (.nil)))) (.node (o111v0 P) (.node (o175v0 P) (.node (o303v0 P) (.nil) (.nil)) (.node (o431v0 P) (.nil) (.nil))) (.node (o239v0 P) (.node (o367v0 P) (.nil) (.nil)) (.node (o495v0 P) (.nil) (.nil)))))) (.node (o23v0 P) (.node (o39v0 P) (.node (o71v0 P) (.node (o135v0 P) (.node (o263v0 P) (.node (o519v0 P) (.nil) (.nil)) (.nil)) (.node (o391v0 P) (.nil) (.nil))) (.node (o199v0 P) (.node (o327v0 P) (.nil) (.nil)) (.node (o455v0 P) (.nil) (.nil)))) (.node (o103v0 P) (.node (o167v0 P) (.node (o295v0 P) (.nil) (.nil)) (.node (o423v0 P) (.nil) (.nil))) (.node (o231v0 P) (.node (o359v0 P) (.nil) (.nil)) (.node (o487v0 P) (.nil) (.nil))))) (.node (o55v0 P) (.node (o87v0 P) (.node (o151v0 P) (.node (o279v0 P) (.node (o535v0 P) (.nil) (.nil)) (.nil)) (.node (o407v0 P) (.nil) (.nil))) (.node (o215v0 P) (.node (o343v0 P) (.nil) (.nil)) (.node (o471v0 P) (.nil) (.nil)))) (.node (o119v0 P) (.node (o183v0 P) (.node (o311v0 P) (.nil) (.nil)) (.node (o439v0 P) (.nil) (.nil))) (.node (o247v0 P) (.node (o375v0 P) (.nil) (.nil)) (.node (o503v0 P) (.nil) (.nil))))))) (.node (o11v0 P) (.node (o19v0 P) (.node (o35v0 P) (.node (o67v0 P) (.node (o131v0 P) (.node (o259v0 P) (.node (o515v0 P) (.nil) (.nil)) (.nil)) (.node (o387v0 P) (.nil) (.nil))) (.node (o195v0 P) (.node (o323v0 P) (.nil) (.nil)) (.node (o451v0 P) (.nil) (.nil)))) (.node (o99v0 P) (.node (o163v0 P) (.node (o291v0 P) (.nil) (.nil)) (.node (o419v0 P) (.nil) (.nil))) (.node (o227v0 P) (.node (o355v0 P) (.nil) (.nil)) (.node (o483v0 P) (.nil) (.nil))))) (.node (o51v0 P) (.node (o83v0 P) (.node (o147v0 P) (.node (o275v0 P) (.node (o531v0 P) (.nil) (.nil)) (.nil)) (.node (o403v0 P) (.nil) (.nil))) (.node (o211v0 P) (.node (o339v0 P) (.nil) (.nil)) (.node (o467v0 P) (.nil) (.nil)))) (.node (o115v0 P) (.node (o179v0 P) (.node (o307v0 P) (.nil) (.nil)) (.node (o435v0 P) (.nil) (.nil))) (.node (o243v0 P) (.node (o371v0 P) (.nil) (.nil)) (.node (o499v0 P) (.nil) (.nil)))))) (.node (o27v0 P) (.node (o43v0 P) (.node (o75v0 P) (.node (o139v0 P) (.node (o267v0 P) (.node (o523v0 P) (.nil) (.nil)) (.nil)) (.node (o395v0 P) (.nil) (.nil))) (.node (o203v0 P) (.node (o331v0 P) (.nil) (.nil)) (.node (o459v0 P) (.nil) (.nil)))) (.node (o107v0 P) (.node (o171v0 P) (.node (o299v0 P) (.nil) (.nil)) (.node (o427v0 P) (.nil) (.nil))) (.node (o235v0 P) (.node (o363v0 P) (.nil) (.nil)) (.node (o491v0 P) (.nil) (.nil))))) (.node (o59v0 P) (.node (o91v0 P) (.node (o155v0 P) (.node (o283v0 P) (.node (o539v0 P) (.nil) (.nil)) (.nil)) (.node (o411v0 P) (.nil) (.nil))) (.node (o219v0 P) (.node (o347v0 P) (.nil) (.nil)) (.node (o475v0 P) (.nil) (.nil)))) (.node (o123v0 P) (.node (o187v0 P) (.node (o315v0 P) (.nil) (.nil)) (.node (o443v0 P) (.nil) (.nil))) (.node (o251v0 P) (.node (o379v0 P) (.nil) (.nil)) (.node (o507v0 P) (.nil) (.nil)))))))) (.node (o5v0 P) (.node (o9v0 P) (.node (o17v0 P) (.node (o33v0 P) (.node (o65v0 P) (.node (o129v0 P) (.node (o257v0 P) (.node (o513v0 P) (.nil) (.nil)) (.nil)) (.node (o385v0 P) (.nil) (.nil))) (.node (o193v0 P) (.node (o321v0 P) (.nil) (.nil)) (.node (o449v0 P) (.nil) (.nil)))) (.node (o97v0 P) (.node (o161v0 P) (.node (o289v0 P) (.nil) (.nil)) (.node (o417v0 P) (.nil) (.nil))) (.node (o225v0 P) (.node (o353v0 P) (.nil) (.nil)) (.node (o481v0 P) (.nil) (.nil))))) (.node (o49v0 P) (.node (o81v0 P) (.node (o145v0 P) (.node (o273v0 P) (.node (o529v0 P) (.nil) (.nil)) (.nil)) (.node (o401v0 P) (.nil) (.nil))) (.node (o209v0 P) (.node (o337v0 P) (.nil) (.nil)) (.node (o465v0 P) (.nil) (.nil)))) (.node (o113v0 P) (.node (o177v0 P) (.node (o305v0 P) (.nil) (.nil)) (.node (o433v0 P) (.nil) (.nil))) (.node (o241v0 P) (.node (o369v0 P) (.nil) (.nil)) (.node (o497v0 P) (.nil) (.nil)))))) (.node (o25v0 P) (.node (o41v0 P) (.node (o73v0 P) (.node (o137v0 P) (.node (o265v0 P) (.node (o521v0 P) (.nil) (.nil)) (.nil)) (.node (o393v0 P) (.nil) (.nil))) (.node (o201v0 P) (.node (o329v0 P) (.nil) (.nil)) (.node (o457v0 P) (.nil) (.nil)))) (.node (o105v0 P) (.node (o169v0 P) (.node (o297v0 P) (.nil) (.nil)) (.node (o425v0 P) (.nil) (.nil))) (.node (o233v0 P) (.node (o361v0 P) (.nil) (.nil)) (.node (o489v0 P) (.nil) (.nil))))) (.node (o57v0 P) (.node (o89v0 P) (.node (o153v0 P) (.node (o281v0 P) (.node (o537v0 P) (.nil) (.nil)) (.nil)) (.node (o409v0 P) (.nil) (.nil))) (.node (o217v0 P) (.node (o345v0 P) (.nil) (.nil)) (.node (o473v0 P) (.nil) (.nil)))) (.node (o121v0 P) (.node (o185v0 P) (.node (o313v0 P) (.nil) (.nil)) (.node (o441v0 P) (.nil) (.nil))) (.node (o249v0 P) (.node (o377v0 P) (.nil) (.nil)) (.node (o505v0 P) (.nil) (.nil))))))) (.node (o13v0 P) (.node (o21v0 P) (.node (o37v0 P) (.node (o69v0 P) (.node (o133v0 P) (.node (o261v0 P) (.node (o517v0 P) (.nil) (.nil)) (.nil)) (.node (o389v0 P) (.nil) (.nil))) (.node (o197v0 P) (.node (o325v0 P) (.nil) (.nil)) (.node (o453v0 P) (.nil) (.nil)))) (.node (o101v0 P) (.node (o165v0 P) (.node (o293v0 P) (.nil) (.nil)) (.node (o421v0 P) (.nil) (.nil))) (.node (o229v0 P) (.node (o357v0 P) (.nil) (.nil)) (.node (o485v0 P) (.nil) (.nil))))) (.node (o53v0 P) (.node (o85v0 P) (.node (o149v0 P) (.node (o277v0 P) (.node (o533v0 P) (.nil) (.nil)) (.nil)) (.node (o405v0 P) (.nil) (.nil))) (.node (o213v0 P) (.node (o341v0 P) (.nil) (.nil)) (.node (o469v0 P) (.nil) (.nil)))) (.node (o117v0 P) (.node (o181v0 P) (.node (o309v0 P) (.nil) (.nil)) (.node (o437v0 P) (.nil) (.nil))) (.node (o245v0 P) (.node (o373v0 P) (.nil) (.nil)) (.node (o501v0 P) (.nil) (.nil)))))) (.node (o29v0 P) (.node (o45v0 P) (.node (o77v0 P) (.node (o141v0 P) (.node (o269v0 P) (.node (o525v0 P) (.nil) (.nil)) (.nil)) (.node (o397v0 P) (.nil) (.nil))) (.node (o205v0 P) (.node (o333v0 P) (.nil) (.nil)) (.node (o461v0 P) (.nil) (.nil)))) (.node (o109v0 P) (.node (o173v0 P) (.node (o301v0 P) (.nil) (.nil)) (.node (o429v0 P) (.nil) (.nil))) (.node (o237v0 P) (.node (o365v0 P) (.nil) (.nil)) (.node (o493v0 P) (.nil) (.nil))))) (.node (o61v0 P) (.node (o93v0 P) (.node (o157v0 P) (.node (o285v0 P) (.node (o541v0 P) (.nil) (.nil)) (.nil)) (.node (o413v0 P) (.nil) (.nil))) (.node (o221v0 P) (.node (o349v0 P) (.nil) (.nil)) (.node (o477v0 P) (.nil) (.nil)))) (.node (o125v0 P) (.node (o189v0 P) (.node (o317v0 P) (.nil) (.nil)) (.node (o445v0 P) (.nil) (.nil))) (.node (o253v0 P) (.node (o381v0 P) (.nil) (.nil)) (.node (o509v0 P) (.nil) (.nil))))))))) (.node (o2v0 P) (.node (o4v0 P) (.node (o8v0 P) (.node (o16v0 P) (.node (o32v0 P) (.node (o64v0 P) (.node (o128v0 P) (.node (o256v0 P) (.node (o512v0 P) (.nil) (.nil)) (.nil)) (.node (o384v0 P) (.nil) (.nil))) (.node (o192v0 P) (.node (o320v0 P) (.nil) (.nil)) (.node (o448v0 P) (.nil) (.nil)))) (.node (o96v0 P) (.node (o160v0 P) (.node (o288v0 P) (.nil) (.nil)) (.node (o416v0 P) (.nil) (.nil))) (.node (o224v0 P) (.node (o352v0 P) (.nil) (.nil)) (.node (o480v0 P) (.nil) (.nil))))) (.node (o48v0 P) (.node (o80v0 P) (.node (o144v0 P) (.node (o272v0 P) (.node (o528v0 P) (.nil) (.nil)) (.nil)) (.node (o400v0 P) (.nil) (.nil))) (.node (o208v0 P) (.node (o336v0 P) (.nil) (.nil)) (.node (o464v0 P) (.nil) (.nil)))) (.node (o112v0 P) (.node (o176v0 P) (.node (o304v0 P) (.nil) (.nil)) (.node (o432v0 P) (.nil) (.nil))) (.node (o240v0 P) (.node (o368v0 P) (.nil) (.nil)) (.node (o496v0 P) (.nil) (.nil)))))) (.node (o24v0 P) (.node (o40v0 P) (.node (o72v0 P) (.node (o136v0 P) (.node (o264v0 P) (.node (o520v0 P) (.nil) (.nil)) (.nil)) (.node (o392v0 P) (.nil) (.nil))) (.node (o200v0 P) (.node (o328v0 P) (.nil) (.nil)) (.node (o456v0 P) (.nil) (.nil)))) (.node (o104v0 P) (.node (o168v0 P) (.node (o296v0 P) (.nil) (.nil)) (.node (o424v0 P) (.nil) (.nil))) (.node (o232v0 P) (.node (o360v0 P) (.nil) (.nil)) (.node (o488v0 P) (.nil) (.nil))))) (.node (o56v0 P) (.node (o88v0 P) (.node (o152v0 P) (.node (o280v0 P) (.node (o536v0 P) (.nil) (.nil)) (.nil)) (.node (o408v0 P) (.nil) (.nil))) (.node (o216v0 P) (.node (o344v0 P) (.nil) (.nil)) (.node (o472v0 P) (.nil) (.nil)))) (.node (o120v0 P) (.node (o184v0 P) (.node (o312v0 P) (.nil) (.nil)) (.node (o440v0 P) (.nil) (.nil))) (.node (o248v0 P) (.node (o376v0 P) (.nil) (.nil)) (.node (o504v0 P) (.nil) (.nil))))))) (.node (o12v2 P) (.node (o20v0 P) (.node (o36v0 P) (.node (o68v0 P) (.node (o132v0 P) (.node (o260v0 P) (.node (o516v0 P) (.nil) (.nil)) (.nil)) (.node (o388v0 P) (.nil) (.nil))) (.node (o196v0 P) (.node (o324v0 P) (.nil) (.nil)) (.node (o452v0 P) (.nil) (.nil)))) (.node (o100v0 P) (.node (o164v0 P) (.node (o292v0 P) (.nil) (.nil)) (.node (o420v0 P) (.nil) (.nil))) (.node (o228v0 P) (.node (o356v0 P) (.nil) (.nil)) (.node (o484v0 P) (.nil) (.nil))))) (.node (o52v0 P) (.node (o84v0 P) (.node (o148v0 P) (.node (o276v0 P) (.node (o532v0 P) (.nil) (.nil)) (.nil)) (.node (o404v0 P) (.nil) (.nil))) (.node (o212v0 P) (.node (o340v0 P) (.nil) (.nil)) (.node (o468v0 P) (.nil) (.nil)))) (.node (o116v0 P) (.node (o180v0 P) (.node (o308v0 P) (.nil) (.nil)) (.node (o436v0 P) (.nil) (.nil))) (.node (o244v0 P) (.node (o372v0 P) (.nil) (.nil)) (.node (o500v0 P) (.nil) (.nil)))))) (.node (o28v0 P) (.node (o44v0 P) (.node (o76v0 P) (.node (o140v0 P) (.node (o268v0 P) (.node (o524v0 P) (.nil) (.nil)) (.nil)) (.node (o396v0 P) (.nil) (.nil))) (.node (o204v0 P) (.node (o332v0 P) (.nil) (.nil)) (.node (o460v0 P) (.nil) (.nil)))) (.node (o108v0 P) (.node (o172v0 P) (.node (o300v0 P) (.nil) (.nil)) (.node (o428v0 P) (.nil) (.nil))) (.node (o236v0 P) (.node (o364v0 P) (.nil) (.nil)) (.node (o492v0 P) (.nil) (.nil))))) (.node (o60v0 P) (.node (o92v0 P) (.node (o156v0 P) (.node (o284v0 P) (.node (o540v0 P) (.nil) (.nil)) (.nil)) (.node (o412v0 P) (.nil) (.nil))) (.node (o220v0 P) (.node (o348v0 P) (.nil) (.nil)) (.node (o476v0 P) (.nil) (.nil)))) (.node (o124v0 P) (.node (o188v0 P) (.node (o316v0 P) (.nil) (.nil)) (.node (o444v0 P) (.nil) (.nil))) (.node (o252v0 P) (.node (o380v0 P) (.nil) (.nil)) (.node (o508v0 P) (.nil) (.nil)))))))) (.node (o6v0 P) (.node (o10v0 P) (.node (o18v0 P) (.node (o34v0 P) (.node (o66v0 P) (.node (o130v0 P) (.node (o258v0 P) (.node (o514v0 P) (.nil) (.nil)) (.nil)) (.node (o386v0 P) (.nil) (.nil))) (.node (o194v0 P) (.node (o322v0 P) (.nil) (.nil)) (.node (o450v0 P) (.nil) (.nil)))) (.node (o98v0 P) (.node (o162v0 P) (.node (o290v0 P) (.nil) (.nil)) (.node (o418v0 P) (.nil) (.nil))) (.node (o226v0 P) (.node (o354v0 P) (.nil) (.nil)) (.node (o482v0 P) (.nil) (.nil))))) (.node (o50v0 P) (.node (o82v0 P) (.node (o146v0 P) (.node (o274v0 P) (.node (o530v0 P) (.nil) (.nil)) (.nil)) (.node (o402v0 P) (.nil) (.nil))) (.node (o210v0 P) (.node (o338v0 P) (.nil) (.nil)) (.node (o466v0 P) (.nil) (.nil)))) (.node (o114v0 P) (.node (o178v0 P) (.node (o306v0 P) (.nil) (.nil)) (.node (o434v0 P) (.nil) (.nil))) (.node (o242v0 P) (.node (o370v0 P) (.nil) (.nil)) (.node (o498v0 P) (.nil) (.nil)))))) (.node (o26v0 P) (.node (o42v0 P) (.node (o74v0 P) (.node (o138v0 P) (.node (o266v0 P) (.node (o522v0 P) (.nil) (.nil)) (.nil)) (.node (o394v0 P) (.nil) (.nil))) (.node (o202v0 P) (.node (o330v0 P) (.nil) (.nil)) (.node (o458v0 P) (.nil) (.nil)))) (.node (o106v0 P) (.node (o170v0 P) (.node (o298v0 P) (.nil) (.nil)) (.node (o426v0 P) (.nil) (.nil))) (.node (o234v0 P) (.node (o362v0 P) (.nil) (.nil)) (.node (o490v0 P) (.nil) (.nil))))) (.node (o58v0 P) (.node (o90v0 P) (.node (o154v0 P) (.node (o282v0 P) (.node (o538v0 P) (.nil) (.nil)) (.nil)) (.node (o410v0 P) (.nil) (.nil))) (.node (o218v0 P) (.node (o346v0 P) (.nil) (.nil)) (.node (o474v0 P) (.nil) (.nil)))) (.node (o122v0 P) (.node (o186v0 P) (.node (o314v0 P) (.nil) (.nil)) (.node (o442v0 P) (.nil) (.nil))) (.node (o250v0 P) (.node (o378v0 P) (.nil) (.nil)) (.node (o506v0 P) (.nil) (.nil))))))) (.node (o14v0 P) (.node (o22v0 P) (.node (o38v0 P) (.node (o70v0 P) (.node (o134v0 P) (.node (o262v0 P) (.node (o518v0 P) (.nil) (.nil)) (.nil)) (.node (o390v0 P) (.nil) (.nil))) (.node (o198v0 P) (.node (o326v0 P) (.nil) (.nil)) (.node (o454v0 P) (.nil) (.nil)))) (.node (o102v0 P) (.node (o166v0 P) (.node (o294v0 P) (.nil) (.nil)) (.node (o422v0 P) (.nil) (.nil))) (.node (o230v0 P) (.node (o358v0 P) (.nil) (.nil)) (.node (o486v0 P) (.nil) (.nil))))) (.node (o54v0 P) (.node (o86v0 P) (.node (o150v0 P) (.node (o278v0 P) (.node (o534v0 P) (.nil) (.nil)) (.nil)) (.node (o406v0 P) (.nil) (.nil))) (.node (o214v0 P) (.node (o342v0 P) (.nil) (.nil)) (.node (o470v0 P) (.nil) (.nil)))) (.node (o118v0 P) (.node (o182v0 P) (.node (o310v0 P) (.nil) (.nil)) (.node (o438v0 P) (.nil) (.nil))) (.node (o246v0 P) (.node (o374v0 P) (.nil) (.nil)) (.node (o502v0 P) (.nil) (.nil)))))) (.node (o30v0 P) (.node (o46v0 P) (.node (o78v0 P) (.node (o142v0 P) (.node (o270v0 P) (.node (o526v0 P) (.nil) (.nil)) (.nil)) (.node (o398v0 P) (.nil) (.nil))) (.node (o206v0 P) (.node (o334v0 P) (.nil) (.nil)) (.node (o462v0 P) (.nil) (.nil)))) (.node (o110v0 P) (.node (o174v0 P) (.node (o302v0 P) (.nil) (.nil)) (.node (o430v0 P) (.nil) (.nil))) (.node (o238v0 P) (.node (o366v0 P) (.nil) (.nil)) (.node (o494v0 P) (.nil) (.nil))))) (.node (o62v0 P) (.node (o94v0 P) (.node (o158v0 P) (.node (o286v0 P) (.node (o542v0 P) (.nil) (.nil)) (.nil)) (.node (o414v0 P) (.nil) (.nil))) (.node (o222v0 P) (.node (o350v0 P) (.nil) (.nil)) (.node (o478v0 P) (.nil) (.nil)))) (.node (o126v0 P) (.node (o190v0 P) (.node (o318v0 P) (.nil) (.nil)) (.node (o446v0 P) (.nil) (.nil))) (.node (o254v0 P) (.node (o382v0 P) (.nil) (.nil)) (.node (o510v0 P) (.nil) (.nil)))))))))
-- 20: size 543 toks 811 pos ⟨253, 0, 269, 90⟩
noncomputable def T24 (P : Params) : BT := .node (o0v0 P) (.node (o1v0 P) (.node (o3v3 P) (.node (o7v0 P) (.node (o15v0 P) (.node (o31v0 P) (.node (o63v0 P) (.node (o127v0 P) (.node (o255v0 P) (.node (o511v0 P) (.nil) (.nil)) (.nil)) (.node (o383v0 P) (.node (o639v0 P) (.nil) (.nil)) (.nil))) (.node (o191v0 P) (.node (o319v0 P) (.node (o575v0 P) (.nil) (.nil)) (.nil)) (.node (o447v0 P) (.nil) (.nil)))) (.node (o95v0 P) (.node (o159v0 P) (.node (o287v0 P) (.node (o543v0 P) (.nil) (.nil)) (.nil)) (.node (o415v0 P) (.node (o671v0 P) (.nil) (.nil)) (.nil))) (.node (o223v0 P) (.node (o351v0 P) (.node (o607v0 P) (.nil) (.nil)) (.nil)) (.node (o479v0 P) (.nil) (.nil))))) (.node (o47v0 P) (.node (o79v0 P) (.node (o143v0 P) (.node (o271v0 P) (.node (o527v0 P) (.nil) (.nil)) (.nil)) (.node (o399v0 P) (.node (o655v0 P) (.nil) (.nil)) (.nil))) (.node (o207v0 P) (.node (o335v0 P) (.node (o591v0 P) (.nil) (.nil)) (.nil)) (.node (o463v0 P) (.nil) (.nil)))) (.node (o111v0 P) (.node (o175v0 P) (.node (o303v0 P) (.node (o559v0 P) (.nil) (.nil)) (.nil)) (.node (o431v0 P) (.node (o687v0 P) (.nil) (.nil)) (.nil))) (.node (o239v0 P) (.node (o367v0 P) (.node (o623v0 P) (.nil) (.nil)) (.nil)) (.node (o495v0 P) (.nil) (.nil)))))) (.node (o23v0 P) (.node (o39v0 P) (.node (o71v0 P) (.node (o135v0 P) (.node (o263v0 P) (.node (o519v0 P) (.nil) (.nil)) (.nil)) (.node (o391v0 P) (.node (o647v0 P) (.nil) (.nil)) (.nil))) (.node (o199v0 P) (.node (o327v0 P) (.node (o583v0 P) (.nil) (.nil)) (.nil)) (.node (o455v0 P) (.nil) (.nil)))) (.node (o103v0 P) (.node (o167v0 P) (.node (o295v0 P) (.node (o551v0 P) (.nil) (.nil)) (.nil)) (.node (o423v0 P) (.node (o679v0 P) (.nil) (.nil)) (.nil))) (.node (o231v0 P) (.node (o359v0 P) (.node (o615v0 P) (.nil) (.nil)) (.nil)) (.node (o487v0 P) (.nil) (.nil))))) (.node (o55v0 P) (.node (o87v0 P) (.node (o151v0 P) (.node (o279v0 P) (.node (o535v0 P) (.nil) (.nil)) (.nil)) (.node (o407v0 P) (.node (o663v0 P) (.nil) (.nil)) (.nil))) (.node (o215v0 P) (.node (o343v0 P) (.node (o599v0 P) (.nil) (.nil)) (.nil)) (.node (o471v0 P) (.nil) (.nil)))) (.node (o119v0 P) (.node (o183v0 P) (.node (o311v0 P) (.node (o567v0 P) (.nil) (.nil)) (.nil)) (.node (o439v0 P) (.node (o695v0 P) (.nil) (.nil)) (.nil))) (.node (o247v0 P) (.node (o375v0 P) (.node (o631v0 P) (.nil) (.nil)) (.nil)) (.node (o503v0 P) (.nil) (.nil))))))) (.node (o11v0 P) (.node (o19v0 P) (.node (o35v0 P) (.node (o67v0 P) (.node (o131v0 P) (.node (o259v0 P) (.node (o515v0 P) (.nil) (.nil)) (.nil)) (.node (o387v0 P) (.node (o643v0 P) (.nil) (.nil)) (.nil))) (.node (o195v0 P) (.node (o323v0 P) (.node (o579v0 P) (.nil) (.nil)) (.nil)) (.node (o451v0 P) (.nil) (.nil)))) (.node (o99v0 P) (.node (o163v0 P) (.node (o291v0 P) (.node (o547v0 P) (.nil) (.nil)) (.nil)) (.node (o419v0 P) (.node (o675v0 P) (.nil) (.nil)) (.nil))) (.node (o227v0 P) (.node (o355v0 P) (.node (o611v0 P) (.nil) (.nil)) (.nil)) (.node (o483v0 P) (.nil) (.nil))))) (.node (o51v0 P) (.node (o83v0 P) (.node (o147v0 P) (.node (o275v0 P) (.node (o531v0 P) (.nil) (.nil)) (.nil)) (.node (o403v0 P) (.node (o659v0 P) (.nil) (.nil)) (.nil))) (.node (o211v0 P) (.node (o339v0 P) (.node (o595v0 P) (.nil) (.nil)) (.nil)) (.node (o467v0 P) (.nil) (.nil)))) (.node (o115v0 P) (.node (o179v0 P) (.node (o307v0 P) (.node (o563v0 P) (.nil) (.nil)) (.nil)) (.node (o435v0 P) (.node (o691v0 P) (.nil) (.nil)) (.nil))) (.node (o243v0 P) (.node (o371v0 P) (.node (o627v0 P) (.nil) (.nil)) (.nil)) (.node (o499v0 P) (.nil) (.nil)))))) (.node (o27v0 P) (.node (o43v0 P) (.node (o75v0 P) (.node (o139v0 P) (.node (o267v0 P) (.node (o523v0 P) (.nil) (.nil)) (.nil)) (.node (o395v0 P) (.node (o651v0 P) (.nil) (.nil)) (.nil))) (.node (o203v0 P) (.node (o331v0 P) (.node (o587v0 P) (.nil) (.nil)) (.nil)) (.node (o459v0 P) (.nil) (.nil)))) (.node (o107v0 P) (.node (o171v0 P) (.node (o299v0 P) (.node (o555v0 P) (.nil) (.nil)) (.nil)) (.node (o427v0 P) (.node (o683v0 P) (.nil) (.nil)) (.nil))) (.node (o235v0 P) (.node (o363v0 P) (.node (o619v0 P) (.nil) (.nil)) (.nil)) (.node (o491v0 P) (.nil) (.nil))))) (.node (o59v0 P) (.node (o91v0 P) (.node (o155v0 P) (.node (o283v0 P) (.node (o539v0 P) (.nil) (.nil)) (.nil)) (.node (o411v0 P) (.node (o667v0 P) (.nil) (.nil)) (.nil))) (.node (o219v0 P) (.node (o347v0 P) (.node (o603v0 P) (.nil) (.nil)) (.nil)) (.node (o475v0 P) (.nil) (.nil)))) (.node (o123v0 P) (.node (o187v0 P) (.node (o315v0 P) (.node (o571v0 P) (.nil) (.nil)) (.nil)) (.node (o443v0 P) (.nil) (.nil))) (.node (o251v0 P) (.node (o379v0 P) (.node (o635v0 P) (.nil) (.nil)) (.nil)) (.node (o507v0 P) (.nil) (.nil)))))))) (.node (o5v0 P) (.node (o9v0 P) (.node (o17v0 P) (.node (o33v0 P) (.node (o65v0 P) (.node (o129v0 P) (.node (o257v0 P) (.node (o513v0 P) (.nil) (.nil)) (.nil)) (.node (o385v0 P) (.node (o641v0 P) (.nil) (.nil)) (.nil))) (.node (o193v0 P) (.node (o321v0 P) (.node (o577v0 P) (.nil) (.nil)) (.nil)) (.node (o449v0 P) (.nil) (.nil)))) (.node (o97v0 P) (.node (o161v0 P) (.node (o289v0 P) (.node (o545v0 P) (.nil) (.nil)) (.nil)) (.node (o417v0 P) (.node (o673v0 P) (.nil) (.nil)) (.nil))) (.node (o225v0 P) (.node (o353v0 P) (.node (o609v0 P) (.nil) (.nil)) (.nil)) (.node (o481v0 P) (.nil) (.nil))))) (.node (o49v0 P) (.node (o81v0 P) (.node (o145v0 P) (.node (o273v0 P) (.node (o529v0 P) (.nil) (.nil)) (.nil)) (.node (o401v0 P) (.node (o657v0 P) (.nil) (.nil)) (.nil))) (.node (o209v0 P) (.node (o337v0 P) (.node (o593v0 P) (.nil) (.nil)) (.nil)) (.node (o465v0 P) (.nil) (.nil)))) (.node (o113v0 P) (.node (o177v0 P) (.node (o305v0 P) (.node (o561v0 P) (.nil) (.nil)) (.nil)) (.node (o433v0 P) (.node (o689v0 P) (.nil) (.nil)) (.nil))) (.node (o241v0 P) (.node (o369v0 P) (.node (o625v0 P) (.nil) (.nil)) (.nil)) (.node (o497v0 P) (.nil) (.nil)))))) (.node (o25v0 P) (.node (o41v0 P) (.node (o73v0 P) (.node (o137v0 P) (.node (o265v0 P) (.node (o521v0 P) (.nil) (.nil)) (.nil)) (.node (o393v0 P) (.node (o649v0 P) (.nil) (.nil)) (.nil))) (.node (o201v0 P) (.node (o329v0 P) (.node (o585v0 P) (.nil) (.nil)) (.nil)) (.node (o457v0 P) (.nil) (.nil)))) (.node (o105v0 P) (.node (o169v0 P) (.node (o297v0 P) (.node (o553v0 P) (.nil) (.nil)) (.nil)) (.node (o425v0 P) (.node (o681v0 P) (.nil) (.nil)) (.nil))) (.node (o233v0 P) (.node (o361v0 P) (.node (o617v0 P) (.nil) (.nil)) (.nil)) (.node (o489v0 P) (.nil) (.nil))))) (.node (o57v0 P) (.node (o89v0 P) (.node (o153v0 P) (.node (o281v0 P) (.node (o537v0 P) (.nil) (.nil)) (.nil)) (.node (o409v0 P) (.node (o665v0 P) (.nil) (.nil)) (.nil))) (.node (o217v0 P) (.node (o345v0 P) (.node (o601v0 P) (.nil) (.nil)) (.nil)) (.node (o473v0 P) (.nil) (.nil)))) (.node (o121v0 P) (.node (o185v0 P) (.node (o313v0 P) (.node (o569v0 P) (.nil) (.nil)) (.nil)) (.node (o441v0 P) (.node (o697v0 P) (.nil) (.nil)) (.nil))) (.node (o249v0 P) (.node (o377v0 P) (.node (o633v0 P) (.nil) (.nil)) (.nil)) (.node (o505v0 P) (.nil) (.nil))))))) (.node (o13v0 P) (.node (o21v0 P) (.node (o37v0 P) (.node (o69v0 P) (.node (o133v0 P) (.node (o261v0 P) (.node (o517v0 P) (.nil) (.nil)) (.nil)) (.node (o389v0 P) (.node (o645v0 P) (.nil) (.nil)) (.nil))) (.node (o197v0 P) (.node (o325v0 P) (.node (o581v0 P) (.nil) (.nil)) (.nil)) (.node (o453v0 P) (.nil) (.nil)))) (.node (o101v0 P) (.node (o165v0 P) (.node (o293v0 P) (.node (o549v0 P) (.nil) (.nil)) (.nil)) (.node (o421v0 P) (.node (o677v0 P) (.nil) (.nil)) (.nil))) (.node (o229v0 P) (.node (o357v0 P) (.node (o613v0 P) (.nil) (.nil)) (.nil)) (.node (o485v0 P) (.nil) (.nil))))) (.node (o53v0 P) (.node (o85v0 P) (.node (o149v0 P) (.node (o277v0 P) (.node (o533v0 P) (.nil) (.nil)) (.nil)) (.node (o405v0 P) (.node (o661v0 P) (.nil) (.nil)) (.nil))) (.node (o213v0 P) (.node (o341v0 P) (.node (o597v0 P) (.nil) (.nil)) (.nil)) (.node (o469v0 P) (.nil) (.nil)))) (.node (o117v0 P) (.node (o181v0 P) (.node (o309v0 P) (.node (o565v0 P) (.nil) (.nil)) (.nil)) (.node (o437v0 P) (.node (o693v0 P) (.nil) (.nil)) (.nil))) (.node (o245v0 P) (.node (o373v0 P) (.node (o629v0 P) (.nil) (.nil)) (.nil)) (.node (o501v0 P) (.nil) (.nil)))))) (.node (o29v0 P) (.node (o45v0 P) (.node (o77v0 P) (.node (o141v0 P) (.node (o269v0 P) (.node (o525v0 P) (.nil) (.nil)) (.nil)) (.node (o397v0 P) (.node (o653v0 P) (.nil) (.nil)) (.nil))) (.node (o205v0 P) (.node (o333v0 P) (.node (o589v0 P) (.nil) (.nil)) (.nil)) (.node (o461v0 P) (.nil) (.nil)))) (.node (o109v0 P) (.node (o173v0 P) (.node (o301v0 P) (.node (o557v0 P) (.nil) (.nil)) (.nil)) (.node (o429v0 P) (.node (o685v0 P) (.nil) (.nil)) (.nil))) (.node (o237v0 P) (.node (o365v0 P) (.node (o621v0 P) (.nil) (.nil)) (.nil)) (.node (o493v0 P) (.nil) (.nil))))) (.node (o61v0 P) (.node (o93v0 P) (.node (o157v0 P) (.node (o285v0 P) (.node (o541v0 P) (.nil) (.nil)) (.nil)) (.node (o413v0 P) (.node (o669v0 P) (.nil) (.nil)) (.nil))) (.node (o221v0 P) (.node (o349v0 P) (.node (o605v0 P) (.nil) (.nil)) (.nil)) (.node (o477v0 P) (.nil) (.nil)))) (.node (o125v0 P) (.node (o189v0 P) (.node (o317v0 P) (.node (o573v0 P) (.nil) (.nil)) (.nil)) (.node (o445v0 P) (.nil) (.nil))) (.node (o253v0 P) (.node (o381v0 P) (.node (o637v0 P) (.nil) (.nil)) (.nil)) (.node (o509v0 P) (.nil) (.nil))))))))) (.node (o2v0 P) (.node (o4v0 P) (.node (o8v0 P) (.node (o16v0 P) (.node (o32v0 P) (.node (o64v0 P) (.node (o128v0 P) (.node (o256v0 P) (.node (o512v0 P) (.nil) (.nil)) (.nil)) (.node (o384v0 P) (.node (o640v0 P) (.nil) (.nil)) (.nil))) (.node (o192v0 P) (.node (o320v0 P) (.node (o576v0 P) (.nil) (.nil)) (.nil)) (.node (o448v0 P) (.nil) (.nil)))) (.node (o96v0 P) (.node (o160v0 P) (.node (o288v0 P) (.node (o544v0 P) (.nil) (.nil)) (.nil)) (.node (o416v0 P) (.node (o672v0 P) (.nil) (.nil)) (.nil))) (.node (o224v0 P) (.node (o352v0 P) (.node (o608v0 P) (.nil) (.nil)) (.nil)) (.node (o480v0 P) (.nil) (.nil))))) (.node (o48v0 P) (.node (o80v0 P) (.node (o144v0 P) (.node (o272v0 P) (.node (o528v0 P) (.nil) (.nil)) (.nil)) (.node (o400v0 P) (.node (o656v0 P) (.nil) (.nil)) (.nil))) (.node (o208v0 P) (.node (o336v0 P) (.node (o592v0 P) (.nil) (.nil)) (.nil)) (.node (o464v0 P) (.nil) (.nil)))) (.node (o112v0 P) (.node (o176v0 P) (.node (o304v0 P) (.node (o560v0 P) (.nil) (.nil)) (.nil)) (.node (o432v0 P) (.node (o688v0 P) (.nil) (.nil)) (.nil))) (.node (o240v0 P) (.node (o368v0 P) (.node (o624v0 P) (.nil) (.nil)) (.nil)) (.node (o496v0 P) (.nil) (.nil)))))) (.node (o24v0 P) (.node (o40v0 P) (.node (o72v0 P) (.node (o136v0 P) (.node (o264v0 P) (.node (o520v0 P) (.nil) (.nil)) (.nil)) (.node (o392v0 P) (.node (o648v0 P) (.nil) (.nil)) (.nil))) (.node (o200v0 P) (.node (o328v0 P) (.node (o584v0 P) (.nil) (.nil)) (.nil)) (.node (o456v0 P) (.nil) (.nil)))) (.node (o104v0 P) (.node (o168v0 P) (.node (o296v0 P) (.node (o552v0 P) (.nil) (.nil)) (.nil)) (.node (o424v0 P) (.node (o680v0 P) (.nil) (.nil)) (.nil))) (.node (o232v0 P) (.node (o360v0 P) (.node (o616v0 P) (.nil) (.nil)) (.nil)) (.node (o488v0 P) (.nil) (.nil))))) (.node (o56v0 P) (.node (o88v0 P) (.node (o152v0 P) (.node (o280v0 P) (.node (o536v0 P) (.nil) (.nil)) (.nil)) (.node (o408v0 P) (.node (o664v0 P) (.nil) (.nil)) (.nil))) (.node (o216v0 P) (.node (o344v0 P) (.node (o600v0 P) (.nil) (.nil)) (.nil)) (.node (o472v0 P) (.nil) (.nil)))) (.node (o120v0 P) (.node (o184v0 P) (.node (o312v0 P) (.node (o568v0 P) (.nil) (.nil)) (.nil)) (.node (o440v0 P) (.node (o696v0 P) (.nil) (.nil)) (.nil))) (.node (o248v0 P) (.node (o376v0 P) (.node (o632v0 P) (.nil) (.nil)) (.nil)) (.node (o504v0 P) (.nil) (.nil))))))) (.node (o12v3 P) (.node (o20v0 P) (.node (o36v0 P) (.node (o68v0 P) (.node (o132v0 P) (.node (o260v0 P) (.node (o516v0 P) (.nil) (.nil)) (.nil)) (.node (o388v0 P) (.node (o644v0 P) (.nil) (.nil)) (.nil))) (.node (o196v0 P) (.node (o324v0 P) (.node (o580v0 P) (.nil) (.nil)) (.nil)) (.node (o452v0 P) (.nil) (.nil)))) (.node (o100v0 P) (.node (o164v0 P) (.node (o292v0 P) (.node (o548v0 P) (.nil) (.nil)) (.nil)) (.node (o420v0 P) (.node (o676v0 P) (.nil) (.nil)) (.nil))) (.node (o228v0 P) (.node (o356v0 P) (.node (o612v0 P) (.nil) (.nil)) (.nil)) (.node (o484v0 P) (.nil) (.nil))))) (.node (o52v0 P) (.node (o84v0 P) (.node (o148v0 P) (.node (o276v0 P) (.node (o532v0 P) (.nil) (.nil)) (.nil)) (.node (o404v0 P) (.node (o660v0 P) (.nil) (.nil)) (.nil))) (.node (o212v0 P) (.node (o340v0 P) (.node (o596v0 P) (.nil) (.nil)) (.nil)) (.node (o468v0 P) (.nil) (.nil)))) (.node (o116v0 P) (.node (o180v0 P) (.node (o308v0 P) (.node (o564v0 P) (.nil) (.nil)) (.nil)) (.node (o436v0 P) (.node (o692v0 P) (.nil) (.nil)) (.nil))) (.node (o244v0 P) (.node (o372v0 P) (.node (o628v0 P) (.nil) (.nil)) (.nil)) (.node (o500v0 P) (.nil) (.nil)))))) (.node (o28v0 P) (.node (o44v0 P) (.node (o76v0 P) (.node (o140v0 P) (.node (o268v0 P) (.node (o524v0 P) (.nil) (.nil)) (.nil)) (.node (o396v0 P) (.node (o652v0 P) (.nil) (.nil)) (.nil))) (.node (o204v0 P) (.node (o332v0 P) (.node (o588v0 P) (.nil) (.nil)) (.nil)) (.node (o460v0 P) (.nil) (.nil)))) (.node (o108v0 P) (.node (o172v0 P) (.node (o300v0 P) (.node (o556v0 P) (.nil) (.nil)) (.nil)) (.node (o428v0 P) (.node (o684v0 P) (.nil) (.nil)) (.nil))) (.node (o236v0 P) (.node (o364v0 P) (.node (o620v0 P) (.nil) (.nil)) (.nil)) (.node (o492v0 P) (.nil) (.nil))))) (.node (o60v0 P) (.node (o92v0 P) (.node (o156v0 P) (.node (o284v0 P) (.node (o540v0 P) (.nil) (.nil)) (.nil)) (.node (o412v0 P) (.node (o668v0 P) (.nil) (.nil)) (.nil))) (.node (o220v0 P) (.node (o348v0 P) (.node (o604v0 P) (.nil) (.nil)) (.nil)) (.node (o476v0 P) (.nil) (.nil)))) (.node (o124v0 P) (.node (o188v0 P) (.node (o316v0 P) (.node (o572v0 P) (.nil) (.nil)) (.nil)) (.node (o444v0 P) (.nil) (.nil))) (.node (o252v0 P) (.node (o380v0 P) (.node (o636v0 P) (.nil) (.nil)) (.nil)) (.node (o508v0 P) (.nil) (.nil)))))))) (.node (o6v0 P) (.node (o10v0 P) (.node (o18v0 P) (.node (o34v0 P) (.node (o66v0 P) (.node (o130v0 P) (.node (o258v0 P) (.node (o514v0 P) (.nil) (.nil)) (.nil)) (.node (o386v0 P) (.node (o642v0 P) (.nil) (.nil)) (.nil))) (.node (o194v0 P) (.node (o322v0 P) (.node (o578v0 P) (.nil) (.nil)) (.nil)) (.node (o450v0 P) (.nil) (.nil)))) (.node (o98v0 P) (.node (o162v0 P) (.node (o290v0 P) (.node (o546v0 P) (.nil) (.nil)) (.nil)) (.node (o418v0 P) (.node (o674v0 P) (.nil) (.nil)) (.nil))) (.node (o226v0 P) (.node (o354v0 P) (.node (o610v0 P) (.nil) (.nil)) (.nil)) (.node (o482v0 P) (.nil) (.nil))))) (.node (o50v0 P) (.node (o82v0 P) (.node (o146v0 P) (.node (o274v0 P) (.node (o530v0 P) (.nil) (.nil)) (.nil)) (.node (o402v0 P) (.node (o658v0 P) (.nil) (.nil)) (.nil))) (.node (o210v0 P) (.node (o338v0 P) (.node (o594v0 P) (.nil) (.nil)) (.nil)) (.node (o466v0 P) (.nil) (.nil)))) (.node (o114v0 P) (.node (o178v0 P) (.node (o306v0 P) (.node (o562v0 P) (.nil) (.nil)) (.nil)) (.node (o434v0 P) (.node (o690v0 P) (.nil) (.nil)) (.nil))) (.node (o242v0 P) (.node (o370v0 P) (.node (o626v0 P) (.nil) (.nil)) (.nil)) (.node (o498v0 P) (.nil) (.nil)))))) (.node (o26v0 P) (.node (o42v0 P) (.node (o74v0 P) (.node (o138v0 P) (.node (o266v0 P) (.node (o522v0 P) (.nil) (.nil)) (.nil)) (.node (o394v0 P) (.node (o650v0 P) (.nil) (.nil)) (.nil))) (.node (o202v0 P) (.node (o330v0 P) (.node (o586v0 P) (.nil) (.nil)) (.nil)) (.node (o458v0 P) (.nil) (.nil)))) (.node (o106v0 P) (.node (o170v0 P) (.node (o298v0 P) (.node (o554v0 P) (.nil) (.nil)) (.nil)) (.node (o426v0 P) (.node (o682v0 P) (.nil) (.nil)) (.nil))) (.node (o234v0 P) (.node (o362v0 P) (.node (o618v0 P) (.nil) (.nil)) (.nil)) (.node (o490v0 P) (.nil) (.nil))))) (.node (o58v0 P) (.node (o90v0 P) (.node (o154v0 P) (.node (o282v0 P) (.node (o538v0 P) (.nil) (.nil)) (.nil)) (.node (o410v0 P) (.node (o666v0 P) (.nil) (.nil)) (.nil))) (.node (o218v0 P) (.node (o346v0 P) (.node (o602v0 P) (.nil) (.nil)) (.nil)) (.node (o474v0 P) (.nil) (.nil)))) (.node (o122v0 P) (.node (o186v0 P) (.node (o314v0 P) (.node (o570v0 P) (.nil) (.nil)) (.nil)) (.node (o442v0 P) (.node (o698v0 P) (.nil) (.nil)) (.nil))) (.node (o250v0 P) (.node (o378v0 P) (.node (o634v0 P) (.nil) (.nil)) (.nil)) (.node (o506v0 P) (.nil) (.nil))))))) (.node (o14v0 P) (.node (o22v0 P) (.node (o38v0 P) (.node (o70v0 P) (.node (o134v0 P) (.node (o262v0 P) (.node (o518v0 P) (.nil) (.nil)) (.nil)) (.node (o390v0 P) (.node (o646v0 P) (.nil) (.nil)) (.nil))) (.node (o198v0 P) (.node (o326v0 P) (.node (o582v0 P) (.nil) (.nil)) (.nil)) (.node (o454v0 P) (.nil) (.nil)))) (.node (o102v0 P) (.node (o166v0 P) (.node (o294v0 P) (.node (o550v0 P) (.nil) (.nil)) (.nil)) (.node (o422v0 P) (.node (o678v0 P) (.nil) (.nil)) (.nil))) (.node (o230v0 P) (.node (o358v0 P) (.node (o614v0 P) (.nil) (.nil)) (.nil)) (.node (o486v0 P) (.nil) (.nil))))) (.node (o54v0 P) (.node (o86v0 P) (.node (o150v0 P) (.node (o278v0 P) (.node (o534v0 P) (.nil) (.nil)) (.nil)) (.node (o406v0 P) (.node (o662v0 P) (.nil) (.nil)) (.nil))) (.node (o214v0 P) (.node (o342v0 P) (.node (o598v0 P) (.nil) (.nil)) (.nil)) (.node (o470v0 P) (.nil) (.nil)))) (.node (o118v0 P) (.node (o182v0 P) (.node (o310v0 P) (.node (o566v0 P) (.nil) (.nil)) (.nil)) (.node (o438v0 P) (.node (o694v0 P) (.nil) (.nil)) (.nil))) (.node (o246v0 P) (.node (o374v0 P) (.node (o630v0 P) (.nil) (.nil)) (.nil)) (.node (o502v0 P) (.nil) (.nil)))))) (.node (o30v0 P) (.node (o46v0 P) (.node (o78v0 P) (.node (o142v0 P) (.node (o270v0 P) (.node (o526v0 P) (.nil) (.nil)) (.nil)) (.node (o398v0 P) (.node (o654v0 P) (.nil) (.nil)) (.nil))) (.node (o206v0 P) (.node (o334v0 P) (.node (o590v0 P) (.nil) (.nil)) (.nil)) (.node (o462v0 P) (.nil) (.nil)))) (.node (o110v0 P) (.node (o174v0 P) (.node (o302v0 P) (.node (o558v0 P) (.nil) (.nil)) (.nil)) (.node (o430v0 P) (.node (o686v0 P) (.nil) (.nil)) (.nil))) (.node (o238v0 P) (.node (o366v0 P) (.node (o622v0 P) (.nil) (.nil)) (.nil)) (.node (o494v0 P) (.nil) (.nil))))) (.node (o62v0 P) (.node (o94v0 P) (.node (o158v0 P) (.node (o286v0 P) (.node (o542v0 P) (.nil) (.nil)) (.nil)) (.node (o414v0 P) (.node (o670v0 P) (.nil) (.nil)) (.nil))) (.node (o222v0 P) (.node (o350v0 P) (.node (o606v0 P) (.nil) (.nil)) (.nil)) (.node (o478v0 P) (.nil) (.nil)))) (.node (o126v0 P) (.node (o190v0 P) (.node (o318v0 P) (.node (o574v0 P) (.nil) (.nil)) (.nil)) (.node (o446v0 P) (.nil) (.nil))) (.node (o254v0 P) (.node (o382v0 P) (.node (o638v0 P) (.nil) (.nil)) (.nil)) (.node (o510v0 P) (.nil) (.nil)))))))))
-- 24: size 699 toks 1059 pos ⟨368, 0, 400, 56⟩
noncomputable def T25 (P : Params) : BT := .node (o0v0 P) (.node (o1v0 P) (.node (o3v3 P) (.node (o7v0 P) (.node (o15v0 P) (.node (o31v0 P) (.node (o63v0 P) (.node (o127v0 P) (.node (o255v0 P) (.node (o511v0 P) (.nil) (.nil)) (.nil)) (.node (o383v0 P) (.node (o639v0 P) (.nil) (.nil)) (.nil))) (.node (o191v0 P) (.node (o319v0 P) (.node (o575v0 P) (.nil) (.nil)) (.nil)) (.node (o447v0 P) (.node (o703v0 P) (.nil) (.nil)) (.nil)))) (.node (o95v0 P) (.node (o159v0 P) (.node (o287v0 P) (.node (o543v0 P) (.nil) (.nil)) (.nil)) (.node (o415v0 P) (.node (o671v0 P) (.nil) (.nil)) (.nil))) (.node (o223v0 P) (.node (o351v0 P) (.node (o607v0 P) (.nil) (.nil)) (.nil)) (.node (o479v0 P) (.node (o735v0 P) (.nil) (.nil)) (.nil))))) (.node (o47v0 P) (.node (o79v0 P) (.node (o143v0 P) (.node (o271v0 P) (.node (o527v0 P) (.nil) (.nil)) (.nil)) (.node (o399v0 P) (.node (o655v0 P) (.nil) (.nil)) (.nil))) (.node (o207v0 P) (.node (o335v0 P) (.node (o591v0 P) (.nil) (.nil)) (.nil)) (.node (o463v0 P) (.node (o719v0 P) (.nil) (.nil)) (.nil)))) (.node (o111v0 P) (.node (o175v0 P) (.node (o303v0 P) (.node (o559v0 P) (.nil) (.nil)) (.nil)) (.node (o431v0 P) (.node (o687v0 P) (.nil) (.nil)) (.nil))) (.node (o239v0 P) (.node (o367v0 P) (.node (o623v0 P) (.nil) (.nil)) (.nil)) (.node (o495v0 P) (.nil) (.nil)))))) (.node (o23v0 P) (.node (o39v0 P) (.node (o71v0 P) (.node (o135v0 P) (.node (o263v0 P) (.node (o519v0 P) (.nil) (.nil)) (.nil)) (.node (o391v0 P) (.node (o647v0 P) (.nil) (.nil)) (.nil))) (.node (o199v0 P) (.node (o327v0 P) (.node (o583v0 P) (.nil) (.nil)) (.nil)) (.node (o455v0 P) (.node (o711v0 P) (.nil) (.nil)) (.nil)))) (.node (o103v0 P) (.node (o167v0 P) (.node (o295v0 P) (.node (o551v0 P) (.nil) (.nil)) (.nil)) (.node (o423v0 P) (.node (o679v0 P) (.nil) (.nil)) (.nil))) (.node (o231v0 P) (.node (o359v0 P) (.node (o615v0 P) (.nil) (.nil)) (.nil)) (.node (o487v0 P) (.nil) (.nil))))) (.node (o55v0 P) (.node (o87v0 P) (.node (o151v0 P) (.node (o279v0 P) (.node (o535v0 P) (.nil) (.nil)) (.nil)) (.node (o407v0 P) (.node (o663v0 P) (.nil) (.nil)) (.nil))) (.node (o215v0 P) (.node (o343v0 P) (.node (o599v0 P) (.nil) (.nil)) (.nil)) (.node (o471v0 P) (.node (o727v0 P) (.nil) (.nil)) (.nil)))) (.node (o119v0 P) (.node (o183v0 P) (.node (o311v0 P) (.node (o567v0 P) (.nil) (.nil)) (.nil)) (.node (o439v0 P) (.node (o695v0 P) (.nil) (.nil)) (.nil))) (.node (o247v0 P) (.node (o375v0 P) (.node (o631v0 P) (.nil) (.nil)) (.nil)) (.node (o503v0 P) (.nil) (.nil))))))) (.node (o11v0 P) (.node (o19v0 P) (.node (o35v0 P) (.node (o67v0 P) (.node (o131v0 P) (.node (o259v0 P) (.node (o515v0 P) (.nil) (.nil)) (.nil)) (.node (o387v0 P) (.node (o643v0 P) (.nil) (.nil)) (.nil))) (.node (o195v0 P) (.node (o323v0 P) (.node (o579v0 P) (.nil) (.nil)) (.nil)) (.node (o451v0 P) (.node (o707v0 P) (.nil) (.nil)) (.nil)))) (.node (o99v0 P) (.node (o163v0 P) (.node (o291v0 P) (.node (o547v0 P) (.nil) (.nil)) (.nil)) (.node (o419v0 P) (.node (o675v0 P) (.nil) (.nil)) (.nil))) (.node (o227v0 P) (.node (o355v0 P) (.node (o611v0 P) (.nil) (.nil)) (.nil)) (.node (o483v0 P) (.node (o739v0 P) (.nil) (.nil)) (.nil))))) (.node (o51v0 P) (.node (o83v0 P) (.node (o147v0 P) (.node (o275v0 P) (.node (o531v0 P) (.nil) (.nil)) (.nil)) (.node (o403v0 P) (.node (o659v0 P) (.nil) (.nil)) (.nil))) (.node (o211v0 P) (.node (o339v0 P) (.node (o595v0 P) (.nil) (.nil)) (.nil)) (.node (o467v0 P) (.node (o723v0 P) (.nil) (.nil)) (.nil)))) (.node (o115v0 P) (.node (o179v0 P) (.node (o307v0 P) (.node (o563v0 P) (.nil) (.nil)) (.nil)) (.node (o435v0 P) (.node (o691v0 P) (.nil) (.nil)) (.nil))) (.node (o243v0 P) (.node (o371v0 P) (.node (o627v0 P) (.nil) (.nil)) (.nil)) (.node (o499v0 P) (.nil) (.nil)))))) (.node (o27v0 P) (.node (o43v0 P) (.node (o75v0 P) (.node (o139v0 P) (.node (o267v0 P) (.node (o523v0 P) (.nil) (.nil)) (.nil)) (.node (o395v0 P) (.node (o651v0 P) (.nil) (.nil)) (.nil))) (.node (o203v0 P) (.node (o331v0 P) (.node (o587v0 P) (.nil) (.nil)) (.nil)) (.node (o459v0 P) (.node (o715v0 P) (.nil) (.nil)) (.nil)))) (.node (o107v0 P) (.node (o171v0 P) (.node (o299v0 P) (.node (o555v0 P) (.nil) (.nil)) (.nil)) (.node (o427v0 P) (.node (o683v0 P) (.nil) (.nil)) (.nil))) (.node (o235v0 P) (.node (o363v0 P) (.node (o619v0 P) (.nil) (.nil)) (.nil)) (.node (o491v0 P) (.nil) (.nil))))) (.node (o59v0 P) (.node (o91v0 P) (.node (o155v0 P) (.node (o283v0 P) (.node (o539v0 P) (.nil) (.nil)) (.nil)) (.node (o411v0 P) (.node (o667v0 P) (.nil) (.nil)) (.nil))) (.node (o219v0 P) (.node (o347v0 P) (.node (o603v0 P) (.nil) (.nil)) (.nil)) (.node (o475v0 P) (.node (o731v0 P) (.nil) (.nil)) (.nil)))) (.node (o123v0 P) (.node (o187v0 P) (.node (o315v0 P) (.node (o571v0 P) (.nil) (.nil)) (.nil)) (.node (o443v0 P) (.node (o699v0 P) (.nil) (.nil)) (.nil))) (.node (o251v0 P) (.node (o379v0 P) (.node (o635v0 P) (.nil) (.nil)) (.nil)) (.node (o507v0 P) (.nil) (.nil)))))))) (.node (o5v0 P) (.node (o9v0 P) (.node (o17v0 P) (.node (o33v0 P) (.node (o65v0 P) (.node (o129v0 P) (.node (o257v0 P) (.node (o513v0 P) (.nil) (.nil)) (.nil)) (.node (o385v0 P) (.node (o641v0 P) (.nil) (.nil)) (.nil))) (.node (o193v0 P) (.node (o321v0 P) (.node (o577v0 P) (.nil) (.nil)) (.nil)) (.node (o449v0 P) (.node (o705v0 P) (.nil) (.nil)) (.nil)))) (.node (o97v0 P) (.node (o161v0 P) (.node (o289v0 P) (.node (o545v0 P) (.nil) (.nil)) (.nil)) (.node (o417v0 P) (.node (o673v0 P) (.nil) (.nil)) (.nil))) (.node (o225v0 P) (.node (o353v0 P) (.node (o609v0 P) (.nil) (.nil)) (.nil)) (.node (o481v0 P) (.node (o737v0 P) (.nil) (.nil)) (.nil))))) (.node (o49v0 P) (.node (o81v0 P) (.node (o145v0 P) (.node (o273v0 P) (.node (o529v0 P) (.nil) (.nil)) (.nil)) (.node (o401v0 P) (.node (o657v0 P) (.nil) (.nil)) (.nil))) (.node (o209v0 P) (.node (o337v0 P) (.node (o593v0 P) (.nil) (.nil)) (.nil)) (.node (o465v0 P) (.node (o721v0 P) (.nil) (.nil)) (.nil)))) (.node (o113v0 P) (.node (o177v0 P) (.node (o305v0 P) (.node (o561v0 P) (.nil) (.nil)) (.nil)) (.node (o433v0 P) (.node (o689v0 P) (.nil) (.nil)) (.nil))) (.node (o241v0 P) (.node (o369v0 P) (.node (o625v0 P) (.nil) (.nil)) (.nil)) (.node (o497v0 P) (.nil) (.nil)))))) (.node (o25v0 P) (.node (o41v0 P) (.node (o73v0 P) (.node (o137v0 P) (.node (o265v0 P) (.node (o521v0 P) (.nil) (.nil)) (.nil)) (.node (o393v0 P) (.node (o649v0 P) (.nil) (.nil)) (.nil))) (.node (o201v0 P) (.node (o329v0 P) (.node (o585v0 P) (.nil) (.nil)) (.nil)) (.node (o457v0 P) (.node (o713v0 P) (.nil) (.nil)) (.nil)))) (.node (o105v0 P) (.node (o169v0 P) (.node (o297v0 P) (.node (o553v0 P) (.nil) (.nil)) (.nil)) (.node (o425v0 P) (.node (o681v0 P) (.nil) (.nil)) (.nil))) (.node (o233v0 P) (.node (o361v0 P) (.node (o617v0 P) (.nil) (.nil)) (.nil)) (.node (o489v0 P) (.nil) (.nil))))) (.node (o57v0 P) (.node (o89v0 P) (.node (o153v0 P) (.node (o281v0 P) (.node (o537v0 P) (.nil) (.nil)) (.nil)) (.node (o409v0 P) (.node (o665v0 P) (.nil) (.nil)) (.nil))) (.node (o217v0 P) (.node (o345v0 P) (.node (o601v0 P) (.nil) (.nil)) (.nil)) (.node (o473v0 P) (.node (o729v0 P) (.nil) (.nil)) (.nil)))) (.node (o121v0 P) (.node (o185v0 P) (.node (o313v0 P) (.node (o569v0 P) (.nil) (.nil)) (.nil)) (.node (o441v0 P) (.node (o697v0 P) (.nil) (.nil)) (.nil))) (.node (o249v0 P) (.node (o377v0 P) (.node (o633v0 P) (.nil) (.nil)) (.nil)) (.node (o505v0 P) (.nil) (.nil))))))) (.node (o13v0 P) (.node (o21v0 P) (.node (o37v0 P) (.node (o69v0 P) (.node (o133v0 P) (.node (o261v0 P) (.node (o517v0 P) (.nil) (.nil)) (.nil)) (.node (o389v0 P) (.node (o645v0 P) (.nil) (.nil)) (.nil))) (.node (o197v0 P) (.node (o325v0 P) (.node (o581v0 P) (.nil) (.nil)) (.nil)) (.node (o453v0 P) (.node (o709v0 P) (.nil) (.nil)) (.nil)))) (.node (o101v0 P) (.node (o165v0 P) (.node (o293v0 P) (.node (o549v0 P) (.nil) (.nil)) (.nil)) (.node (o421v0 P) (.node (o677v0 P) (.nil) (.nil)) (.nil))) (.node (o229v0 P) (.node (o357v0 P) (.node (o613v0 P) (.nil) (.nil)) (.nil)) (.node (o485v0 P) (.nil) (.nil))))) (.node (o53v0 P) (.node (o85v0 P) (.node (o149v0 P) (.node (o277v0 P) (.node (o533v0 P) (.nil) (.nil)) (.nil)) (.node (o405v0 P) (.node (o661v0 P) (.nil) (.nil)) (.nil))) (.node (o213v0 P) (.node (o341v0 P) (.node (o597v0 P) (.nil) (.nil)) (.nil)) (.node (o469v0 P) (.node (o725v0 P) (.nil) (.nil)) (.nil)))) (.node (o117v0 P) (.node (o181v0 P) (.node (o309v0 P) (.node (o565v0 P) (.nil) (.nil)) (.nil)) (.node (o437v0 P) (.node (o693v0 P) (.nil) (.nil)) (.nil))) (.node (o245v0 P) (.node (o373v0 P) (.node (o629v0 P) (.nil) (.nil)) (.nil)) (.node (o501v0 P) (.nil) (.nil)))))) (.node (o29v0 P) (.node (o45v0 P) (.node (o77v0 P) (.node (o141v0 P) (.node (o269v0 P) (.node (o525v0 P) (.nil) (.nil)) (.nil)) (.node (o397v0 P) (.node (o653v0 P) (.nil) (.nil)) (.nil))) (.node (o205v0 P) (.node (o333v0 P) (.node (o589v0 P) (.nil) (.nil)) (.nil)) (.node (o461v0 P) (.node (o717v0 P) (.nil) (.nil)) (.nil)))) (.node (o109v0 P) (.node (o173v0 P) (.node (o301v0 P) (.node (o557v0 P) (.nil) (.nil)) (.nil)) (.node (o429v0 P) (.node (o685v0 P) (.nil) (.nil)) (.nil))) (.node (o237v0 P) (.node (o365v0 P) (.node (o621v0 P) (.nil) (.nil)) (.nil)) (.node (o493v0 P) (.nil) (.nil))))) (.node (o61v0 P) (.node (o93v0 P) (.node (o157v0 P) (.node (o285v0 P) (.node (o541v0 P) (.nil) (.nil)) (.nil)) (.node (o413v0 P) (.node (o669v0 P) (.nil) (.nil)) (.nil))) (.node (o221v0 P) (.node (o349v0 P) (.node (o605v0 P) (.nil) (.nil)) (.nil)) (.node (o477v0 P) (.node (o733v0 P) (.nil) (.nil)) (.nil)))) (.node (o125v0 P) (.node (o189v0 P) (.node (o317v0 P) (.node (o573v0 P) (.nil) (.nil)) (.nil)) (.node (o445v0 P) (.node (o701v0 P) (.nil) (.nil)) (.nil))) (.node (o253v0 P) (.node (o381v0 P) (.node (o637v0 P) (.nil) (.nil)) (.nil)) (.node (o509v0 P) (.nil) (.nil))))))))) (.node (o2v0 P) (.node (o4v0 P) (.node (o8v0 P) (.node (o16v0 P) (.node (o32v0 P) (.node (o64v0 P) (.node (o128v0 P) (.node (o256v0 P) (.node (o512v0 P) (.nil) (.nil)) (.nil)) (.node (o384v0 P) (.node (o640v0 P) (.nil) (.nil)) (.nil))) (.node (o192v0 P) (.node (o320v0 P) (.node (o576v0 P) (.nil) (.nil)) (.nil)) (.node (o448v0 P) (.node (o704v0 P) (.nil) (.nil)) (.nil)))) (.node (o96v0 P) (.node (o160v0 P) (.node (o288v0 P) (.node (o544v0 P) (.nil) (.nil)) (.nil)) (.node (o416v0 P) (.node (o672v0 P) (.nil) (.nil)) (.nil))) (.node (o224v0 P) (.node (o352v0 P) (.node (o608v0 P) (.nil) (.nil)) (.nil)) (.node (o480v0 P) (.node (o736v0 P) (.nil) (.nil)) (.nil))))) (.node (o48v0 P) (.node (o80v0 P) (.node (o144v0 P) (.node (o272v0 P) (.node (o528v0 P) (.nil) (.nil)) (.nil)) (.node (o400v0 P) (.node (o656v0 P) (.nil) (.nil)) (.nil))) (.node (o208v0 P) (.node (o336v0 P) (.node (o592v0 P) (.nil) (.nil)) (.nil)) (.node (o464v0 P) (.node (o720v0 P) (.nil) (.nil)) (.nil)))) (.node (o112v0 P) (.node (o176v0 P) (.node (o304v0 P) (.node (o560v0 P) (.nil) (.nil)) (.nil)) (.node (o432v0 P) (.node (o688v0 P) (.nil) (.nil)) (.nil))) (.node (o240v0 P) (.node (o368v0 P) (.node (o624v0 P) (.nil) (.nil)) (.nil)) (.node (o496v0 P) (.nil) (.nil)))))) (.node (o24v0 P) (.node (o40v0 P) (.node (o72v0 P) (.node (o136v0 P) (.node (o264v0 P) (.node (o520v0 P) (.nil) (.nil)) (.nil)) (.node (o392v0 P) (.node (o648v0 P) (.nil) (.nil)) (.nil))) (.node (o200v0 P) (.node (o328v0 P) (.node (o584v0 P) (.nil) (.nil)) (.nil)) (.node (o456v0 P) (.node (o712v0 P) (.nil) (.nil)) (.nil)))) (.node (o104v0 P) (.node (o168v0 P) (.node (o296v0 P) (.node (o552v0 P) (.nil) (.nil)) (.nil)) (.node (o424v0 P) (.node (o680v0 P) (.nil) (.nil)) (.nil))) (.node (o232v0 P) (.node (o360v0 P) (.node (o616v0 P) (.nil) (.nil)) (.nil)) (.node (o488v0 P) (.nil) (.nil))))) (.node (o56v0 P) (.node (o88v0 P) (.node (o152v0 P) (.node (o280v0 P) (.node (o536v0 P) (.nil) (.nil)) (.nil)) (.node (o408v0 P) (.node (o664v0 P) (.nil) (.nil)) (.nil))) (.node (o216v0 P) (.node (o344v0 P) (.node (o600v0 P) (.nil) (.nil)) (.nil)) (.node (o472v0 P) (.node (o728v0 P) (.nil) (.nil)) (.nil)))) (.node (o120v0 P) (.node (o184v0 P) (.node (o312v0 P) (.node (o568v0 P) (.nil) (.nil)) (.nil)) (.node (o440v0 P) (.node (o696v0 P) (.nil) (.nil)) (.nil))) (.node (o248v0 P) (.node (o376v0 P) (.node (o632v0 P) (.nil) (.nil)) (.nil)) (.node (o504v0 P) (.nil) (.nil))))))) (.node (o12v3 P) (.node (o20v0 P) (.node (o36v0 P) (.node (o68v0 P) (.node (o132v0 P) (.node (o260v0 P) (.node (o516v0 P) (.nil) (.nil)) (.nil)) (.node (o388v0 P) (.node (o644v0 P) (.nil) (.nil)) (.nil))) (.node (o196v0 P) (.node (o324v0 P) (.node (o580v0 P) (.nil) (.nil)) (.nil)) (.node (o452v0 P) (.node (o708v0 P) (.nil) (.nil)) (.nil)))) (.node (o100v0 P) (.node (o164v0 P) (.node (o292v0 P) (.node (o548v0 P) (.nil) (.nil)) (.nil)) (.node (o420v0 P) (.node (o676v0 P) (.nil) (.nil)) (.nil))) (.node (o228v0 P) (.node (o356v0 P) (.node (o612v0 P) (.nil) (.nil)) (.nil)) (.node (o484v0 P) (.node (o740v0 P) (.nil) (.nil)) (.nil))))) (.node (o52v0 P) (.node (o84v0 P) (.node (o148v0 P) (.node (o276v0 P) (.node (o532v0 P) (.nil) (.nil)) (.nil)) (.node (o404v0 P) (.node (o660v0 P) (.nil) (.nil)) (.nil))) (.node (o212v0 P) (.node (o340v0 P) (.node (o596v0 P) (.nil) (.nil)) (.nil)) (.node (o468v0 P) (.node (o724v0 P) (.nil) (.nil)) (.nil)))) (.node (o116v0 P) (.node (o180v0 P) (.node (o308v0 P) (.node (o564v0 P) (.nil) (.nil)) (.nil)) (.node (o436v0 P) (.node (o692v0 P) (.nil) (.nil)) (.nil))) (.node (o244v0 P) (.node (o372v0 P) (.node (o628v0 P) (.nil) (.nil)) (.nil)) (.node (o500v0 P) (.nil) (.nil)))))) (.node (o28v0 P) (.node (o44v0 P) (.node (o76v0 P) (.node (o140v0 P) (.node (o268v0 P) (.node (o524v0 P) (.nil) (.nil)) (.nil)) (.node (o396v0 P) (.node (o652v0 P) (.nil) (.nil)) (.nil))) (.node (o204v0 P) (.node (o332v0 P) (.node (o588v0 P) (.nil) (.nil)) (.nil)) (.node (o460v0 P) (.node (o716v0 P) (.nil) (.nil)) (.nil)))) (.node (o108v0 P) (.node (o172v0 P) (.node (o300v0 P) (.node (o556v0 P) (.nil) (.nil)) (.nil)) (.node (o428v0 P) (.node (o684v1 P) (.nil) (.nil)) (.nil))) (.node (o236v0 P) (.node (o364v0 P) (.node (o620v0 P) (.nil) (.nil)) (.nil)) (.node (o492v0 P) (.nil) (.nil))))) (.node (o60v0 P) (.node (o92v0 P) (.node (o156v0 P) (.node (o284v0 P) (.node (o540v0 P) (.nil) (.nil)) (.nil)) (.node (o412v0 P) (.node (o668v0 P) (.nil) (.nil)) (.nil))) (.node (o220v0 P) (.node (o348v0 P) (.node (o604v0 P) (.nil) (.nil)) (.nil)) (.node (o476v0 P) (.node (o732v0 P) (.nil) (.nil)) (.nil)))) (.node (o124v0 P) (.node (o188v0 P) (.node (o316v0 P) (.node (o572v0 P) (.nil) (.nil)) (.nil)) (.node (o444v0 P) (.node (o700v0 P) (.nil) (.nil)) (.nil))) (.node (o252v0 P) (.node (o380v0 P) (.node (o636v0 P) (.nil) (.nil)) (.nil)) (.node (o508v0 P) (.nil) (.nil)))))))) (.node (o6v0 P) (.node (o10v0 P) (.node (o18v0 P) (.node (o34v0 P) (.node (o66v0 P) (.node (o130v0 P) (.node (o258v0 P) (.node (o514v0 P) (.nil) (.nil)) (.nil)) (.node (o386v0 P) (.node (o642v0 P) (.nil) (.nil)) (.nil))) (.node (o194v0 P) (.node (o322v0 P) (.node (o578v0 P) (.nil) (.nil)) (.nil)) (.node (o450v0 P) (.node (o706v0 P) (.nil) (.nil)) (.nil)))) (.node (o98v0 P) (.node (o162v0 P) (.node (o290v0 P) (.node (o546v0 P) (.nil) (.nil)) (.nil)) (.node (o418v0 P) (.node (o674v0 P) (.nil) (.nil)) (.nil))) (.node (o226v0 P) (.node (o354v0 P) (.node (o610v0 P) (.nil) (.nil)) (.nil)) (.node (o482v0 P) (.node (o738v0 P) (.nil) (.nil)) (.nil))))) (.node (o50v0 P) (.node (o82v0 P) (.node (o146v0 P) (.node (o274v0 P) (.node (o530v0 P) (.nil) (.nil)) (.nil)) (.node (o402v0 P) (.node (o658v0 P) (.nil) (.nil)) (.nil))) (.node (o210v0 P) (.node (o338v0 P) (.node (o594v0 P) (.nil) (.nil)) (.nil)) (.node (o466v0 P) (.node (o722v0 P) (.nil) (.nil)) (.nil)))) (.node (o114v0 P) (.node (o178v0 P) (.node (o306v0 P) (.node (o562v0 P) (.nil) (.nil)) (.nil)) (.node (o434v0 P) (.node (o690v0 P) (.nil) (.nil)) (.nil))) (.node (o242v0 P) (.node (o370v0 P) (.node (o626v0 P) (.nil) (.nil)) (.nil)) (.node (o498v0 P) (.nil) (.nil)))))) (.node (o26v0 P) (.node (o42v0 P) (.node (o74v0 P) (.node (o138v0 P) (.node (o266v0 P) (.node (o522v0 P) (.nil) (.nil)) (.nil)) (.node (o394v0 P) (.node (o650v0 P) (.nil) (.nil)) (.nil))) (.node (o202v0 P) (.node (o330v0 P) (.node (o586v0 P) (.nil) (.nil)) (.nil)) (.node (o458v0 P) (.node (o714v0 P) (.nil) (.nil)) (.nil)))) (.node (o106v0 P) (.node (o170v0 P) (.node (o298v0 P) (.node (o554v0 P) (.nil) (.nil)) (.nil)) (.node (o426v0 P) (.node (o682v0 P) (.nil) (.nil)) (.nil))) (.node (o234v0 P) (.node (o362v0 P) (.node (o618v0 P) (.nil) (.nil)) (.nil)) (.node (o490v0 P) (.nil) (.nil))))) (.node (o58v0 P) (.node (o90v0 P) (.node (o154v0 P) (.node (o282v0 P) (.node (o538v0 P) (.nil) (.nil)) (.nil)) (.node (o410v0 P) (.node (o666v0 P) (.nil) (.nil)) (.nil))) (.node (o218v0 P) (.node (o346v0 P) (.node (o602v0 P) (.nil) (.nil)) (.nil)) (.node (o474v0 P) (.node (o730v0 P) (.nil) (.nil)) (.nil)))) (.node (o122v0 P) (.node (o186v0 P) (.node (o314v0 P) (.node (o570v0 P) (.nil) (.nil)) (.nil)) (.node (o442v0 P) (.node (o698v0 P) (.nil) (.nil)) (.nil))) (.node (o250v0 P) (.node (o378v0 P) (.node (o634v0 P) (.nil) (.nil)) (.nil)) (.node (o506v0 P) (.nil) (.nil))))))) (.node (o14v0 P) (.node (o22v0 P) (.node (o38v0 P) (.node (o70v0 P) (.node (o134v0 P) (.node (o262v0 P) (.node (o518v0 P) (.nil) (.nil)) (.nil)) (.node (o390v0 P) (.node (o646v0 P) (.nil) (.nil)) (.nil))) (.node (o198v0 P) (.node (o326v0 P) (.node (o582v0 P) (.nil) (.nil)) (.nil)) (.node (o454v0 P) (.node (o710v0 P) (.nil) (.nil)) (.nil)))) (.node (o102v0 P) (.node (o166v0 P) (.node (o294v0 P) (.node (o550v0 P) (.nil) (.nil)) (.nil)) (.node (o422v0 P) (.node (o678v0 P) (.nil) (.nil)) (.nil))) (.node (o230v0 P) (.node (o358v0 P) (.node (o614v0 P) (.nil) (.nil)) (.nil)) (.node (o486v0 P) (.nil) (.nil))))) (.node (o54v0 P) (.node (o86v0 P) (.node (o150v0 P) (.node (o278v0 P) (.node (o534v0 P) (.nil) (.nil)) (.nil)) (.node (o406v0 P) (.node (o662v0 P) (.nil) (.nil)) (.nil))) (.node (o214v0 P) (.node (o342v0 P) (.node (o598v0 P) (.nil) (.nil)) (.nil)) (.node (o470v0 P) (.node (o726v0 P) (.nil) (.nil)) (.nil)))) (.node (o118v0 P) (.node (o182v0 P) (.node (o310v0 P) (.node (o566v0 P) (.nil) (.nil)) (.nil)) (.node (o438v0 P) (.node (o694v0 P) (.nil) (.nil)) (.nil))) (.node (o246v0 P) (.node (o374v0 P) (.node (o630v0 P) (.nil) (.nil)) (.nil)) (.node (o502v0 P) (.nil) (.nil)))))) (.node (o30v0 P) (.node (o46v0 P) (.node (o78v0 P) (.node (o142v0 P) (.node (o270v0 P) (.node (o526v0 P) (.nil) (.nil)) (.nil)) (.node (o398v0 P) (.node (o654v0 P) (.nil) (.nil)) (.nil))) (.node (o206v0 P) (.node (o334v0 P) (.node (o590v0 P) (.nil) (.nil)) (.nil)) (.node (o462v0 P) (.node (o718v0 P) (.nil) (.nil)) (.nil)))) (.node (o110v0 P) (.node (o174v0 P) (.node (o302v0 P) (.node (o558v0 P) (.nil) (.nil)) (.nil)) (.node (o430v0 P) (.node (o686v0 P) (.nil) (.nil)) (.nil))) (.node (o238v0 P) (.node (o366v0 P) (.node (o622v0 P) (.nil) (.nil)) (.nil)) (.node (o494v0 P) (.nil) (.nil))))) (.node (o62v0 P) (.node (o94v0 P) (.node (o158v0 P) (.node (o286v0 P) (.node (o542v0 P) (.nil) (.nil)) (.nil)) (.node (o414v0 P) (.node (o670v0 P) (.nil) (.nil)) (.nil))) (.node (o222v0 P) (.node (o350v0 P) (.node (o606v0 P) (.nil) (.nil)) (.nil)) (.node (o478v0 P) (.node (o734v0 P) (.nil) (.nil)) (.nil)))) (.node (o126v0 P) (.node (o190v0 P) (.node (o318v0 P) (.node (o574v0 P) (.nil) (.nil)) (.nil)) (.node (o446v0 P) (.node (o702v0 P) (.nil) (.nil)) (.nil))) (.node (o254v0 P) (.node (o382v0 P) (.node (o638v0 P) (.nil) (.nil)) (.nil)) (.node (o510v0 P) (.nil) (.nil)))))))))
-- 25: size 741 toks 1204 pos ⟨401, 0, 401, 18⟩
noncomputable def T49 (P : Params) : BT := .node (o0v0 P) (.node (o1v0 P) (.node (o3v4 P) (.node (o7v0 P) (.node (o15v0 P) (.node (o31v0 P) (.node (o63v0 P) (.node (o127v0 P) (.node (o255v0 P) (.node (o511v0 P) (.nil) (.nil)) (.node (o767v0 P) (.nil) (.nil))) (.node (o383v0 P) (.node (o639v0 P) (.nil) (.nil)) (.nil))) (.node (o191v0 P) (.node (o319v0 P) (.node (o575v0 P) (.nil) (.nil)) (.node (o831v0 P) (.nil) (.nil))) (.node (o447v0 P) (.node (o703v0 P) (.nil) (.nil)) (.nil)))) (.node (o95v0 P) (.node (o159v0 P) (.node (o287v0 P) (.node (o543v0 P) (.nil) (.nil)) (.node (o799v0 P) (.nil) (.nil))) (.node (o415v0 P) (.node (o671v0 P) (.nil) (.nil)) (.nil))) (.node (o223v0 P) (.node (o351v0 P) (.node (o607v0 P) (.nil) (.nil)) (.node (o863v0 P) (.nil) (.nil))) (.node (o479v0 P) (.node (o735v0 P) (.nil) (.nil)) (.nil))))) (.node (o47v0 P) (.node (o79v0 P) (.node (o143v0 P) (.node (o271v0 P) (.node (o527v0 P) (.nil) (.nil)) (.node (o783v0 P) (.nil) (.nil))) (.node (o399v0 P) (.node (o655v0 P) (.nil) (.nil)) (.nil))) (.node (o207v0 P) (.node (o335v0 P) (.node (o591v0 P) (.nil) (.nil)) (.node (o847v0 P) (.nil) (.nil))) (.node (o463v0 P) (.node (o719v0 P) (.nil) (.nil)) (.nil)))) (.node (o111v0 P) (.node (o175v0 P) (.node (o303v0 P) (.node (o559v0 P) (.nil) (.nil)) (.node (o815v0 P) (.nil) (.nil))) (.node (o431v0 P) (.node (o687v0 P) (.nil) (.nil)) (.nil))) (.node (o239v0 P) (.node (o367v0 P) (.node (o623v0 P) (.nil) (.nil)) (.nil)) (.node (o495v0 P) (.node (o751v0 P) (.nil) (.nil)) (.nil)))))) (.node (o23v0 P) (.node (o39v0 P) (.node (o71v0 P) (.node (o135v0 P) (.node (o263v0 P) (.node (o519v0 P) (.nil) (.nil)) (.node (o775v0 P) (.nil) (.nil))) (.node (o391v0 P) (.node (o647v0 P) (.nil) (.nil)) (.nil))) (.node (o199v0 P) (.node (o327v0 P) (.node (o583v0 P) (.nil) (.nil)) (.node (o839v0 P) (.nil) (.nil))) (.node (o455v0 P) (.node (o711v0 P) (.nil) (.nil)) (.nil)))) (.node (o103v0 P) (.node (o167v0 P) (.node (o295v0 P) (.node (o551v0 P) (.nil) (.nil)) (.node (o807v0 P) (.nil) (.nil))) (.node (o423v0 P) (.node (o679v0 P) (.nil) (.nil)) (.nil))) (.node (o231v0 P) (.node (o359v0 P) (.node (o615v0 P) (.nil) (.nil)) (.nil)) (.node (o487v0 P) (.node (o743v0 P) (.nil) (.nil)) (.nil))))) (.node (o55v0 P) (.node (o87v0 P) (.node (o151v0 P) (.node (o279v0 P) (.node (o535v0 P) (.nil) (.nil)) (.node (o791v0 P) (.nil) (.nil))) (.node (o407v0 P) (.node (o663v0 P) (.nil) (.nil)) (.nil))) (.node (o215v0 P) (.node (o343v0 P) (.node (o599v0 P) (.nil) (.nil)) (.node (o855v0 P) (.nil) (.nil))) (.node (o471v0 P) (.node (o727v0 P) (.nil) (.nil)) (.nil)))) (.node (o119v0 P) (.node (o183v0 P) (.node (o311v0 P) (.node (o567v0 P) (.nil) (.nil)) (.node (o823v0 P) (.nil) (.nil))) (.node (o439v0 P) (.node (o695v0 P) (.nil) (.nil)) (.nil))) (.node (o247v0 P) (.node (o375v0 P) (.node (o631v0 P) (.nil) (.nil)) (.nil)) (.node (o503v0 P) (.node (o759v0 P) (.nil) (.nil)) (.nil))))))) (.node (o11v0 P) (.node (o19v0 P) (.node (o35v0 P) (.node (o67v0 P) (.node (o131v0 P) (.node (o259v0 P) (.node (o515v0 P) (.nil) (.nil)) (.node (o771v0 P) (.nil) (.nil))) (.node (o387v0 P) (.node (o643v0 P) (.nil) (.nil)) (.nil))) (.node (o195v0 P) (.node (o323v0 P) (.node (o579v0 P) (.nil) (.nil)) (.node (o835v0 P) (.nil) (.nil))) (.node (o451v0 P) (.node (o707v0 P) (.nil) (.nil)) (.nil)))) (.node (o99v0 P) (.node (o163v0 P) (.node (o291v0 P) (.node (o547v0 P) (.nil) (.nil)) (.node (o803v0 P) (.nil) (.nil))) (.node (o419v0 P) (.node (o675v0 P) (.nil) (.nil)) (.nil))) (.node (o227v0 P) (.node (o355v0 P) (.node (o611v0 P) (.nil) (.nil)) (.nil)) (.node (o483v0 P) (.node (o739v0 P) (.nil) (.nil)) (.nil))))) (.node (o51v0 P) (.node (o83v0 P) (.node (o147v0 P) (.node (o275v0 P) (.node (o531v0 P) (.nil) (.nil)) (.node (o787v0 P) (.nil) (.nil))) (.node (o403v0 P) (.node (o659v0 P) (.nil) (.nil)) (.nil))) (.node (o211v0 P) (.node (o339v0 P) (.node (o595v0 P) (.nil) (.nil)) (.node (o851v0 P) (.nil) (.nil))) (.node (o467v0 P) (.node (o723v0 P) (.nil) (.nil)) (.nil)))) (.node (o115v0 P) (.node (o179v0 P) (.node (o307v0 P) (.node (o563v0 P) (.nil) (.nil)) (.node (o819v0 P) (.nil) (.nil))) (.node (o435v0 P) (.node (o691v0 P) (.nil) (.nil)) (.nil))) (.node (o243v0 P) (.node (o371v0 P) (.node (o627v0 P) (.nil) (.nil)) (.nil)) (.node (o499v0 P) (.node (o755v0 P) (.nil) (.nil)) (.nil)))))) (.node (o27v0 P) (.node (o43v0 P) (.node (o75v0 P) (.node (o139v0 P) (.node (o267v0 P) (.node (o523v0 P) (.nil) (.nil)) (.node (o779v0 P) (.nil) (.nil))) (.node (o395v0 P) (.node (o651v0 P) (.nil) (.nil)) (.nil))) (.node (o203v0 P) (.node (o331v0 P) (.node (o587v0 P) (.nil) (.nil)) (.node (o843v0 P) (.nil) (.nil))) (.node (o459v0 P) (.node (o715v0 P) (.nil) (.nil)) (.nil)))) (.node (o107v0 P) (.node (o171v0 P) (.node (o299v0 P) (.node (o555v0 P) (.nil) (.nil)) (.node (o811v0 P) (.nil) (.nil))) (.node (o427v0 P) (.node (o683v0 P) (.nil) (.nil)) (.nil))) (.node (o235v0 P) (.node (o363v0 P) (.node (o619v0 P) (.nil) (.nil)) (.nil)) (.node (o491v0 P) (.node (o747v0 P) (.nil) (.nil)) (.nil))))) (.node (o59v0 P) (.node (o91v0 P) (.node (o155v0 P) (.node (o283v0 P) (.node (o539v0 P) (.nil) (.nil)) (.node (o795v0 P) (.nil) (.nil))) (.node (o411v0 P) (.node (o667v0 P) (.nil) (.nil)) (.nil))) (.node (o219v0 P) (.node (o347v0 P) (.node (o603v0 P) (.nil) (.nil)) (.node (o859v0 P) (.nil) (.nil))) (.node (o475v0 P) (.node (o731v0 P) (.nil) (.nil)) (.nil)))) (.node (o123v0 P) (.node (o187v0 P) (.node (o315v0 P) (.node (o571v0 P) (.nil) (.nil)) (.node (o827v0 P) (.nil) (.nil))) (.node (o443v0 P) (.node (o699v0 P) (.nil) (.nil)) (.nil))) (.node (o251v0 P) (.node (o379v0 P) (.node (o635v0 P) (.nil) (.nil)) (.nil)) (.node (o507v0 P) (.node (o763v0 P) (.nil) (.nil)) (.nil)))))))) (.node (o5v0 P) (.node (o9v0 P) (.node (o17v0 P) (.node (o33v0 P) (.node (o65v0 P) (.node (o129v0 P) (.node (o257v0 P) (.node (o513v0 P) (.nil) (.nil)) (.node (o769v0 P) (.nil) (.nil))) (.node (o385v0 P) (.node (o641v0 P) (.nil) (.nil)) (.nil))) (.node (o193v0 P) (.node (o321v0 P) (.node (o577v0 P) (.nil) (.nil)) (.node (o833v0 P) (.nil) (.nil))) (.node (o449v0 P) (.node (o705v0 P) (.nil) (.nil)) (.nil)))) (.node (o97v0 P) (.node (o161v0 P) (.node (o289v0 P) (.node (o545v0 P) (.nil) (.nil)) (.node (o801v0 P) (.nil) (.nil))) (.node (o417v0 P) (.node (o673v0 P) (.nil) (.nil)) (.nil))) (.node (o225v0 P) (.node (o353v0 P) (.node (o609v0 P) (.nil) (.nil)) (.node (o865v0 P) (.nil) (.nil))) (.node (o481v0 P) (.node (o737v0 P) (.nil) (.nil)) (.nil))))) (.node (o49v0 P) (.node (o81v0 P) (.node (o145v0 P) (.node (o273v0 P) (.node (o529v0 P) (.nil) (.nil)) (.node (o785v0 P) (.nil) (.nil))) (.node (o401v0 P) (.node (o657v0 P) (.nil) (.nil)) (.nil))) (.node (o209v0 P) (.node (o337v0 P) (.node (o593v0 P) (.nil) (.nil)) (.node (o849v0 P) (.nil) (.nil))) (.node (o465v0 P) (.node (o721v0 P) (.nil) (.nil)) (.nil)))) (.node (o113v0 P) (.node (o177v0 P) (.node (o305v0 P) (.node (o561v0 P) (.nil) (.nil)) (.node (o817v0 P) (.nil) (.nil))) (.node (o433v0 P) (.node (o689v0 P) (.nil) (.nil)) (.nil))) (.node (o241v0 P) (.node (o369v0 P) (.node (o625v0 P) (.nil) (.nil)) (.nil)) (.node (o497v0 P) (.node (o753v0 P) (.nil) (.nil)) (.nil)))))) (.node (o25v0 P) (.node (o41v0 P) (.node (o73v0 P) (.node (o137v0 P) (.node (o265v0 P) (.node (o521v0 P) (.nil) (.nil)) (.node (o777v0 P) (.nil) (.nil))) (.node (o393v0 P) (.node (o649v0 P) (.nil) (.nil)) (.nil))) (.node (o201v0 P) (.node (o329v0 P) (.node (o585v0 P) (.nil) (.nil)) (.node (o841v0 P) (.nil) (.nil))) (.node (o457v0 P) (.node (o713v0 P) (.nil) (.nil)) (.nil)))) (.node (o105v0 P) (.node (o169v0 P) (.node (o297v0 P) (.node (o553v0 P) (.nil) (.nil)) (.node (o809v0 P) (.nil) (.nil))) (.node (o425v0 P) (.node (o681v0 P) (.nil) (.nil)) (.nil))) (.node (o233v0 P) (.node (o361v0 P) (.node (o617v0 P) (.nil) (.nil)) (.nil)) (.node (o489v0 P) (.node (o745v0 P) (.nil) (.nil)) (.nil))))) (.node (o57v0 P) (.node (o89v0 P) (.node (o153v0 P) (.node (o281v0 P) (.node (o537v0 P) (.nil) (.nil)) (.node (o793v0 P) (.nil) (.nil))) (.node (o409v0 P) (.node (o665v0 P) (.nil) (.nil)) (.nil))) (.node (o217v0 P) (.node (o345v0 P) (.node (o601v0 P) (.nil) (.nil)) (.node (o857v0 P) (.nil) (.nil))) (.node (o473v0 P) (.node (o729v0 P) (.nil) (.nil)) (.nil)))) (.node (o121v0 P) (.node (o185v0 P) (.node (o313v0 P) (.node (o569v0 P) (.nil) (.nil)) (.node (o825v0 P) (.nil) (.nil))) (.node (o441v0 P) (.node (o697v0 P) (.nil) (.nil)) (.nil))) (.node (o249v0 P) (.node (o377v0 P) (.node (o633v0 P) (.nil) (.nil)) (.nil)) (.node (o505v0 P) (.node (o761v0 P) (.nil) (.nil)) (.nil))))))) (.node (o13v0 P) (.node (o21v0 P) (.node (o37v0 P) (.node (o69v0 P) (.node (o133v0 P) (.node (o261v0 P) (.node (o517v0 P) (.nil) (.nil)) (.node (o773v0 P) (.nil) (.nil))) (.node (o389v0 P) (.node (o645v0 P) (.nil) (.nil)) (.nil))) (.node (o197v0 P) (.node (o325v0 P) (.node (o581v0 P) (.nil) (.nil)) (.node (o837v0 P) (.nil) (.nil))) (.node (o453v0 P) (.node (o709v0 P) (.nil) (.nil)) (.nil)))) (.node (o101v0 P) (.node (o165v0 P) (.node (o293v0 P) (.node (o549v0 P) (.nil) (.nil)) (.node (o805v0 P) (.nil) (.nil))) (.node (o421v0 P) (.node (o677v0 P) (.nil) (.nil)) (.nil))) (.node (o229v0 P) (.node (o357v0 P) (.node (o613v0 P) (.nil) (.nil)) (.nil)) (.node (o485v0 P) (.node (o741v0 P) (.nil) (.nil)) (.nil))))) (.node (o53v0 P) (.node (o85v0 P) (.node (o149v0 P) (.node (o277v0 P) (.node (o533v0 P) (.nil) (.nil)) (.node (o789v0 P) (.nil) (.nil))) (.node (o405v0 P) (.node (o661v0 P) (.nil) (.nil)) (.nil))) (.node (o213v0 P) (.node (o341v0 P) (.node (o597v0 P) (.nil) (.nil)) (.node (o853v0 P) (.nil) (.nil))) (.node (o469v0 P) (.node (o725v0 P) (.nil) (.nil)) (.nil)))) (.node (o117v0 P) (.node (o181v0 P) (.node (o309v0 P) (.node (o565v0 P) (.nil) (.nil)) (.node (o821v0 P) (.nil) (.nil))) (.node (o437v0 P) (.node (o693v0 P) (.nil) (.nil)) (.nil))) (.node (o245v0 P) (.node (o373v0 P) (.node (o629v0 P) (.nil) (.nil)) (.nil)) (.node (o501v0 P) (.node (o757v0 P) (.nil) (.nil)) (.nil)))))) (.node (o29v0 P) (.node (o45v0 P) (.node (o77v0 P) (.node (o141v0 P) (.node (o269v0 P) (.node (o525v0 P) (.nil) (.nil)) (.node (o781v0 P) (.nil) (.nil))) (.node (o397v0 P) (.node (o653v0 P) (.nil) (.nil)) (.nil))) (.node (o205v0 P) (.node (o333v0 P) (.node (o589v0 P) (.nil) (.nil)) (.node (o845v0 P) (.nil) (.nil))) (.node (o461v0 P) (.node (o717v0 P) (.nil) (.nil)) (.nil)))) (.node (o109v0 P) (.node (o173v0 P) (.node (o301v0 P) (.node (o557v0 P) (.nil) (.nil)) (.node (o813v0 P) (.nil) (.nil))) (.node (o429v0 P) (.node (o685v0 P) (.nil) (.nil)) (.nil))) (.node (o237v0 P) (.node (o365v0 P) (.node (o621v0 P) (.nil) (.nil)) (.nil)) (.node (o493v0 P) (.node (o749v0 P) (.nil) (.nil)) (.nil))))) (.node (o61v0 P) (.node (o93v0 P) (.node (o157v0 P) (.node (o285v0 P) (.node (o541v0 P) (.nil) (.nil)) (.node (o797v0 P) (.nil) (.nil))) (.node (o413v0 P) (.node (o669v0 P) (.nil) (.nil)) (.nil))) (.node (o221v0 P) (.node (o349v0 P) (.node (o605v0 P) (.nil) (.nil)) (.node (o861v0 P) (.nil) (.nil))) (.node (o477v0 P) (.node (o733v0 P) (.nil) (.nil)) (.nil)))) (.node (o125v0 P) (.node (o189v0 P) (.node (o317v0 P) (.node (o573v0 P) (.nil) (.nil)) (.node (o829v0 P) (.nil) (.nil))) (.node (o445v0 P) (.node (o701v0 P) (.nil) (.nil)) (.nil))) (.node (o253v0 P) (.node (o381v0 P) (.node (o637v0 P) (.nil) (.nil)) (.nil)) (.node (o509v0 P) (.node (o765v0 P) (.nil) (.nil)) (.nil))))))))) (.node (o2v0 P) (.node (o4v0 P) (.node (o8v0 P) (.node (o16v0 P) (.node (o32v0 P) (.node (o64v0 P) (.node (o128v0 P) (.node (o256v0 P) (.node (o512v0 P) (.nil) (.nil)) (.node (o768v0 P) (.nil) (.nil))) (.node (o384v0 P) (.node (o640v0 P) (.nil) (.nil)) (.nil))) (.node (o192v0 P) (.node (o320v0 P) (.node (o576v0 P) (.nil) (.nil)) (.node (o832v0 P) (.nil) (.nil))) (.node (o448v0 P) (.node (o704v0 P) (.nil) (.nil)) (.nil)))) (.node (o96v0 P) (.node (o160v0 P) (.node (o288v0 P) (.node (o544v0 P) (.nil) (.nil)) (.node (o800v0 P) (.nil) (.nil))) (.node (o416v0 P) (.node (o672v0 P) (.nil) (.nil)) (.nil))) (.node (o224v0 P) (.node (o352v0 P) (.node (o608v0 P) (.nil) (.nil)) (.node (o864v0 P) (.nil) (.nil))) (.node (o480v0 P) (.node (o736v0 P) (.nil) (.nil)) (.nil))))) (.node (o48v0 P) (.node (o80v0 P) (.node (o144v0 P) (.node (o272v0 P) (.node (o528v0 P) (.nil) (.nil)) (.node (o784v0 P) (.nil) (.nil))) (.node (o400v0 P) (.node (o656v0 P) (.nil) (.nil)) (.nil))) (.node (o208v0 P) (.node (o336v0 P) (.node (o592v0 P) (.nil) (.nil)) (.node (o848v0 P) (.nil) (.nil))) (.node (o464v0 P) (.node (o720v0 P) (.nil) (.nil)) (.nil)))) (.node (o112v0 P) (.node (o176v0 P) (.node (o304v0 P) (.node (o560v0 P) (.nil) (.nil)) (.node (o816v0 P) (.nil) (.nil))) (.node (o432v0 P) (.node (o688v0 P) (.nil) (.nil)) (.nil))) (.node (o240v0 P) (.node (o368v0 P) (.node (o624v0 P) (.nil) (.nil)) (.nil)) (.node (o496v0 P) (.node (o752v0 P) (.nil) (.nil)) (.nil)))))) (.node (o24v0 P) (.node (o40v0 P) (.node (o72v0 P) (.node (o136v0 P) (.node (o264v0 P) (.node (o520v0 P) (.nil) (.nil)) (.node (o776v0 P) (.nil) (.nil))) (.node (o392v0 P) (.node (o648v0 P) (.nil) (.nil)) (.nil))) (.node (o200v0 P) (.node (o328v0 P) (.node (o584v0 P) (.nil) (.nil)) (.node (o840v0 P) (.nil) (.nil))) (.node (o456v0 P) (.node (o712v0 P) (.nil) (.nil)) (.nil)))) (.node (o104v0 P) (.node (o168v0 P) (.node (o296v0 P) (.node (o552v0 P) (.nil) (.nil)) (.node (o808v0 P) (.nil) (.nil))) (.node (o424v0 P) (.node (o680v0 P) (.nil) (.nil)) (.nil))) (.node (o232v0 P) (.node (o360v0 P) (.node (o616v0 P) (.nil) (.nil)) (.nil)) (.node (o488v0 P) (.node (o744v0 P) (.nil) (.nil)) (.nil))))) (.node (o56v0 P) (.node (o88v0 P) (.node (o152v0 P) (.node (o280v0 P) (.node (o536v0 P) (.nil) (.nil)) (.node (o792v0 P) (.nil) (.nil))) (.node (o408v0 P) (.node (o664v0 P) (.nil) (.nil)) (.nil))) (.node (o216v0 P) (.node (o344v0 P) (.node (o600v0 P) (.nil) (.nil)) (.node (o856v0 P) (.nil) (.nil))) (.node (o472v0 P) (.node (o728v0 P) (.nil) (.nil)) (.nil)))) (.node (o120v0 P) (.node (o184v0 P) (.node (o312v0 P) (.node (o568v0 P) (.nil) (.nil)) (.node (o824v0 P) (.nil) (.nil))) (.node (o440v0 P) (.node (o696v0 P) (.nil) (.nil)) (.nil))) (.node (o248v0 P) (.node (o376v0 P) (.node (o632v0 P) (.nil) (.nil)) (.nil)) (.node (o504v0 P) (.node (o760v0 P) (.nil) (.nil)) (.nil))))))) (.node (o12v4 P) (.node (o20v0 P) (.node (o36v0 P) (.node (o68v0 P) (.node (o132v0 P) (.node (o260v0 P) (.node (o516v0 P) (.nil) (.nil)) (.node (o772v0 P) (.nil) (.nil))) (.node (o388v0 P) (.node (o644v0 P) (.nil) (.nil)) (.nil))) (.node (o196v0 P) (.node (o324v0 P) (.node (o580v0 P) (.nil) (.nil)) (.node (o836v0 P) (.nil) (.nil))) (.node (o452v0 P) (.node (o708v0 P) (.nil) (.nil)) (.nil)))) (.node (o100v0 P) (.node (o164v0 P) (.node (o292v0 P) (.node (o548v0 P) (.nil) (.nil)) (.node (o804v0 P) (.nil) (.nil))) (.node (o420v0 P) (.node (o676v0 P) (.nil) (.nil)) (.nil))) (.node (o228v0 P) (.node (o356v0 P) (.node (o612v0 P) (.nil) (.nil)) (.nil)) (.node (o484v0 P) (.node (o740v0 P) (.nil) (.nil)) (.nil))))) (.node (o52v0 P) (.node (o84v0 P) (.node (o148v0 P) (.node (o276v0 P) (.node (o532v0 P) (.nil) (.nil)) (.node (o788v0 P) (.nil) (.nil))) (.node (o404v0 P) (.node (o660v0 P) (.nil) (.nil)) (.nil))) (.node (o212v0 P) (.node (o340v0 P) (.node (o596v0 P) (.nil) (.nil)) (.node (o852v0 P) (.nil) (.nil))) (.node (o468v0 P) (.node (o724v0 P) (.nil) (.nil)) (.nil)))) (.node (o116v0 P) (.node (o180v0 P) (.node (o308v0 P) (.node (o564v0 P) (.nil) (.nil)) (.node (o820v0 P) (.nil) (.nil))) (.node (o436v0 P) (.node (o692v0 P) (.nil) (.nil)) (.nil))) (.node (o244v0 P) (.node (o372v0 P) (.node (o628v0 P) (.nil) (.nil)) (.nil)) (.node (o500v0 P) (.node (o756v0 P) (.nil) (.nil)) (.nil)))))) (.node (o28v0 P) (.node (o44v0 P) (.node (o76v0 P) (.node (o140v0 P) (.node (o268v0 P) (.node (o524v0 P) (.nil) (.nil)) (.node (o780v0 P) (.nil) (.nil))) (.node (o396v0 P) (.node (o652v0 P) (.nil) (.nil)) (.nil))) (.node (o204v0 P) (.node (o332v0 P) (.node (o588v0 P) (.nil) (.nil)) (.node (o844v0 P) (.nil) (.nil))) (.node (o460v0 P) (.node (o716v0 P) (.nil) (.nil)) (.nil)))) (.node (o108v0 P) (.node (o172v0 P) (.node (o300v0 P) (.node (o556v0 P) (.nil) (.nil)) (.node (o812v0 P) (.nil) (.nil))) (.node (o428v0 P) (.node (o684v1 P) (.nil) (.nil)) (.nil))) (.node (o236v0 P) (.node (o364v0 P) (.node (o620v0 P) (.nil) (.nil)) (.nil)) (.node (o492v0 P) (.node (o748v0 P) (.nil) (.nil)) (.nil))))) (.node (o60v0 P) (.node (o92v0 P) (.node (o156v0 P) (.node (o284v0 P) (.node (o540v0 P) (.nil) (.nil)) (.node (o796v0 P) (.nil) (.nil))) (.node (o412v0 P) (.node (o668v0 P) (.nil) (.nil)) (.nil))) (.node (o220v0 P) (.node (o348v0 P) (.node (o604v0 P) (.nil) (.nil)) (.node (o860v0 P) (.nil) (.nil))) (.node (o476v0 P) (.node (o732v0 P) (.nil) (.nil)) (.nil)))) (.node (o124v0 P) (.node (o188v0 P) (.node (o316v0 P) (.node (o572v0 P) (.nil) (.nil)) (.node (o828v0 P) (.nil) (.nil))) (.node (o444v0 P) (.node (o700v0 P) (.nil) (.nil)) (.nil))) (.node (o252v0 P) (.node (o380v0 P) (.node (o636v0 P) (.nil) (.nil)) (.nil)) (.node (o508v0 P) (.node (o764v0 P) (.nil) (.nil)) (.nil)))))))) (.node (o6v0 P) (.node (o10v0 P) (.node (o18v0 P) (.node (o34v0 P) (.node (o66v0 P) (.node (o130v0 P) (.node (o258v0 P) (.node (o514v0 P) (.nil) (.nil)) (.node (o770v0 P) (.nil) (.nil))) (.node (o386v0 P) (.node (o642v0 P) (.nil) (.nil)) (.nil))) (.node (o194v0 P) (.node (o322v0 P) (.node (o578v0 P) (.nil) (.nil)) (.node (o834v0 P) (.nil) (.nil))) (.node (o450v0 P) (.node (o706v0 P) (.nil) (.nil)) (.nil)))) (.node (o98v0 P) (.node (o162v0 P) (.node (o290v0 P) (.node (o546v0 P) (.nil) (.nil)) (.node (o802v0 P) (.nil) (.nil))) (.node (o418v0 P) (.node (o674v0 P) (.nil) (.nil)) (.nil))) (.node (o226v0 P) (.node (o354v0 P) (.node (o610v0 P) (.nil) (.nil)) (.node (o866v0 P) (.nil) (.nil))) (.node (o482v0 P) (.node (o738v0 P) (.nil) (.nil)) (.nil))))) (.node (o50v0 P) (.node (o82v0 P) (.node (o146v0 P) (.node (o274v0 P) (.node (o530v0 P) (.nil) (.nil)) (.node (o786v0 P) (.nil) (.nil))) (.node (o402v0 P) (.node (o658v0 P) (.nil) (.nil)) (.nil))) (.node (o210v0 P) (.node (o338v0 P) (.node (o594v0 P) (.nil) (.nil)) (.node (o850v0 P) (.nil) (.nil))) (.node (o466v0 P) (.node (o722v0 P) (.nil) (.nil)) (.nil)))) (.node (o114v0 P) (.node (o178v0 P) (.node (o306v0 P) (.node (o562v0 P) (.nil) (.nil)) (.node (o818v0 P) (.nil) (.nil))) (.node (o434v0 P) (.node (o690v0 P) (.nil) (.nil)) (.nil))) (.node (o242v0 P) (.node (o370v0 P) (.node (o626v0 P) (.nil) (.nil)) (.nil)) (.node (o498v0 P) (.node (o754v0 P) (.nil) (.nil)) (.nil)))))) (.node (o26v0 P) (.node (o42v0 P) (.node (o74v0 P) (.node (o138v0 P) (.node (o266v0 P) (.node (o522v0 P) (.nil) (.nil)) (.node (o778v0 P) (.nil) (.nil))) (.node (o394v0 P) (.node (o650v0 P) (.nil) (.nil)) (.nil))) (.node (o202v0 P) (.node (o330v0 P) (.node (o586v0 P) (.nil) (.nil)) (.node (o842v0 P) (.nil) (.nil))) (.node (o458v0 P) (.node (o714v0 P) (.nil) (.nil)) (.nil)))) (.node (o106v0 P) (.node (o170v0 P) (.node (o298v0 P) (.node (o554v0 P) (.nil) (.nil)) (.node (o810v0 P) (.nil) (.nil))) (.node (o426v0 P) (.node (o682v0 P) (.nil) (.nil)) (.nil))) (.node (o234v0 P) (.node (o362v0 P) (.node (o618v0 P) (.nil) (.nil)) (.nil)) (.node (o490v0 P) (.node (o746v0 P) (.nil) (.nil)) (.nil))))) (.node (o58v0 P) (.node (o90v0 P) (.node (o154v0 P) (.node (o282v0 P) (.node (o538v0 P) (.nil) (.nil)) (.node (o794v0 P) (.nil) (.nil))) (.node (o410v0 P) (.node (o666v0 P) (.nil) (.nil)) (.nil))) (.node (o218v0 P) (.node (o346v0 P) (.node (o602v0 P) (.nil) (.nil)) (.node (o858v0 P) (.nil) (.nil))) (.node (o474v0 P) (.node (o730v0 P) (.nil) (.nil)) (.nil)))) (.node (o122v0 P) (.node (o186v0 P) (.node (o314v0 P) (.node (o570v0 P) (.nil) (.nil)) (.node (o826v0 P) (.nil) (.nil))) (.node (o442v0 P) (.node (o698v0 P) (.nil) (.nil)) (.nil))) (.node (o250v0 P) (.node (o378v0 P) (.node (o634v0 P) (.nil) (.nil)) (.nil)) (.node (o506v0 P) (.node (o762v0 P) (.nil) (.nil)) (.nil))))))) (.node (o14v0 P) (.node (o22v0 P) (.node (o38v0 P) (.node (o70v0 P) (.node (o134v0 P) (.node (o262v0 P) (.node (o518v0 P) (.nil) (.nil)) (.node (o774v0 P) (.nil) (.nil))) (.node (o390v0 P) (.node (o646v0 P) (.nil) (.nil)) (.nil))) (.node (o198v0 P) (.node (o326v0 P) (.node (o582v0 P) (.nil) (.nil)) (.node (o838v0 P) (.nil) (.nil))) (.node (o454v0 P) (.node (o710v0 P) (.nil) (.nil)) (.nil)))) (.node (o102v0 P) (.node (o166v0 P) (.node (o294v0 P) (.node (o550v0 P) (.nil) (.nil)) (.node (o806v0 P) (.nil) (.nil))) (.node (o422v0 P) (.node (o678v0 P) (.nil) (.nil)) (.nil))) (.node (o230v0 P) (.node (o358v0 P) (.node (o614v0 P) (.nil) (.nil)) (.nil)) (.node (o486v0 P) (.node (o742v0 P) (.nil) (.nil)) (.nil))))) (.node (o54v0 P) (.node (o86v0 P) (.node (o150v0 P) (.node (o278v0 P) (.node (o534v0 P) (.nil) (.nil)) (.node (o790v0 P) (.nil) (.nil))) (.node (o406v0 P) (.node (o662v0 P) (.nil) (.nil)) (.nil))) (.node (o214v0 P) (.node (o342v0 P) (.node (o598v0 P) (.nil) (.nil)) (.node (o854v0 P) (.nil) (.nil))) (.node (o470v0 P) (.node (o726v0 P) (.nil) (.nil)) (.nil)))) (.node (o118v0 P) (.node (o182v0 P) (.node (o310v0 P) (.node (o566v0 P) (.nil) (.nil)) (.node (o822v0 P) (.nil) (.nil))) (.node (o438v0 P) (.node (o694v0 P) (.nil) (.nil)) (.nil))) (.node (o246v0 P) (.node (o374v0 P) (.node (o630v0 P) (.nil) (.nil)) (.nil)) (.node (o502v0 P) (.node (o758v0 P) (.nil) (.nil)) (.nil)))))) (.node (o30v0 P) (.node (o46v0 P) (.node (o78v0 P) (.node (o142v0 P) (.node (o270v0 P) (.node (o526v0 P) (.nil) (.nil)) (.node (o782v0 P) (.nil) (.nil))) (.node (o398v0 P) (.node (o654v0 P) (.nil) (.nil)) (.nil))) (.node (o206v0 P) (.node (o334v0 P) (.node (o590v0 P) (.nil) (.nil)) (.node (o846v0 P) (.nil) (.nil))) (.node (o462v0 P) (.node (o718v0 P) (.nil) (.nil)) (.nil)))) (.node (o110v0 P) (.node (o174v0 P) (.node (o302v0 P) (.node (o558v0 P) (.nil) (.nil)) (.node (o814v0 P) (.nil) (.nil))) (.node (o430v0 P) (.node (o686v0 P) (.nil) (.nil)) (.nil))) (.node (o238v0 P) (.node (o366v0 P) (.node (o622v0 P) (.nil) (.nil)) (.nil)) (.node (o494v0 P) (.node (o750v0 P) (.nil) (.nil)) (.nil))))) (.node (o62v0 P) (.node (o94v0 P) (.node (o158v0 P) (.node (o286v0 P) (.node (o542v0 P) (.nil) (.nil)) (.node (o798v0 P) (.nil) (.nil))) (.node (o414v0 P) (.node (o670v0 P) (.nil) (.nil)) (.nil))) (.node (o222v0 P) (.node (o350v0 P) (.node (o606v0 P) (.nil) (.nil)) (.node (o862v0 P) (.nil) (.nil))) (.node (o478v0 P) (.node (o734v0 P) (.nil) (.nil)) (.nil)))) (.node (o126v0 P) (.node (o190v0 P) (.node (o318v0 P) (.node (o574v0 P) (.nil) (.nil)) (.node (o830v0 P) (.nil) (.nil))) (.node (o446v0 P) (.node (o702v0 P) (.nil) (.nil)) (.nil))) (.node (o254v0 P) (.node (o382v0 P) (.node (o638v0 P) (.nil) (.nil)) (.nil)) (.node (o510v0 P) (.node (o766v0 P) (.nil) (.nil)) (.nil)))))))))
-- 49: size 867 toks 1376 pos ⟨550, 0, 559, 76⟩
noncomputable def H1 (P : Params) : Heap := ⟨Array.mk [o0v0 P, o1v0 P, o2v0 P, o3v4 P, o4v0 P, o5v0 P, o6v0 P, o7v0 P, o8v0 P, o9v0 P, o10v0 P, o11v0 P, o12v4 P, o13v0 P, o14v0 P, o15v0 P, o16v0 P, o17v0 P, o18v0 P, o19v0 P, o20v0 P, o21v0 P, o22v0 P, o23v0 P, o24v0 P, o25v0 P, o26v0 P, o27v0 P, o28v0 P, o29v0 P, o30v0 P, o31v0 P, o32v0 P, o33v0 P, o34v0 P, o35v0 P, o36v0 P, o37v0 P, o38v0 P, o39v0 P, o40v0 P, o41v0 P, o42v0 P, o43v0 P, o44v0 P, o45v0 P, o46v0 P, o47v0 P, o48v0 P, o49v0 P, o50v0 P, o51v0 P, o52v0 P, o53v0 P, o54v0 P, o55v0 P, o56v0 P, o57v0 P, o58v0 P, o59v0 P, o60v0 P, o61v0 P, o62v0 P, o63v0 P, o64v0 P, o65v0 P, o66v0 P, o67v0 P, o68v0 P, o69v0 P, o70v0 P, o71v0 P, o72v0 P, o73v0 P, o74v0 P, o75v0 P, o76v0 P, o77v0 P, o78v0 P, o79v0 P, o80v0 P, o81v0 P, o82v0 P, o83v0 P, o84v0 P, o85v0 P, o86v0 P, o87v0 P, o88v0 P, o89v0 P, o90v0 P, o91v0 P, o92v0 P, o93v0 P, o94v0 P, o95v0 P, o96v0 P, o97v0 P, o98v0 P, o99v0 P, o100v0 P, o101v0 P, o102v0 P, o103v0 P, o104v0 P, o105v0 P, o106v0 P, o107v0 P, o108v0 P, o109v0 P, o110v0 P, o111v0 P, o112v0 P, o113v0 P, o114v0 P, o115v0 P, o116v0 P, o117v0 P, o118v0 P, o119v0 P, o120v0 P, o121v0 P, o122v0 P, o123v0 P, o124v0 P, o125v0 P, o126v0 P, o127v0 P, o128v0 P, o129v0 P, o130v0 P, o131v0 P, o132v0 P, o133v0 P, o134v0 P, o135v0 P, o136v0 P, o137v0 P, o138v0 P, o139v0 P, o140v0 P, o141v0 P, o142v0 P, o143v0 P, o144v0 P, o145v0 P, o146v0 P, o147v0 P, o148v0 P, o149v0 P, o150v0 P, o151v0 P, o152v0 P, o153v0 P, o154v0 P, o155v0 P, o156v0 P, o157v0 P, o158v0 P, o159v0 P, o160v0 P, o161v0 P, o162v0 P, o163v0 P, o164v0 P, o165v0 P, o166v0 P, o167v0 P, o168v0 P, o169v0 P, o170v0 P, o171v0 P, o172v0 P, o173v0 P, o174v0 P, o175v0 P, o176v0 P, o177v0 P, o178v0 P, o179v0 P, o180v0 P, o181v0 P, o182v0 P, o183v0 P, o184v0 P, o185v0 P, o186v0 P, o187v0 P, o188v0 P, o189v0 P, o190v0 P, o191v0 P, o192v0 P, o193v0 P, o194v0 P, o195v0 P, o196v0 P, o197v0 P, o198v0 P, o199v0 P, o200v0 P, o201v0 P, o202v0 P, o203v0 P, o204v0 P, o205v0 P, o206v0 P, o207v0 P, o208v0 P, o209v0 P, o210v0 P, o211v0 P, o212v0 P, o213v0 P, o214v0 P, o215v0 P, o216v0 P, o217v0 P, o218v0 P, o219v0 P, o220v0 P, o221v0 P, o222v0 P, o223v0 P, o224v0 P, o225v0 P, o226v0 P, o227v0 P, o228v0 P, o229v0 P, o230v0 P, o231v0 P, o232v0 P, o233v0 P, o234v0 P, o235v0 P, o236v0 P, o237v0 P, o238v0 P, o239v0 P, o240v0 P, o241v0 P, o242v0 P, o243v0 P, o244v0 P, o245v0 P, o246v0 P, o247v0 P, o248v0 P, o249v0 P, o250v0 P, o251v0 P, o252v0 P, o253v0 P, o254v0 P, o255v0 P, o256v0 P, o257v0 P, o258v0 P, o259v0 P, o260v0 P, o261v0 P, o262v0 P, o263v0 P, o264v0 P, o265v0 P, o266v0 P, o267v0 P, o268v0 P, o269v0 P, o270v0 P, o271v0 P, o272v0 P, o273v0 P, o274v0 P, o275v0 P, o276v0 P, o277v0 P, o278v0 P, o279v0 P, o280v0 P, o281v0 P, o282v0 P, o283v0 P, o284v0 P, o285v0 P, o286v0 P, o287v0 P, o288v0 P, o289v0 P, o290v0 P, o291v0 P, o292v0 P, o293v0 P, o294v0 P, o295v0 P, o296v0 P, o297v0 P, o298v0 P, o299v0 P, o300v0 P, o301v0 P, o302v0 P, o303v0 P, o304v0 P, o305v0 P, o306v0 P, o307v0 P, o308v0 P, o309v0 P, o310v0 P, o311v0 P, o312v0 P, o313v0 P, o314v0 P, o315v0 P, o316v0 P, o317v0 P, o318v0 P, o319v0 P, o320v0 P, o321v0 P, o322v0 P, o323v0 P, o324v0 P, o325v0 P, o326v0 P, o327v0 P, o328v0 P, o329v0 P, o330v0 P, o331v0 P, o332v0 P, o333v0 P, o334v0 P, o335v0 P, o336v0 P, o337v0 P, o338v0 P, o339v0 P, o340v0 P, o341v0 P, o342v0 P, o343v0 P, o344v0 P, o345v0 P, o346v0 P, o347v0 P, o348v0 P, o349v0 P, o350v0 P, o351v0 P, o352v0 P, o353v0 P, o354v0 P, o355v0 P, o356v0 P, o357v0 P, o358v0 P, o359v0 P, o360v0 P, o361v0 P, o362v0 P, o363v0 P, o364v0 P, o365v0 P, o366v0 P, o367v0 P, o368v0 P, o369v0 P, o370v0 P, o371v0 P, o372v0 P, o373v0 P, o374v0 P, o375v0 P, o376v0 P, o377v0 P, o378v0 P, o379v0 P, o380v0 P, o381v0 P, o382v0 P, o383v0 P, o384v0 P, o385v0 P, o386v0 P, o387v0 P, o388v0 P, o389v0 P, o390v0 P, o391v0 P, o392v0 P, o393v0 P, o394v0 P, o395v0 P, o396v0 P, o397v0 P, o398v0 P, o399v0 P, o400v0 P, o401v0 P, o402v0 P, o403v0 P, o404v0 P, o405v0 P, o406v0 P, o407v0 P, o408v0 P, o409v0 P, o410v0 P, o411v0 P, o412v0 P, o413v0 P, o414v0 P, o415v0 P, o416v0 P, o417v0 P, o418v0 P, o419v0 P, o420v0 P, o421v0 P, o422v0 P, o423v0 P, o424v0 P, o425v0 P, o426v0 P, o427v0 P, o428v0 P, o429v0 P, o430v0 P, o431v0 P, o432v0 P, o433v0 P, o434v0 P, o435v0 P, o436v0 P, o437v0 P, o438v0 P, o439v0 P, o440v0 P, o441v0 P, o442v0 P, o443v0 P, o444v0 P, o445v0 P, o446v0 P, o447v0 P, o448v0 P, o449v0 P, o450v0 P, o451v0 P, o452v0 P, o453v0 P, o454v0 P, o455v0 P, o456v0 P, o457v0 P, o458v0 P, o459v0 P, o460v0 P, o461v0 P, o462v0 P, o463v0 P, o464v0 P, o465v0 P, o466v0 P, o467v0 P, o468v0 P, o469v0 P, o470v0 P, o471v0 P, o472v0 P, o473v0 P, o474v0 P, o475v0 P, o476v0 P, o477v0 P, o478v0 P, o479v0 P, o480v0 P, o481v0 P, o482v0 P, o483v0 P, o484v0 P, o485v0 P, o486v0 P, o487v0 P, o488v0 P, o489v0 P, o490v0 P, o491v0 P, o492v0 P, o493v0 P, o494v0 P, o495v0 P, o496v0 P, o497v0 P, o498v0 P, o499v0 P, o500v0 P, o501v0 P, o502v0 P, o503v0 P, o504v0 P, o505v0 P, o506v0 P, o507v0 P, o508v0 P, o509v0 P, o510v0 P, o511v0 P, o512v0 P, o513v0 P, o514v0 P, o515v0 P, o516v0 P, o517v0 P, o518v0 P, o519v0 P, o520v0 P, o521v0 P, o522v0 P, o523v0 P, o524v0 P, o525v0 P, o526v0 P, o527v0 P, o528v0 P, o529v0 P, o530v0 P, o531v0 P, o532v0 P, o533v0 P, o534v0 P, o535v0 P, o536v0 P, o537v0 P, o538v0 P, o539v0 P, o540v0 P, o541v0 P, o542v0 P, o543v0 P, o544v0 P, o545v0 P, o546v0 P, o547v0 P, o548v0 P, o549v0 P, o550v0 P, o551v0 P, o552v0 P, o553v0 P, o554v0 P, o555v0 P, o556v0 P, o557v0 P, o558v0 P, o559v0 P, o560v0 P, o561v0 P, o562v0 P, o563v0 P, o564v0 P, o565v0 P, o566v0 P, o567v0 P, o568v0 P, o569v0 P, o570v0 P, o571v0 P, o572v0 P, o573v0 P, o574v0 P, o575v0 P, o576v0 P, o577v0 P, o578v0 P, o579v0 P, o580v0 P, o581v0 P, o582v0 P, o583v0 P, o584v0 P, o585v0 P, o586v0 P, o587v0 P, o588v0 P, o589v0 P, o590v0 P, o591v0 P, o592v0 P, o593v0 P, o594v0 P, o595v0 P, o596v0 P, o597v0 P, o598v0 P, o599v0 P, o600v0 P, o601v0 P, o602v0 P, o603v0 P, o604v0 P, o605v0 P, o606v0 P, o607v0 P, o608v0 P, o609v0 P, o610v0 P, o611v0 P, o612v0 P, o613v0 P, o614v0 P, o615v0 P, o616v0 P, o617v0 P, o618v0 P, o619v0 P, o620v0 P, o621v0 P, o622v0 P, o623v0 P, o624v0 P, o625v0 P, o626v0 P, o627v0 P, o628v0 P, o629v0 P, o630v0 P, o631v0 P, o632v0 P, o633v0 P, o634v0 P, o635v0 P, o636v0 P, o637v0 P, o638v0 P, o639v0 P, o640v0 P, o641v0 P, o642v0 P, o643v0 P, o644v0 P, o645v0 P, o646v0 P, o647v0 P, o648v0 P, o649v0 P, o650v0 P, o651v0 P, o652v0 P, o653v0 P, o654v0 P, o655v0 P, o656v0 P, o657v0 P, o658v0 P, o659v0 P, o660v0 P, o661v0 P, o662v0 P, o663v0 P, o664v0 P, o665v0 P, o666v0 P, o667v0 P, o668v0 P, o669v0 P, o670v0 P, o671v0 P, o672v0 P, o673v0 P, o674v0 P, o675v0 P, o676v0 P, o677v0 P, o678v0 P, o679v0 P, o680v0 P, o681v0 P, o682v0 P, o683v0 P, o684v1 P, o685v0 P, o686v0 P, o687v0 P, o688v0 P, o689v0 P, o690v0 P, o691v0 P, o692v0 P, o693v0 P, o694v0 P, o695v0 P, o696v0 P, o697v0 P, o698v0 P, o699v0 P, o700v0 P, o701v0 P, o702v0 P, o703v0 P, o704v0 P, o705v0 P, o706v0 P, o707v0 P, o708v0 P, o709v0 P, o710v0 P, o711v0 P, o712v0 P, o713v0 P, o714v0 P, o715v0 P, o716v0 P, o717v0 P, o718v0 P, o719v0 P, o720v0 P, o721v0 P, o722v0 P, o723v0 P, o724v0 P, o725v0 P, o726v0 P, o727v0 P, o728v0 P, o729v0 P, o730v0 P, o731v0 P, o732v0 P, o733v0 P, o734v0 P, o735v0 P, o736v0 P, o737v0 P, o738v0 P, o739v0 P, o740v0 P, o741v0 P, o742v0 P, o743v0 P, o744v0 P, o745v0 P, o746v0 P, o747v0 P, o748v0 P, o749v0 P, o750v0 P, o751v0 P, o752v0 P, o753v0 P, o754v0 P, o755v0 P, o756v0 P, o757v0 P, o758v0 P, o759v0 P, o760v0 P, o761v0 P, o762v0 P, o763v0 P, o764v0 P, o765v0 P, o766v0 P, o767v0 P, o768v0 P, o769v0 P, o770v0 P, o771v0 P, o772v0 P, o773v0 P, o774v0 P, o775v0 P, o776v0 P, o777v0 P, o778v0 P, o779v0 P, o780v0 P, o781v0 P, o782v0 P, o783v0 P, o784v0 P, o785v0 P, o786v0 P, o787v0 P, o788v0 P, o789v0 P, o790v0 P, o791v0 P, o792v0 P, o793v0 P, o794v0 P, o795v0 P, o796v0 P, o797v0 P, o798v0 P, o799v0 P, o800v0 P, o801v0 P, o802v0 P, o803v0 P, o804v0 P, o805v0 P, o806v0 P, o807v0 P, o808v0 P, o809v0 P, o810v0 P, o811v0 P, o812v0 P, o813v0 P, o814v0 P, o815v0 P, o816v0 P, o817v0 P, o818v0 P, o819v0 P, o820v0 P, o821v0 P, o822v0 P, o823v0 P, o824v0 P, o825v0 P, o826v0 P, o827v0 P, o828v0 P, o829v0 P, o830v0 P, o831v0 P, o832v0 P, o833v0 P, o834v0 P, o835v0 P, o836v0 P, o837v0 P, o838v0 P, o839v0 P, o840v0 P, o841v0 P, o842v0 P, o843v0 P, o844v0 P, o845v0 P, o846v0 P, o847v0 P, o848v0 P, o849v0 P, o850v0 P, o851v0 P, o852v0 P, o853v0 P, o854v0 P, o855v0 P, o856v0 P, o857v0 P, o858v0 P, o859v0 P, o860v0 P, o861v0 P, o862v0 P, o863v0 P, o864v0 P, o865v0 P, o866v0 P], {}⟩
noncomputable def KT (P : Params) : Frag := [(2, o2v0 P), (3, o3v4 P), (15, o15v0 P), (17, o17v0 P), (18, o18v0 P), (20, o20v0 P), (21, o21v0 P), (22, o22v0 P), (24, o24v0 P), (25, o25v0 P), (27, o27v0 P), (28, o28v0 P), (29, o29v0 P), (31, o31v0 P), (32, o32v0 P), (34, o34v0 P), (35, o35v0 P), (36, o36v0 P), (38, o38v0 P), (39, o39v0 P), (41, o41v0 P), (42, o42v0 P), (43, o43v0 P), (45, o45v0 P), (46, o46v0 P), (48, o48v0 P), (49, o49v0 P), (50, o50v0 P), (52, o52v0 P), (53, o53v0 P), (55, o55v0 P), (56, o56v0 P), (57, o57v0 P), (59, o59v0 P), (60, o60v0 P), (62, o62v0 P), (63, o63v0 P), (64, o64v0 P), (66, o66v0 P), (67, o67v0 P), (69, o69v0 P), (70, o70v0 P), (71, o71v0 P), (73, o73v0 P), (74, o74v0 P), (76, o76v0 P), (77, o77v0 P), (78, o78v0 P), (80, o80v0 P), (81, o81v0 P), (83, o83v0 P), (84, o84v0 P), (85, o85v0 P), (87, o87v0 P), (88, o88v0 P), (90, o90v0 P), (91, o91v0 P), (92, o92v0 P), (94, o94v0 P), (95, o95v0 P), (97, o97v0 P), (98, o98v0 P), (99, o99v0 P), (107, o107v0 P), (108, o108v0 P), (110, o110v0 P), (111, o111v0 P), (113, o113v0 P), (114, o114v0 P), (115, o115v0 P), (117, o117v0 P), (118, o118v0 P), (120, o120v0 P), (121, o121v0 P), (122, o122v0 P), (124, o124v0 P), (125, o125v0 P), (127, o127v0 P), (128, o128v0 P), (129, o129v0 P), (131, o131v0 P), (132, o132v0 P), (134, o134v0 P), (135, o135v0 P), (136, o136v0 P), (138, o138v0 P), (139, o139v0 P), (141, o141v0 P), (142, o142v0 P), (143, o143v0 P), (145, o145v0 P), (146, o146v0 P), (148, o148v0 P), (149, o149v0 P), (150, o150v0 P), (152, o152v0 P), (153, o153v0 P), (155, o155v0 P), (156, o156v0 P), (157, o157v0 P), (159, o159v0 P), (160, o160v0 P), (162, o162v0 P), (163, o163v0 P), (164, o164v0 P), (166, o166v0 P), (167, o167v0 P), (169, o169v0 P), (170, o170v0 P), (171, o171v0 P), (173, o173v0 P), (174, o174v0 P), (176, o176v0 P), (177, o177v0 P), (178, o178v0 P), (180, o180v0 P), (181, o181v0 P), (183, o183v0 P), (184, o184v0 P), (185, o185v0 P), (187, o187v0 P), (188, o188v0 P), (190, o190v0 P), (191, o191v0 P), (192, o192v0 P), (194, o194v0 P), (195, o195v0 P), (197, o197v0 P), (198, o198v0 P), (199, o199v0 P), (201, o201v0 P), (202, o202v0 P), (204, o204v0 P), (205, o205v0 P), (206, o206v0 P), (208, o208v0 P), (209, o209v0 P), (211, o211v0 P), (212, o212v0 P), (213, o213v0 P), (215, o215v0 P), (216, o216v0 P), (218, o218v0 P), (219, o219v0 P), (220, o220v0 P), (222, o222v0 P), (223, o223v0 P), (225, o225v0 P), (226, o226v0 P), (227, o227v0 P), (229, o229v0 P), (230, o230v0 P), (232, o232v0 P), (233, o233v0 P), (234, o234v0 P), (236, o236v0 P), (237, o237v0 P), (239, o239v0 P), (240, o240v0 P), (241, o241v0 P), (242, o242v0 P), (244, o244v0 P), (245, o245v0 P), (247, o247v0 P), (248, o248v0 P), (249, o249v0 P), (251, o251v0 P), (252, o252v0 P), (254, o254v0 P), (255, o255v0 P), (256, o256v0 P), (258, o258v0 P), (259, o259v0 P), (261, o261v0 P), (262, o262v0 P), (263, o263v0 P), (265, o265v0 P), (266, o266v0 P), (268, o268v0 P), (269, o269v0 P), (270, o270v0 P), (272, o272v0 P), (273, o273v0 P), (275, o275v0 P), (276, o276v0 P), (277, o277v0 P), (279, o279v0 P), (280, o280v0 P), (281, o281v0 P), (282, o282v0 P), (285, o285v0 P), (288, o288v0 P), (293, o293v0 P), (294, o294v0 P), (296, o296v0 P), (297, o297v0 P), (299, o299v0 P), (300, o300v0 P), (301, o301v0 P), (303, o303v0 P), (304, o304v0 P), (306, o306v0 P), (307, o307v0 P), (308, o308v0 P), (310, o310v0 P), (311, o311v0 P), (313, o313v0 P), (314, o314v0 P), (315, o315v0 P), (317, o317v0 P), (318, o318v0 P), (320, o320v0 P), (321, o321v0 P), (322, o322v0 P), (324, o324v0 P), (325, o325v0 P), (327, o327v0 P), (328, o328v0 P), (329, o329v0 P), (331, o331v0 P), (332, o332v0 P), (334, o334v0 P), (335, o335v0 P), (336, o336v0 P), (338, o338v0 P), (339, o339v0 P), (341, o341v0 P), (342, o342v0 P), (343, o343v0 P), (345, o345v0 P), (346, o346v0 P), (348, o348v0 P), (349, o349v0 P), (350, o350v0 P), (352, o352v0 P), (353, o353v0 P), (355, o355v0 P), (356, o356v0 P), (357, o357v0 P), (359, o359v0 P), (360, o360v0 P), (362, o362v0 P), (363, o363v0 P), (364, o364v0 P), (366, o366v0 P), (367, o367v0 P), (369, o369v0 P), (370, o370v0 P), (371, o371v0 P), (373, o373v0 P), (374, o374v0 P), (376, o376v0 P), (377, o377v0 P), (378, o378v0 P), (380, o380v0 P), (381, o381v0 P), (383, o383v0 P), (384, o384v0 P), (385, o385v0 P), (387, o387v0 P), (388, o388v0 P), (390, o390v0 P), (391, o391v0 P), (392, o392v0 P), (394, o394v0 P), (395, o395v0 P), (397, o397v0 P), (398, o398v0 P), (399, o399v0 P), (401, o401v0 P), (402, o402v0 P), (404, o404v0 P), (405, o405v0 P), (406, o406v0 P), (408, o408v0 P), (409, o409v0 P), (411, o411v0 P), (412, o412v0 P), (413, o413v0 P), (415, o415v0 P), (416, o416v0 P), (418, o418v0 P), (419, o419v0 P), (420, o420v0 P), (422, o422v0 P), (423, o423v0 P), (425, o425v0 P), (426, o426v0 P), (427, o427v0 P), (429, o429v0 P), (430, o430v0 P), (432, o432v0 P), (433, o433v0 P), (434, o434v0 P), (436, o436v0 P), (437, o437v0 P), (439, o439v0 P), (440, o440v0 P), (441, o441v0 P), (443, o443v0 P), (444, o444v0 P), (446, o446v0 P), (447, o447v0 P), (448, o448v0 P), (449, o449v0 P), (451, o451v0 P), (452, o452v0 P), (454, o454v0 P), (455, o455v0 P), (456, o456v0 P), (458, o458v0 P), (459, o459v0 P), (461, o461v0 P), (462, o462v0 P), (463, o463v0 P), (464, o464v0 P), (466, o466v0 P), (467, o467v0 P), (469, o469v0 P), (470, o470v0 P), (471, o471v0 P), (472, o472v0 P), (474, o474v0 P), (475, o475v0 P), (477, o477v0 P), (478, o478v0 P), (479, o479v0 P), (480, o480v0 P), (482, o482v0 P), (483, o483v0 P), (485, o485v0 P), (486, o486v0 P), (487, o487v0 P), (489, o489v0 P), (490, o490v0 P), (492, o492v0 P), (493, o493v0 P), (494, o494v0 P), (495, o495v0 P), (496, o496v0 P), (497, o497v0 P), (507, o507v0 P), (509, o509v0 P), (510, o510v0 P), (512, o512v0 P), (513, o513v0 P), (514, o514v0 P), (515, o515v0 P), (517, o517v0 P), (518, o518v0 P), (520, o520v0 P), (521, o521v0 P), (522, o522v0 P), (524, o524v0 P), (525, o525v0 P), (527, o527v0 P), (528, o528v0 P), (529, o529v0 P), (531, o531v0 P), (532, o532v0 P), (534, o534v0 P), (535, o535v0 P), (536, o536v0 P), (537, o537v0 P), (538, o538v0 P), (539, o539v0 P), (540, o540v0 P), (550, o550v0 P), (551, o551v0 P), (552, o552v0 P), (553, o553v0 P), (554, o554v0 P), (555, o555v0 P), (556, o556v0 P), (557, o557v0 P), (559, o559v0 P), (560, o560v0 P), (562, o562v0 P), (563, o563v0 P), (564, o564v0 P), (566, o566v0 P), (567, o567v0 P), (569, o569v0 P), (570, o570v0 P), (571, o571v0 P), (572, o572v0 P), (573, o573v0 P), (574, o574v0 P), (576, o576v0 P), (577, o577v0 P), (579, o579v0 P), (580, o580v0 P), (581, o581v0 P), (583, o583v0 P), (584, o584v0 P), (586, o586v0 P), (587, o587v0 P), (588, o588v0 P), (590, o590v0 P), (591, o591v0 P), (593, o593v0 P), (594, o594v0 P), (595, o595v0 P), (597, o597v0 P), (598, o598v0 P), (600, o600v0 P), (601, o601v0 P), (602, o602v0 P), (604, o604v0 P), (605, o605v0 P), (607, o607v0 P), (608, o608v0 P), (609, o609v0 P), (611, o611v0 P), (612, o612v0 P), (614, o614v0 P), (615, o615v0 P), (616, o616v0 P), (618, o618v0 P), (619, o619v0 P), (621, o621v0 P), (622, o622v0 P), (623, o623v0 P), (625, o625v0 P), (626, o626v0 P), (628, o628v0 P), (629, o629v0 P), (630, o630v0 P), (632, o632v0 P), (633, o633v0 P), (635, o635v0 P), (636, o636v0 P), (637, o637v0 P), (639, o639v0 P), (640, o640v0 P), (642, o642v0 P), (643, o643v0 P), (644, o644v0 P), (646, o646v0 P), (647, o647v0 P), (649, o649v0 P), (650, o650v0 P), (651, o651v0 P), (652, o652v0 P), (654, o654v0 P), (655, o655v0 P), (657, o657v0 P), (661, o661v0 P), (662, o662v0 P), (663, o663v0 P), (664, o664v0 P), (665, o665v0 P), (672, o672v0 P), (679, o679v0 P), (680, o680v0 P), (684, o684v1 P), (685, o685v0 P), (709, o709v0 P), (710, o710v0 P), (711, o711v0 P), (712, o712v0 P), (713, o713v0 P), (714, o714v0 P), (715, o715v0 P), (716, o716v0 P), (729, o729v0 P), (733, o733v0 P), (737, o737v0 P), (741, o741v0 P), (743, o743v0 P), (744, o744v0 P), (746, o746v0 P), (747, o747v0 P), (748, o748v0 P), (750, o750v0 P), (751, o751v0 P), (753, o753v0 P), (754, o754v0 P), (755, o755v0 P), (757, o757v0 P), (758, o758v0 P), (760, o760v0 P), (761, o761v0 P), (762, o762v0 P), (764, o764v0 P), (765, o765v0 P), (767, o767v0 P), (768, o768v0 P), (769, o769v0 P), (771, o771v0 P), (772, o772v0 P), (774, o774v0 P), (775, o775v0 P), (776, o776v0 P), (778, o778v0 P), (779, o779v0 P), (781, o781v0 P), (782, o782v0 P), (783, o783v0 P), (785, o785v0 P), (786, o786v0 P), (788, o788v0 P), (789, o789v0 P), (790, o790v0 P), (793, o793v0 P), (794, o794v0 P), (795, o795v0 P), (798, o798v0 P), (799, o799v0 P), (800, o800v0 P), (801, o801v0 P), (803, o803v0 P), (804, o804v0 P), (806, o806v0 P), (807, o807v0 P), (808, o808v0 P), (811, o811v0 P), (812, o812v0 P), (813, o813v0 P), (816, o816v0 P), (817, o817v0 P), (818, o818v0 P), (821, o821v0 P), (822, o822v0 P), (823, o823v0 P), (825, o825v0 P), (826, o826v0 P), (828, o828v0 P), (829, o829v0 P), (830, o830v0 P), (833, o833v0 P), (834, o834v0 P), (835, o835v0 P), (838, o838v0 P), (839, o839v0 P), (840, o840v0 P), (843, o843v0 P), (844, o844v0 P), (845, o845v0 P), (848, o848v0 P), (849, o849v0 P), (850, o850v0 P), (852, o852v0 P), (853, o853v0 P), (855, o855v0 P), (856, o856v0 P), (857, o857v0 P), (860, o860v0 P), (861, o861v0 P), (862, o862v0 P), (865, o865v0 P), (866, o866v0 P)]
def KA : List Addr := [2, 3, 15, 17, 18, 20, 21, 22, 24, 25, 27, 28, 29, 31, 32, 34, 35, 36, 38, 39, 41, 42, 43, 45, 46, 48, 49, 50, 52, 53, 55, 56, 57, 59, 60, 62, 63, 64, 66, 67, 69, 70, 71, 73, 74, 76, 77, 78, 80, 81, 83, 84, 85, 87, 88, 90, 91, 92, 94, 95, 97, 98, 99, 107, 108, 110, 111, 113, 114, 115, 117, 118, 120, 121, 122, 124, 125, 127, 128, 129, 131, 132, 134, 135, 136, 138, 139, 141, 142, 143, 145, 146, 148, 149, 150, 152, 153, 155, 156, 157, 159, 160, 162, 163, 164, 166, 167, 169, 170, 171, 173, 174, 176, 177, 178, 180, 181, 183, 184, 185, 187, 188, 190, 191, 192, 194, 195, 197, 198, 199, 201, 202, 204, 205, 206, 208, 209, 211, 212, 213, 215, 216, 218, 219, 220, 222, 223, 225, 226, 227, 229, 230, 232, 233, 234, 236, 237, 239, 240, 241, 242, 244, 245, 247, 248, 249, 251, 252, 254, 255, 256, 258, 259, 261, 262, 263, 265, 266, 268, 269, 270, 272, 273, 275, 276, 277, 279, 280, 281, 282, 285, 288, 293, 294, 296, 297, 299, 300, 301, 303, 304, 306, 307, 308, 310, 311, 313, 314, 315, 317, 318, 320, 321, 322, 324, 325, 327, 328, 329, 331, 332, 334, 335, 336, 338, 339, 341, 342, 343, 345, 346, 348, 349, 350, 352, 353, 355, 356, 357, 359, 360, 362, 363, 364, 366, 367, 369, 370, 371, 373, 374, 376, 377, 378, 380, 381, 383, 384, 385, 387, 388, 390, 391, 392, 394, 395, 397, 398, 399, 401, 402, 404, 405, 406, 408, 409, 411, 412, 413, 415, 416, 418, 419, 420, 422, 423, 425, 426, 427, 429, 430, 432, 433, 434, 436, 437, 439, 440, 441, 443, 444, 446, 447, 448, 449, 451, 452, 454, 455, 456, 458, 459, 461, 462, 463, 464, 466, 467, 469, 470, 471, 472, 474, 475, 477, 478, 479, 480, 482, 483, 485, 486, 487, 489, 490, 492, 493, 494, 495, 496, 497, 507, 509, 510, 512, 513, 514, 515, 517, 518, 520, 521, 522, 524, 525, 527, 528, 529, 531, 532, 534, 535, 536, 537, 538, 539, 540, 550, 551, 552, 553, 554, 555, 556, 557, 559, 560, 562, 563, 564, 566, 567, 569, 570, 571, 572, 573, 574, 576, 577, 579, 580, 581, 583, 584, 586, 587, 588, 590, 591, 593, 594, 595, 597, 598, 600, 601, 602, 604, 605, 607, 608, 609, 611, 612, 614, 615, 616, 618, 619, 621, 622, 623, 625, 626, 628, 629, 630, 632, 633, 635, 636, 637, 639, 640, 642, 643, 644, 646, 647, 649, 650, 651, 652, 654, 655, 657, 661, 662, 663, 664, 665, 672, 679, 680, 684, 685, 709, 710, 711, 712, 713, 714, 715, 716, 729, 733, 737, 741, 743, 744, 746, 747, 748, 750, 751, 753, 754, 755, 757, 758, 760, 761, 762, 764, 765, 767, 768, 769, 771, 772, 774, 775, 776, 778, 779, 781, 782, 783, 785, 786, 788, 789, 790, 793, 794, 795, 798, 799, 800, 801, 803, 804, 806, 807, 808, 811, 812, 813, 816, 817, 818, 821, 822, 823, 825, 826, 828, 829, 830, 833, 834, 835, 838, 839, 840, 843, 844, 845, 848, 849, 850, 852, 853, 855, 856, 857, 860, 861, 862, 865, 866]

end Hd
namespace Hd
abbrev annV : Option Value := some (.ref 6)
noncomputable abbrev bX : List Stmt := behindTheImports pw
noncomputable abbrev envX : Env := { scope := pw.main.scope, locals := mainNs, globals := mainNs, cells := [], code := .ref 13, frame := some 14 }
noncomputable abbrev cX : Code := .body bX envX
abbrev pA : Pos := ⟨0, 0, 0, 0⟩
abbrev p18 : Pos := ⟨122, 0, 122, 13⟩
abbrev p20 : Pos := ⟨253, 0, 269, 90⟩
abbrev p24 : Pos := ⟨368, 0, 400, 56⟩
abbrev p25 : Pos := ⟨401, 0, 401, 18⟩
abbrev p49 : Pos := ⟨550, 0, 559, 76⟩
noncomputable def sts1 : List Stmt := bX.take 18
noncomputable def sts2 : List Stmt := (bX.drop 18).take 2
noncomputable def sts3 : List Stmt := (bX.drop 20).take 4
noncomputable def sts4 : List Stmt := (bX.drop 24).take 1
noncomputable def sts5 : List Stmt := bX.drop 25
noncomputable def St0 (w : World) (os : OsState) : SharedT := ⟨T0 w.params, 15, {}, #[], {}, 187, os⟩
noncomputable def St18 (w : World) (os : OsState) : SharedT := ⟨T18 w.params, 285, {}, #[], {}, 496, os⟩
noncomputable def St20 (w : World) (os : OsState) : SharedT := ⟨T20 w.params, 543, {}, #[], {}, 811, os⟩
noncomputable def St24 (w : World) (os : OsState) : SharedT := ⟨T24 w.params, 699, {}, #[], {}, 1059, os⟩
noncomputable def St25 (w : World) (os : OsState) : SharedT := ⟨T25 w.params, 741, {}, #[], {}, 1204, os⟩
noncomputable def St49 (w : World) (os : OsState) : SharedT := ⟨T49 w.params, 867, {}, #[], {}, 1376, os⟩
noncomputable def SBoot (w : World) (os : OsState) : Shared := ⟨boot_heap w.params, #[], boot_drawn, boot_toks, os⟩
noncomputable def SA (w : World) (os : OsState) : Shared := ⟨Ha w.params, #[], {}, 187, os⟩
noncomputable def SEnd (w : World) (os : OsState) : Shared := ⟨H1 w.params, #[], {}, 1376, os⟩
theorem bX_parts : bX = sts1 ++ (sts2 ++ (sts3 ++ (sts4 ++ (sts5 ++ [])))) := by kernel_rfl
theorem run_pre (w : World) (os : OsState) : topGo treeTable pw w 11 annV 12 (SBoot w os) (topStub pw) = some (SA w os, ⟨denote treeTable cX, cX, pA, [topFrame pA]⟩) := by
  rewrite [PySem.W.Fast.te15667345088766844465, PySem.W.Fast.te14364793385576792824, PySem.W.Fast.te11892475500146522536]
  kernel_rfl
theorem run_block (w : World) (os : OsState) : segRun treeTable pw w 11 annV 1 1 (SA w os) (blockOf bX envX cX pA [topFrame pA]) = some (.next, (St0 w os).abs, cX, pA) := by
  rewrite [PySem.W.Fast.te14374325043358763698]
  kernel_rfl
theorem run_1 (w : World) (os : OsState) : segRunT treeTable pw w 11 annV 1 1393 (St0 w os) (piecesOf sts1 envX cX pA [topFrame pA]) = some (.next, St18 w os, cX, p18) := by
  rewrite [PySem.W.Fast.te10110043849684766642, PySem.W.Fast.te14364793385576792824]
  kernel_rfl
theorem run_2 (w : World) (os : OsState) : segRunT treeTable pw w 11 annV 1 1511 (St18 w os) (piecesOf sts2 envX cX p18 [topFrame pA]) = some (.next, St20 w os, cX, p20) := by
  rewrite [PySem.W.Fast.te10110043849684766642, PySem.W.Fast.te14364793385576792824]
  kernel_rfl
def R3 (w : World) : Prop := ∀ os : OsState, segRunT treeTable pw w 11 annV 1 2116 (St20 w os) (piecesOf sts3 envX cX p20 [topFrame pA]) = some (.next, St24 w os, cX, p24)
theorem run_3f (w : World) : R3 (w.withFollow "special-get-raises" false) := by
  intro os
  rewrite [PySem.W.Fast.te10110043849684766642, PySem.W.Fast.te14364793385576792824]
  kernel_rfl
theorem run_3t (w : World) : R3 (w.withFollow "special-get-raises" true) := by
  intro os
  rewrite [PySem.W.Fast.te10110043849684766642, PySem.W.Fast.te14364793385576792824]
  kernel_rfl
theorem run_3 (w : World) : R3 w := byRow2 "special-get-raises" run_3f run_3t w
def R4 (w : World) : Prop := ∀ os : OsState, segRunT treeTable pw w 11 annV 1 2780 (St24 w os) (piecesOf sts4 envX cX p24 [topFrame pA]) = some (.next, St25 w os, cX, p25)
theorem run_4f (w : World) : R4 (w.withFollow "special-get-raises" false) := by
  intro os
  rewrite [PySem.W.Fast.te10110043849684766642, PySem.W.Fast.te14364793385576792824]
  kernel_rfl
theorem run_4t (w : World) : R4 (w.withFollow "special-get-raises" true) := by
  intro os
  rewrite [PySem.W.Fast.te10110043849684766642, PySem.W.Fast.te14364793385576792824]
  kernel_rfl
theorem run_4 (w : World) : R4 w := byRow2 "special-get-raises" run_4f run_4t w
def R5 (w : World) : Prop := ∀ os : OsState, segRunT treeTable pw w 11 annV 1 748 (St25 w os) (piecesOf sts5 envX cX p25 [topFrame pA]) = some (.next, St49 w os, cX, p49)
theorem run_5f (w : World) : R5 (w.withFollow "special-get-raises" false) := by
  intro os
  rewrite [PySem.W.Fast.te10110043849684766642, PySem.W.Fast.te14364793385576792824]
  kernel_rfl
theorem run_5t (w : World) : R5 (w.withFollow "special-get-raises" true) := by
  intro os
  rewrite [PySem.W.Fast.te10110043849684766642, PySem.W.Fast.te14364793385576792824]
  kernel_rfl
theorem run_5 (w : World) : R5 w := byRow2 "special-get-raises" run_5f run_5t w
theorem run_fin (w : World) (os : OsState) : topRun treeTable pw w 11 annV 2 (St49 w os).abs ⟨doneF .next, cX, p49, [topFrame pA]⟩ = some (SEnd w os) := by
  rewrite [PySem.W.Fast.te14082659384304107361]
  kernel_rfl
theorem run_rest (c : Code) (p : Pos) (B : List Frame) : restOf bX envX c p B = restOf (sts1 ++ (sts2 ++ (sts3 ++ (sts4 ++ (sts5 ++ []))))) envX c p B := congrArg (fun l => restOf l envX c p B) bX_parts
theorem run_all (w : World) (os : OsState) : topRun treeTable pw w 11 annV (12 + (1 + (1393 + (1511 + (2116 + (2780 + (748 + 2))))))) (SBoot w os) (topStub pw) = some (SEnd w os) := by
  refine go_top (run_pre w os) (piece_block (run_block w os) ?_)
  rw [run_rest]
  exact piece_app (segRun_of (run_1 w os)) (piece_app (segRun_of (run_2 w os)) (piece_app (segRun_of (run_3 w os)) (piece_app (segRun_of (run_4 w os)) (piece_app (segRun_of (run_5 w os)) (piece_nil (run_fin w os))))))

end Hd
namespace Hd
noncomputable def vw : Program := view pw [26, 31, 48]
def lo : List Str := [Str.ofString "_wall", Str.ofString "kind_of", Str.ofString "bool_in", Str.ofString "bool_out", Str.ofString "bytes_in", Str.ofString "bytes_out", Str.ofString "int_in", Str.ofString "int_out", Str.ofString "null_out", Str.ofString "range_out", Str.ofString "string_in", Str.ofString "string_out", Str.ofString "_OWN_NAMES", Str.ofString "mappingproxy", Str.ofString "_MEMBERS_VIEW", Str.ofString "EnumType", Str.ofString "_EnumField", Str.ofString "Enum", Str.ofString "ParserState", Str.ofString "_lay_ParserState", Str.ofString "_parse_array", Str.ofString "bool_array_in", Str.ofString "bytes_array_in", Str.ofString "int_array_in", Str.ofString "string_array_in", Str.ofString "array_out", Str.ofString "composite_out", Str.ofString "PY_TYPES", Str.ofString "make_param", Str.ofString "_law_signs", Str.ofString "_law_text", Str.ofString "_law_worth", Str.ofString "_law_shaped", Str.ofString "_law_sizes", Str.ofString "_law_flat", Str.ofString "_law_word", Str.ofString "_law_laid", Str.ofString "_law_joined", Str.ofString "_law_read", Str.ofString "_law_alike"]
noncomputable abbrev rw0 : RowW := PySem.Challenge.rw_ew0019_01.row.toRowW
theorem KA_eq : ∀ P : Params, KA = (KT P).map (·.1) := fun P => by kernel_rfl
noncomputable abbrev hkK : Hook := kHook KT KA KA_eq
noncomputable abbrev xtK : Shared → Bool := fun s => xlAt vw [] s && recOk (RowW.records rw0) s
theorem boot_e : opening pw = plainProg pw.main.scope.names := by kernel_rfl
theorem boot_f : ∀ s, fenceModules? pw s = some s := fun s => by kernel_rfl
theorem hd_open (w : World) : (fencedOpening treeTable pw w 20000).map (fun s => (s.heap, s.gens, s.drawn, s.toks)) = some (boot_heap w.params, #[], boot_drawn, boot_toks) := boot_open boot_e (by decide +kernel) boot_f w
theorem hd_size (w : World) : ((boot_heap w.params).isNs mainGlobals && (#[] : Array GenState).size == 0, (boot_heap w.params).objs.size, (boot_heap w.params).nsMap mainGlobals "__annotations__") = (true, 11, annV) := by kernel_rfl
theorem look_a (w : World) (os : OsState) : (staticsOk (importedModules pw.main.body) (boot_heap w.params) (H1 w.params) && namesBound pw (H1 w.params) && gensDone (SEnd w os) && laidKept (boot_heap w.params) (H1 w.params)) = true := by
  rewrite [PySem.W.Fast.te5923862056798008813]
  kernel_rfl
theorem look_1 (w : World) (os : OsState) : seen ((recsOf vw).map (·.name)) (ownsOf vw) [] { SEnd w os with gens := #[] } = expectedOf vw := by
  rewrite [PySem.W.Fast.te5160383126252970620, PySem.W.Fast.te3399658132070893891, PySem.W.Fast.te5991557255702980513]
  kernel_rfl
theorem look_2 (w : World) (os : OsState) : (SEnd w os).heap.bltView = bltViewBooted := by
  kernel_rfl
theorem look_3 (w : World) (os : OsState) : ((SEnd w os).heap.keysOk (looseW vw lo) ((recsOf vw).map (·.name)) ((litsOf vw).map (·.1)) ((clssOf vw (looseW vw lo)).map (·.name)) && (SEnd w os).heap.accountedOkI (importedModules pw.main.body) && (SEnd w os).heap.isNs mainGlobals && (SEnd w os).heap.isNs builtinsNs && tablesOk vw (SEnd w os).heap && xtK (SEnd w os) && (if true then (SEnd w os).gens.size == 0 else !leftWithCleanup (SEnd w os).gens)) = true := by
  rewrite [PySem.W.Fast.te10880121769531294198, PySem.W.Fast.te821141287760084731, PySem.W.Fast.te3399658132070893891, PySem.W.Fast.te7409074990110511671, PySem.W.Fast.te13664370479719496447, PySem.W.Fast.te14722251495701143533, PySem.W.Fast.te5923862056798008813, PySem.W.Fast.te10994771534591457954]
  kernel_rfl
theorem look_4 (w : World) (os : OsState) : tabsOk vw (SEnd w os) = true := by
  rewrite [PySem.W.Fast.te479339242167458305]
  kernel_rfl
theorem look_5 (w : World) (os : OsState) : pinSeenD vw (drecsOf vw) (SEnd w os) = pinGoodD (drecsOf vw) := by
  rewrite [PySem.W.Fast.te16090120013241838585, PySem.W.Fast.te3247288618530077131]
  kernel_rfl
theorem look_6 (w : World) (os : OsState) : plainSeenE vw (looseW vw lo) (SEnd w os) = plainGoodE vw (looseW vw lo) := by
  rewrite [PySem.W.Fast.te2386780881361962483, PySem.W.Fast.te821141287760084731]
  kernel_rfl
theorem look_7 (w : World) (os : OsState) : plainSeenD vw lo (SEnd w os) = plainGoodD vw lo := by
  rewrite [PySem.W.Fast.te11698064438423848299]
  kernel_rfl
theorem look_8 (w : World) (os : OsState) : wideSeen vw (SEnd w os) = wideGood vw := by
  rewrite [PySem.W.Fast.te7317090234206586261]
  kernel_rfl
theorem look_9 (w : World) (os : OsState) : clsSeenW vw lo (SEnd w os) = clsGoodW vw lo := by
  rewrite [PySem.W.Fast.te7369524293546568484]
  kernel_rfl
/-- the objects at rising addresses, in one pass -/
noncomputable def pick : List Obj → Nat → List Nat → List (Option Obj)
  | _, _, [] => []
  | [], _, a :: as => (a :: as).map fun _ => none
  | o :: l, i, a :: as => match Nat.beq i a with
    | true => alive o :: pick l (i + 1) as
    | false => pick l (i + 1) (a :: as)
theorem pick_ok : ∀ (l : List Obj) (i : Nat) (as : List Nat) (ys : List Obj), pick l i as = ys.map some → (∀ a ∈ as, i ≤ a) ∧ as.map (fun a => (l[a - i]?).bind alive) = ys.map some
  | l, i, [], ys, h => by
    cases l <;> (simp only [pick] at h; exact ⟨fun _ h => (nomatch h), h⟩)
  | [], i, a :: as, ys, h => by
    simp only [pick, List.map_cons] at h
    cases ys with
    | nil => cases h
    | cons y ys => simp at h
  | o :: l, i, a :: as, ys, h => by
    have far : ∀ b, i + 1 ≤ b → ((o :: l)[b - i]?).bind alive = (l[b - (i + 1)]?).bind alive := fun b hb => by
      rw [show b - i = (b - (i + 1)) + 1 by omega]; rfl
    unfold pick at h
    rw [BT.beq_eq] at h
    by_cases e : i = a
    · subst e
      rw [decide_eq_true rfl] at h
      dsimp only at h
      cases ys with
      | nil => cases h
      | cons y ys =>
        rw [List.map_cons] at h
        injection h with h1 h2
        obtain ⟨q1, q2⟩ := pick_ok l (i + 1) as ys h2
        refine ⟨fun b hb => ?_, ?_⟩
        · rcases List.mem_cons.mp hb with rfl | hb
          · exact Nat.le_refl _
          · exact Nat.le_of_succ_le (q1 b hb)
        · rw [List.map_cons, List.map_cons, ← q2, Nat.sub_self]
          congr 1
          exact List.map_congr_left fun b hb => far b (q1 b hb)
    · rw [decide_eq_false e] at h
      dsimp only at h
      obtain ⟨q1, q2⟩ := pick_ok l (i + 1) (a :: as) ys h
      refine ⟨fun b hb => Nat.le_of_succ_le (q1 b hb), ?_⟩
      rw [← q2]
      exact List.map_congr_left fun b hb => far b (q1 b hb)
theorem get_alive (h : Heap) (a : Nat) : h.get? a = (h.objs.toList[a]?).bind alive := by
  unfold Heap.get?
  rw [Array.getElem?_toList]
  cases h.objs[a]? with
  | none => rfl
  | some o => obtain ⟨c, d, dt, sl⟩ := o; cases dt <;> rfl
theorem look_b (w : World) (os : OsState) : hkK.obs (SEnd w os) = hkK.val w := by
  have e : pick (H1 w.params).objs.toList 0 KA = ((KT w.params).map (·.2)).map some := by kernel_rfl
  have q := (pick_ok _ _ _ _ e).2
  show KA.map (SEnd w os).heap.get? = (KT w.params).map fun p => some p.2
  rw [List.map_map] at q
  refine Eq.trans (List.map_congr_left fun a _ => ?_) q
  exact get_alive _ _

end Hd
namespace Hd
theorem hd_looks (w : World) : (fun os => ((staticsOk (importedModules pw.main.body) (boot_heap w.params) (H1 w.params) && namesBound pw (H1 w.params) && gensDone (SEnd w os) && laidKept (boot_heap w.params) (H1 w.params)),
    openSeen vw lo (importedModules pw.main.body) xtK true (SEnd w os), hkK.obs (SEnd w os))) = fun _ => (true, openGood vw lo, hkK.val w) := by
  funext os
  exact looks_pair (look_a w os) (looks_pair (looks_pair (look_1 w os) (looks_pair (look_2 w os) (looks_pair (look_3 w os) (looks_pair (look_4 w os) (looks_pair (look_5 w os) (looks_pair (look_6 w os) (looks_pair (look_7 w os) (looks_pair (look_8 w os) (look_9 w os))))))))) (look_b w os))
theorem hd_left : LeftO pw vw lo xtK hkK.obs hkK.val 20000 := LeftO.of_pieces hd_open hd_size run_all (by decide +kernel) hd_looks

end Hd
section


/-- the written part -/
noncomputable abbrev KF (w : World) : Frag := Hd.KT w.params

def posF : Pos := ⟨443, 4, 444, 42⟩
def qualF : Str := Str.ofString "_array_in.<locals>.f"

structure Base (w : World) (mg mb : Str → Option Value) (g : Heap) : Prop where
  k : (KF w).In g
  gl : g.Ns mainGlobals mg
  bl : g.Ns builtinsNs mb
  lim : g.NoLimit
  dig : ∃ mc, g.Ns cStatics mc ∧ mc (Str.ofString "sys.int_max_str_digits") = none
  blt : ∀ x : Str, x ≠ Str.ofString "__name__" → mb x = bootBuiltins x
  bmain : ∃ bm ob, mg (Str.ofString "__builtins__") = some (.ref bm) ∧ bm ≠ builtinsNs ∧ g.get? bm = some ob ∧ ob.cls = .type "module" ∧ ob.dict = some builtinsNs ∧ ob.data = .plain
  h1 : CodeHd g 753 749
  h2 : CodeHd g 788 784

theorem Base.keeps {w : World} {mg mb : Str → Option Value} {g g' : Heap} (B : Base w mg mb g) (hk : ∀ b o, g.get? b = some o → g'.get? b = some o) : Base w mg mb g' where
  k := B.k.keeps hk
  gl := B.gl.keeps hk
  bl := B.bl.keeps hk
  lim := B.lim.keeps hk
  dig := let ⟨mc, h1, h2⟩ := B.dig; ⟨mc, h1.keeps hk, h2⟩
  blt := B.blt
  bmain := let ⟨bm, ob, h1, h2, h3, r⟩ := B.bmain; ⟨bm, ob, h1, h2, hk _ _ h3, r⟩
  h1 := B.h1.keeps hk
  h2 := B.h2.keeps hk

structure Tabs (g h : Heap) : Prop where
  a : ∃ ps, h.get? 749 = some (tabObj ps) ∧ TriplesOk ps.toList ∧ (codeAmong posF ps.toList = none ∨ ∃ c', codeAmong posF ps.toList = some (.ref c') ∧ g.CodeRec (.ref c') qualF)
  b : ∃ ps, h.get? 784 = some (tabObj ps) ∧ TriplesOk ps.toList

theorem Tabs.keeps {g g' h h' : Heap} (T : Tabs g h) (hg : ∀ b o, g.get? b = some o → g'.get? b = some o) (h1 : ∀ o, h.get? 749 = some o → h'.get? 749 = some o) (h2 : ∀ o, h.get? 784 = some o → h'.get? 784 = some o) : Tabs g' h' where
  a := let ⟨ps, e, t, r⟩ := T.a; ⟨ps, h1 _ e, t, r.imp id fun ⟨c', e, r⟩ => ⟨c', e, r.keeps hg⟩⟩
  b := let ⟨ps, e, t⟩ := T.b; ⟨ps, h2 _ e, t⟩

structure Inv (w : World) (mg mb : Str → Option Value) (g h : Heap) : Prop where
  base : Base w mg mb g
  tabs : Tabs g h
  sub : ∀ b o, g.get? b = some o → h.get? b = some o
  n1 : g.get? 749 = none
  n2 : g.get? 784 = none

theorem low_ne {a : Nat} (h : 784 < a) : (749 ≠ a ∧ a ≠ 749) ∧ 784 ≠ a ∧ a ≠ 784 := by omega
theorem lowA {a : Addr} (h : 784 < a) : (749 : Addr) ≠ a := (low_ne h).1.1
theorem lowB {a : Addr} (h : 784 < a) : a ≠ (749 : Addr) := (low_ne h).1.2
theorem lowC {a : Addr} (h : 784 < a) : (784 : Addr) ≠ a := (low_ne h).2.1
theorem lowD {a : Addr} (h : 784 < a) : a ≠ (784 : Addr) := (low_ne h).2.2
theorem Inv.low {w mg mb g h} (I : Inv w mg mb g h) : 784 < h.objs.size := let ⟨_, e, _⟩ := I.tabs.b; Heap.lt_size e

/-- what a call leaves -/
structure Ret (w : World) (mg mb : Str → Option Value) (g : Heap) (s : Shared) (g' : Heap) (s' : Shared) : Prop where
  inv : Inv w mg mb g' s'.heap
  ext : ∀ b o, g.get? b = some o → g'.get? b = some o
  keep : ∀ b o, b ≠ 749 → b ≠ 784 → s.heap.get? b = some o → s'.heap.get? b = some o
  fresh : ∀ b o, g'.get? b = some o → (∃ o', g.get? b = some o') ∨ s.heap.objs.size ≤ b
  sz : s.heap.objs.size ≤ s'.heap.objs.size
  os : s'.os = s.os
  gens : AllBare s.gens → AllBare s'.gens

/-- the contract of a def -/
def Fn (prog : Program) (w : World) (mg mb : Str → Option Value) (f : Addr) (vs : List Value) (r : Nat) (g : Heap) (Post : Heap → Value → Prop) : Prop :=
  ∀ (A : Around) (s : Shared) (Q : Value → Shared → Prop) (E : Value → Shared → Prop), A.handled = none → A.depth + r ≤ 900 → A.units + 20 * r ≤ 9000 → Inv w mg mb g s.heap →
    (∀ v g' s', Ret w mg mb g s g' s' → Post g' v → Q v s') → wpAny (model prog w) A (call (.ref f) vs) Q E s

/-- a frame's state over the ground g -/
structure St (w : World) (mg mb : Str → Option Value) (o : Shared) (g₀ g : Heap) (L : Addr) (m : Str → Option Value) (cl : List (Str × Addr)) (cm : Str → Option Value) (own : List (Addr × Obj)) (h : Heap) (gens : Array GenState) (os : OsState) : Prop where
  inv : Inv w mg mb g h
  ns : h.Ns L m
  nL : g.get? L = none
  owns : ∀ p ∈ own, h.get? p.1 = some p.2 ∧ p.1 ≠ L ∧ g.get? p.1 = none ∧ 784 < p.1 ∧ o.heap.objs.size ≤ p.1
  nd : (own.map (·.1)).Nodup
  cell : ∀ n c, cl.lookup n = some c → h.IsCell c (cm n) ∧ c ≠ L ∧ g.get? c = none ∧ 784 < c
  capart : ∀ n c n' c', cl.lookup n = some c → cl.lookup n' = some c' → n ≠ n' → c ≠ c'
  cown : ∀ p ∈ own, ∀ n c, cl.lookup n = some c → p.1 ≠ c
  keep : ∀ b ob, b ≠ 749 → b ≠ 784 → o.heap.get? b = some ob → h.get? b = some ob
  ext : ∀ b ob, g₀.get? b = some ob → g.get? b = some ob
  fresh : ∀ b ob, g.get? b = some ob → (∃ o', g₀.get? b = some o') ∨ o.heap.objs.size ≤ b
  hL : 784 < L
  sz : o.heap.objs.size ≤ h.objs.size
  oss : os = o.os
  gn : AllBare o.gens → AllBare gens

section
variable {w : World} {mg mb : Str → Option Value} {o : Shared} {g₀ g : Heap} {L : Addr} {m cm : Str → Option Value} {cl : List (Str × Addr)} {own : List (Addr × Obj)} {h : Heap} {gens : Array GenState} {os : OsState}

theorem St.lt (H : St w mg mb o g₀ g L m cl cm own h gens os) : L < h.objs.size := H.ns.lt
theorem St.low (H : St w mg mb o g₀ g L m cl cm own h gens os) : 784 < h.objs.size := H.inv.low

theorem get_none_of_sub {g h : Heap} {a : Addr} (hs : ∀ b o, g.get? b = some o → h.get? b = some o) (hn : h.objs.size ≤ a) : g.get? a = none := by
  cases e : g.get? a with
  | none => rfl
  | some o => exact absurd (Heap.lt_size (hs _ _ e)) (Nat.not_lt.mpr hn)

theorem St.store {h' : Heap} {m' : Str → Option Value} (H : St w mg mb o g₀ g L m cl cm own h gens os) (hLo : o.heap.objs.size ≤ L) (hn : h'.Ns L m') (hs : Heap.SameBut L h h') : St w mg mb o g₀ g L m' cl cm own h' gens os where
  inv := ⟨H.inv.base, H.inv.tabs.keeps (fun _ _ e => e) (fun o e => hs.extBut _ o (lowA H.hL) e) (fun o e => hs.extBut _ o (lowC H.hL) e),
    fun b ob e => hs.extBut b ob (by rintro rfl; rw [H.nL] at e; cases e) (H.inv.sub b ob e), H.inv.n1, H.inv.n2⟩
  ns := hn
  nL := H.nL
  owns := fun p hp => ⟨hs.extBut _ _ (H.owns p hp).2.1 (H.owns p hp).1, (H.owns p hp).2⟩
  nd := H.nd
  cell := fun n c e => let x := H.cell n c e; ⟨x.1.sameBut hs x.2.1, x.2⟩
  capart := H.capart
  cown := H.cown
  keep := fun b ob h1 h2 e => hs.extBut b ob (Nat.ne_of_lt (Nat.lt_of_lt_of_le (Heap.lt_size e) hLo)) (H.keep b ob h1 h2 e)
  ext := H.ext
  fresh := H.fresh
  hL := H.hL
  sz := by rw [hs.1]; exact H.sz
  oss := H.oss
  gn := H.gn

/-- the heap has grown (and nothing of it, but perhaps the tables, has changed) -/
theorem St.grow {h' : Heap} {gens' : Array GenState} {os' : OsState} (H : St w mg mb o g₀ g L m cl cm own h gens os) (hk : ∀ b ob, b ≠ 749 → b ≠ 784 → h.get? b = some ob → h'.get? b = some ob) (ht : Tabs g h') (hsz : h.objs.size ≤ h'.objs.size) (ho : os' = os) (hg : AllBare gens → AllBare gens') :
    St w mg mb o g₀ g L m cl cm own h' gens' os' where
  inv := ⟨H.inv.base, ht, fun b ob e => hk b ob (by rintro rfl; rw [H.inv.n1] at e; cases e) (by rintro rfl; rw [H.inv.n2] at e; cases e) (H.inv.sub b ob e), H.inv.n1, H.inv.n2⟩
  ns := H.ns.at' fun ob e => hk L ob (lowB H.hL) (lowD H.hL) e
  nL := H.nL
  owns := fun p hp => ⟨hk _ _ (lowB (H.owns p hp).2.2.2.1) (lowD (H.owns p hp).2.2.2.1) (H.owns p hp).1, (H.owns p hp).2⟩
  nd := H.nd
  cell := fun n c e => let x := H.cell n c e; let ⟨oc, hoc, hd⟩ := x.1; ⟨⟨oc, hk _ _ (lowB x.2.2.2) (lowD x.2.2.2) hoc, hd⟩, x.2⟩
  capart := H.capart
  cown := H.cown
  keep := fun b ob h1 h2 e => hk b ob h1 h2 (H.keep b ob h1 h2 e)
  ext := H.ext
  fresh := H.fresh
  hL := H.hL
  sz := Nat.le_trans H.sz hsz
  oss := ho.trans H.oss
  gn := fun x => hg (H.gn x)

theorem St.keeps {h' : Heap} (H : St w mg mb o g₀ g L m cl cm own h gens os) (hk : ∀ b ob, h.get? b = some ob → h'.get? b = some ob) (hsz : h.objs.size ≤ h'.objs.size) : St w mg mb o g₀ g L m cl cm own h' gens os :=
  H.grow (fun b ob _ _ e => hk b ob e) (H.inv.tabs.keeps (fun _ _ e => e) (fun _ e => hk _ _ e) (fun _ e => hk _ _ e)) hsz rfl id

/-- an object more, the frame's own -/
theorem St.push (H : St w mg mb o g₀ g L m cl cm own h gens os) (ob : Obj) (hf : ob.isFreed = false := by rfl) : St w mg mb o g₀ g L m cl cm ((h.objs.size, ob) :: own) (h.push ob) gens os :=
  have H' := H.keeps (h' := h.push ob) (fun _ _ e => Heap.get?_push_of_some _ e) (by rw [Heap.size_push]; omega)
  { H' with
    owns := fun p hp => by
      rcases List.mem_cons.mp hp with rfl | hp
      · exact ⟨Heap.get?_push_size _ hf, Nat.ne_of_gt H.lt, get_none_of_sub H.inv.sub (Nat.le_refl _), H.low, H.sz⟩
      · exact H'.owns p hp
    nd := by
      rw [List.map_cons, List.nodup_cons]
      refine ⟨fun hm => ?_, H.nd⟩
      obtain ⟨p, hp, e⟩ := List.mem_map.mp hm
      have := Heap.lt_size (H.owns p hp).1
      rw [e] at this
      exact Nat.lt_irrefl _ this
    cown := fun p hp n c e => by
      rcases List.mem_cons.mp hp with rfl | hp
      · exact Nat.ne_of_gt (H.cell n c e).1.lt
      · exact H.cown p hp n c e }

theorem St.perm {own' : List (Addr × Obj)} (H : St w mg mb o g₀ g L m cl cm own h gens os) (hp : own'.Perm own) : St w mg mb o g₀ g L m cl cm own' h gens os :=
  { H with owns := fun p hm => H.owns p (hp.mem_iff.mp hm), nd := (hp.map _).nodup_iff.mpr H.nd, cown := fun p hm => H.cown p (hp.mem_iff.mp hm) }
theorem St.drop {own' : List (Addr × Obj)} (H : St w mg mb o g₀ g L m cl cm own h gens os) (hp : own'.Sublist own) : St w mg mb o g₀ g L m cl cm own' h gens os :=
  { H with owns := fun p hm => H.owns p (hp.mem hm), nd := (hp.map _).nodup H.nd, cown := fun p hm => H.cown p (hp.mem hm) }
theorem St.tail {p : Addr × Obj} (H : St w mg mb o g₀ g L m cl cm (p :: own) h gens os) : St w mg mb o g₀ g L m cl cm own h gens os := H.drop (List.sublist_cons_self _ _)

/-- g, and a besides -/
def withA (g h : Heap) (a : Addr) : Heap := hideAll h ((List.range h.objs.size).filter fun b => (g.get? b).isNone && b != a)
theorem withA_sub {g h : Heap} {a : Addr} (b : Addr) (ob : Obj) (e : (withA g h a).get? b = some ob) : h.get? b = some ob := of_hideAll _ e
theorem withA_dom {g h : Heap} {a : Addr} (b : Addr) (ob : Obj) (e : (withA g h a).get? b = some ob) : b = a ∨ ∃ o', g.get? b = some o' := by
  by_cases hb : b ∈ (List.range h.objs.size).filter fun b => (g.get? b).isNone && b != a
  · rw [show (withA g h a).get? b = none from hideAll_none _ hb] at e; cases e
  · have hlt := Heap.lt_size (withA_sub b ob e)
    by_cases ha : b = a
    · exact .inl ha
    · refine .inr ?_
      cases q : g.get? b with
      | some o' => exact ⟨o', rfl⟩
      | none => exact absurd (List.mem_filter.mpr ⟨List.mem_range.mpr hlt, by simp [q, ha]⟩) hb
theorem withA_ext {g h : Heap} {a : Addr} (hs : ∀ b o, g.get? b = some o → h.get? b = some o) (b : Addr) (ob : Obj) (e : g.get? b = some ob) : (withA g h a).get? b = some ob :=
  hideAll_get _ (hs b ob e) fun hm => by
    have := (List.mem_filter.mp hm).2
    simp [e] at this
theorem withA_self {g h : Heap} {a : Addr} {ob : Obj} (e : h.get? a = some ob) : (withA g h a).get? a = some ob :=
  hideAll_get _ e fun hm => by
    have := (List.mem_filter.mp hm).2
    simp at this

/-- an own object stands still from here on -/
theorem St.frz {a : Addr} {ob : Obj} (H : St w mg mb o g₀ g L m cl cm ((a, ob) :: own) h gens os) :
    ∃ g', (∀ b o, g.get? b = some o → g'.get? b = some o) ∧ g'.get? a = some ob ∧ St w mg mb o g₀ g' L m cl cm own h gens os := by
  have ha := H.owns (a, ob) (.head _)
  have ext := withA_ext (a := a) H.inv.sub
  refine ⟨withA g h a, ext, withA_self ha.1, ?_⟩
  have none_of : ∀ b, b ≠ a → g.get? b = none → (withA g h a).get? b = none := fun b hb hn => by
    cases q : (withA g h a).get? b with
    | none => rfl
    | some o' =>
      rcases withA_dom b o' q with e | ⟨o₂, e⟩
      · exact absurd e hb
      · rw [hn] at e; cases e
  have hne : ∀ p ∈ own, p.1 ≠ a := fun p hp e => by
    have := H.nd
    rw [List.map_cons, List.nodup_cons] at this
    exact this.1 (List.mem_map.mpr ⟨p, hp, e⟩)
  exact {
    inv := ⟨H.inv.base.keeps ext, H.inv.tabs.keeps ext (fun _ e => e) (fun _ e => e), fun b o' e => withA_sub b o' e,
      none_of _ (lowA ha.2.2.2.1) H.inv.n1, none_of _ (lowC ha.2.2.2.1) H.inv.n2⟩
    ns := H.ns
    nL := none_of _ (Ne.symm ha.2.1) H.nL
    owns := fun p hp => let x := H.owns p (.tail _ hp); ⟨x.1, x.2.1, none_of _ (hne p hp) x.2.2.1, x.2.2.2⟩
    nd := (List.nodup_cons.mp (by rw [← List.map_cons (f := fun p : Addr × Obj => p.1) (a := (a, ob))]; exact H.nd)).2
    cell := fun n c e => let x := H.cell n c e; ⟨x.1, x.2.1, none_of _ (fun q => H.cown (a, ob) (.head _) n c e q.symm) x.2.2.1, x.2.2.2⟩
    capart := H.capart
    cown := fun p hp => H.cown p (.tail _ hp)
    keep := H.keep
    ext := fun b o' e => ext b o' (H.ext b o' e)
    fresh := fun b o' e => by
      rcases withA_dom b o' e with rfl | ⟨o₂, e₂⟩
      · exact .inr ha.2.2.2.2
      · exact H.fresh b o₂ e₂
    hL := H.hL
    sz := H.sz
    oss := H.oss
    gn := H.gn }

/-- a new object that stands still -/
theorem St.pushG (H : St w mg mb o g₀ g L m cl cm own h gens os) (ob : Obj) (hf : ob.isFreed = false := by rfl) :
    ∃ g', (∀ b o, g.get? b = some o → g'.get? b = some o) ∧ g'.get? h.objs.size = some ob ∧ St w mg mb o g₀ g' L m cl cm own (h.push ob) gens os := (H.push ob hf).frz

/-- an own object is changed -/
theorem St.upd {a : Addr} {ob ob' : Obj} {h' : Heap} (H : St w mg mb o g₀ g L m cl cm ((a, ob) :: own) h gens os) (hs : Heap.SameBut a h h') (e' : h'.get? a = some ob') : St w mg mb o g₀ g L m cl cm ((a, ob') :: own) h' gens os := by
  have ha := H.owns (a, ob) (.head _)
  have h784 : 784 < a := ha.2.2.2.1
  have hne : ∀ p ∈ own, p.1 ≠ a := fun p hp e => by
    have := H.nd
    rw [List.map_cons, List.nodup_cons] at this
    exact this.1 (List.mem_map.mpr ⟨p, hp, e⟩)
  exact {
    inv := ⟨H.inv.base, H.inv.tabs.keeps (fun _ _ e => e) (fun o e => hs.extBut _ o (lowA h784) e) (fun o e => hs.extBut _ o (lowC h784) e),
      fun b o' e => hs.extBut b o' (by rintro rfl; rw [ha.2.2.1] at e; cases e) (H.inv.sub b o' e), H.inv.n1, H.inv.n2⟩
    ns := H.ns.sameBut hs (Ne.symm ha.2.1)
    nL := H.nL
    owns := fun p hp => by
      rcases List.mem_cons.mp hp with rfl | hp
      · exact ⟨e', ha.2⟩
      · let x := H.owns p (.tail _ hp); exact ⟨hs.extBut _ _ (hne p hp) x.1, x.2⟩
    nd := H.nd
    cell := fun n c e => let x := H.cell n c e; ⟨x.1.sameBut hs (fun q => H.cown (a, ob) (.head _) n c e q.symm), x.2⟩
    capart := H.capart
    cown := fun p hp n c e => by
      rcases List.mem_cons.mp hp with rfl | hp
      · exact H.cown (a, ob) (.head _) n c e
      · exact H.cown p (.tail _ hp) n c e
    keep := fun b o' h1 h2 e => hs.extBut b o' (Nat.ne_of_lt (Nat.lt_of_lt_of_le (Heap.lt_size e) ha.2.2.2.2)) (H.keep b o' h1 h2 e)
    ext := H.ext
    fresh := H.fresh
    hL := H.hL
    sz := by rw [hs.1]; exact H.sz
    oss := H.oss
    gn := H.gn }

/-- a cell of the frame's is changed -/
theorem St.storeC {n : Str} {c : Addr} {v : Value} {h' : Heap} (H : St w mg mb o g₀ g L m cl cm own h gens os) (hc : cl.lookup n = some c) (hco : o.heap.objs.size ≤ c) (hs : Heap.SameBut c h h') (hv : h'.IsCell c (some v)) :
    St w mg mb o g₀ g L m cl (fun y => if y = n then some v else cm y) own h' gens os := by
  have ha := H.cell n c hc
  have h784 : 784 < c := ha.2.2.2
  exact {
    inv := ⟨H.inv.base, H.inv.tabs.keeps (fun _ _ e => e) (fun o e => hs.extBut _ o (lowA h784) e) (fun o e => hs.extBut _ o (lowC h784) e),
      fun b o' e => hs.extBut b o' (by rintro rfl; rw [ha.2.2.1] at e; cases e) (H.inv.sub b o' e), H.inv.n1, H.inv.n2⟩
    ns := H.ns.sameBut hs (Ne.symm ha.2.1)
    nL := H.nL
    owns := fun p hp => let x := H.owns p hp; ⟨hs.extBut _ _ (H.cown p hp n c hc) x.1, x.2⟩
    nd := H.nd
    cell := fun n' c' e => by
      by_cases hn : n' = n
      · subst hn
        have : c' = c := Option.some.inj (e.symm.trans hc)
        subst this
        rw [if_pos rfl]
        exact ⟨hv, ha.2⟩
      · rw [if_neg hn]
        let x := H.cell n' c' e
        exact ⟨x.1.sameBut hs (H.capart n' c' n c e hc hn), x.2⟩
    capart := H.capart
    cown := H.cown
    keep := fun b o' h1 h2 e => hs.extBut b o' (Nat.ne_of_lt (Nat.lt_of_lt_of_le (Heap.lt_size e) hco)) (H.keep b o' h1 h2 e)
    ext := H.ext
    fresh := H.fresh
    hL := H.hL
    sz := by rw [hs.1]; exact H.sz
    oss := H.oss
    gn := H.gn }

theorem St.mem {p : Addr × Obj} (H : St w mg mb o g₀ g L m cl cm own h gens os) (hp : p ∈ own) : h.get? p.1 = some p.2 := (H.owns p hp).1

theorem St.toRet {s : Shared} (H : St w mg mb o g₀ g L m cl cm own s.heap s.gens s.os) : Ret w mg mb g₀ o g s := ⟨H.inv, H.ext, H.keep, H.fresh, H.sz, H.oss, H.gn⟩

/-- behind a call -/
theorem St.back {s s' : Shared} {g' : Heap} (H : St w mg mb o g₀ g L m cl cm own s.heap s.gens s.os) (R : Ret w mg mb g s g' s') : St w mg mb o g₀ g' L m cl cm own s'.heap s'.gens s'.os := by
  have none_of : ∀ b ob, s.heap.get? b = some ob → g.get? b = none → g'.get? b = none := fun b ob hb hn => by
    cases q : g'.get? b with
    | none => rfl
    | some o' =>
      rcases R.fresh b o' q with ⟨o₂, e⟩ | hle
      · rw [hn] at e; cases e
      · exact absurd (Heap.lt_size hb) (Nat.not_lt.mpr hle)
  exact {
    inv := R.inv
    ns := H.ns.at' fun ob e => R.keep L ob (lowB H.hL) (lowD H.hL) e
    nL := by obtain ⟨ob, _, _, e, _⟩ := H.ns; exact none_of L ob e H.nL
    owns := fun p hp => let x := H.owns p hp; ⟨R.keep _ _ (lowB x.2.2.2.1) (lowD x.2.2.2.1) x.1, x.2.1, none_of _ _ x.1 x.2.2.1, x.2.2.2⟩
    nd := H.nd
    cell := fun n c e => let x := H.cell n c e; let ⟨oc, hoc, hd⟩ := x.1; ⟨⟨oc, R.keep _ _ (lowB x.2.2.2) (lowD x.2.2.2) hoc, hd⟩, x.2.1, none_of _ _ hoc x.2.2.1, x.2.2.2⟩
    capart := H.capart
    cown := H.cown
    keep := fun b ob h1 h2 e => R.keep b ob h1 h2 (H.keep b ob h1 h2 e)
    ext := fun b ob e => R.ext b ob (H.ext b ob e)
    fresh := fun b ob e => by
      rcases R.fresh b ob e with ⟨o₂, e₂⟩ | hle
      · exact H.fresh b o₂ e₂
      · exact .inr (Nat.le_trans H.sz hle)
    hL := H.hL
    sz := Nat.le_trans H.sz R.sz
    oss := R.os.trans H.oss
    gn := fun x => R.gens (H.gn x) }

theorem Ret.refl {s : Shared} (I : Inv w mg mb g s.heap) : Ret w mg mb g s g s := ⟨I, fun _ _ e => e, fun _ _ _ _ e => e, fun _ o e => .inl ⟨o, e⟩, Nat.le_refl _, rfl, id⟩
theorem Ret.trans {s s' s'' : Shared} {g' g'' : Heap} (R : Ret w mg mb g s g' s') (R' : Ret w mg mb g' s' g'' s'') : Ret w mg mb g s g'' s'' :=
  ⟨R'.inv, fun b ob e => R'.ext b ob (R.ext b ob e), fun b ob h1 h2 e => R'.keep b ob h1 h2 (R.keep b ob h1 h2 e),
    fun b ob e => (R'.fresh b ob e).elim (fun ⟨o', e'⟩ => R.fresh b o' e') fun hle => .inr (Nat.le_trans R.sz hle), Nat.le_trans R.sz R'.sz, R'.os.trans R.os, fun x => R'.gens (R.gens x)⟩

/-- a call of a def by its contract -/
theorem call_fn {prog : Program} {A : Around} {E : Value → Shared → Prop} {s : Shared} {Q : Value → Shared → Prop} {f : Addr} {vs : List Value} {r : Nat} {Post : Heap → Value → Prop}
    (H : St w mg mb o g₀ g L m cl cm own s.heap s.gens s.os) (C : Fn prog w mg mb f vs r g Post) (hh : A.handled = none) (hd : A.depth + r ≤ 900) (hu : A.units + 20 * r ≤ 9000)
    (k : ∀ v g' s', St w mg mb o g₀ g' L m cl cm own s'.heap s'.gens s'.os → (∀ b o, g.get? b = some o → g'.get? b = some o) → Post g' v → Q v s') :
    wpAny (model prog w) A (call (.ref f) vs) Q E s :=
  C A s Q E hh hd hu H.inv fun v g' s' R p => k v g' s' (H.back R) R.ext p

end

end
section


theorem mem_of_lookupL {α : Type} : ∀ {l : List (Str × α)} {n : Str} {c : α}, l.lookup n = some c → (n, c) ∈ l
  | [], _, _, h => by cases h
  | (k, v) :: r, n, c, h => by
    rw [List.lookup_cons] at h
    cases hb : n == k with
    | true => rw [hb] at h; cases h; rw [beq_iff_eq.mp hb]; exact .head _
    | false => rw [hb] at h; exact .tail _ (mem_of_lookupL h)

theorem capart_of {cl : List (Str × Addr)} (h : cl.Pairwise fun x y => x.2 ≠ y.2) : ∀ n c n' c', cl.lookup n = some c → cl.lookup n' = some c' → n ≠ n' → c ≠ c' := by
  induction cl with
  | nil => intro n c n' c' e; cases e
  | cons p r ih =>
    obtain ⟨k, v⟩ := p
    intro n c n' c' e e' hne
    have hp := List.pairwise_cons.mp h
    rw [List.lookup_cons] at e e'
    cases hb : n == k with
    | true =>
      rw [hb] at e; cases e
      cases hb' : n' == k with
      | true => exact absurd ((beq_iff_eq.mp hb).trans (beq_iff_eq.mp hb').symm) hne
      | false => rw [hb'] at e'; exact hp.1 _ (mem_of_lookupL e')
    | false =>
      rw [hb] at e
      cases hb' : n' == k with
      | true => rw [hb'] at e'; cases e'; exact (hp.1 _ (mem_of_lookupL e)).symm
      | false => rw [hb'] at e'; exact ih hp.2 n c n' c' e e' hne

def retv : Flow → Value
  | .ret v => v
  | _ => .none

section
variable {prog : Program} {w : World} {mg mb : Str → Option Value} {g : Heap} {r : Nat} {f : Addr} {vs : List Value} {Post : Heap → Value → Prop}

/-- a def is entered -/
theorem enter {name qual : Str} {params : Arguments} {body : List Stmt} {scope : Scope} {dV kV doc pm cdv ct oc : Value} {an od : Option Addr} {osl : Array (Option Value)} (binds : List (Str × Value))
    (hK : (KF w).lookup f = some ⟨oc, od, .func (fnX name qual params body scope [] dV kV doc pm an cdv ct), osl⟩) (hcd : codeIn (KF w) cdv qual = true)
    (hbind : bindArgs (fnX name qual params body scope [] dV kV doc pm an cdv ct) ⟨vs, []⟩ = pure binds)
    (hkind : (binds.all fun y => scope.names.lookup y.1 == some .local || scope.names.lookup y.1 == some .cell) = true)
    (hco : scope.isCoroutine = false) (hgen : scope.isGenerator = false) (hk : scope.kind = .function)
    (h : ∀ (A : Around) (s : Shared) (L : Addr) (s' : Shared), A.handled = none → A.depth + r ≤ 901 → A.units + 20 * r ≤ 9003 → Inv w mg mb g s.heap → s.heap.objs.size ≤ L → (∀ n c, (cellsFrom (L + 1) scope.names []).lookup n = some c → s.heap.objs.size ≤ c) →
      St w mg mb s g g L (bindL (fun x => scope.names.lookup x) binds fun _ => none) (cellsFrom (L + 1) scope.names []) (bindC (fun x => scope.names.lookup x) binds fun _ => none) [] s'.heap s'.gens s'.os →
      wpAny (model prog w) A (execs body (envX qual scope L f cdv (cellsFrom (L + 1) scope.names [])))
        (fun fl s'' => ∃ g', Ret w mg mb g s g' s'' ∧ Post g' (retv fl)) (fun _ _ => False) s') :
    Fn prog w mg mb f vs r g Post := by
  intro A s Q E hh hd hu I k
  have hX := I.base.k.keeps I.sub
  refine wpAny_call ?_
  refine codeAny_call_function (by have : recursionLimit = 1000 := rfl; omega) (hX _ _ hK) rfl hco hgen rfl (codeRec_of hX hcd) ?_
  rw [hbind]
  refine wpAny_pure (wpAny_newFunctionEnv_cells hk (kindsX hkind _) fun env he s' X => ?_)
  subst he
  obtain ⟨h', tk, hs', hkeep⟩ := X.done
  have hLs : s.heap.objs.size ≤ s.heap.objs.size := Nat.le_refl _
  have hlow : 784 < s.heap.objs.size := I.low
  have hab : ∀ n c, (cellsFrom (s.heap.objs.size + 1) scope.names []).lookup n = some c → s.heap.objs.size < c := fun n c e => X.above n c (mem_of_lookupL e)
  refine ⟨(I.base.lim.keeps I.sub).keeps X.toInCall.keep, codeAny_func ?_⟩
  have S : St w mg mb s g g s.heap.objs.size (bindL (fun x => scope.names.lookup x) binds fun _ => none) (cellsFrom (s.heap.objs.size + 1) scope.names []) (bindC (fun x => scope.names.lookup x) binds fun _ => none) [] s'.heap s'.gens s'.os := {
    inv := ⟨I.base, I.tabs.keeps (fun _ _ e => e) (fun _ e => X.toInCall.keep _ _ e) (fun _ e => X.toInCall.keep _ _ e), fun b o e => X.toInCall.keep b o (I.sub b o e), I.n1, I.n2⟩
    ns := X.toInCall.ns
    nL := get_none_of_sub I.sub (Nat.le_refl _)
    owns := fun _ hp => nomatch hp
    nd := List.nodup_nil
    cell := fun n c e => ⟨X.cell n c e, Nat.ne_of_gt (hab n c e), get_none_of_sub I.sub (Nat.le_of_lt (hab n c e)), Nat.lt_trans hlow (hab n c e)⟩
    capart := capart_of X.apart
    cown := fun _ hp => nomatch hp
    keep := fun b ob _ _ e => X.toInCall.keep b ob e
    ext := fun _ _ e => e
    fresh := fun _ ob e => .inl ⟨ob, e⟩
    hL := hlow
    sz := Nat.le_trans hLs (Nat.le_of_lt X.toInCall.ns.lt)
    oss := by rw [hs']
    gn := by rw [hs']; exact id }
  refine wpAny_mono (h (A.deeper (envX qual scope s.heap.objs.size f cdv (cellsFrom (s.heap.objs.size + 1) scope.names []))) s s.heap.objs.size s' hh ?_ ?_ I (Nat.le_refl _) (fun n c e => Nat.le_of_lt (hab n c e)) S) (fun fl s'' hq => ?_) fun _ _ x => x.elim
  · show A.depth + 1 + r ≤ 901; omega
  · show A.units + 3 + 20 * r ≤ 9003; omega
  · obtain ⟨g', R, p⟩ := hq
    have := k _ g' s'' R p
    cases fl <;> exact this

end

section
variable {prog : Program} {w : World} {mg mb : Str → Option Value} {o : Shared} {g₀ g : Heap} {L : Addr} {m cm : Str → Option Value} {cl : List (Str × Addr)} {own : List (Addr × Obj)} {A : Around} {E : Value → Shared → Prop} {s : Shared} {env : Env} {x : Str} {pos : Pos} {v : Value}

theorem nmL {Q : Value → Shared → Prop} (H : St w mg mb o g₀ g L m cl cm own s.heap s.gens s.os) (hL : env.locals = L) (hv : m x = some v) (h : Q v s) (hk : env.scope.kind = .function) (hl : env.kindOf x = some .local)
    (hd : (x == ("__debug__" : Str)) = false) : wpAny (model prog w) A (eval (.Name x pos) env) Q E s := wpAny_Name (wpAny_loadName_local hk hl (hL ▸ H.ns) hv h) hd
theorem nmLn {Q : Value → Shared → Prop} (H : St w mg mb o g₀ g L m cl cm own s.heap s.gens s.os) (hL : env.locals = L) (hv : m x = some v) (h : Q v s) (hk : env.scope.kind = .function) (hl : env.kindOf x = some .local) :
    wpAny (model prog w) A (loadName env x) Q E s := wpAny_loadName_local hk hl (hL ▸ H.ns) hv h
theorem nmC {c : Addr} {Q : Value → Shared → Prop} (H : St w mg mb o g₀ g L m cl cm own s.heap s.gens s.os) (hc : env.cells.lookup x = some c) (hcl : cl.lookup x = some c) (hv : cm x = some v) (h : Q v s) (hk : env.scope.kind = .function) (hl : env.kindOf x = some .cell)
    (hd : (x == ("__debug__" : Str)) = false) : wpAny (model prog w) A (eval (.Name x pos) env) Q E s := wpAny_Name (wpAny_loadName_cell hk hl hc (hv ▸ (H.cell x c hcl).1) h) hd
theorem nmG {Q : Value → Shared → Prop} (H : St w mg mb o g₀ g L m cl cm own s.heap s.gens s.os) (e : nsIn (KF w) mainGlobals x = some (some v)) (h : Q v s) (hg : env.globals = mainGlobals) (hk : env.scope.kind = .function) (hl : env.kindOf x = some .globalImplicit)
    (hd : (x == ("__debug__" : Str)) = false) : wpAny (model prog w) A (eval (.Name x pos) env) Q E s :=
  Name_function_global hk hl (loadGlobal_global (env := env) (by rw [hg]; exact H.inv.base.gl.keeps H.inv.sub) (mg_of H.inv.base.k H.inv.base.gl e) h) hd
theorem nmB {Q : Value → Shared → Prop} (H : St w mg mb o g₀ g L m cl cm own s.heap s.gens s.os) (e : nsIn (KF w) mainGlobals x = some none) (hb : bootBuiltins x = some v) (h : Q v s) (hg : env.globals = mainGlobals) (hbl : env.builtins = builtinsNs) (hk : env.scope.kind = .function) (hl : env.kindOf x = some .globalImplicit)
    (hn : x ≠ Str.ofString "__name__") (hd : (x == ("__debug__" : Str)) = false) : wpAny (model prog w) A (eval (.Name x pos) env) Q E s :=
  Name_function_global hk hl (loadGlobal_builtin (env := env) (by rw [hg]; exact H.inv.base.gl.keeps H.inv.sub) (mg_none_of H.inv.base.k H.inv.base.gl e) (by rw [hbl]; exact H.inv.base.bl.keeps H.inv.sub) ((H.inv.base.blt x hn).trans hb) h) hd
theorem stL {Q : Unit → Shared → Prop} (H : St w mg mb o g₀ g L m cl cm own s.heap s.gens s.os) (hLo : o.heap.objs.size ≤ L) (hL : env.locals = L)
    (h : ∀ h' tk, St w mg mb o g₀ g L (fun y => if y = x then some v else m y) cl cm own h' s.gens s.os → Q () { s with heap := h', toks := tk }) (hk : env.scope.kind = .function) (hl : env.kindOf x = some .local) :
    wpAny (model prog w) A (storeName env x v) Q E s :=
  wpAny_storeName_local hl (hL ▸ H.ns) (fun h' hn hs => h h' _ (H.store hLo (hL ▸ hn) (hL ▸ hs))) (by rw [hk]; rfl)
theorem stC {c : Addr} {Q : Unit → Shared → Prop} (H : St w mg mb o g₀ g L m cl cm own s.heap s.gens s.os) (hc : env.cells.lookup x = some c) (hcl : cl.lookup x = some c) (hco : o.heap.objs.size ≤ c)
    (h : ∀ h', St w mg mb o g₀ g L m cl (fun y => if y = x then some v else cm y) own h' s.gens s.os → Q () { s with heap := h' }) (hk : env.scope.kind = .function) (hl : env.kindOf x = some .cell) :
    wpAny (model prog w) A (storeName env x v) Q E s :=
  wpAny_storeName_cell hk hl hc (H.cell x c hcl).1 fun h' hv hs => h h' (H.storeC hcl hco hs hv)
end

/-! data -/
inductive V where
  | none
  | bool (b : Bool)
  | int (i : Int)
  | str (x : Str)
  | bytes (b : Array UInt8)
  | list (l : List V)

mutual
inductive Rep (g : Heap) : Value → V → Prop
  | none : Rep g .none .none
  | bool (b : Bool) : Rep g (.bool b) (.bool b)
  | int (i : Int) (t : Tok) : Rep g (.int i t) (.int i)
  | str (x : Str) (t : Tok) : Rep g (.str x t) (.str x)
  | bytes (b : Array UInt8) (t : Tok) : Rep g (.bytes b t) (.bytes b)
  | list {a : Addr} {vs : List Value} {ds : List V} (h : g.IsList a vs.toArray) (r : RepL g vs ds) : Rep g (.ref a) (.list ds)
inductive RepL (g : Heap) : List Value → List V → Prop
  | nil : RepL g [] []
  | cons {v : Value} {vs : List Value} {d : V} {ds : List V} (r : Rep g v d) (rs : RepL g vs ds) : RepL g (v :: vs) (d :: ds)
end

theorem IsList.keeps' {g g' : Heap} {a : Addr} {its : Array Value} (x : g.IsList a its) (hk : ∀ b o, g.get? b = some o → g'.get? b = some o) : g'.IsList a its := let ⟨ob, e, r⟩ := x; ⟨ob, hk _ _ e, r⟩

mutual
theorem Rep.keeps {g g' : Heap} (hk : ∀ b o, g.get? b = some o → g'.get? b = some o) : ∀ {v : Value} {d : V}, Rep g v d → Rep g' v d
  | _, _, .none => .none
  | _, _, .bool b => .bool b
  | _, _, .int i t => .int i t
  | _, _, .str x t => .str x t
  | _, _, .bytes b t => .bytes b t
  | _, _, .list h r => .list (IsList.keeps' h hk) (RepL.keeps hk r)
theorem RepL.keeps {g g' : Heap} (hk : ∀ b o, g.get? b = some o → g'.get? b = some o) : ∀ {vs : List Value} {ds : List V}, RepL g vs ds → RepL g' vs ds
  | _, _, .nil => .nil
  | _, _, .cons r rs => .cons (r.keeps hk) (RepL.keeps hk rs)
end

theorem RepL.length {g : Heap} : ∀ {vs : List Value} {ds : List V}, RepL g vs ds → vs.length = ds.length
  | _, _, .nil => rfl
  | _, _, .cons _ rs => by rw [List.length_cons, List.length_cons, rs.length]
theorem RepL.snoc {g : Heap} {v : Value} {d : V} (r : Rep g v d) : ∀ {vs : List Value} {ds : List V}, RepL g vs ds → RepL g (vs ++ [v]) (ds ++ [d])
  | _, _, .nil => .cons r .nil
  | _, _, .cons r' rs => .cons r' (RepL.snoc r rs)
theorem RepL.get {g : Heap} : ∀ {vs : List Value} {ds : List V}, RepL g vs ds → ∀ {i : Nat} {v : Value}, vs[i]? = some v → ∃ d, ds[i]? = some d ∧ Rep g v d
  | _, _, .nil, i, v, e => by simp at e
  | _, _, .cons r rs, 0, v, e => by simp at e; subst e; exact ⟨_, rfl, r⟩
  | _, _, .cons r rs, i + 1, v, e => by simpa using rs.get (i := i) (by simpa using e)
theorem RepL.getD {g : Heap} : ∀ {vs : List Value} {ds : List V}, RepL g vs ds → ∀ {i : Nat} {d : V}, ds[i]? = some d → ∃ v, vs[i]? = some v ∧ Rep g v d
  | _, _, .nil, i, v, e => by simp at e
  | _, _, .cons r rs, 0, v, e => by simp at e; subst e; exact ⟨_, rfl, r⟩
  | _, _, .cons r rs, i + 1, v, e => by simpa using rs.getD (i := i) (by simpa using e)
theorem RepL.drop {g : Heap} : ∀ {vs : List Value} {ds : List V}, RepL g vs ds → ∀ n, RepL g (vs.drop n) (ds.drop n)
  | _, _, .nil, n => by rw [List.drop_nil, List.drop_nil]; exact .nil
  | _, _, .cons r rs, 0 => .cons r rs
  | _, _, .cons r rs, n + 1 => rs.drop n
theorem RepL.take {g : Heap} : ∀ {vs : List Value} {ds : List V}, RepL g vs ds → ∀ n, RepL g (vs.take n) (ds.take n)
  | _, _, .nil, n => by rw [List.take_nil, List.take_nil]; exact .nil
  | _, _, .cons r rs, 0 => .nil
  | _, _, .cons r rs, n + 1 => .cons r (rs.take n)
theorem RepL.append {g : Heap} {vs' : List Value} {ds' : List V} (R' : RepL g vs' ds') : ∀ {vs : List Value} {ds : List V}, RepL g vs ds → RepL g (vs ++ vs') (ds ++ ds')
  | _, _, .nil => R'
  | _, _, .cons r rs => .cons r (RepL.append R' rs)

end
section


section
variable {w : World} {mg mb : Str → Option Value} {o : Shared} {g₀ g : Heap} {L : Addr} {m cm : Str → Option Value} {cl : List (Str × Addr)} {own : List (Addr × Obj)} {h : Heap} {gens : Array GenState} {os : OsState}

theorem St.ret' {heap : Heap} {gens : Array GenState} {drawn : Drawn} {toks : Nat} {os : OsState} (H : St w mg mb o g₀ g L m cl cm own heap gens os) : Ret w mg mb g₀ o g ⟨heap, gens, drawn, toks, os⟩ := ⟨H.inv, H.ext, H.keep, H.fresh, H.sz, H.oss, H.gn⟩

/-- an own object changes and is forgotten -/
theorem St.other {a : Addr} {ob : Obj} {h' : Heap} (H : St w mg mb o g₀ g L m cl cm ((a, ob) :: own) h gens os) (hs : Heap.SameBut a h h') : St w mg mb o g₀ g L m cl cm own h' gens os := by
  have ha := H.owns (a, ob) (.head _)
  have h784 : 784 < a := ha.2.2.2.1
  have hne : ∀ p ∈ own, p.1 ≠ a := fun p hp e => by
    have := H.nd
    rw [List.map_cons, List.nodup_cons] at this
    exact this.1 (List.mem_map.mpr ⟨p, hp, e⟩)
  exact {
    inv := ⟨H.inv.base, H.inv.tabs.keeps (fun _ _ e => e) (fun o e => hs.extBut _ o (lowA h784) e) (fun o e => hs.extBut _ o (lowC h784) e),
      fun b o' e => hs.extBut b o' (by rintro rfl; rw [ha.2.2.1] at e; cases e) (H.inv.sub b o' e), H.inv.n1, H.inv.n2⟩
    ns := H.ns.sameBut hs (Ne.symm ha.2.1)
    nL := H.nL
    owns := fun p hp => let x := H.owns p (.tail _ hp); ⟨hs.extBut _ _ (hne p hp) x.1, x.2⟩
    nd := H.tail.nd
    cell := fun n c e => let x := H.cell n c e; ⟨x.1.sameBut hs (fun q => H.cown (a, ob) (.head _) n c e q.symm), x.2⟩
    capart := H.capart
    cown := fun p hp n c e => H.cown p (.tail _ hp) n c e
    keep := fun b o' h1 h2 e => hs.extBut b o' (Nat.ne_of_lt (Nat.lt_of_lt_of_le (Heap.lt_size e) ha.2.2.2.2)) (H.keep b o' h1 h2 e)
    ext := H.ext
    fresh := H.fresh
    hL := H.hL
    sz := by rw [hs.1]; exact H.sz
    oss := H.oss
    gn := H.gn }

/-- an own object changes, in a way that is not told whole -/
theorem St.updBut {a : Addr} {ob ob' : Obj} {h' : Heap} (H : St w mg mb o g₀ g L m cl cm ((a, ob) :: own) h gens os) (hs : ∀ b o, b ∉ [a] → h.get? b = some o → h'.get? b = some o) (e' : h'.get? a = some ob') :
    St w mg mb o g₀ g L m cl cm ((a, ob') :: own) h' gens os := by
  have ha := H.owns (a, ob) (.head _)
  have h784 : 784 < a := ha.2.2.2.1
  have hne : ∀ p ∈ own, p.1 ≠ a := fun p hp e => by
    have := H.nd
    rw [List.map_cons, List.nodup_cons] at this
    exact this.1 (List.mem_map.mpr ⟨p, hp, e⟩)
  have hs' : ∀ b o, b ≠ a → h.get? b = some o → h'.get? b = some o := fun b o hb e => hs b o (fun hm => hb (List.mem_singleton.mp hm)) e
  exact {
    inv := ⟨H.inv.base, H.inv.tabs.keeps (fun _ _ e => e) (fun o e => hs' _ o (lowA h784) e) (fun o e => hs' _ o (lowC h784) e),
      fun b o' e => hs' b o' (by rintro rfl; rw [ha.2.2.1] at e; cases e) (H.inv.sub b o' e), H.inv.n1, H.inv.n2⟩
    ns := H.ns.at' fun ob e => hs' _ ob (Ne.symm ha.2.1) e
    nL := H.nL
    owns := fun p hp => by
      rcases List.mem_cons.mp hp with rfl | hp
      · exact ⟨e', ha.2⟩
      · let x := H.owns p (.tail _ hp); exact ⟨hs' _ _ (hne p hp) x.1, x.2⟩
    nd := H.nd
    cell := fun n c e => let x := H.cell n c e; let ⟨oc, hoc, hd⟩ := x.1; ⟨⟨oc, hs' _ _ (fun q => H.cown (a, ob) (.head _) n c e q.symm) hoc, hd⟩, x.2⟩
    capart := H.capart
    cown := fun p hp n c e => by
      rcases List.mem_cons.mp hp with rfl | hp
      · exact H.cown (a, ob) (.head _) n c e
      · exact H.cown p (.tail _ hp) n c e
    keep := fun b o' h1 h2 e => hs' b o' (Nat.ne_of_lt (Nat.lt_of_lt_of_le (Heap.lt_size e) ha.2.2.2.2)) (H.keep b o' h1 h2 e)
    ext := H.ext
    fresh := H.fresh
    hL := H.hL
    sz := Nat.le_of_lt (Nat.lt_of_le_of_lt ha.2.2.2.2 (Heap.lt_size e'))
    oss := H.oss
    gn := H.gn }

/-- an own object changes in a way that is not told, and is forgotten -/
theorem St.otherBut {a : Addr} {ob : Obj} {h' : Heap} (H : St w mg mb o g₀ g L m cl cm ((a, ob) :: own) h gens os) (hs : ∀ b o, b ∉ [a] → h.get? b = some o → h'.get? b = some o) (hz : o.heap.objs.size ≤ h'.objs.size) : St w mg mb o g₀ g L m cl cm own h' gens os := by
  have ha := H.owns (a, ob) (.head _)
  have h784 : 784 < a := ha.2.2.2.1
  have hne : ∀ p ∈ own, p.1 ≠ a := fun p hp e => by
    have := H.nd
    rw [List.map_cons, List.nodup_cons] at this
    exact this.1 (List.mem_map.mpr ⟨p, hp, e⟩)
  have hs' : ∀ b o, b ≠ a → h.get? b = some o → h'.get? b = some o := fun b o hb e => hs b o (fun hm => hb (List.mem_singleton.mp hm)) e
  exact {
    inv := ⟨H.inv.base, H.inv.tabs.keeps (fun _ _ e => e) (fun o e => hs' _ o (lowA h784) e) (fun o e => hs' _ o (lowC h784) e),
      fun b o' e => hs' b o' (by rintro rfl; rw [ha.2.2.1] at e; cases e) (H.inv.sub b o' e), H.inv.n1, H.inv.n2⟩
    ns := H.ns.at' fun ob e => hs' _ ob (Ne.symm ha.2.1) e
    nL := H.nL
    owns := fun p hp => let x := H.owns p (.tail _ hp); ⟨hs' _ _ (hne p hp) x.1, x.2⟩
    nd := H.tail.nd
    cell := fun n c e => let x := H.cell n c e; let ⟨oc, hoc, hd⟩ := x.1; ⟨⟨oc, hs' _ _ (fun q => H.cown (a, ob) (.head _) n c e q.symm) hoc, hd⟩, x.2⟩
    capart := H.capart
    cown := fun p hp n c e => H.cown p (.tail _ hp) n c e
    keep := fun b o' h1 h2 e => hs' b o' (Nat.ne_of_lt (Nat.lt_of_lt_of_le (Heap.lt_size e) ha.2.2.2.2)) (H.keep b o' h1 h2 e)
    ext := H.ext
    fresh := H.fresh
    hL := H.hL
    sz := hz
    oss := H.oss
    gn := H.gn }
end

/-- an iterator over things that stand still; it writes its own object alone -/
def Iter (prog : Program) (w : World) (A : Around) (I : Addr) (n : Nat) (P : Nat → Value → Prop) (S : Nat → Heap → Prop) (g : Heap) : Prop :=
  ∃ fp, Walks prog w A I fp [I] n P S ∧ (∀ b ∈ fp, b = I ∨ ∃ ob, g.get? b = some ob) ∧ ∀ i h, S i h → ∃ ob, h.get? I = some ob

def DictObj (ob : Obj) (m : Str → Option Value) : Prop := ∃ es ep, ob.data = .dict es ep ∧ StrKeys es ∧ ∀ name, nsFind es name = m name
theorem DictObj.ns {ob : Obj} {m : Str → Option Value} {h : Heap} {a : Addr} (D : DictObj ob m) (e : h.get? a = some ob) : h.Ns a m := let ⟨es, ep, r⟩ := D; ⟨ob, es, ep, e, r⟩
theorem DictObj.of {m : Str → Option Value} {h : Heap} {a : Addr} (n : h.Ns a m) : ∃ ob, h.get? a = some ob ∧ DictObj ob m := let ⟨ob, es, ep, e, r⟩ := n; ⟨ob, e, es, ep, r⟩
def ListObj (ob : Obj) (its : Array Value) : Prop := ob.cls = .type "list" ∧ ∃ n, ob.data = .seq its n
theorem ListObj.is {ob : Obj} {its : Array Value} {h : Heap} {a : Addr} (D : ListObj ob its) (e : h.get? a = some ob) : h.IsList a its := ⟨ob, e, D⟩
theorem ListObj.of {its : Array Value} {h : Heap} {a : Addr} (n : h.IsList a its) : ∃ ob, h.get? a = some ob ∧ ListObj ob its := n

section
variable {prog : Program} {w : World} {mg mb : Str → Option Value} {o : Shared} {g₀ g : Heap} {L : Addr} {m cm : Str → Option Value} {cl : List (Str × Addr)} {own : List (Addr × Obj)} {A : Around} {E : Value → Shared → Prop} {env : Env}

/-- a frame within: the block of a comprehension -/
theorem St.within {C : Addr} {oC : Obj} {m₃ : Str → Option Value} {cl' : List (Str × Addr)} {s : Shared} (H : St w mg mb o g₀ g L m cl cm ((C, oC) :: own) s.heap s.gens s.os) (hC : DictObj oC m₃) (hsub : ∀ n c, cl'.lookup n = some c → cl.lookup n = some c) :
    St w mg mb s g g C m₃ cl' cm [] s.heap s.gens s.os := by
  have ha := H.owns (C, oC) (.head _)
  exact {
    inv := H.inv
    ns := hC.ns ha.1
    nL := ha.2.2.1
    owns := fun _ hp => nomatch hp
    nd := List.nodup_nil
    cell := fun n c e => let x := H.cell n c (hsub n c e); ⟨x.1, (H.cown (C, oC) (.head _) n c (hsub n c e)).symm, x.2.2⟩
    capart := fun n c n' c' e e' hn => H.capart n c n' c' (hsub n c e) (hsub n' c' e') hn
    cown := fun _ hp => nomatch hp
    keep := fun _ _ _ _ e => e
    ext := fun _ _ e => e
    fresh := fun _ ob e => .inl ⟨ob, e⟩
    hL := ha.2.2.2.1
    sz := Nat.le_refl _
    oss := rfl
    gn := id }

theorem perm3 {α : Type} {a b c : α} {l : List α} : (b :: a :: c :: l).Perm (a :: b :: c :: l) := List.Perm.swap ..
theorem perm3' {α : Type} {a b c : α} {l : List α} : (c :: a :: b :: l).Perm (a :: b :: c :: l) := (List.Perm.swap ..).trans (List.Perm.cons _ (List.Perm.swap ..))

/-- the loop of a comprehension with one clause -/
theorem comp_loop {elt iter : Expr} {x : Str} {px : Pos} {scope : Scope} {pos : Pos} {cenv : Env} {I D : Addr} {n : Nat} {P : Nat → Value → Prop} {S : Nat → Heap → Prop} {F : Nat → Heap → Value → Prop} {cl' : List (Str × Addr)} {R : Result → Shared → Prop} {C : Addr} {oI oC oD : Obj} {m₀ : Str → Option Value} {s : Shared}
    (hz : n ≤ sizeLine) (hF : ∀ i g g' y, (∀ b o, g.get? b = some o → g'.get? b = some o) → F i g y → F i g' y) (hCe : cenv.locals = C) (hx : cenv.kindOf x = some .local) (hp : (cenv.scope.kind == .class || (cenv.scope.kind == .module && cenv.locals != cenv.globals)) = false)
    (W : Iter prog w A I n P S g) (hsub : ∀ n c, cl'.lookup n = some c → cl.lookup n = some c)
    (H : St w mg mb o g₀ g L m cl cm ((C, oC) :: (D, oD) :: (I, oI) :: own) s.heap s.gens s.os) (hS : S 0 s.heap) (hC : DictObj oC m₀) (hD : ListObj oD #[])
    (helt : ∀ i v g' m₃ s₃, i < n → P i v → (∀ b o, g.get? b = some o → g'.get? b = some o) → m₃ x = some v → St w mg mb s₃ g' g' C m₃ cl' cm [] s₃.heap s₃.gens s₃.os →
      wpAny (model prog w) A (eval elt cenv) (fun y s₄ => ∃ g'', Ret w mg mb g' s₃ g'' s₄ ∧ F i g'' y) (fun _ _ => False) s₃)
    (hR : ∀ g' oC' m' oD' (ys : List Value) s', St w mg mb o g₀ g' L m cl cm ((C, oC') :: (D, oD') :: own) s'.heap s'.gens s'.os → DictObj oC' m' → ListObj oD' ys.toArray → (∀ b o, g.get? b = some o → g'.get? b = some o) → ys.length = n → (∀ i y, ys[i]? = some y → F i g' y) → R (.ok .next) s') :
    codeAny (model prog w) A (.compLoop (.ListComp elt [⟨.Name x px, iter, [], 0⟩] scope pos) 0 (.ref I) (.ref D) cenv) R s := by
  obtain ⟨fp, W, hfp, hth⟩ := W
  refine codeAny_compLoop_list (fun k s' => ∃ i g' oC' m' oD' oI' ys, St w mg mb o g₀ g' L m cl cm ((C, oC') :: (D, oD') :: (I, oI') :: own) s'.heap s'.gens s'.os ∧ S i s'.heap ∧ DictObj oC' m' ∧ ListObj oD' (List.toArray ys) ∧
      (∀ b o, g.get? b = some o → g'.get? b = some o) ∧ ys.length = i ∧ (∀ j y, ys[j]? = some y → F j g' y) ∧ i ≤ n ∧ k = n + 1 - i) ?_ (n + 1)
    ⟨0, g, oC, m₀, oD, oI, [], H, hS, hC, hD, fun _ _ e => e, rfl, fun j y e => by simp at e, Nat.zero_le _, rfl⟩
  rintro k s' ⟨i, g', oC', m', oD', oI', ys, H', hS', hC', hD', hg', hlen, hFs, hi, rfl⟩
  have hCo := H'.owns (C, oC') (.head _)
  have hCn : g'.get? C = none := hCo.2.2.1
  by_cases hlt : i < n
  · refine W.item i s' _ _ hlt hS' fun v h₁ tk₁ hP hS₁ hk₁ => ?_
    obtain ⟨oI₁, hI₁⟩ := hth _ _ hS₁
    have H₁ : St w mg mb o g₀ g' L m cl cm ((I, oI₁) :: (C, oC') :: (D, oD') :: own) h₁ s'.gens s'.os := (H'.perm perm3').updBut hk₁ hI₁
    have H₁ := H₁.perm (own' := (C, oC') :: (D, oD') :: (I, oI₁) :: own) perm3'.symm
    refine PyProof.Rows.assign_Name (wpAny_storeName_local hx (hCe ▸ hC'.ns (H₁.owns (C, oC') (.head _)).1) (fun h₂ hn₂ hs₂ => ?_) hp)
    rw [hCe] at hn₂ hs₂
    obtain ⟨oC₂, hC₂, hC₂'⟩ := DictObj.of hn₂
    have H₂ : St w mg mb o g₀ g' L m cl cm ((C, oC₂) :: (D, oD') :: (I, oI₁) :: own) h₂ s'.gens s'.os := H₁.upd hs₂ hC₂
    have hS₂ : S (i + 1) h₂ := W.frame _ _ _ hS₁ fun b hb ob e => by
      rcases hfp b hb with rfl | ⟨ob', e'⟩
      · rw [hI₁] at e; cases e; exact (H₂.owns (_, oI₁) (.tail _ (.tail _ (.head _)))).1
      · exact hs₂.extBut b ob (fun q => by rw [q] at e'; have q2 := hg' _ _ e'; rw [hCn] at q2; cases q2) e
    refine wpAny_mono (helt i v g' _ ⟨h₂, s'.gens, s'.drawn, tk₁ + 1, s'.os⟩ hlt hP hg' (by simp) (H₂.within (s := ⟨h₂, s'.gens, s'.drawn, tk₁ + 1, s'.os⟩) hC₂' hsub)) (fun y s₄ h₄ => ?_) fun _ _ x => x.elim
    obtain ⟨g'', R₄, hy⟩ := h₄
    have H₄ := St.back (s := ⟨h₂, s'.gens, s'.drawn, tk₁ + 1, s'.os⟩) H₂ R₄
    have hD₄ : s₄.heap.IsList D ys.toArray := hD'.is (H₄.owns (D, oD') (.tail _ (.head _))).1
    refine wpAny_list_append hD₄ (fun h₅ hl₅ hs₅ => ?_) (by rw [List.size_toArray]; omega)
    obtain ⟨oD₅, hD₅, hD₅'⟩ := ListObj.of hl₅
    have H₅ : St w mg mb o g₀ g'' L m cl cm ((D, oD₅) :: (C, oC₂) :: (I, oI₁) :: own) h₅ s₄.gens s₄.os := (H₄.perm (own' := (D, oD') :: (C, oC₂) :: (I, oI₁) :: own) perm3).upd hs₅ hD₅
    have H₅ := H₅.perm (own' := (C, oC₂) :: (D, oD₅) :: (I, oI₁) :: own) perm3
    refine ⟨n + 1 - (i + 1), by omega, i + 1, g'', oC₂, _, oD₅, oI₁, ys ++ [y], H₅, ?_, hC₂', ?_, fun b ob e => R₄.ext b ob (hg' b ob e), by simp [hlen], ?_, hlt, rfl⟩
    · refine W.frame _ _ _ hS₂ fun b hb ob e => ?_
      rcases hfp b hb with rfl | ⟨ob', e'⟩
      · rw [(H₂.owns (_, oI₁) (.tail _ (.tail _ (.head _)))).1] at e
        cases e
        exact (H₅.owns (_, oI₁) (.tail _ (.tail _ (.head _)))).1
      · have e2 := H₂.inv.sub b ob' (hg' b ob' e')
        rw [e2] at e; cases e
        exact H₅.inv.sub b _ (R₄.ext _ _ (hg' b _ e'))
    · simpa using hD₅'
    · intro j y' e
      rcases Nat.lt_trichotomy j ys.length with h | h | h
      · exact hF _ _ _ _ R₄.ext (hFs j y' (by rwa [List.getElem?_append_left h] at e))
      · subst h; simp at e; subst e; subst hlen; exact hy
      · have : (ys ++ [y])[j]? = none := List.getElem?_eq_none (by rw [List.length_append, List.length_singleton]; omega)
        rw [this] at e; cases e
  · have hin : i = n := by omega
    subst hin
    refine W.done _ _ _ hS' fun h₁ tk₁ hk₁ => ?_
    have hCk : h₁.get? C = some oC' := hk₁ C oC' (fun hm => by
      have e := List.mem_singleton.mp hm
      have := H'.nd
      simp only [List.map_cons, List.nodup_cons, List.mem_cons, not_or] at this
      exact this.1.2.1 e) hCo.1
    have H₁ : St w mg mb o g₀ g' L m cl cm ((C, oC') :: (D, oD') :: own) h₁ s'.gens s'.os := (H'.perm perm3').otherBut hk₁ (Nat.le_of_lt (Nat.lt_of_le_of_lt hCo.2.2.2.2 (Heap.lt_size hCk)))
    exact hR g' oC' m' oD' ys ⟨h₁, s'.gens, s'.drawn, tk₁, s'.os⟩ H₁ hC' hD' hg' hlen hFs
end

end
section


noncomputable def SubC : List (Str × Addr) → List (Str × Addr) → Prop
  | [], _ => True
  | p :: r, cl => cl.lookup p.1 = some p.2 ∧ SubC r cl
theorem SubC.sub : ∀ {cl' cl : List (Str × Addr)}, SubC cl' cl → ∀ n c, cl'.lookup n = some c → cl.lookup n = some c
  | [], _, _, _, _, e => by cases e
  | (k, v) :: r, cl, h, n, c, e => by
    rw [List.lookup_cons] at e
    cases hb : n == k with
    | true => rw [hb] at e; cases e; rw [beq_iff_eq.mp hb]; exact h.1
    | false => rw [hb] at e; exact h.2.sub n c e

section
variable {prog : Program} {w : World} {mg mb : Str → Option Value} {o : Shared} {g₀ : Heap} {L : Addr} {m cm : Str → Option Value} {cl : List (Str × Addr)} {own : List (Addr × Obj)} {A : Around} {E : Value → Shared → Prop} {env : Env} {s : Shared}

/-- what stands when the iterator is made -/
def CompGo (prog : Program) (w : World) (mg mb : Str → Option Value) (o : Shared) (g₀ : Heap) (L : Addr) (m : Str → Option Value) (cl : List (Str × Addr)) (cm : Str → Option Value) (own : List (Addr × Obj)) (A : Around) (env : Env)
    (scope : Scope) (cl' : List (Str × Addr)) (x : Str) (elt : Expr) (Done : Addr → Heap → List Value → Nat → (Nat → Heap → Value → Prop) → Shared → Prop) (it : Value) (s₂ : Shared) : Prop :=
  ∃ (I n : Nat) (P : Nat → Value → Prop) (S : Nat → Heap → Prop) (F : Nat → Heap → Value → Prop) (g : Heap) (oI : Obj), it = .ref I ∧ Iter prog w A I n P S g ∧ n ≤ sizeLine ∧ S 0 s₂.heap ∧ St w mg mb o g₀ g L m cl cm ((I, oI) :: own) s₂.heap s₂.gens s₂.os ∧
    (∀ i g g' y, (∀ b o, g.get? b = some o → g'.get? b = some o) → F i g y → F i g' y) ∧
    (∀ C i v g' m₃ s₃, i < n → P i v → (∀ b o, g.get? b = some o → g'.get? b = some o) → m₃ x = some v → St w mg mb s₃ g' g' C m₃ cl' cm [] s₃.heap s₃.gens s₃.os →
      wpAny (model prog w) A (eval elt (compEnvC scope cl' C env)) (fun y s₄ => ∃ g'', Ret w mg mb g' s₃ g'' s₄ ∧ F i g'' y) (fun _ _ => False) s₃) ∧
    (∀ D g' s' (ys : List Value), (∀ b o, g.get? b = some o → g'.get? b = some o) → g'.IsList D ys.toArray → ys.length = n → (∀ i y, ys[i]? = some y → F i g' y) → Done D g' ys n F s')

theorem comp_start {elt iter : Expr} {x : Str} {px : Pos} {scope : Scope} {pos : Pos} {cl' : List (Str × Addr)} {I n : Nat} {P : Nat → Value → Prop} {S : Nat → Heap → Prop} {F : Nat → Heap → Value → Prop} {g : Heap} {oI : Obj} {RR : Value → Addr → Result → Shared → Prop}
    (hcell : ∀ y ∈ scope.names, y.2 ≠ .cell) (hkind : scope.kind = .function) (hx : scope.names.lookup x = some .local) (hsub : SubC cl' cl)
    (W : Iter prog w A I n P S g) (hz : n ≤ sizeLine) (hS : S 0 s.heap) (H : St w mg mb o g₀ g L m cl cm ((I, oI) :: own) s.heap s.gens s.os)
    (hF : ∀ i g g' y, (∀ b o, g.get? b = some o → g'.get? b = some o) → F i g y → F i g' y)
    (helt : ∀ C i v g' m₃ s₃, i < n → P i v → (∀ b o, g.get? b = some o → g'.get? b = some o) → m₃ x = some v → St w mg mb s₃ g' g' C m₃ cl' cm [] s₃.heap s₃.gens s₃.os →
      wpAny (model prog w) A (eval elt (compEnvC scope cl' C env)) (fun y s₄ => ∃ g'', Ret w mg mb g' s₃ g'' s₄ ∧ F i g'' y) (fun _ _ => False) s₃)
    (hR : ∀ D C g' oC' m' oD' (ys : List Value) s', St w mg mb o g₀ g' L m cl cm ((C, oC') :: (D, oD') :: own) s'.heap s'.gens s'.os → DictObj oC' m' → ListObj oD' ys.toArray → (∀ b o, g.get? b = some o → g'.get? b = some o) → ys.length = n → (∀ i y, ys[i]? = some y → F i g' y) → RR (.ref D) C (.ok .next) s') :
    wpAny (model prog w) A (newList []) (fun acc s₃ => wpAny (model prog w) A (newFunctionEnv scope env.globals cl' [] env.qual none .none (some env)) (fun cenv s₄ =>
      codeAny (model prog w) A (.compStart (.ListComp elt [⟨.Name x px, iter, [], 0⟩] scope pos) 0 (.ref I) acc { cenv with scope := relabel scope env }) (RR acc cenv.locals) s₄) E s₃) E s := by
  refine wpAny_newObj_type (wpAny_newFunctionEnv hcell (by intro y hy; simp at hy) (fun h₁ hns₁ hsb₁ => ?_) hkind)
  have H₁ := H.push { cls := .type "list", data := .seq ([] : List Value).toArray }
  have H₂ := H₁.push { cls := .type "dict", data := .dict #[] }
  obtain ⟨oC, hC, hC'⟩ := DictObj.of hns₁
  have H₃ := H₂.upd hsb₁ hC
  have hS₃ : S 0 h₁ := by
    obtain ⟨fp, W, hfp, hth⟩ := W
    refine W.frame _ _ _ hS fun b hb ob e => ?_
    have hI := (H.owns (I, oI) (.head _)).1
    rcases hfp b hb with rfl | ⟨ob', e'⟩
    · rw [hI] at e; cases e
      exact (H₃.owns (_, oI) (.tail _ (.tail _ (.head _)))).1
    · have e2 := H.inv.sub b ob' e'
      rw [e2] at e; cases e
      exact H₃.inv.sub b _ e'
  have loop : ∀ s₃ : Shared, s₃.heap = h₁ → s₃.gens = s.gens → s₃.os = s.os →
      codeAny (model prog w) A (.compLoop (.ListComp elt [⟨.Name x px, iter, [], 0⟩] scope pos) 0 (.ref I) (.ref s.heap.objs.size) (compEnvC scope cl' (s.heap.push { cls := .type "list", data := .seq ([] : List Value).toArray }).objs.size env))
        (RR (.ref s.heap.objs.size) (s.heap.push { cls := .type "list", data := .seq ([] : List Value).toArray }).objs.size) s₃ := by
    intro s₃ e1 e2 e3
    refine comp_loop hz hF rfl (lookup_relabel_local hx) (by simp [compEnvC, relabel, hkind]) W hsub.sub (by rw [e1, e2, e3]; exact H₃) (by rw [e1]; exact hS₃) hC' ⟨rfl, _, rfl⟩ (fun i v g' m₃ s₃ => helt _ i v g' m₃ s₃) ?_
    intro g' oC' m' oD' ys s' H' a b c d e
    exact hR _ _ g' oC' m' oD' ys s' H' a b c d e
  exact codeAny_compStart_list (loop _ rfl rfl rfl) (let ⟨fp, W', _⟩ := W; W'.self 0 _ _ _ hS₃ (loop _ rfl rfl rfl))

theorem comp {elt iter : Expr} {x : Str} {px : Pos} {scope : Scope} {pos : Pos} (cl' : List (Str × Addr)) {Q : Value → Shared → Prop}
    (hclos : closureFor scope env = pure cl') (hcell : ∀ y ∈ scope.names, y.2 ≠ .cell) (hkind : scope.kind = .function) (hnames : ∀ y ∈ scope.names, y.2 = .local → scope.names.lookup y.1 = some .local) (hx : scope.names.lookup x = some .local) (hsub : SubC cl' cl)
    (hs : ∀ x, foldedSetIterable iter env x = pure x)
    (h : wpAny (model prog w) A (eval iter env) (fun xv s₁ => wpAny (model prog w) A (pyIter xv) (CompGo prog w mg mb o g₀ L m cl cm own A env scope cl' x elt fun D g' ys n F s' => St w mg mb o g₀ g' L m cl cm own s'.heap s'.gens s'.os → Q (.ref D) s') E s₁) E s) :
    wpAny (model prog w) A (eval (.ListComp elt [⟨.Name x px, iter, [], 0⟩] scope pos) env) Q E s := by
  rw [eval_ListComp]
  refine wpAny_comprehension_free (use := none) rfl hs hclos hkind hnames (wpAny_mono h (fun xv s₁ h₁ => wpAny_mono h₁ (fun it s₂ h₂ => ?_) fun _ _ e => e) fun _ _ e => e)
  obtain ⟨I, n, P, S, F, g, oI, rfl, W, hz, hS, H, hF, helt, hD⟩ := h₂
  refine comp_start (RR := fun acc C => compPost (model prog w) A E none Q acc C) hcell hkind hx hsub W hz hS H hF helt ?_
  intro D C g' oC' m' oD' ys s' H' hC' hD' hg' hlen hFs
  refine ⟨m', hC'.ns (H'.owns _ (.head _)).1, fun h'' hs'' => ?_⟩
  obtain ⟨g'', hg'', hDg, H''⟩ := (H'.other hs'').frz
  exact hD D g'' { s' with heap := h'' } ys (fun b ob e => hg'' b ob (hg' b ob e)) (hD'.is hDg) hlen (fun i y e => hF _ _ _ _ hg'' (hFs i y e)) H''

theorem compAssign {elt iter : Expr} {x y : Str} {px py : Pos} {scope : Scope} {pos spos : Pos} (cl' : List (Str × Addr)) {Q : Flow → Shared → Prop}
    (hsw : swapsWith (.ListComp elt [⟨.Name x px, iter, [], 0⟩] scope pos) (some (.Name y py)) spos.line env = pure true)
    (hclos : closureFor scope env = pure cl') (hcell : ∀ y ∈ scope.names, y.2 ≠ .cell) (hkind : scope.kind = .function) (hnames : ∀ y ∈ scope.names, y.2 = .local → scope.names.lookup y.1 = some .local) (hx : scope.names.lookup x = some .local) (hsub : SubC cl' cl)
    (hs : ∀ x, foldedSetIterable iter env x = pure x) (hLo : o.heap.objs.size ≤ L) (hL : env.locals = L) (hy : env.kindOf y = some .local) (hk : env.scope.kind = .function)
    (h : wpAny (model prog w) A (eval iter env) (fun xv s₁ => wpAny (model prog w) A (pyIter xv) (CompGo prog w mg mb o g₀ L m cl cm own A env scope cl' x elt fun D g' ys n F s' => St w mg mb o g₀ g' L (fun z => if z = y then some (.ref D) else m z) cl cm own s'.heap s'.gens s'.os → Q .next s') E s₁) E s) :
    wpAny (model prog w) A (exec (.Assign [.Name y py] (.ListComp elt [⟨.Name x px, iter, [], 0⟩] scope pos) spos) env) Q E s := by
  rw [exec_Assign_Name_used _ _ _ _ hsw]
  refine wpAny_bind (wpAny_standAt (wpAny_bind ?_))
  show wpAny _ A (do let _ ← comprehension (.ListComp elt [⟨.Name x px, iter, [], 0⟩] scope pos) scope env _ (newList []) false (eval iter env) (some (assign (.Name y py) env))) _ _ s
  refine wpAny_bind (wpAny_mono (wpAny_comprehension_free (use := some (assign (.Name y py) env)) (Q := fun _ s' => Q .next s') rfl hs hclos hkind hnames
    (wpAny_mono h (fun xv s₁ h₁ => wpAny_mono h₁ (fun it s₂ h₂ => ?_) fun _ _ e => e) fun _ _ e => e)) (fun _ s' hq => wpAny_pure (wpAny_pure hq)) fun _ _ e => e)
  obtain ⟨I, n, P, S, F, g, oI, rfl, W, hz, hS, H, hF, helt, hD⟩ := h₂
  refine comp_start (RR := fun acc C => compPost (model prog w) A E (some (assign (.Name y py) env)) (fun _ s' => Q .next s') acc C) hcell hkind hx hsub W hz hS H hF helt ?_
  intro D C g' oC' m' oD' ys s' H' hC' hD' hg' hlen hFs
  show wpAny _ A (assign (.Name y py) env (.ref D)) _ _ _
  refine PyProof.Rows.assign_Name (stL H' hLo hL (fun h₂ tk H₂ => ?_) hk hy)
  refine ⟨m', hC'.ns (H₂.owns _ (.head _)).1, fun h'' hs'' => ?_⟩
  obtain ⟨g'', hg'', hDg, H''⟩ := (H₂.other hs'').frz
  exact hD D g'' { s' with heap := h'', toks := tk } ys (fun b ob e => hg'' b ob (hg' b ob e)) (hD'.is hDg) hlen (fun i y e => hF _ _ _ _ hg'' (hFs i y e)) H''
end

/-! what may be iterated -/
section
variable {prog : Program} {w : World} {mg mb : Str → Option Value} {o : Shared} {g₀ g : Heap} {L : Addr} {m cm : Str → Option Value} {cl : List (Str × Addr)} {own : List (Addr × Obj)} {A : Around} {E : Value → Shared → Prop} {env : Env} {s : Shared}

theorem iter_list {Q : Value → Shared → Prop} {ax : Addr} {its : Array Value} (hh : A.handled = none) (H : St w mg mb o g₀ g L m cl cm own s.heap s.gens s.os) (hl : g.IsList ax its)
    (h : ∀ I oI s', Iter prog w A I its.size (fun i v => its[i]? = some v) (fun i h => h.IsListIter I ax i ∧ h.IsList ax its) g → s'.heap.IsListIter I ax 0 ∧ s'.heap.IsList ax its → St w mg mb o g₀ g L m cl cm ((I, oI) :: own) s'.heap s'.gens s'.os → Q (.ref I) s') :
    wpAny (model prog w) A (pyIter (.ref ax)) Q E s := by
  have hl' : s.heap.IsList ax its := IsList.keeps' hl H.inv.sub
  obtain ⟨ob, e, r⟩ := hl
  refine wpAny_pyIter_list hl' ?_
  have H' := H.push { cls := .type "list_iterator", data := .fields #[.ref ax, .int 0 0] }
  have hne : ax ≠ s.heap.objs.size := Nat.ne_of_lt (Heap.lt_size (H.inv.sub _ _ e))
  refine h _ _ { s with heap := s.heap.push { cls := .type "list_iterator", data := .fields #[.ref ax, .int 0 0] } } ⟨[s.heap.objs.size, ax], Walks.list hh _ ax hne its, fun b hb => ?_, fun i h hS => let ⟨x, e, _⟩ := hS.1; ⟨x, e⟩⟩ ⟨⟨_, Heap.get?_push_size _ rfl, rfl, rfl⟩, hl'.push _⟩ H'
  rcases List.mem_cons.mp hb with rfl | hb
  · exact .inl rfl
  · rw [List.mem_singleton.mp hb]; exact .inr ⟨ob, e⟩

theorem iter_str {Q : Value → Shared → Prop} {x : Str} {t : Tok} (hh : A.handled = none) (H : St w mg mb o g₀ g L m cl cm own s.heap s.gens s.os)
    (h : ∀ I oI S s', Iter prog w A I x.cps.size (SignAt x) S g → S 0 s'.heap → St w mg mb o g₀ g L m cl cm ((I, oI) :: own) s'.heap s'.gens s'.os → Q (.ref I) s') :
    wpAny (model prog w) A (pyIter (.str x t)) Q E s := by
  cases ha : x.cps.all (· < 128)
  · refine wpAny_pyIter_wide ha ?_
    refine h _ _ (fun i h => h.IsStrIter s.heap.objs.size "str_iterator" x t i) { s with heap := s.heap.push _ } ⟨_, Walks.strWide hh _ x t, fun b hb => .inl (List.mem_singleton.mp hb), fun i h hS => let ⟨x, e, _⟩ := hS; ⟨x, e⟩⟩ ⟨_, Heap.get?_push_size _ rfl, rfl, rfl⟩ (H.push _)
  · refine wpAny_pyIter_ascii ha ?_
    refine h _ _ (fun i h => h.IsStrIter s.heap.objs.size "str_ascii_iterator" x t i) { s with heap := s.heap.push _ } ⟨_, Walks.strAscii hh _ x t, fun b hb => .inl (List.mem_singleton.mp hb), fun i h hS => let ⟨x, e, _⟩ := hS; ⟨x, e⟩⟩ ⟨_, Heap.get?_push_size _ rfl, rfl, rfl⟩ (H.push _)
end

end
section

section
variable {prog : Program} {w : World} {mg mb : Str → Option Value} {o : Shared} {g₀ g : Heap} {L : Addr} {m cm : Str → Option Value} {cl : List (Str × Addr)} {own : List (Addr × Obj)} {A : Around} {E : Value → Shared → Prop} {env : Env} {s : Shared}

theorem iter_tuple {Q : Value → Shared → Prop} {ax : Addr} {its : Array Value} (hh : A.handled = none) (H : St w mg mb o g₀ g L m cl cm own s.heap s.gens s.os) (hl : g.IsTuple ax its)
    (h : ∀ I oI s', Iter prog w A I its.size (fun i v => its[i]? = some v) (fun i h => h.IsTupleIter I ax i ∧ h.IsTuple ax its) g → s'.heap.IsTupleIter I ax 0 ∧ s'.heap.IsTuple ax its → St w mg mb o g₀ g L m cl cm ((I, oI) :: own) s'.heap s'.gens s'.os → Q (.ref I) s') :
    wpAny (model prog w) A (pyIter (.ref ax)) Q E s := by
  obtain ⟨ob, e, r⟩ := hl
  have hl' : s.heap.IsTuple ax its := ⟨ob, H.inv.sub _ _ e, r⟩
  refine wpAny_pyIter_tuple hl' ?_
  have H' := H.push { cls := .type "tuple_iterator", data := .fields #[.ref ax, .int 0 0] }
  have hne : ax ≠ s.heap.objs.size := Nat.ne_of_lt (Heap.lt_size (H.inv.sub _ _ e))
  refine h _ _ { s with heap := s.heap.push { cls := .type "tuple_iterator", data := .fields #[.ref ax, .int 0 0] } } ⟨[s.heap.objs.size, ax], Walks.tuple hh _ ax hne its, fun b hb => ?_, fun i h hS => let ⟨x, e, _⟩ := hS.1; ⟨x, e⟩⟩ ⟨⟨_, Heap.get?_push_size _ rfl, rfl, rfl⟩, hl'.push _⟩ H'
  rcases List.mem_cons.mp hb with rfl | hb
  · exact .inl rfl
  · rw [List.mem_singleton.mp hb]; exact .inr ⟨ob, e⟩

theorem iter_bytes {Q : Value → Shared → Prop} {x : Array UInt8} {t : Tok} (hh : A.handled = none) (H : St w mg mb o g₀ g L m cl cm own s.heap s.gens s.os)
    (h : ∀ I oI S s', Iter prog w A I x.size (fun i v => ∃ c u, x[i]? = some c ∧ v = .int (c.toNat : Int) u) S g → S 0 s'.heap → St w mg mb o g₀ g L m cl cm ((I, oI) :: own) s'.heap s'.gens s'.os → Q (.ref I) s') :
    wpAny (model prog w) A (pyIter (.bytes x t)) Q E s := by
  refine KBw.pyIter_bytes ?_
  refine h _ _ (fun i h => KBw.IsBytesIter h s.heap.objs.size x t i) { s with heap := s.heap.push _ } ⟨_, KBw.walks hh _ x t, fun b hb => .inl (List.mem_singleton.mp hb), fun i h hS => let ⟨x, e, _⟩ := hS; ⟨x, e⟩⟩ ⟨_, Heap.get?_push_size _ rfl, rfl, rfl⟩ (H.push _)

/-- range(n), made and iterated -/
theorem range_make {Q : Value → Shared → Prop} {n : Int} {t : Tok} (H : St w mg mb o g₀ g L m cl cm own s.heap s.gens s.os)
    (h : ∀ r g' s', St w mg mb o g₀ g' L m cl cm own s'.heap s'.gens s'.os → (∀ b o, g.get? b = some o → g'.get? b = some o) → (∃ t u v, IsRange g' r 0 n 1 t u v) → Q (.ref r) s') :
    wpAny (model prog w) A (call (.type "range") [.int n t]) Q E s := by
  refine call_range_1 ?_
  obtain ⟨g', hg, hr, H'⟩ := H.pushG { cls := .type "range", data := .fields #[.int 0 s.toks, .int n t, .int 1 (s.toks + 1)] }
  exact h _ g' ⟨_, _, _, _, _⟩ H' hg ⟨_, _, _, hr⟩

theorem iter_range {Q : Value → Shared → Prop} {r : Addr} {n : Nat} (hh : A.handled = none) (hn : n < 2 ^ 62) (H : St w mg mb o g₀ g L m cl cm own s.heap s.gens s.os) (hr : ∃ t u v, IsRange g r 0 (n : Int) 1 t u v)
    (h : ∀ I oI S s', Iter prog w A I n (fun i v => ∃ t, v = .int (i : Int) t) S g → S 0 s'.heap → St w mg mb o g₀ g L m cl cm ((I, oI) :: own) s'.heap s'.gens s'.os → Q (.ref I) s') :
    wpAny (model prog w) A (pyIter (.ref r)) Q E s := by
  obtain ⟨t, u, v, hr⟩ := hr
  refine wpAny_pyIter_range (H.inv.sub _ _ hr) (small_one (by decide) (by decide) (by omega) (by omega)) ?_
  have hz : Builtin.Range.rangeSize 0 (n : Int) 1 = (n : Int) := by rw [rangeSize_one]; split <;> omega
  rw [hz]
  refine h _ _ (fun i h => IsRangeIter h s.heap.objs.size (0 + (i : Nat) * 1) ((n : Int) - (i : Nat)) 1) ⟨_, _, _, _, _⟩ ⟨_, ?_, fun b hb => .inl (List.mem_singleton.mp hb), fun i h hS => ⟨_, hS⟩⟩ ?_ (H.push _)
  · have W := Walks.range (prog := prog) (w := w) hh s.heap.objs.size 0 1 n
    have e : (fun i v => ∃ t, v = Value.int (i : Nat) t) = (fun (i : Nat) (v : Value) => ∃ t, v = Value.int (0 + (i : Int) * 1) t) := by
      funext i v; rw [Int.zero_add, Int.mul_one]
    rw [e]; exact W
  · show IsRangeIter _ _ _ _ _
    simp only [Int.natCast_zero, Int.zero_mul, Int.add_zero, Int.sub_zero]
    exact Heap.get?_push_size _ rfl

/-- a for by what holds between its turns -/
def ForGo (prog : Program) (w : World) (mg mb : Str → Option Value) (o : Shared) (g₀ : Heap) (L : Addr) (cl : List (Str × Addr)) (A : Around) (env : Env) (target : Expr) (body : List Stmt) (Q : Flow → Shared → Prop) (it : Value) (s₂ : Shared) : Prop :=
  ∃ (I n : Nat) (P : Nat → Value → Prop) (S : Nat → Heap → Prop) (g : Heap) (oI : Obj) (m cm : Str → Option Value) (own : List (Addr × Obj)) (J : Nat → Heap → (Str → Option Value) → (Str → Option Value) → List (Addr × Obj) → Prop),
    it = .ref I ∧ Iter prog w A I n P S g ∧ S 0 s₂.heap ∧ St w mg mb o g₀ g L m cl cm ((I, oI) :: own) s₂.heap s₂.gens s₂.os ∧ J 0 g m cm own ∧
    (∀ i v g' m' cm' own' oI' s', i < n → P i v → (∀ b o, g.get? b = some o → g'.get? b = some o) → J i g' m' cm' own' → St w mg mb o g₀ g' L m' cl cm' ((I, oI') :: own') s'.heap s'.gens s'.os →
      wpAny (model prog w) A (assign target env v) (fun _ s'' => wpAny (model prog w) A (execs body env) (fun f s₃ => f = .next ∧ ∃ g₃ m₃ cm₃ own₃, (∀ b o, g'.get? b = some o → g₃.get? b = some o) ∧ J (i + 1) g₃ m₃ cm₃ own₃ ∧
        St w mg mb o g₀ g₃ L m₃ cl cm₃ ((I, oI') :: own₃) s₃.heap s₃.gens s₃.os) (fun _ _ => False) s'') (fun _ _ => False) s') ∧
    (∀ g' m' cm' own' s', (∀ b o, g.get? b = some o → g'.get? b = some o) → J n g' m' cm' own' → St w mg mb o g₀ g' L m' cl cm' own' s'.heap s'.gens s'.os → Q .next s')

theorem forRule {x : Str} {px : Pos} {iter : Expr} {body : List Stmt} {pos : Pos} {Q : Flow → Shared → Prop} (hLo : o.heap.objs.size ≤ L) (hs : ∀ y, foldedSetIterable iter env y = pure y)
    (h : wpAny (model prog w) A (eval iter env) (fun xv s₁ => wpAny (model prog w) A (pyIter xv) (ForGo prog w mg mb o g₀ L cl A env (.Name x px) body Q) E s₁) E s) :
    wpAny (model prog w) A (exec (.For (.Name x px) iter body [] pos) env) Q E s := by
  refine wpAny_For (wpAny_mono h (fun xv s₁ h₁ => wpAny_mono h₁ (fun it s₂ h₂ => ?_) fun _ _ e => e) fun _ _ e => e) hs
  obtain ⟨I, n, P, S, g, oI, m, cm, own, J, rfl, ⟨fp, W, hfp, hth⟩, hS, H, hJ, turn, fin⟩ := h₂
  refine codeAny_forLoop (fun k s' => ∃ i g' m' cm' own' oI', St w mg mb o g₀ g' L m' cl cm' ((I, oI') :: own') s'.heap s'.gens s'.os ∧ S i s'.heap ∧ (∀ b o, g.get? b = some o → g'.get? b = some o) ∧ J i g' m' cm' own' ∧ i ≤ n ∧ k = n + 1 - i) ?_ (n + 1)
    ⟨0, g, m, cm, own, oI, H, hS, fun _ _ e => e, hJ, Nat.zero_le _, rfl⟩
  rintro k s' ⟨i, g', m', cm', own', oI', H', hS', hg', hJ', hi, rfl⟩
  by_cases hlt : i < n
  · refine W.item i s' _ _ hlt hS' fun v h₁ tk₁ hP hS₁ hk₁ => ?_
    obtain ⟨oI₁, hI₁⟩ := hth _ _ hS₁
    have H₁ : St w mg mb o g₀ g' L m' cl cm' ((I, oI₁) :: own') h₁ s'.gens s'.os := H'.updBut hk₁ hI₁
    refine wpAny_mono (turn i v g' m' cm' own' oI₁ ⟨h₁, s'.gens, s'.drawn, tk₁, s'.os⟩ hlt hP hg' hJ' H₁) (fun _ s'' h'' => wpAny_mono h'' (fun f s₃ h₃ => ?_) fun _ _ x => x.elim) fun _ _ x => x.elim
    obtain ⟨rfl, g₃, m₃, cm₃, own₃, hg₃, hJ₃, H₃⟩ := h₃
    refine ⟨n + 1 - (i + 1), by omega, i + 1, g₃, m₃, cm₃, own₃, oI₁, H₃, ?_, fun b ob e => hg₃ b ob (hg' b ob e), hJ₃, hlt, rfl⟩
    refine W.frame _ _ _ hS₁ fun b hb ob e => ?_
    rcases hfp b hb with rfl | ⟨ob', e'⟩
    · rw [hI₁] at e; cases e; exact (H₃.owns (_, oI₁) (.head _)).1
    · have e2 := H₁.inv.sub b ob' (hg' b ob' e')
      rw [e2] at e; cases e
      exact H₃.inv.sub b _ (hg₃ _ _ (hg' b _ e'))
  · have hin : i = n := by omega
    subst hin
    refine W.done _ _ _ hS' fun h₁ tk₁ hk₁ => wpAny_execs_nil ?_
    have hLk : ∃ oL, h₁.get? L = some oL := by
      obtain ⟨oL, _, _, e, _⟩ := H'.ns
      exact ⟨oL, hk₁ L oL (fun hm => (H'.owns (I, oI') (.head _)).2.1 (List.mem_singleton.mp hm).symm) e⟩
    obtain ⟨oL, hLk⟩ := hLk
    exact fin g' m' cm' own' ⟨h₁, s'.gens, s'.drawn, tk₁, s'.os⟩ hg' hJ' (H'.otherBut hk₁ (Nat.le_of_lt (Nat.lt_of_le_of_lt hLo (Heap.lt_size hLk))))
end

end
section
section
/- the names that the law's defs read; once -/
section
variable {w : World}
theorem ngParserState : nsIn (KF w) mainGlobals (Str.ofString "ParserState") = some (some (.ref 685)) := by kernel_rfl
theorem ngparsearray : nsIn (KF w) mainGlobals (Str.ofString "_parse_array") = some (some (.ref 747)) := by kernel_rfl
theorem ngarrayin : nsIn (KF w) mainGlobals (Str.ofString "_array_in") = some (some (.ref 754)) := by kernel_rfl
theorem ngboolin : nsIn (KF w) mainGlobals (Str.ofString "bool_in") = some (some (.ref 35)) := by kernel_rfl
theorem ngbytesin : nsIn (KF w) mainGlobals (Str.ofString "bytes_in") = some (some (.ref 49)) := by kernel_rfl
theorem ngintin : nsIn (KF w) mainGlobals (Str.ofString "int_in") = some (some (.ref 63)) := by kernel_rfl
theorem ngstringin : nsIn (KF w) mainGlobals (Str.ofString "string_in") = some (some (.ref 91)) := by kernel_rfl
theorem ngmakeparam : nsIn (KF w) mainGlobals (Str.ofString "make_param") = some (some (.ref 807)) := by kernel_rfl
theorem ngpytypes : nsIn (KF w) mainGlobals (Str.ofString "PY_TYPES") = some (some (.ref 800)) := by kernel_rfl
theorem ngarraystringescape : nsIn (KF w) mainGlobals (Str.ofString "array_string_escape") = some (some (.ref 789)) := by kernel_rfl
theorem ngarrayout : nsIn (KF w) mainGlobals (Str.ofString "array_out") = some (some (.ref 794)) := by kernel_rfl
theorem ngcompositeout : nsIn (KF w) mainGlobals (Str.ofString "composite_out") = some (some (.ref 799)) := by kernel_rfl
theorem ngbytesout : nsIn (KF w) mainGlobals (Str.ofString "bytes_out") = some (some (.ref 56)) := by kernel_rfl
theorem ngkindof : nsIn (KF w) mainGlobals (Str.ofString "kind_of") = some (some (.ref 28)) := by kernel_rfl
theorem nglawtext : nsIn (KF w) mainGlobals (Str.ofString "_law_text") = some (some (.ref 812)) := by kernel_rfl
theorem nglawshaped : nsIn (KF w) mainGlobals (Str.ofString "_law_shaped") = some (some (.ref 822)) := by kernel_rfl
theorem nglawworth : nsIn (KF w) mainGlobals (Str.ofString "_law_worth") = some (some (.ref 817)) := by kernel_rfl
theorem nglawword : nsIn (KF w) mainGlobals (Str.ofString "_law_word") = some (some (.ref 839)) := by kernel_rfl
theorem nglawjoined : nsIn (KF w) mainGlobals (Str.ofString "_law_joined") = some (some (.ref 849)) := by kernel_rfl
theorem ngintarrayin : nsIn (KF w) mainGlobals (Str.ofString "int_array_in") = some (some (.ref 775)) := by kernel_rfl
theorem ngstringarrayin : nsIn (KF w) mainGlobals (Str.ofString "string_array_in") = some (some (.ref 782)) := by kernel_rfl
theorem ngbytesarrayin : nsIn (KF w) mainGlobals (Str.ofString "bytes_array_in") = some (some (.ref 768)) := by kernel_rfl
theorem ngboolarrayin : nsIn (KF w) mainGlobals (Str.ofString "bool_array_in") = some (some (.ref 761)) := by kernel_rfl
theorem nglawalike : nsIn (KF w) mainGlobals (Str.ofString "_law_alike") = some (some (.ref 861)) := by kernel_rfl
theorem nglawflat : nsIn (KF w) mainGlobals (Str.ofString "_law_flat") = some (some (.ref 834)) := by kernel_rfl
theorem nglawsizes : nsIn (KF w) mainGlobals (Str.ofString "_law_sizes") = some (some (.ref 829)) := by kernel_rfl
theorem nglawlaid : nsIn (KF w) mainGlobals (Str.ofString "_law_laid") = some (some (.ref 844)) := by kernel_rfl
theorem nglawread : nsIn (KF w) mainGlobals (Str.ofString "_law_read") = some (some (.ref 856)) := by kernel_rfl
theorem nbint : nsIn (KF w) mainGlobals (Str.ofString "int") = some none := by kernel_rfl
theorem bbint : bootBuiltins (Str.ofString "int") = some (.type "int") := by kernel_rfl
theorem nbstr : nsIn (KF w) mainGlobals (Str.ofString "str") = some none := by kernel_rfl
theorem bbstr : bootBuiltins (Str.ofString "str") = some (.type "str") := by kernel_rfl
theorem nbbytes : nsIn (KF w) mainGlobals (Str.ofString "bytes") = some none := by kernel_rfl
theorem bbbytes : bootBuiltins (Str.ofString "bytes") = some (.type "bytes") := by kernel_rfl
theorem nbbytearray : nsIn (KF w) mainGlobals (Str.ofString "bytearray") = some none := by kernel_rfl
theorem bbbytearray : bootBuiltins (Str.ofString "bytearray") = some (.type "bytearray") := by kernel_rfl
theorem nblist : nsIn (KF w) mainGlobals (Str.ofString "list") = some none := by kernel_rfl
theorem bblist : bootBuiltins (Str.ofString "list") = some (.type "list") := by kernel_rfl
theorem nbtuple : nsIn (KF w) mainGlobals (Str.ofString "tuple") = some none := by kernel_rfl
theorem bbtuple : bootBuiltins (Str.ofString "tuple") = some (.type "tuple") := by kernel_rfl
theorem nbbool : nsIn (KF w) mainGlobals (Str.ofString "bool") = some none := by kernel_rfl
theorem bbbool : bootBuiltins (Str.ofString "bool") = some (.type "bool") := by kernel_rfl
theorem nbrange : nsIn (KF w) mainGlobals (Str.ofString "range") = some none := by kernel_rfl
theorem bbrange : bootBuiltins (Str.ofString "range") = some (.type "range") := by kernel_rfl
theorem nbzip : nsIn (KF w) mainGlobals (Str.ofString "zip") = some none := by kernel_rfl
theorem bbzip : bootBuiltins (Str.ofString "zip") = some (.type "zip") := by kernel_rfl
theorem nbisinstance : nsIn (KF w) mainGlobals (Str.ofString "isinstance") = some none := by kernel_rfl
theorem bbisinstance : bootBuiltins (Str.ofString "isinstance") = some (.builtin "isinstance") := by kernel_rfl
theorem nbany : nsIn (KF w) mainGlobals (Str.ofString "any") = some none := by kernel_rfl
theorem bbany : bootBuiltins (Str.ofString "any") = some (.builtin "any") := by kernel_rfl
theorem nblen : nsIn (KF w) mainGlobals (Str.ofString "len") = some none := by kernel_rfl
theorem bblen : bootBuiltins (Str.ofString "len") = some (.builtin "len") := by kernel_rfl
theorem nball : nsIn (KF w) mainGlobals (Str.ofString "all") = some none := by kernel_rfl
theorem bball : bootBuiltins (Str.ofString "all") = some (.builtin "all") := by kernel_rfl
theorem nbabs : nsIn (KF w) mainGlobals (Str.ofString "abs") = some none := by kernel_rfl
theorem bbabs : bootBuiltins (Str.ofString "abs") = some (.builtin "abs") := by kernel_rfl
end

end
end
section
section
section
variable {w : World} {mg mb : Str → Option Value} {o : Shared} {g₀ g : Heap} {L : Addr} {m cm : Str → Option Value} {cl : List (Str × Addr)} {own : List (Addr × Obj)} {h : Heap} {gens : Array GenState} {os : OsState}
theorem fnAt_of {q : Addr} {oc : Value} {od : Option Addr} {fd : FuncData} {sl : Array (Option Value)} (H : St w mg mb o g₀ g L m cl cm own h gens os) (hK : (KF w).lookup q = some ⟨oc, od, .func fd, sl⟩) : FnAt q h :=
  ⟨oc, od, fd, sl, H.inv.sub _ _ (H.inv.base.k _ _ hK)⟩
end

end
section
/-! bytes: fromhex, hex -/
namespace FH
def boundFH : Obj := { cls := .type "builtin_function_or_method", data := .fields #[.builtin "bytes.fromhex", .type "bytes"] }
theorem type_fh : typeOf (.builtin "bytes.fromhex") = pure (.type "classmethod_descriptor") := by show builtinType _ = _; rw [builtinType_eq_fast]; kernel_rfl
theorem entry_fh : entryFor table "bytes.fromhex" = some Builtin.«bytes.fromhex» := entryFor_of_tree (by kernel_rfl)
theorem quiet_fh {as : Args} : (Code.builtin "bytes.fromhex" as).quiet = true := Code.quiet_builtin _ (by decide +kernel)
theorem type_bytes : isType (.type "bytes") = pure true := by first | rfl | kernel_rfl | (unfold isType; rw [isSubtype_type]; kernel_rfl)
theorem sub_bytes : isSubtype (.type "bytes") (.type "bytes") = pure true := by rw [isSubtype_type]; kernel_rfl
theorem owner_fh : (kfb_private% "ownerAndName") "bytes.fromhex" = ("bytes", "fromhex") := by first | decide +kernel | kernel_rfl

theorem run_get {M : Model} {A : Around} {E : Value → Shared → Prop} {s : Shared} {P : Fin → Shared → Prop} (h : P (.done (.ret (.ref s.heap.objs.size))) { s with heap := s.heap.push boundFH }) :
    wpAny M A (Builtin.«classmethod_descriptor.__get__» ⟨[.builtin "bytes.fromhex", .none, .type "bytes"], []⟩) P E s := by
  unfold Builtin.«classmethod_descriptor.__get__»
  refine wpAny_bind (wpAny_of_eq (a := (.builtin "bytes.fromhex", none, some (.type "bytes"))) (by first | rfl | kernel_rfl) ?_)
  simp only [owner_fh]
  refine wpAny_bind (wpAny_of_eq (a := .type "bytes") rfl ?_)
  refine wpAny_bind (wpAny_of_eq (a := true) type_bytes ?_)
  refine KFB.if_not rfl ?_
  refine wpAny_bind (wpAny_of_eq (a := true) sub_bytes ?_)
  refine KFB.if_not rfl ?_
  exact wpAny_bind (wpAny_newObj_type (wpAny_pure h))

section
variable {prog : Program} {w : World} {mg mb : Str → Option Value} {o : Shared} {g₀ g : Heap} {L : Addr} {m cm : Str → Option Value} {cl : List (Str × Addr)} {own : List (Addr × Obj)} {A : Around} {E : Value → Shared → Prop} {s : Shared}
theorem getm {pl : Sem Bool} {Q : Value × List Value → Shared → Prop} (H : St w mg mb o g₀ g L m cl cm own s.heap s.gens s.os)
    (e : findCls (KF w) (.type "bytes") (.type "type") (PySem.Str.ofString "fromhex") = some (.get (.builtin "classmethod_descriptor.__get__") (.builtin "bytes.fromhex") .none (.type "bytes")))
    (h : ∀ x s', St w mg mb o g₀ g L m cl cm ((x, boundFH) :: own) s'.heap s'.gens s'.os → Q (.ref x, []) s') :
    wpAny (model prog w) A (getMethod (.type "bytes") (PySem.Str.ofString "fromhex") pl) Q E s := by
  have X := H.inv.base.k.keeps H.inv.sub
  have hstub : opaqueClassAbove (.type "bytes") = pure none := by unfold opaqueClassAbove; dsimp only; rw [show Manifest.isStub "bytes" = false by decide +kernel]; rfl
  have ht : typeOf (.type "bytes") = pure (.type "type") := by first | rfl | kernel_rfl
  have L0 : Looks (model prog w) s.heap (typeOf (.type "bytes")) (.type "type") := Looks.of_pure ht
  have hg : findIn (KF w) (.type "type") "__getattribute__" = some (some (.builtin "type.__getattribute__")) := type_tga
  unfold getMethod specialOf
  refine wpAny_bind (wpAny_bind (L0.here ((looks_findIn X hg).here ?_)))
  dsimp only
  rw [if_pos canon_tga]
  refine wpAny_bind (wpAny_mono (Q := fun v => Q (v, [])) (E := E) ?_ (fun _ _ z => wpAny_pure z) fun _ _ z => z)
  have LO : Looks (model prog w) s.heap (opaqueClassAbove (.type "bytes")) none := Looks.of_pure hstub
  refine cls_open X LO L0 hg (looks_hook X (r := none) (by rfl)) (by show subIn (KF w) _ _ = _; rfl) e ?_
  show wpAny _ _ (holding [.builtin "bytes.fromhex"] (call (.builtin "classmethod_descriptor.__get__") [.builtin "bytes.fromhex", .none, .type "bytes"]) >>= fun v => ret v) _ _ _
  refine wpAny_bind (wpAny_holding (wpAny_call_entry KFB.slot_get type_fh KFB.entry_get (run_get ⟨_, rfl, wpAny_pure (wpAny_pure (h _ ⟨_, _, _, _, _⟩ (H.push _)))⟩) (KFB.args_get _ _ _)))

def StandsAt (x : Addr) (h : Heap) : Prop := h.get? x = some boundFH
theorem callWith_fields {M : Model} {pos : Pos} {u : Addr} {first : List Value} {args : List (Bool × Sem Value)} {Q : Value → Shared → Prop} (hplain : args.any (·.1) = false)
    (h : wpAny M A (evalArgs (.ref u) true args []) (fun x s₁ => StandsAt u s₁.heap ∧ wpAny M A (call (.ref u) (first ++ x.pos) x.kw) Q E s₁) E s) : wpAny M A (callWith pos (.ref u) first args []) Q E s := by
  unfold callWith
  refine wpAny_bind (wpAny_holding (wpAny_mono h (fun x s₁ h₁ => wpAny_bind (wpAny_standAt ?_)) fun _ _ x => x))
  obtain ⟨ho, hcall⟩ := h₁
  simp only [hplain, List.any_nil, Bool.or_false]
  refine wpAny_bind (m := keeperOf (.ref u)) ?_
  unfold keeperOf
  refine wpAny_bind (wpAny_load ho ?_)
  simp only [boundFH, show (Value.type "builtin_function_or_method" != Value.type "method") = true by decide, show (Value.type "builtin_function_or_method" == Value.type "builtin_function_or_method" || Value.type "builtin_function_or_method" == Value.type "method-wrapper") = true by decide, if_true]
  refine wpAny_pure ?_
  exact wpAny_bind (wpAny_mono hcall (fun r s₂ hr => wpAny_bind (wpAny_holding (wpAny_point (wpAny_pure hr)))) fun _ _ x => x)
theorem callWith_bound {M : Model} {pos : Pos} {u : Addr} {first : List Value} {env : Env} {e : Expr} {rest : List Expr} {Q : Value → Shared → Prop}
    (h : wpAny M A (spliced (backTo pos (starEach (e :: rest) env))) (fun vs s₁ => StandsAt u s₁.heap ∧ wpAny M A (call (.ref u) (first ++ vs)) Q E s₁) E s)
    (he : starEach (e :: rest) env = (false, eval e env) :: starEach rest env := by rfl) (hplain : (backTo pos (starEach rest env)).any (·.1) = false := by rfl) :
    wpAny M A (callWith pos (.ref u) first (backTo pos (starEach (e :: rest) env)) []) Q E s := by
  rw [he] at h ⊢
  refine callWith_fields (by show (false || (backTo pos (starEach rest env)).any (·.1)) = false; rw [hplain]; rfl) ?_
  exact evalArgs_plain h
end

/-! the text written -/
open Builtin.Bytes in
/-- the codes of a byte -/
def pairOf (c : UInt8) : List Nat := [hexDigit (c.toNat / 16), hexDigit (c.toNat % 16)]
def hexCodes (l : List UInt8) : List Nat := l.flatMap pairOf
def hexText (b : Array UInt8) : Str := ⟨(hexCodes b.toList).toArray⟩

theorem slot_hex : Slot "bytes" "hex" "bytes.hex" :=
  .of (owner := "bytes") (n := "hex") (by rw [typeLookup_type, builtinLookup_eq_fast]; kernel_rfl) (by decide +kernel) (by decide +kernel) (by decide +kernel)
    (by first | exact .inl (by decide +kernel) | exact .inr (by decide +kernel)) (by rw [isSubtype_type]; kernel_rfl)
theorem entry_hex : entryFor table "bytes.hex" = some Builtin.«bytes.hex» := entryFor_of_tree (by kernel_rfl)
theorem args_hex (a : Value) : argsOk "bytes.hex" ⟨[a], []⟩ := by unfold argsOk; kernel_rfl
theorem type_hex : typeOf (.builtin "bytes.hex") = pure (.type "method_descriptor") := by show builtinType _ = _; rw [builtinType_eq_fast]; kernel_rfl

theorem fold_pairs (f : Nat → Bool) : ∀ (l : List (UInt8 × Nat)) (out : Array Nat),
    l.foldl (fun (out : Array Nat) (x : UInt8 × Nat) => ((match (none : Option Nat) with | some s => if f x.2 then out.push s else out | none => out).push (Builtin.Bytes.hexDigit (x.1.toNat / 16))).push (Builtin.Bytes.hexDigit (x.1.toNat % 16))) out
      = out ++ (hexCodes (l.map (·.1))).toArray
  | [], out => by simp [hexCodes]
  | x :: r, out => by
    rw [List.foldl_cons, fold_pairs f r]
    simp [hexCodes, pairOf]

section
variable {prog : Program} {w : World} {A : Around} {E : Value → Shared → Prop} {s : Shared}
theorem getm_hex {b : Array UInt8} {t : Tok} {pl : Sem Bool} {Q : Value × List Value → Shared → Prop} (h : Q (.builtin "bytes.hex", [.bytes b t]) s) : wpAny (model prog w) A (getMethod (.bytes b t) "hex" pl) Q E s :=
  getMethod_builtin (typeIs_bytes _ _ _) FB.plainAttrs_bytes slot_hex type_hex (fun _ e => nomatch e) h
theorem call_hex {b : Array UInt8} {t : Tok} {Q : Value → Shared → Prop} (hz : 2 * b.size ≤ sizeLine) (h : ∀ tk, Q (.str (hexText b) tk) { s with toks := s.toks + 1 }) : wpAny (model prog w) A (call (.builtin "bytes.hex") [.bytes b t]) Q E s := by
  refine wpAny_call_entry slot_hex (typeIs_bytes _ _ _) entry_hex ?_ (args_hex _)
  unfold Builtin.«bytes.hex» Builtin.Bytes.hexM Builtin.Bytes.hexOf
  refine wpAny_bind (wpAny_of_eq (a := [none, none]) (by kernel_rfl) ?_)
  refine wpAny_bind (wpAny_pure ?_)
  refine wpAny_bind (wpAny_pure ?_)
  refine wpAny_bind (wpAny_pure ?_)
  refine wpAny_bind (wpAny_of_eq (a := b) rfl ?_)
  have e : (b.toList.zipIdx.foldl (fun (out : Array Nat) (x : UInt8 × Nat) => ((match (none : Option Nat) with | some s => if (decide (x.2 > 0) && decide (Int.natAbs 1 > 0) && if (1 : Int) > 0 then (b.size - x.2) % Int.natAbs 1 == 0 else x.2 % Int.natAbs 1 == 0) = true then out.push s else out | none => out).push (Builtin.Bytes.hexDigit (x.1.toNat / 16))).push (Builtin.Bytes.hexDigit (x.1.toNat % 16))) #[]) = (hexCodes b.toList).toArray := by
    refine (fold_pairs (fun i => decide (i > 0) && decide (Int.natAbs 1 > 0) && if (1 : Int) > 0 then (b.size - i) % Int.natAbs 1 == 0 else i % Int.natAbs 1 == 0) b.toList.zipIdx #[]).trans ?_
    rw [Array.empty_append, show b.toList.zipIdx.map (fun x => x.1) = b.toList from by simp]
  show wpAny _ _ (PySem.retStr ⟨_⟩) _ _ _
  rw [show (b.toList.zipIdx.foldl _ #[] : Array Nat) = (hexCodes b.toList).toArray from e]
  have hl : (hexText b).length ≤ sizeLine := by
    have : (hexCodes b.toList).length = 2 * b.toList.length := by
      generalize b.toList = l
      induction l with
      | nil => rfl
      | cons c r ih => simp only [hexCodes, List.flatMap_cons, List.length_append, List.length_cons] at ih ⊢; rw [ih]; simp [pairOf]; omega
    show (hexCodes b.toList).toArray.size ≤ sizeLine
    rw [List.size_toArray, this, Array.length_toList]; exact hz
  show wpAny _ _ (mkStr (hexText b) >>= fun v => ret v) _ _ _
  exact wpAny_bind (wpAny_mkStr (wpAny_pure ⟨_, rfl, h _⟩) hl)
end

/-! the text read -/
theorem hex16 {P : Nat → Prop} (h0 : P 0) (h1 : P 1) (h2 : P 2) (h3 : P 3) (h4 : P 4) (h5 : P 5) (h6 : P 6) (h7 : P 7) (h8 : P 8) (h9 : P 9) (ha : P 10) (hb : P 11) (hc : P 12) (hd : P 13) (he : P 14) (hf : P 15) : ∀ k, k < 16 → P k
  | 0, _ => h0 | 1, _ => h1 | 2, _ => h2 | 3, _ => h3 | 4, _ => h4 | 5, _ => h5 | 6, _ => h6 | 7, _ => h7 | 8, _ => h8 | 9, _ => h9 | 10, _ => ha | 11, _ => hb | 12, _ => hc | 13, _ => hd | 14, _ => he | 15, _ => hf
  | n + 16, h => absurd h (by omega)

theorem hexRound {F : Nat → Nat → List Nat → Array UInt8 → Except Nat (Array UInt8)} (e0 : ∀ n i out, F (n + 1) i [] out = .ok out) (e00 : ∀ i l out, F 0 i l out = .ok out)
    (e2 : ∀ hi, hi < 16 → ∀ lo, lo < 16 → ∀ n i rest out, F (n + 1) i (Builtin.Bytes.hexDigit hi :: Builtin.Bytes.hexDigit lo :: rest) out = F n (i + 2) rest (out.push (hi * 16 + lo).toUInt8)) :
    ∀ (l : List UInt8) (n i : Nat) (out : Array UInt8), l.length ≤ n → F n i (hexCodes l) out = .ok (out ++ l.toArray)
  | [], 0, i, out, _ => by rw [e00]; simp
  | [], n + 1, i, out, _ => by
    show F (n + 1) i [] out = _
    rw [e0]; simp
  | c :: r, 0, i, out, h => by simp at h
  | c :: r, n + 1, i, out, h => by
    have hc := c.toNat_lt
    show F (n + 1) i (Builtin.Bytes.hexDigit (c.toNat / 16) :: Builtin.Bytes.hexDigit (c.toNat % 16) :: hexCodes r) out = _
    rw [e2 _ (by omega) _ (by omega), hexRound e0 e00 e2 r n _ _ (by simpa using h)]
    have : (c.toNat / 16 * 16 + c.toNat % 16).toUInt8 = c := by
      rw [show c.toNat / 16 * 16 + c.toNat % 16 = c.toNat from by omega]
      exact UInt8.ofNat_toNat
    rw [this]
    simp

theorem hexCodes_len (l : List UInt8) : (hexCodes l).length = 2 * l.length := by
  induction l with
  | nil => rfl
  | cons c r ih => simp only [hexCodes, List.flatMap_cons, List.length_append, List.length_cons] at ih ⊢; rw [ih]; simp [pairOf]; omega
theorem hexRound' {F : Nat → Nat → List Nat → Array UInt8 → Except Nat (Array UInt8)} {b : Array UInt8} (e0 : ∀ n i out, F (n + 1) i [] out = .ok out) (e00 : ∀ i l out, F 0 i l out = .ok out)
    (e2 : ∀ hi, hi < 16 → ∀ lo, lo < 16 → ∀ n i rest out, F (n + 1) i (Builtin.Bytes.hexDigit hi :: Builtin.Bytes.hexDigit lo :: rest) out = F n (i + 2) rest (out.push (hi * 16 + lo).toUInt8)) :
    F (hexText b).cps.size 0 (hexText b).cps.toList #[] = .ok b := by
  have hl := hexCodes_len b.toList
  have := hexRound e0 e00 e2 b.toList (hexText b).cps.size 0 #[] (by show _ ≤ (hexCodes b.toList).toArray.size; rw [List.size_toArray, hl]; omega)
  simpa [hexText] using this
theorem match_ok {M : Model} {A : Around} {E : Value → Shared → Prop} {s : Shared} {F : Nat → Nat → List Nat → Array UInt8 → Except Nat (Array UInt8)} {a b : Nat} {l : List Nat} {c : Array UInt8} {r : Array UInt8} {Bad : Nat → Sem Fin} {K : Array UInt8 → Sem Fin} {Q : Fin → Shared → Prop}
    (h : F a b l c = .ok r) (k : wpAny M A (K r) Q E s) : wpAny M A (match F a b l c with | .error i => Bad i | .ok b => K b) Q E s := by
  rw [h]; exact k

theorem hex_low : ∀ k, k < 16 → Builtin.Bytes.hexDigit k < 128 := hex16 (by decide) (by decide) (by decide) (by decide) (by decide) (by decide) (by decide) (by decide) (by decide) (by decide) (by decide) (by decide) (by decide) (by decide) (by decide) (by decide)
theorem codes_low : ∀ (l : List UInt8), ∀ c ∈ hexCodes l, c < 128
  | [], c, h => by simp [hexCodes] at h
  | b :: r, c, h => by
    have hb := b.toNat_lt
    rcases List.mem_append.mp (show c ∈ pairOf b ++ hexCodes r from h) with h | h
    · rcases List.mem_cons.mp h with rfl | h
      · exact hex_low _ (by omega)
      · rw [List.mem_singleton.mp h]; exact hex_low _ (by omega)
    · exact codes_low r c h

theorem tree_fh {M : Model} {A : Around} {E : Value → Shared → Prop} {s : Shared} {b : Array UInt8} {t : Tok} {P : Fin → Shared → Prop} (hz : b.size ≤ sizeLine) (h : P (.done (.ret (.bytes b s.toks))) { s with toks := s.toks + 1 }) :
    wpAny M A (Builtin.«bytes.fromhex» ⟨[.type "bytes", .str (hexText b) t], []⟩) P E s := by
  unfold Builtin.«bytes.fromhex» Builtin.Bytes.fromhexM
  refine wpAny_bind (wpAny_of_eq (a := "bytes") (by rfl) ?_)
  refine KFB.if_not rfl ?_
  refine wpAny_bind (wpAny_of_eq (a := some (hexText b)) rfl ?_)
  have hn : (hexText b).cps.findIdx? (· ≥ 128) = none := by
    rw [Array.findIdx?_eq_none_iff]
    intro c hc
    have := codes_low b.toList c (by simpa [hexText] using hc)
    simp only [ge_iff_le, decide_eq_false_iff_not]; omega
  dsimp only
  rw [hn]
  dsimp only
  refine match_ok (r := b) ?_ ?_
  · refine hexRound' (fun _ _ _ => rfl) (fun _ _ _ => rfl) ?_
    refine hex16 ?_ ?_ ?_ ?_ ?_ ?_ ?_ ?_ ?_ ?_ ?_ ?_ ?_ ?_ ?_ ?_ <;> refine hex16 ?_ ?_ ?_ ?_ ?_ ?_ ?_ ?_ ?_ ?_ ?_ ?_ ?_ ?_ ?_ ?_ <;> intros <;> rfl
  · refine KFB.if_so (by decide +kernel) ?_
    show wpAny _ _ (mkBytes b >>= fun v => ret v) _ _ _
    unfold mkBytes
    rw [if_neg (by omega)]
    exact wpAny_bind (wpAny_bind (wpAny_fresh (wpAny_pure (wpAny_pure h))))
theorem check_fh {x : Str} {t : Tok} : checkBoundCall "bytes.fromhex" ⟨[.type "bytes", .str x t], []⟩ = pure () := by first | kernel_rfl | rfl
theorem call_fh {prog : Program} {w : World} {A : Around} {E : Value → Shared → Prop} {s : Shared} {x : Addr} {b : Array UInt8} {t : Tok} {Q : Value → Shared → Prop} (ho : StandsAt x s.heap) (hz : b.size ≤ sizeLine)
    (h : Q (.bytes b s.toks) { s with toks := s.toks + 1 }) : wpAny (model prog w) A (call (.ref x) [.str (hexText b) t]) Q E s := by
  refine wpAny_call (codeAny_of_tree ?_)
  show wpAny _ A.in1 (callAny (.ref x) ⟨[.str (hexText b) t], []⟩) _ _ s
  simp only [callAny]
  refine wpAny_bind (wpAny_load ho ?_)
  simp only [boundFH, show (Value.type "builtin_function_or_method" == Value.type "method" || Value.type "builtin_function_or_method" == Value.type "builtin_function_or_method" || Value.type "builtin_function_or_method" == Value.type "method-wrapper") = true by decide, if_true]
  refine KFB.if_so (by decide) ?_
  refine wpAny_bind (wpAny_of_eq (a := ()) check_fh ?_)
  refine wpAny_bind (wpAny_pure (wpAny_pure ?_))
  exact ⟨quiet_fh, codeAny_builtin entry_fh (tree_fh hz h)⟩
end FH

end
section
/-! the text of an int -/
open PySem.NumText in
theorem int_codes (i : Int) : ∃ ds : List Nat, ds ≠ [] ∧ AllDigits ds ∧ digitsVal ds = i.natAbs ∧ ds.length = (Nat.toDigits 10 i.natAbs).length ∧ (Str.ofString (toString i)).cps.toList = if i < 0 then 45 :: ds else ds := by
  refine ⟨(Nat.toDigits 10 i.natAbs).map Char.toNat, ?_, ?_, KIN.val_back _, by simp, ?_⟩
  · intro e
    have h := toDigits_len_ge 10 i.natAbs
    rw [List.map_eq_nil_iff.mp e] at h
    exact absurd h (by decide)
  · intro c hc
    obtain ⟨ch, hch, e⟩ := List.mem_map.mp hc
    have r := digit_range (Nat.isDigit_of_mem_toDigits (by decide) (by decide) hch)
    rw [← e]
    exact r
  · rw [signs_ofString]
    cases i with
    | ofNat m =>
      rw [if_neg (show ¬ (Int.ofNat m < 0) from Int.not_lt.mpr (Int.natCast_nonneg m))]
      show (Nat.repr m).toList.map Char.toNat = _
      rw [Nat.toList_repr]; rfl
    | negSucc m =>
      rw [if_pos (Int.negSucc_lt_zero m)]
      show ("-" ++ Nat.repr (m + 1)).toList.map Char.toNat = _
      rw [String.toList_append, Nat.toList_repr]; rfl
open PySem.NumText in
theorem int_reads (i : Int) (hl : (Str.ofString (toString i)).length ≤ 640) : PySem.intText? (Str.ofString (toString i)) = some i := by
  obtain ⟨ds, hne, hd, hv, _, hc⟩ := int_codes i
  by_cases hi : i < 0
  · rw [if_pos hi] at hc
    rw [intText_neg hc hd hne (by omega), hv]
    congr 1; omega
  · rw [if_neg hi] at hc
    rw [intText_digits (by rw [hc]; exact hd) (by rw [hc]; exact hne) (by omega), hc, hv]
    congr 1; omega
theorem int_len {i : Int} (h : i.natAbs < 10 ^ 100) : (Str.ofString (toString i)).length ≤ 101 := by
  obtain ⟨ds, hne, hd, hv, hl, hc⟩ := int_codes i
  have h1 : ds.length ≤ 100 := by rw [hl]; exact (Nat.length_toDigits_le_iff (by decide) (by decide)).mpr h
  show (Str.ofString (toString i)).cps.size ≤ 101
  rw [← Array.length_toList, hc]
  split <;> (try rw [List.length_cons]) <;> omega

end
section
/-! rules over values -/
theorem ite_t {P Q : Prop} (h : P) : if true = true then P else Q := h
theorem ite_f {P Q : Prop} (h : Q) : if false = true then P else Q := h

def tyOf : V → String
  | .none => "NoneType"
  | .bool _ => "bool"
  | .int _ => "int"
  | .str _ => "str"
  | .bytes _ => "bytes"
  | .list _ => "list"
theorem Rep.kit {g : Heap} {v : Value} {d : V} (r : Rep g v d) : v ≠ .builtin "__main__.__loader__#opaque" ∧ ∃ H, KitX [] v (.type (tyOf d)) H ∧ ∀ h : Heap, (∀ b o, g.get? b = some o → h.get? b = some o) → H h := by
  cases r with
  | none => exact ⟨fun e => (nomatch e), _, kitx_none, fun _ _ => trivial⟩
  | bool b => exact ⟨fun e => (nomatch e), _, kitx_bool, fun _ _ => trivial⟩
  | int i t => exact ⟨fun e => (nomatch e), _, kitx_int, fun _ _ => trivial⟩
  | str x t => exact ⟨fun e => (nomatch e), _, kitx_str, fun _ _ => trivial⟩
  | bytes b t => exact ⟨fun e => (nomatch e), _, kitx_bytes, fun _ _ => trivial⟩
  | list h r => exact ⟨fun e => (nomatch e), _, kitx_list, fun h' hk => let ⟨ob, e, c, _⟩ := h; ⟨ob, hk _ _ e, c⟩⟩

section
variable {prog : Program} {w : World} {mg mb : Str → Option Value} {o : Shared} {g₀ g : Heap} {L : Addr} {m cm : Str → Option Value} {cl : List (Str × Addr)} {own : List (Addr × Obj)} {A : Around} {E : Value → Shared → Prop} {s : Shared}

/-- isinstance by one class -/
theorem isiR {Q : Value → Shared → Prop} {v : Value} {d : V} {T : String} {b : Bool} (H : St w mg mb o g₀ g L m cl cm own s.heap s.gens s.os) (r : Rep g v d) (e : kitOne [] (.type (tyOf d)) (.type T) = some b) (h : ∀ tk, Q (.bool b) { s with toks := tk }) :
    wpAny (model prog w) A (call (.builtin "isinstance") [v, .type T]) Q E s :=
  let ⟨hn, _, Z, p⟩ := r.kit
  kia_one Z (fun _ _ e => (nomatch e)) (p _ H.inv.sub) e hn h
theorem isiRT {Q : Value → Shared → Prop} {v : Value} {d : V} {tp : Addr} {its : List Value} {b : Bool} (H : St w mg mb o g₀ g L m cl cm own s.heap s.gens s.os) (r : Rep g v d) (ht : (tp, ({ cls := .type "tuple", data := .seq its.toArray } : Obj)) ∈ own) (e : kitAny [] (.type (tyOf d)) its = some b) (h : ∀ tk, Q (.bool b) { s with toks := tk }) :
    wpAny (model prog w) A (call (.builtin "isinstance") [v, .ref tp]) Q E s :=
  let ⟨hn, _, Z, p⟩ := r.kit
  kia_tup Z (fun _ _ e => (nomatch e)) (p _ H.inv.sub) (H.mem ht) e hn h

theorem isNoneR {Q : Value → Shared → Prop} {v : Value} {d : V} (r : Rep g v d) (h : Q (.bool (match d with | .none => true | _ => false)) s) : wpAny (model prog w) A (compareOp .Is v .none) Q E s := by
  cases r with
  | none => exact wpAny_is_plain (by decide) h
  | _ => exact is_none_ne (fun e => (nomatch e)) h

theorem St.kept (H : St w mg mb o g₀ g L m cl cm own s.heap s.gens s.os) : KeptH (fun h => St w mg mb o g₀ g L m cl cm own h s.gens s.os) := fun h ob H => H.keeps (fun _ _ e => Heap.get?_push_of_some _ e) (by rw [Heap.size_push]; omega)
/-- a text from a place on -/
theorem sliceS {Q : Value → Shared → Prop} {value slice : Expr} {x : Str} {t : Tok} {i : Int} {ui : Tok} (H : St w mg mb o g₀ g L m cl cm own s.heap s.gens s.os)
    (h : ∀ h' t' k, St w mg mb o g₀ g L m cl cm own h' s.gens s.os → Q (.str (Txt.slice x (some i) none) t') { s with heap := h', toks := k })
    (hz : x.length ≤ sizeLine)
    (hs : subscripted slice false (.str x t) (.ref s.heap.objs.size) = operate [.ref s.heap.objs.size, .str x t] (getItem (.str x t) (.ref s.heap.objs.size)) := by with_unfolding_all rfl)
    (ht : ∀ r, letTemporaryGo value (.str x t) r = pure () := by intro _; with_unfolding_all rfl) :
    wpAny (model prog w) A (subscriptTail value slice (.str x t) (.ref s.heap.objs.size)) Q E { s with heap := s.heap.push { cls := .type "slice", data := .fields #[.int i ui, .none, .none] } } :=
  tail_of_ItemOn (SBH.sliceItem_sn (P := fun h => St w mg mb o g₀ g L m cl cm own h s.gens s.os) H.kept H h hz) hs ht
end

end
end
section
local macro_rules | `(tactic| walk_at "ng") => `(tactic| with_reducible first | exact ngParserState | exact ngparsearray | exact ngarrayin | exact ngboolin | exact ngbytesin | exact ngintin | exact ngstringin | exact ngmakeparam | exact ngpytypes | exact ngarraystringescape | exact ngarrayout | exact ngcompositeout | exact ngbytesout | exact ngkindof | exact nglawtext | exact nglawshaped | exact nglawworth | exact nglawword | exact nglawjoined | exact ngintarrayin | exact ngstringarrayin | exact ngbytesarrayin | exact ngboolarrayin | exact nglawalike | exact nglawflat | exact nglawsizes | exact nglawlaid | exact nglawread)
local macro_rules | `(tactic| walk_at "nt") => `(tactic| with_reducible first | exact nbint | exact nbstr | exact nbbytes | exact nbbytearray | exact nblist | exact nbtuple | exact nbbool | exact nbrange | exact nbzip | exact bbint | exact bbstr | exact bbbytes | exact bbbytearray | exact bblist | exact bbtuple | exact bbbool | exact bbrange | exact bbzip)
local macro_rules | `(tactic| walk_at "nb") => `(tactic| with_reducible first | exact nbisinstance | exact nbany | exact nblen | exact nball | exact nbabs | exact bbisinstance | exact bbany | exact bblen | exact bball | exact bbabs)
local macro_rules | `(tactic| walk_at "nm") => `(tactic| first
  | (refine nmL (by assumption) rfl (by first | rfl | assumption) ?_ rfl (by rfl) (by decide))
  | (refine nmC (by assumption) (by rfl) (by rfl) (by first | rfl | assumption) ?_ rfl (by rfl) (by decide))
  | (refine nmFr (by assumption) (by rfl) (by rfl) (by first | rfl | assumption) ?_ rfl (by rfl) (by decide) (by decide))
  | (refine nmG (by assumption) (by walk_at "ng") ?_ rfl rfl (by rfl) (by decide))
  | (refine nmB (v := .builtin _) (by assumption) (by walk_at "nb") (by walk_at "nb") ?_ rfl rfl rfl (by rfl) (by decide) (by decide))
  | (refine nmB (v := .type _) (by assumption) (by walk_at "nt") (by walk_at "nt") ?_ rfl rfl rfl (by rfl) (by decide) (by decide))
  | (refine nmG (by assumption) (by rfl) ?_ rfl rfl (by rfl) (by decide))
  | (refine nmB (v := .type _) (by assumption) (by rfl) (by rfl) ?_ rfl rfl rfl (by rfl) (by decide) (by decide))
  | (refine nmB (v := .builtin _) (by assumption) (by rfl) (by rfl) ?_ rfl rfl rfl (by rfl) (by decide) (by decide)))
local macro_rules | `(tactic| walk_at "cw") => `(tactic| first
  | ((with_reducible show wpAny _ _ (callWith _ (Value.ref _) _ _ _) _ _ _); refine callWith_F (fnAt_of (by assumption) (by rfl)) ?_)
  | ((with_reducible show wpAny _ _ (callWith _ (Value.type _) _ _ _) _ _ _); refine Pv.callWith_type1 ?_)
  | ((with_reducible show wpAny _ _ (callWith _ (Value.builtin _) [] _ _) _ _ _); refine PyProof.Rows.callWith_builtin1 ?_)
  | ((with_reducible show wpAny _ _ (callWith _ (Value.builtin _) _ (backTo _ (starEach [] _)) _) _ _ _); refine callWith_method0 ?_)
  | ((with_reducible show wpAny _ _ (callWith _ (Value.builtin _) _ _ _) _ _ _); refine callWith_method1 ?_))
local macro_rules | `(tactic| walk_at "s") => `(tactic| first
  | with_reducible refine wpAny_execs_nil ?_
  | with_reducible refine wpAny_execs_cons ?_
  | with_reducible refine wpAny_Return_some ?_
  | ((with_reducible show wpAny _ _ (exec (Stmt.If _ _ _ _) _) _ _ _); refine wpAny_If ?_)
  | ((with_reducible show wpAny _ _ (eval (Expr.Compare _ [_] [_] _) _) _ _ _); refine wpAny_Compare1 ?_)
  | ((with_reducible show wpAny _ _ (PySem.isTrue (Expr.Compare _ [_] [_] _) _ _) _ _ _); refine wpAny_isTrue_Compare1 ?_)
  | with_reducible refine isTrue_and_nil ?_
  | with_reducible refine isTrue_or_nil ?_
  | with_reducible refine isTrue_and ?_
  | with_reducible refine isTrue_or ?_
  | with_reducible refine isTrue_not ?_
  | ((with_reducible show wpAny _ _ (PySem.isTrue (Expr.Call _ _ _ _) _ _) _ _ _); refine isTrue_plain ?_)
  | ((with_reducible show wpAny _ _ (PySem.isTrue (Expr.Name _ _) _ _) _ _ _); refine isTrue_plain ?_)
  | ((with_reducible show wpAny _ _ (eval (Expr.Name _ _) _) _ _ _); walk_at "nm")
  | with_reducible refine Constant_str ?_
  | with_reducible refine Constant_bool ?_
  | with_reducible refine Constant_none ?_
  | with_reducible refine wpAny_Constant_int ?_
  | with_reducible refine wpAny_BinOp ?_
  | with_reducible refine IfExp_ ?_
  | with_reducible refine List_ ?_
  | with_reducible refine wpAny_Pass ?_
  | ((with_reducible show wpAny _ _ (binaryOp Operator.FloorDiv (Value.int _ _) (Value.int _ _)) _ _ _); refine divT (by first | decide | omega) (by first | decide | omega) ?_)
  | ((with_reducible show wpAny _ _ (binaryOp Operator.Mod (Value.int _ _) (Value.int _ _)) _ _ _); refine modT (by first | decide | omega) ?_)
  | ((with_reducible show wpAny _ _ (exec (Stmt.Expr _ _) _) _ _ _); refine wpAny_Expr_any ?_)
  | ((with_reducible show wpAny _ _ (getMethod (Value.str _ _) (Str.ofString "join") _) _ _ _); refine GM.join ?_)
  | ((with_reducible show wpAny _ _ (getMethod (Value.str _ _) (Str.ofString "upper") _) _ _ _); refine GM.upper ?_)
  | ((with_reducible show wpAny _ _ (unaryOp UnaryOp.USub (Value.int _ _)) _ _ _); refine neg_int ?_)
  | with_reducible refine Tuple_ ?_
  | ((with_reducible show wpAny _ _ (exec (Stmt.Assign [Expr.Name _ _] _ _) _) _ _ _); refine wpAny_Assign_Name ?_)
  | with_reducible refine BoolOp_one ?_
  | with_reducible refine BoolOp_and ?_
  | with_reducible refine BoolOp_or ?_
  | with_reducible refine UnaryOp_ ?_
  | ((with_reducible show wpAny _ _ (eval (Expr.Call (Expr.Attribute _ _ _) _ [] _) _) _ _ _); refine MethodCall_ ?_)
  | ((with_reducible show wpAny _ _ (eval (Expr.Call _ _ [] _) _) _ _ _); refine Call_ ?_)
  | with_reducible refine Subscript_ ?_
  | with_reducible refine wpAny_Slice ?_
  | with_reducible refine evalPart_none_step ?_
  | with_reducible refine evalPart_some_step ?_
  | with_reducible refine spliced_none ?_
  | ((with_reducible show wpAny _ _ (spliced (backTo _ (starEach (_ :: _) _))) _ _ _); refine spliced_more ?_)
  | with_reducible refine wpAny_truthy_bool ?_
  | with_reducible refine eq_str ?_
  | with_reducible refine eq_int ?_
  | with_reducible refine add_int ?_
  | with_reducible refine sub_int ?_
  | with_reducible refine ite_t ?_
  | with_reducible refine ite_f ?_
  | ((with_reducible show wpAny _ _ (compareOp CmpOp.Is Value.none Value.none) _ _ _); refine wpAny_is_plain (by decide) ?_)
  | ((with_reducible show wpAny _ _ (compareOp CmpOp.Is _ Value.none) _ _ _); refine is_none_ne (by intro e; cases e) ?_)
  | ((with_reducible show wpAny _ _ (call (Value.builtin "isinstance") [_, Value.type _]) _ _ _); first | refine isiR (b := true) (by assumption) (by first | assumption | constructor) (by rfl) fun tk => ?_ | refine isiR (b := false) (by assumption) (by first | assumption | constructor) (by rfl) fun tk => ?_)
  | walk_at "cw")
section
section
variable {prog : Program} {w : World} {mg mb : Str → Option Value} {g : Heap}
theorem fn_bool_in (x : Str) (t : Tok) : Fn prog w mg mb 35 [.str x t] 1 g (fun _ v => v = .bool (x == Str.ofString "t")) := by
  refine enter [(Str.ofString "data", .str x t)] rfl (by kernel_rfl) rfl rfl rfl rfl rfl ?_
  intro A s L s' hh hd hu I hLo hco H
  repeat walk_at "s"
  exact ⟨g, H.ret', rfl⟩
theorem fn_string_in (x : Str) (t : Tok) : Fn prog w mg mb 91 [.str x t] 1 g (fun _ v => v = .str x t) := by
  refine enter [(Str.ofString "data", .str x t)] rfl (by kernel_rfl) rfl rfl rfl rfl rfl ?_
  intro A s L s' hh hd hu I hLo hco H
  repeat walk_at "s"
  exact ⟨g, H.ret', rfl⟩
theorem fn_int_in (i : Int) (t : Tok) (hi : i.natAbs < 10 ^ 100) : Fn prog w mg mb 63 [.str (Str.ofString (toString i)) t] 1 g (fun _ v => ∃ t, v = .int i t) := by
  refine enter [(Str.ofString "data", .str (Str.ofString (toString i)) t)] rfl (by kernel_rfl) rfl rfl rfl rfl rfl ?_
  intro A s L s' hh hd hu I hLo hco H
  have hl := int_len hi
  repeat walk_at "s"
  refine KIN.call_text (int_reads i (by omega)) (by omega) ?_
  exact ⟨g, H.ret', _, rfl⟩

theorem sizes_str (x y : Str) : (x ++ y).length = x.length + y.length := by show (x.cps ++ y.cps).size = _; rw [Array.size_append]; rfl
theorem hexText_len (b : Array UInt8) : (FH.hexText b).length = 2 * b.size := by
  show (FH.hexCodes b.toList).toArray.size = _
  rw [List.size_toArray, FH.hexCodes_len]; rfl
theorem cut2 (x y : Str) (h : x.length = 2) : Txt.slice (x ++ y) (some 2) none = y := by
  have e : Txt.slice (x ++ y) (some 2) none = StrLaws.sliceText (x ++ y) (some ((2 : Nat) : Int)) (some (((x ++ y).length : Nat) : Int)) := by
    unfold Txt.slice StrLaws.sliceText
    rw [StrLaws.sliceIdx_none_hi]; rfl
  rw [e, StrLaws.sliceText_nat _ (by rw [sizes_str]; omega) (Nat.le_refl _)]
  have e2 : (x ++ y).cps.toList = x.cps.toList ++ y.cps.toList := by show (x.cps ++ y.cps).toList = _; simp
  have h2 : x.cps.toList.length = 2 := by rw [Array.length_toList]; exact h
  rw [e2, ← h2, List.drop_left, List.take_of_length_le]
  rw [sizes_str, show y.cps.toList.length = y.length from Array.length_toList, h2, h]; omega
theorem fn_bytes_in (b : Array UInt8) (t : Tok) (hz : b.size ≤ 1000) : Fn prog w mg mb 49 [.str (Str.ofString "\\x" ++ FH.hexText b) t] 1 g (fun _ v => ∃ t, v = .bytes b t) := by
  refine enter [(Str.ofString "data", .str (Str.ofString "\\x" ++ FH.hexText b) t)] rfl (by kernel_rfl) rfl rfl rfl rfl rfl ?_
  intro A s L s' hh hd hu I hLo hco H
  have hL := hexText_len b
  have hsz : (Str.ofString "\\x" ++ FH.hexText b).length ≤ sizeLine := by rw [sizes_str, sizeLine_eq, show (Str.ofString "\\x").length = 2 by rfl]; omega
  repeat walk_at "s"
  refine FH.getm H (by rfl) fun x s1 H1 => ?_
  refine FH.callWith_bound ?_
  repeat walk_at "s"
  refine sliceS H1 (fun h' t' k H2 => ?_) hsz
  repeat walk_at "s"
  refine ⟨(H2.owns _ (.head _)).1, ?_⟩
  rw [cut2 _ _ rfl]
  refine FH.call_fh (H2.owns _ (.head _)).1 (by rw [sizeLine_eq]; omega) ?_
  exact ⟨g, H2.tail.ret', _, rfl⟩
theorem fn_bytes_out (b : Array UInt8) (t : Tok) (hz : b.size ≤ 1000) : Fn prog w mg mb 56 [.bytes b t] 1 g (fun _ v => ∃ t, v = .str (Str.ofString "\\x" ++ FH.hexText b) t) := by
  refine enter [(Str.ofString "v", .bytes b t)] rfl (by kernel_rfl) rfl rfl rfl rfl rfl ?_
  intro A s L s' hh hd hu I hLo hco H
  have hL := hexText_len b
  repeat walk_at "s"
  refine FH.getm_hex ?_
  repeat walk_at "s"
  refine FH.call_hex (by have := sizeLine_eq; omega) fun tk => ?_
  refine SBL.add (fun t' k _ => ?_) (by rw [sizeLine_eq, show (Str.ofString "\\x").length = 2 by rfl]; omega)
  exact ⟨g, H.ret', _, rfl⟩
theorem log2_lt {n : Nat} (h : n < 10 ^ 30) : n.log2 < 1920 := by
  by_cases h0 : n = 0
  · subst h0; decide
  · exact (Nat.log2_lt h0).mpr (Nat.lt_of_lt_of_le (m := 2 ^ 100) (Nat.lt_of_lt_of_le h (by decide)) (Nat.pow_le_pow_right (by decide) (by decide)))
theorem fn_int_out (i : Int) (t : Tok) (hi : i.natAbs < 10 ^ 30) : Fn prog w mg mb 70 [.int i t] 1 g (fun _ v => ∃ t, v = .str (Str.ofString (toString i)) t) := by
  refine enter [(Str.ofString "v", .int i t)] rfl (by kernel_rfl) rfl rfl rfl rfl rfl ?_
  intro A s L s' hh hd hu I hLo hco H
  repeat walk_at "s"
  refine P.str_of_int (log2_lt hi) ?_
  exact ⟨g, H.ret', _, rfl⟩
theorem fn_kind_of_int (b : Int) (t : Tok) : Fn prog w mg mb 28 [.int b t] 1 g (fun _ v => ∃ t, v = .str (Str.ofString "int") t) := by
  refine enter [(Str.ofString "value", .int b t)] rfl (by kernel_rfl) rfl rfl rfl rfl rfl ?_
  intro A s L s' hh hd hu I hLo hco H
  have R : Rep g (.int b t) (.int b) := .int b t
  repeat walk_at "s"
  exact ⟨g, H.ret', _, rfl⟩
end

end
end
section
section
/-- g, and all of h from n on -/
def newG (g h : Heap) (n : Nat) : Heap := hideAll h ((List.range h.objs.size).filter fun b => (g.get? b).isNone && decide (b < n))
theorem newG_sub {g h : Heap} {n : Nat} (b : Addr) (ob : Obj) (e : (newG g h n).get? b = some ob) : h.get? b = some ob := of_hideAll _ e
theorem newG_dom {g h : Heap} {n : Nat} (b : Addr) (ob : Obj) (e : (newG g h n).get? b = some ob) : n ≤ b ∨ ∃ o', g.get? b = some o' := by
  by_cases hb : b ∈ (List.range h.objs.size).filter fun b => (g.get? b).isNone && decide (b < n)
  · rw [show (newG g h n).get? b = none from hideAll_none _ hb] at e; cases e
  · have hlt := Heap.lt_size (newG_sub b ob e)
    by_cases ha : n ≤ b
    · exact .inl ha
    · refine .inr ?_
      cases q : g.get? b with
      | some o' => exact ⟨o', rfl⟩
      | none => exact absurd (List.mem_filter.mpr ⟨List.mem_range.mpr hlt, by simp [q]; exact Nat.lt_of_not_le ha⟩) hb
theorem newG_ext {g h : Heap} {n : Nat} (hs : ∀ b o, g.get? b = some o → h.get? b = some o) (b : Addr) (ob : Obj) (e : g.get? b = some ob) : (newG g h n).get? b = some ob :=
  hideAll_get _ (hs b ob e) fun hm => by
    have := (List.mem_filter.mp hm).2
    simp [e] at this
theorem newG_new {g h : Heap} {n : Nat} {b : Addr} {ob : Obj} (hn : n ≤ b) (e : h.get? b = some ob) : (newG g h n).get? b = some ob :=
  hideAll_get _ e fun hm => by
    have := (List.mem_filter.mp hm).2
    simp at this
    exact absurd this.2 (Nat.not_lt.mpr hn)
theorem newG_none {g h : Heap} {n : Nat} {b : Addr} (hn : b < n) (e : g.get? b = none) : (newG g h n).get? b = none := by
  cases q : (newG g h n).get? b with
  | none => rfl
  | some o' =>
    rcases newG_dom b o' q with h | ⟨o₂, e₂⟩
    · exact absurd hn (Nat.not_lt.mpr h)
    · rw [e] at e₂; cases e₂

section
variable {prog : Program} {w : World} {mg mb : Str → Option Value} {o : Shared} {g₀ g : Heap} {L : Addr} {m cm : Str → Option Value} {cl : List (Str × Addr)} {own : List (Addr × Obj)} {h : Heap} {gens : Array GenState} {os : OsState}

theorem St.anew {h' : Heap} {gens' : Array GenState} {os' : OsState} (H : St w mg mb o g₀ g L m cl cm own h gens os) (hk : ∀ b ob, b ≠ 749 → b ≠ 784 → h.get? b = some ob → h'.get? b = some ob) (ht : Tabs (newG g h' h.objs.size) h') (hsz : h.objs.size ≤ h'.objs.size) (ho : os' = os) (hg : AllBare gens → AllBare gens') :
    St w mg mb o g₀ (newG g h' h.objs.size) L m cl cm own h' gens' os' := by
  have sub : ∀ b ob, g.get? b = some ob → h'.get? b = some ob := fun b ob e => hk b ob (by rintro rfl; rw [H.inv.n1] at e; cases e) (by rintro rfl; rw [H.inv.n2] at e; cases e) (H.inv.sub b ob e)
  have ext := newG_ext (n := h.objs.size) sub
  have low := H.inv.low
  exact {
    inv := ⟨H.inv.base.keeps ext, ht, newG_sub, newG_none (Nat.lt_trans (by decide) low) H.inv.n1, newG_none low H.inv.n2⟩
    ns := H.ns.at' fun ob e => hk L ob (lowB H.hL) (lowD H.hL) e
    nL := newG_none H.lt H.nL
    owns := fun p hp => let x := H.owns p hp; ⟨hk _ _ (lowB x.2.2.2.1) (lowD x.2.2.2.1) x.1, x.2.1, newG_none (Heap.lt_size x.1) x.2.2.1, x.2.2.2⟩
    nd := H.nd
    cell := fun n c e => let x := H.cell n c e; let ⟨oc, hoc, hd⟩ := x.1; ⟨⟨oc, hk _ _ (lowB x.2.2.2) (lowD x.2.2.2) hoc, hd⟩, x.2.1, newG_none (Heap.lt_size hoc) x.2.2.1, x.2.2.2⟩
    capart := H.capart
    cown := H.cown
    keep := fun b ob h1 h2 e => hk b ob h1 h2 (H.keep b ob h1 h2 e)
    ext := fun b ob e => ext b ob (H.ext b ob e)
    fresh := fun b ob e => by
      rcases newG_dom b ob e with hle | ⟨o₂, e₂⟩
      · exact .inr (Nat.le_trans H.sz hle)
      · exact H.fresh b o₂ e₂
    hL := H.hL
    sz := Nat.le_trans H.sz hsz
    oss := ho.trans H.oss
    gn := fun x => hg (H.gn x) }

/-- a frame ends, and all that it made stands still from here on -/
theorem St.retNew {heap : Heap} {gens : Array GenState} {drawn : Drawn} {toks : Nat} {os : OsState} (H : St w mg mb o g₀ g L m cl cm own heap gens os) (low : 784 < o.heap.objs.size) : Ret w mg mb g₀ o (newG g heap o.heap.objs.size) ⟨heap, gens, drawn, toks, os⟩ := by
  have ext := newG_ext (n := o.heap.objs.size) H.inv.sub
  exact {
    inv := ⟨H.inv.base.keeps ext, H.inv.tabs.keeps ext (fun _ e => e) (fun _ e => e), newG_sub, newG_none (Nat.lt_trans (by decide) low) H.inv.n1, newG_none low H.inv.n2⟩
    ext := fun b ob e => ext b ob (H.ext b ob e)
    keep := H.keep
    fresh := fun b ob e => by
      rcases newG_dom b ob e with hle | ⟨o₂, e₂⟩
      · exact .inr hle
      · exact H.fresh b o₂ e₂
    sz := H.sz
    os := H.oss
    gens := H.gn }

/-- a closure is entered -/
theorem enterC {r : Nat} {f : Addr} {vs : List Value} {Post : Heap → Value → Prop} {name qual : Str} {params : Arguments} {body : List Stmt} {scope : Scope} {dV kV doc pm cdv ct oc : Value} {an od : Option Addr} {osl : Array (Option Value)} {clos : List (Str × Addr)} (binds : List (Str × Value))
    (hf : g.get? f = some ⟨oc, od, .func (fnX name qual params body scope clos dV kV doc pm an cdv ct), osl⟩) (hcd : g.CodeRec cdv qual)
    (hbind : bindArgs (fnX name qual params body scope clos dV kV doc pm an cdv ct) ⟨vs, []⟩ = pure binds)
    (hc : ∀ x ∈ scope.names, x.2 ≠ .cell) (hl : ∀ x ∈ binds, scope.names.lookup x.1 = some .local)
    (hco : scope.isCoroutine = false) (hgen : scope.isGenerator = false) (hk : scope.kind = .function)
    (h : ∀ (A : Around) (s : Shared) (L : Addr) (s' : Shared), A.handled = none → A.depth + r ≤ 901 → A.units + 20 * r ≤ 9003 → Inv w mg mb g s.heap → s.heap.objs.size ≤ L →
      St w mg mb s g g L (fun x => binds.reverse.lookup x) [] (fun _ => none) [] s'.heap s'.gens s'.os →
      wpAny (model prog w) A (execs body (envX qual scope L f cdv clos))
        (fun fl s'' => ∃ g', Ret w mg mb g s g' s'' ∧ Post g' (retv fl)) (fun _ _ => False) s') :
    Fn prog w mg mb f vs r g Post := by
  intro A s Q E hh hd hu I k
  refine wpAny_call ?_
  refine codeAny_call_function (by have : recursionLimit = 1000 := rfl; omega) (I.sub _ _ hf) rfl hco hgen rfl (hcd.keeps I.sub) ?_
  rw [hbind]
  refine wpAny_pure (wpAny_newFunctionEnv hc hl (fun h' hn hs => ?_) hk)
  have hlow : 784 < s.heap.objs.size := I.low
  have keep : ∀ b o, s.heap.get? b = some o → h'.get? b = some o := fun b o e => hs.extBut b o (Nat.ne_of_lt (Heap.lt_size e)) (Heap.get?_push_of_some _ e)
  refine ⟨(I.base.lim.keeps I.sub).keeps keep, codeAny_func ?_⟩
  have S : St w mg mb s g g s.heap.objs.size (fun x => binds.reverse.lookup x) [] (fun _ => none) [] h' s.gens s.os := {
    inv := ⟨I.base, I.tabs.keeps (fun _ _ e => e) (fun _ e => keep _ _ e) (fun _ e => keep _ _ e), fun b o e => keep b o (I.sub b o e), I.n1, I.n2⟩
    ns := hn
    nL := get_none_of_sub I.sub (Nat.le_refl _)
    owns := fun _ hp => nomatch hp
    nd := List.nodup_nil
    cell := fun n c e => nomatch e
    capart := fun n c _ _ e => nomatch e
    cown := fun _ hp => nomatch hp
    keep := fun b ob _ _ e => keep b ob e
    ext := fun _ _ e => e
    fresh := fun _ ob e => .inl ⟨ob, e⟩
    hL := hlow
    sz := Nat.le_of_lt hn.lt
    oss := rfl
    gn := id }
  refine wpAny_mono (h (A.deeper (envX qual scope s.heap.objs.size f cdv clos)) s s.heap.objs.size ⟨h', s.gens, s.drawn, s.toks + binds.length, s.os⟩ hh ?_ ?_ I (Nat.le_refl _) S) (fun fl s'' hq => ?_) fun _ _ x => x.elim
  · show A.depth + 1 + r ≤ 901; omega
  · show A.units + 3 + 20 * r ≤ 9003; omega
  · obtain ⟨g', R, p⟩ := hq
    have := k _ g' s'' R p
    cases fl <;> exact this

theorem nmF {A : Around} {E : Value → Shared → Prop} {s : Shared} {env : Env} {x : Str} {pos : Pos} {v : Value} {c : Addr} {Q : Value → Shared → Prop} (H : St w mg mb o g₀ g L m cl cm own s.heap s.gens s.os) (hc : env.cells.lookup x = some c) (hv : g.IsCell c (some v)) (h : Q v s) (hk : env.scope.kind = .function) (hl : env.kindOf x = some .free)
    (hn : (x == ("__classdict__" : Str)) = false) (hd : (x == ("__debug__" : Str)) = false) : wpAny (model prog w) A (eval (.Name x pos) env) Q E s := wpAny_Name (wpAny_loadName_free hk hl hc (let ⟨oc, e, r⟩ := hv; ⟨oc, H.inv.sub _ _ e, r⟩) h hn) hd

/-- a def within a def, its code among the table at 749 -/
theorem makeF {A : Around} {E : Value → Shared → Prop} {s : Shared} {name : Str} {params : Arguments} {body : List Stmt} {scope : Scope} {env : Env} {firstLine : Nat} {clos : List (Str × Addr)} {Q : Value → Shared → Prop}
    (H : St w mg mb o g₀ g L m cl cm own s.heap s.gens s.os) (hcl : closureFor scope env = pure clos) (hge : env.globals = mainGlobals) (hcode : env.code = .ref 753)
    (h : ∀ fa g' h' tk doc pm cdv ct, St w mg mb o g₀ g' L m cl cm own h' s.gens s.os → (∀ b o, g.get? b = some o → g'.get? b = some o) → g'.get? fa = some { cls := .type "function", data := .func (fnX name qualF params body scope clos .none .none doc pm none cdv ct) } → g'.CodeRec cdv qualF →
      Q (.ref fa) { s with heap := h', toks := tk }) :
    wpAny (model prog w) A (makeFunction name qualF params (.stmts body) scope env [] [] [] posF firstLine) Q E s := by
  obtain ⟨ps, hP, ht, hc⟩ := H.inv.tabs.a
  have hgl := H.inv.base.gl.keeps H.inv.sub
  obtain ⟨bm, ob, b1, b2, b3, b4, b5, b6⟩ := H.inv.base.bmain
  have hgP : mainGlobals ≠ 749 := fun q => by
    obtain ⟨o, es, ep, e, hd, _⟩ := hgl
    rw [q, hP] at e; cases e; cases hd
  have hbP : bm ≠ 749 := fun q => by
    have e := H.inv.sub _ _ b3
    rw [q, hP] at e; cases e; cases b4
  have hbG : bm ≠ mainGlobals := fun q => by
    obtain ⟨o, es, ep, e, hd, _⟩ := H.inv.base.gl
    rw [q, e] at b3; cases b3; rw [hd] at b6; cases b6
  have hB : s.heap.BuiltinsAt mg 749 := ⟨bm, ob, b1, b2, hbG, hbP, H.inv.sub _ _ b3, b4, b5, b6⟩
  have C := H.inv.base.h1.keeps H.inv.sub
  have n784 : ∀ {h'' : Heap}, (∀ b o, b ≠ 749 → s.heap.get? b = some o → h''.get? b = some o) → ∀ o, s.heap.get? 784 = some o → h''.get? 784 = some o := fun k o e => k _ _ (by decide) e
  rcases hc with hn | ⟨c', hf, hrec⟩
  · refine makeFunction_K (mg := mg) hcl hge hgl hcode C hP ht hn hgP hB fun c' ctv doc h' tk hx hge' hlt hrec htb => ?_
    have keep : ∀ b ob, b ≠ 749 → b ≠ 784 → s.heap.get? b = some ob → (h'.push (fnMade name qualF params body scope clos doc ((mg "__name__").getD .none) c' ctv)).get? b = some ob := fun b ob h1 _ e => Heap.get?_push_of_some _ (hx b ob h1 e)
    obtain ⟨c₂, oc, vs, t, e2, hoc, hd, hv⟩ := hrec
    cases e2
    have hr' : ∀ g', (∀ b o, s.heap.objs.size ≤ b → (h'.push (fnMade name qualF params body scope clos doc ((mg "__name__").getD .none) c' ctv)).get? b = some o → g'.get? b = some o) → Heap.CodeRec g' (.ref c') qualF := fun g' k => ⟨c', oc, vs, t, rfl, k _ _ hge' (Heap.get?_push_of_some _ hoc), hd, hv⟩
    have S := H.anew (h' := h'.push (fnMade name qualF params body scope clos doc ((mg "__name__").getD .none) c' ctv)) (gens' := s.gens) (os' := s.os) keep
      ⟨⟨_, Heap.get?_push_of_some _ htb, ?_, .inr ⟨c', ?_, hr' _ fun b o hb e => newG_new hb e⟩⟩, let ⟨ps2, e, t2⟩ := H.inv.tabs.b; ⟨ps2, Heap.get?_push_of_some _ (hx _ _ (by decide) e), t2⟩⟩
      (by rw [Heap.size_push]; omega) rfl id
    · exact h _ _ _ _ doc _ (.ref c') ctv S (newG_ext fun b ob e => keep b ob (by rintro rfl; rw [H.inv.n1] at e; cases e) (by rintro rfl; rw [H.inv.n2] at e; cases e) (H.inv.sub b ob e))
        (newG_new (by omega) (Heap.get?_push_size _ rfl)) (hr' _ fun b o hb e => newG_new hb e)
    · rw [Array.toList_append]; exact TriplesOk_snoc _ _ _ _ ht
    · rw [Array.toList_append]; exact codeAmong_snoc _ ht hn
  · refine makeFunction_hit (mg := mg) hcl hge hgl hcode C hP ht hf hB fun ctv doc h' tk hk hsz => ?_
    have keep : ∀ b ob, s.heap.get? b = some ob → (h'.push { cls := .type "function", data := .func (fnX name qualF params body scope clos .none .none doc ((mg "__name__").getD .none) none (.ref c') ctv) }).get? b = some ob := fun b ob e => Heap.get?_push_of_some _ (hk b ob e)
    have ext := newG_ext (n := s.heap.objs.size) fun b ob e => keep b ob (H.inv.sub b ob e)
    have S := H.anew (h' := h'.push { cls := .type "function", data := .func (fnX name qualF params body scope clos .none .none doc ((mg "__name__").getD .none) none (.ref c') ctv) }) (gens' := s.gens) (os' := s.os) (fun b ob _ _ e => keep b ob e)
      (H.inv.tabs.keeps ext (fun _ e => keep _ _ e) (fun _ e => keep _ _ e)) (by rw [Heap.size_push]; omega) rfl id
    exact h _ _ _ _ doc _ (.ref c') ctv S ext (newG_new hsz (Heap.get?_push_size _ rfl)) (hrec.keeps ext)
end

end
section
def SrcOk (prog : Program) (w : World) (xv : Value) (h : Heap) (n : Nat) (P : Nat → Value → Prop) : Prop :=
  ∀ (A : Around) (Q : Value → Shared → Prop) (E : Value → Shared → Prop) (s : Shared), s.heap = h →
    (∀ oI fp St₀, (∀ A' : Around, A'.handled = none → Walks prog w A' s.heap.objs.size fp [s.heap.objs.size] n P St₀) → (∀ b ∈ fp, 784 < b ∧ b ≤ s.heap.objs.size) → St₀ 0 (s.heap.push oI) → Q (.ref s.heap.objs.size) { s with heap := s.heap.push oI }) →
    wpAny (model prog w) A (pyIter xv) Q E s

theorem src_str {prog : Program} {w : World} {x : Str} {t : Tok} {h : Heap} (hl : 784 < h.objs.size) : SrcOk prog w (.str x t) h x.cps.size (SignAt x) := by
  intro A Q E s e k
  subst e
  cases ha : x.cps.all (· < 128)
  · refine wpAny_pyIter_wide ha ?_
    exact k _ _ (fun i h => h.IsStrIter s.heap.objs.size "str_iterator" x t i) (fun A' hh => Walks.strWide hh _ x t) (fun b hb => by rw [List.mem_singleton.mp hb]; exact ⟨hl, Nat.le_refl _⟩) ⟨_, Heap.get?_push_size _ rfl, rfl, rfl⟩
  · refine wpAny_pyIter_ascii ha ?_
    exact k _ _ (fun i h => h.IsStrIter s.heap.objs.size "str_ascii_iterator" x t i) (fun A' hh => Walks.strAscii hh _ x t) (fun b hb => by rw [List.mem_singleton.mp hb]; exact ⟨hl, Nat.le_refl _⟩) ⟨_, Heap.get?_push_size _ rfl, rfl, rfl⟩
theorem src_tup {prog : Program} {w : World} {ax : Addr} {its : Array Value} {h : Heap} (hl : 784 < ax) (ht : h.IsTuple ax its) : SrcOk prog w (.ref ax) h its.size (fun i v => its[i]? = some v) := by
  intro A Q E s e k
  subst e
  have hlt : ax < s.heap.objs.size := let ⟨_, e, _⟩ := ht; Heap.lt_size e
  have hl' : 784 < s.heap.objs.size := Nat.lt_trans hl hlt
  refine wpAny_pyIter_tuple ht ?_
  exact k _ _ (fun i h => h.IsTupleIter s.heap.objs.size ax i ∧ h.IsTuple ax its) (fun A' hh => Walks.tuple hh _ ax (Nat.ne_of_lt hlt) its) (fun b hb => by
    rcases List.mem_cons.mp hb with rfl | hb
    · exact ⟨hl', Nat.le_refl _⟩
    · rw [List.mem_singleton.mp hb]; exact ⟨hl, Nat.le_of_lt hlt⟩) ⟨⟨_, Heap.get?_push_size _ rfl, rfl, rfl⟩, ht.push _⟩

theorem pass_all (n : Nat) : passing (fun _ => true) n 0 = List.range n := by
  unfold passing; rw [List.drop_zero]; exact List.filter_eq_self.mpr fun _ _ => rfl

section
variable {prog : Program} {w : World} {mg mb : Str → Option Value} {o : Shared} {g₀ g : Heap} {L : Addr} {m cm : Str → Option Value} {cl : List (Str × Addr)} {own : List (Addr × Obj)} {A : Around} {E : Value → Shared → Prop} {s : Shared}

theorem anyGen {elt iter : Expr} {x : Str} {px : Pos} {scope : Scope} {pos : Pos} {cl' : List (Str × Addr)} {env : Env} {Q : Value → Shared → Prop}
    (_ : St w mg mb o g₀ g L m cl cm own s.heap s.gens s.os) (hh : A.handled = none) (hroom : A.depth < recursionLimit) (hge : env.globals = mainGlobals) (hcode : env.code = .ref 788)
    (hco : scope.isCoroutine = false) (hclos : closureFor scope env = pure cl') (hcell : ∀ y ∈ scope.names, y.2 ≠ .cell) (h0 : scope.names.lookup (".0" : Str) = some NameKind.local)
    (hx : scope.names.lookup x = some .local) (hkind : scope.kind = .function) (hs : ∀ x, genFold iter env x = pure x)
    (h : wpAny (model prog w) A (eval iter env) (fun xv s₁ => ∃ (own₁ : List (Addr × Obj)) (n : Nat) (P : Nat → Value → Prop) (tr : Nat → Bool), St w mg mb o g₀ g L m cl cm own₁ s₁.heap s₁.gens s₁.os ∧ SrcOk prog w xv s₁.heap n P ∧
      (∀ (A' : Around) E' C code i v s₂ m₂, A'.handled = none → i < n → P i v → s₂.heap.Ns C m₂ → m₂ x = some v → (∀ b ob, b ≠ 784 → s₁.heap.get? b = some ob → s₂.heap.get? b = some ob) →
        wpAny (model prog w) A' (eval elt (genEnv scope cl' C code builtinsNs env)) (fun y s₃ => y = .bool (tr i) ∧ Keeps s₂ s₃) E' s₂) ∧
      ∀ s', St w mg mb o g₀ g L m cl cm own₁ s'.heap s'.gens s'.os → Q (.bool ((List.range n).any tr)) s') E s) :
    wpAny (model prog w) A (eval (.GeneratorExp elt [⟨.Name x px, iter, [], 0⟩] scope pos) env) (fun v s₁ => wpAny (model prog w) A (call (.builtin "any") [v]) Q E s₁) E s := by
  refine wpAny_GeneratorExp_walksQD hh hco hclos hcell h0 hx hkind hroom (wpAny_mono h (fun xv s₁ h₁ => ?_) fun _ _ e => e) hs
  obtain ⟨own₁, n, P, tr, H, src, helt, hQ⟩ := h₁
  refine src _ _ _ s₁ rfl fun oI fp St₀ W₀ hfp hst => ?_
  have keep₂ : ∀ b ob, s₁.heap.get? b = some ob → (s₁.heap.push oI).get? b = some ob := fun b ob e => Heap.get?_push_of_some _ e
  have lim₂ : (s₁.heap.push oI).NoLimit := (H.inv.base.lim.keeps H.inv.sub).keeps keep₂
  refine ⟨lim₂, ?_⟩
  obtain ⟨ps, hP, ht⟩ := H.inv.tabs.b
  have hP₂ := keep₂ _ _ hP
  have C := (H.inv.base.h2.keeps H.inv.sub).keeps keep₂
  have hlow := H.inv.low
  have n784 : ∀ {a ob}, g.get? a = some ob → a ≠ 784 := fun e q => by rw [q, H.inv.n2] at e; cases e
  have cont : ∀ code h₃ tk, (∀ b ob, b ≠ 784 → (s₁.heap.push oI).get? b = some ob → h₃.get? b = some ob) → (∃ ps', h₃.get? 784 = some (tabObj ps') ∧ TriplesOk ps'.toList) → (s₁.heap.push oI).objs.size ≤ h₃.objs.size →
      wpAny (model prog w) A (builtinsFor env.globals env.builtins) (fun bi s₄ =>
        ∃ I fp wr n₀ P St₀ pz F, Value.ref s₁.heap.objs.size = .ref I ∧ (∀ A' : Around, A'.handled = none → Walks prog w A' I fp wr n₀ P St₀) ∧ St₀ 0 s₄.heap ∧ (∀ b ∈ fp, b < s₄.heap.objs.size) ∧ s₄.heap.NoLimit ∧ cStatics ∉ wr ∧
          (∀ href : Heap, (∀ b o, s₄.heap.get? b = some o → href.get? b = some o) →
            QuietGenD prog w (genEnv scope cl' s₄.heap.objs.size code bi env) x [] elt (List.range s₄.heap.objs.size) wr P pz F href (A.depth + 1) (A.units + 8)) ∧
          (∀ a h₅ tk gs, gs.bare = true → s₄.heap.objs.size < a → h₅.objs.size = a + 1 → (∀ b o, s₄.heap.get? b = some o → h₅.get? b = some o) →
            WalksS prog w A.in4 a (a :: s₄.heap.objs.size :: List.range s₄.heap.objs.size) (s₄.heap.objs.size :: wr) (GenOnlyQ s₄.gens.size) (passing pz n₀ 0).length
              (fun j y => ∃ i, (passing pz n₀ 0)[j]? = some i ∧ F i y) (GenAt prog w A.in4 a s₄.gens.size s₄.heap.objs.size (List.range s₄.heap.objs.size) wr pz n₀ F) →
            GenAt prog w A.in4 a s₄.gens.size s₄.heap.objs.size (List.range s₄.heap.objs.size) wr pz n₀ F 0 { s₄ with gens := s₄.gens.push gs, toks := tk, heap := h₅ } →
            wpAny (model prog w) A (call (.builtin "any") [.ref a]) Q E { s₄ with gens := s₄.gens.push gs, toks := tk, heap := h₅ })) E { s₁ with heap := h₃, toks := tk } := by
    intro code h₃ tk hk₃ htab hsz₃
    obtain ⟨bm, ob, b1, b2, b3, b4, b5, b6⟩ := H.inv.base.bmain
    have gk : ∀ b ob, g.get? b = some ob → h₃.get? b = some ob := fun b ob e => hk₃ b ob (n784 e) (keep₂ _ _ (H.inv.sub b ob e))
    refine wpAny_builtinsFor (by rw [hge]; exact H.inv.base.gl.keeps gk) b1 b2 (gk _ _ b3) b4 b5 b6 ?_
    have lim₃ : h₃.NoLimit := H.inv.base.lim.keeps gk
    have hI₃ : s₁.heap.objs.size < h₃.objs.size := by rw [Heap.size_push] at hsz₃; omega
    have hcs : cStatics < s₁.heap.objs.size := let ⟨_, hn, _⟩ := H.inv.base.lim.keeps H.inv.sub; hn.lt
    refine ⟨s₁.heap.objs.size, fp, [s₁.heap.objs.size], n, fun i v => i < n ∧ P i v, St₀, fun _ => true, fun i y => y = .bool (tr i), rfl, fun A' hA => ?_, ?_, fun b hb => Nat.lt_of_le_of_lt (hfp b hb).2 hI₃, lim₃, ?_, ?_, ?_⟩
    · have W := W₀ A' hA
      exact ⟨W.sub, W.frame, fun i s Q E hi st k => W.item i s Q E hi st fun v h' tk p => k v h' tk ⟨hi, p⟩, W.done, W.self⟩
    · exact (W₀ A hh).frame 0 _ _ hst fun b hb ob e => hk₃ b ob (Nat.ne_of_gt (hfp b hb).1) e
    · intro hm
      exact absurd hcs (Nat.not_lt.mpr (Nat.le_of_eq (List.mem_singleton.mp hm).symm))
    · intro href hk
      refine ⟨fun A' E' i v s₂ m₂ hA _ _ _ _ _ _ => wpAny_pure ⟨rfl, _, _, rfl, fun _ _ e => e⟩, fun A' E' i v s₂ m₂ hA _ _ hP _ hn hm₂ hkk => helt A' E' _ _ i v s₂ m₂ hA hP.1 hP.2 hn hm₂ fun b ob hb e => ?_⟩
      have hb1 : b < s₁.heap.objs.size := Heap.lt_size e
      exact hkk b (List.mem_range.mpr (Nat.lt_trans hb1 hI₃)) (fun hm => absurd hb1 (Nat.not_lt.mpr (Nat.le_of_eq (List.mem_singleton.mp hm).symm))) ob (hk b ob (hk₃ b ob hb (keep₂ _ _ e)))
    · intro a h₅ tk₅ gs hbare hlt hsz₅ hk₅ W hat
      rw [pass_all] at W
      have W := W.in4_1
      refine call_any_walkS (W.self 0 _ _ _ hat ⟨a, _, _, _, _, _, _, tr, rfl, W, hat, ?_, fun s' hm => ?_⟩)
      · rintro i v s Q E ⟨j, hj, rfl⟩ hq
        have : i < n := by
          rcases Nat.lt_or_ge i n with h | h
          · exact h
          · rw [List.getElem?_eq_none (by simpa using h)] at hj; cases hj
        rw [List.getElem?_range this] at hj
        cases hj
        exact wpAny_truthy_bool hq
      · rw [List.length_range]
        have keep' : ∀ b ob, b ≠ 784 → s₁.heap.get? b = some ob → s'.heap.get? b = some ob := fun b ob hb e => by
          have hb1 : b < s₁.heap.objs.size := Heap.lt_size e
          refine hm.heap b ob (fun hmem => ?_) (hk₅ _ _ (hk₃ b ob hb (keep₂ _ _ e)))
          rcases List.mem_cons.mp hmem with rfl | hmem
          · exact absurd hb1 (Nat.not_lt.mpr (Nat.le_of_lt hI₃))
          · exact absurd hb1 (Nat.not_lt.mpr (Nat.le_of_eq (List.mem_singleton.mp hmem).symm))
        have keepT : ∀ ob, h₃.get? 784 = some ob → s'.heap.get? 784 = some ob := fun ob e => by
          refine hm.heap 784 ob (fun hmem => ?_) (hk₅ _ _ e)
          rcases List.mem_cons.mp hmem with e | hmem
          · exact absurd (Nat.lt_trans hlow hI₃) (Nat.not_lt.mpr (Nat.le_of_eq e.symm))
          · exact absurd hlow (Nat.not_lt.mpr (Nat.le_of_eq (List.mem_singleton.mp hmem).symm))
        obtain ⟨ps', e₃, t₃⟩ := htab
        have hs' : s₁.heap.objs.size ≤ s'.heap.objs.size := by
          obtain ⟨oa, _, _, ea, _⟩ := hat.1
          have := hm.heap a oa (fun hmem => by
            rcases List.mem_cons.mp hmem with rfl | hmem
            · exact Nat.lt_irrefl _ hlt
            · rw [List.mem_singleton.mp hmem] at hlt; exact absurd hI₃ (Nat.not_lt.mpr (Nat.le_of_lt hlt))) ea
          exact Nat.le_of_lt (Nat.lt_trans (Nat.lt_trans hI₃ hlt) (Heap.lt_size this))
        refine hQ s' (H.grow (fun b ob _ hb e => keep' b ob hb e) ⟨?_, ⟨ps', keepT _ e₃, t₃⟩⟩ hs' hm.os fun G => ?_)
        · obtain ⟨p1, e1, r1⟩ := H.inv.tabs.a
          exact ⟨p1, keep' _ _ (by decide) e1, r1⟩
        · exact AllBare.movedS (G.push hbare) hm
  cases hf : codeAmong pos ps.toList with
  | none =>
    refine wpAny_genexprCodeX hcode (C.code hP₂ ht) (C.tab hP₂) hf fun c' h₃ tk hx hge' hlt hcode' hrec htab _ => ?_
    exact cont _ h₃ tk (fun b ob hb e => hx b ob hb e) ⟨_, htab.2, by rw [Array.toList_append]; exact TriplesOk_snoc _ _ _ _ ht⟩ (Nat.le_of_lt (Nat.lt_of_le_of_lt hge' hlt))
  | some c' => exact wpAny_genexprCode_hit hcode (C.code hP₂ ht) hf (cont c' _ _ (fun _ _ _ e => e) ⟨ps, hP₂, ht⟩ (Nat.le_refl _))
end

end
section
/-! the members of ParserState -/
section
variable {prog : Program} {w : World} {A : Around} {E : Value → Shared → Prop} {s : Shared} {x y : Addr}
theorem find_eq : findIn (KF w) (.ref 685) "__eq__" = some (some (.builtin "object.__eq__")) := by rfl
theorem sub_obj : subIn (KF w) (.ref 685) (.type "object") = some true := by rfl
theorem sub_self : subIn (KF w) (.ref 685) (.ref 685) = some true := by rfl

theorem ps_check {M : Model} {rest : List Value} {Q : Unit → Shared → Prop} (X : (KF w).In s.heap) (hx : typeIn (KF w) (.ref x) = some (.ref 685)) (ha : argsOk "object.__eq__" ⟨.ref x :: rest, []⟩) (hq : Q () s) :
    wpAny M A (checkBuiltinCall "object.__eq__" ⟨.ref x :: rest, []⟩) Q E s := by
  simp only [checkBuiltinCall, F.cmpKind_eq, F.cmpSplit_eq]
  refine wpAny_bind ?_
  · unfold isInstance
    refine wpAny_bind ((looks_typeIn X hx).here ((looks_subIn X sub_obj).here ?_))
    simp only [Bool.not_true, Bool.false_eq_true, if_false]
    cases hsig : Manifest.signature? "object.__eq__" with
    | none => exact wpAny_pure hq
    | some sig =>
      simp only [argsOk, hsig] at ha
      have h2 : Bind.checkArgs "object.__eq__" sig ⟨.ref x :: rest, []⟩ = pure () := ha
      show wpAny M A (Bind.checkArgs "object.__eq__" sig ⟨.ref x :: rest, []⟩) Q E _
      rw [h2]; exact wpAny_pure hq

theorem ps_if {args : List Value} {Q : Option Value → Shared → Prop} (X : (KF w).In s.heap) (hx : typeIn (KF w) (.ref x) = some (.ref 685))
    (h : wpAny (model prog w) A (call (.builtin "object.__eq__") (.ref x :: args)) (fun v => Q (some v)) E s) : wpAny (model prog w) A (callSpecialIfBound? (.ref x) "__eq__" args) Q E s := by
  simp only [callSpecialIfBound?, bindSpecialIfBound?]
  refine wpAny_holding (wpAny_bind (wpAny_bind (wpAny_bind ((looks_typeIn X hx).here ((looks_findIn X find_eq).here ?_)))))
  simp only [F.cmp_object.eq.bind]
  refine wpAny_bind (wpAny_askSetting (wpAny_ite ?_))
  have fin : wpAny (model prog w) A (call (.builtin "object.__eq__") ([.ref x] ++ args) >>= fun v => pure (some v)) Q E s :=
    wpAny_bind (wpAny_mono h (fun v s' h' => wpAny_pure h') fun _ _ h' => h')
  split
  · exact wpAny_bind (wpAny_pure (wpAny_pure fin))
  · exact wpAny_tryCatch (wpAny_bind (wpAny_pure (wpAny_pure fin)))

theorem ps_try_same {Q : Option Value → Shared → Prop} (X : (KF w).In s.heap) (hx : typeIn (KF w) (.ref x) = some (.ref 685)) (hq : Q (some (.bool true)) s) : wpAny (model prog w) A (tryCompare (.ref x) "__eq__" (.ref x)) Q E s := by
  simp only [tryCompare]
  exact wpAny_bind (ps_if X hx (wpAny_call (codeAny_call_builtin F.cmp_object.eq.plain F.cmpEntry_eq (ps_check X hx (F.cmpArgs_eq _ _) (objEq_entry_same (wpAny_pure hq))))))
theorem ps_try_other {ox oy : Obj} {Q : Option Value → Shared → Prop} (X : (KF w).In s.heap) (hx : typeIn (KF w) (.ref x) = some (.ref 685)) (hox : s.heap.get? x = some ox) (hoy : s.heap.get? y = some oy) (hnt : ox.cls ≠ .type "tuple") (hxy : x ≠ y) (hq : Q none s) : wpAny (model prog w) A (tryCompare (.ref x) "__eq__" (.ref y)) Q E s := by
  simp only [tryCompare]
  exact wpAny_bind (ps_if X hx (wpAny_call (codeAny_call_builtin F.cmp_object.eq.plain F.cmpEntry_eq (ps_check X hx (F.cmpArgs_eq _ _) (objEq_entry_other hxy hox hoy hnt (wpAny_pure hq))))))

theorem ps_eq_same {Q : Value → Shared → Prop} (hu : A.units < cLine) (X : (KF w).In s.heap) (hx : typeIn (KF w) (.ref x) = some (.ref 685)) (hq : Q (.bool true) s) : wpAny (model prog w) A (compareOp .Eq (.ref x) (.ref x)) Q E s := by
  show wpAny (model prog w) A (richCompare .Eq (.ref x) (.ref x)) Q E s
  simp only [richCompare, cmpInfo_Eq, oneThing_ref]
  repeat (first | with_reducible refine wpAny_cRoomFor hu ?_ | with_reducible refine (looks_typeIn X hx).here ?_ | with_reducible refine ps_try_same X hx ?_ | wp_step)
  exact hq
theorem ps_eq_other {ox oy : Obj} {Q : Value → Shared → Prop} (hu : A.units < cLine) (X : (KF w).In s.heap) (hx : typeIn (KF w) (.ref x) = some (.ref 685)) (hy : typeIn (KF w) (.ref y) = some (.ref 685)) (hox : s.heap.get? x = some ox) (hoy : s.heap.get? y = some oy) (hnt : ox.cls ≠ .type "tuple") (hnt' : oy.cls ≠ .type "tuple") (hxy : x ≠ y) (hq : Q (.bool false) s) : wpAny (model prog w) A (compareOp .Eq (.ref x) (.ref y)) Q E s := by
  show wpAny (model prog w) A (richCompare .Eq (.ref x) (.ref y)) Q E s
  simp only [richCompare, cmpInfo_Eq, oneThing_ref]
  repeat (first | with_reducible refine wpAny_cRoomFor hu ?_ | with_reducible refine (looks_typeIn X hx).here ?_ | with_reducible refine (looks_typeIn X hy).here ?_ | with_reducible refine ps_try_other X hx hox hoy hnt hxy ?_ | with_reducible refine ps_try_other X hy hoy hox hnt' hxy.symm ?_ | with_reducible refine wpAny_isSame_ref_other hxy hox hoy hnt ?_ | wp_step)
  exact hq
end

end
section
/-! lists that are a frame's own -/
section
variable {prog : Program} {w : World} {mg mb : Str → Option Value} {o : Shared} {g₀ g : Heap} {L : Addr} {m cm : Str → Option Value} {cl : List (Str × Addr)} {own : List (Addr × Obj)} {A : Around} {E : Value → Shared → Prop} {s : Shared} {a : Addr} {its : Array Value} {n : Nat} {ob : Obj}

theorem St.mem' (H : St w mg mb o g₀ g L m cl cm own s.heap s.gens s.os) (hm : (a, ob) ∈ own) : s.heap.get? a = some ob := (H.owns _ hm).1
theorem St.frontIn (H : St w mg mb o g₀ g L m cl cm own s.heap s.gens s.os) {l₁ l₂ : List (Addr × Obj)} {p : Addr × Obj} (e : own = l₁ ++ p :: l₂) : St w mg mb o g₀ g L m cl cm (p :: (l₁ ++ l₂)) s.heap s.gens s.os :=
  H.perm (by rw [e]; exact List.perm_middle.symm)

theorem appM {pl : Sem Bool} {Q : Value × List Value → Shared → Prop} (hg : s.heap.get? a = some (listOf its n)) (h : Q (.builtin "list.append", [.ref a]) s) : wpAny (model prog w) A (getMethod (.ref a) "append" pl) Q E s :=
  getMethod_list_append hg rfl rfl h
theorem popM {pl : Sem Bool} {Q : Value × List Value → Shared → Prop} (hg : s.heap.get? a = some (listOf its n)) (h : Q (.builtin "list.pop", [.ref a]) s) : wpAny (model prog w) A (getMethod (.ref a) "pop" pl) Q E s :=
  getMethod_builtin ⟨_, hg, rfl⟩ PySem.F.plainAttrs_list PySem.F.slot_list_pop PySem.F.type_list_pop (fun a e => by cases e; exact ⟨_, hg, rfl⟩) h

theorem appS {x : Value} {Q : Value → Shared → Prop} {l₁ l₂ : List (Addr × Obj)} (H : St w mg mb o g₀ g L m cl cm (l₁ ++ (a, listOf its n) :: l₂) s.heap s.gens s.os) (hz : its.size ≤ sizeLine)
    (h : ∀ s' n', St w mg mb o g₀ g L m cl cm (l₁ ++ (a, listOf (its.push x) n') :: l₂) s'.heap s'.gens s'.os → Q .none s') : wpAny (model prog w) A (call (.builtin "list.append") [.ref a, x]) Q E s := by
  refine wpAny_list_append_plain ⟨n, (H.owns (a, _) (List.mem_append.mpr (.inr (.head _)))).1⟩ (fun h' hp hs => ?_) hz
  obtain ⟨n', e⟩ := hp
  exact h { s with heap := h' } n' (((H.perm (List.perm_middle.symm)).upd hs e).perm List.perm_middle)

theorem popS {vs : List Value} {y : Value} {Q : Value → Shared → Prop} {l₁ l₂ : List (Addr × Obj)} (H : St w mg mb o g₀ g L m cl cm (l₁ ++ (a, listOf (vs ++ [y]).toArray n) :: l₂) s.heap s.gens s.os) (hz : vs.length < sizeLine)
    (h : ∀ s' n', St w mg mb o g₀ g L m cl cm (l₁ ++ (a, listOf vs.toArray n') :: l₂) s'.heap s'.gens s'.os → Q y s') : wpAny (model prog w) A (call (.builtin "list.pop") [.ref a]) Q E s := by
  have e := (H.owns (a, _) (List.mem_append.mpr (.inr (.head _)))).1
  have hk : (vs ++ [y]).toArray.size - 1 = vs.length := by rw [List.size_toArray, List.length_append]; rfl
  have hy : (vs ++ [y]).toArray[(vs ++ [y]).toArray.size - 1]? = some y := by rw [hk]; simp
  refine call_meets PySem.F.slot_list_pop ⟨_, e, rfl⟩ PySem.F.entry_list_pop (PySem.F.args_list_pop_1 _) (PySem.MeetsSeq.list_pop_last a _ n y hy (by rw [List.size_toArray, List.length_append]; exact hz)) ⟨e, ?_⟩
  refine h { s with heap := _ } (n + 1) (((H.perm (List.perm_middle.symm)).upd (Heap.SameBut.update ..) ?_).perm List.perm_middle)
  have q := PySem.IsL.update e (fun its => its.eraseIdxIfInBounds ((vs ++ [y]).toArray.size - 1))
  have e2 : (vs ++ [y]).toArray.eraseIdxIfInBounds ((vs ++ [y]).toArray.size - 1) = vs.toArray := by rw [hk, kl_erase, List.append_nil]
  rw [e2, if_neg (by rw [List.size_toArray, List.size_toArray, List.length_append]; simp)] at q
  exact q

theorem lastI {value slice : Expr} {vs : List Value} {y : Value} {t : Tok} {Q : Value → Shared → Prop} (hl : s.heap.IsList a (vs ++ [y]).toArray) (h : Q y s)
    (hs : subscripted slice false (.ref a) (.int (-1) t) = operate [.ref a, .int (-1) t] (getItem (.ref a) (.int (-1) t)) := by with_unfolding_all rfl) :
    wpAny (model prog w) A (subscriptTail value slice (.ref a) (.int (-1) t)) Q E s :=
  tail_any hl.typeIs slot_list_getitem.lookup (wpAny_getItem_list_neg hl (by decide) (by rw [List.size_toArray, List.length_append, List.length_singleton]; omega) (by decide) (by
    rw [List.size_toArray, List.length_append, List.length_singleton, show (-1 + ((vs.length + 1 : Nat) : Int)).toNat = vs.length by omega]; simp) h) hs
theorem itemI {value slice : Expr} {k : Int} {x : Value} {t : Tok} {Q : Value → Shared → Prop} (hl : s.heap.IsList a its) (h0 : 0 ≤ k) (hfit : k < 2 ^ 63) (hx : its[k.toNat]? = some x) (h : Q x s)
    (hs : subscripted slice false (.ref a) (.int k t) = operate [.ref a, .int k t] (getItem (.ref a) (.int k t)) := by with_unfolding_all rfl) :
    wpAny (model prog w) A (subscriptTail value slice (.ref a) (.int k t)) Q E s :=
  tail_any hl.typeIs slot_list_getitem.lookup (wpAny_getItem_list hl h0 hfit hx h) hs

theorem newL {vs : List Value} {Q : Value → Shared → Prop} (H : St w mg mb o g₀ g L m cl cm own s.heap s.gens s.os) (h : ∀ a s', St w mg mb o g₀ g L m cl cm ((a, listOf vs.toArray 0) :: own) s'.heap s'.gens s'.os → Q (.ref a) s') (hz : vs.length ≤ sizeLine) :
    wpAny (model prog w) A (newList vs) Q E s := wpAny_newObj_type (h _ { s with heap := _ } (H.push _)) (by show vs.toArray.size ≤ sizeLine; rw [List.size_toArray]; exact hz)
abbrev tupOf (its : Array Value) : Obj := { cls := .type "tuple", data := .seq its }
theorem newT {vs : List Value} {Q : Value → Shared → Prop} (H : St w mg mb o g₀ g L m cl cm own s.heap s.gens s.os) (h : ∀ a s', St w mg mb o g₀ g L m cl cm ((a, tupOf vs.toArray) :: own) s'.heap s'.gens s'.os → Q (.ref a) s') (hz : vs.length ≤ sizeLine) :
    wpAny (model prog w) A (newTuple vs) Q E s := wpAny_newObj_type (h _ { s with heap := _ } (H.push _)) (by show vs.toArray.size ≤ sizeLine; rw [List.size_toArray]; exact hz)
theorem own_tup (H : St w mg mb o g₀ g L m cl cm own s.heap s.gens s.os) (hm : (a, tupOf its) ∈ own) : IsTup s.heap a its := ⟨_, (H.owns _ hm).1, rfl, 0, rfl⟩
theorem own_list (H : St w mg mb o g₀ g L m cl cm own s.heap s.gens s.os) (hm : (a, listOf its n) ∈ own) : s.heap.IsList a its := ⟨_, (H.owns _ hm).1, rfl, n, rfl⟩

theorem stR {env : Env} {x : Str} {v : Value} {Q : Unit → Shared → Prop} (H : St w mg mb o g₀ g L m cl cm own s.heap s.gens s.os) (hLo : o.heap.objs.size ≤ L) (hL : env.locals = L)
    (h : ∀ s', St w mg mb o g₀ g L (fun y => if y = x then some v else m y) cl cm own s'.heap s'.gens s'.os → Q () s') (hk : env.scope.kind = .function) (hl : env.kindOf x = some .local) :
    wpAny (model prog w) A (storeName env x v) Q E s := stL H hLo hL (fun h' tk H' => h { s with heap := h', toks := tk } H') hk hl
theorem stRC {env : Env} {x : Str} {v : Value} {c : Addr} {Q : Unit → Shared → Prop} (H : St w mg mb o g₀ g L m cl cm own s.heap s.gens s.os) (hc : env.cells.lookup x = some c) (hcl : cl.lookup x = some c) (hco : o.heap.objs.size ≤ c)
    (h : ∀ s', St w mg mb o g₀ g L m cl (fun y => if y = x then some v else cm y) own s'.heap s'.gens s'.os → Q () s') (hk : env.scope.kind = .function) (hl : env.kindOf x = some .cell) :
    wpAny (model prog w) A (storeName env x v) Q E s := stC H hc hcl hco (fun h' H' => h { s with heap := h' } H') hk hl
theorem forR {env : Env} {x : Str} {px : Pos} {iter : Expr} {body : List Stmt} {pos : Pos} {Q : Flow → Shared → Prop} (_ : St w mg mb o g₀ g L m cl cm own s.heap s.gens s.os) (hLo : o.heap.objs.size ≤ L) (hs : ∀ y, foldedSetIterable iter env y = pure y)
    (h : wpAny (model prog w) A (eval iter env) (fun xv s₁ => wpAny (model prog w) A (pyIter xv) (ForGo prog w mg mb o g₀ L cl A env (.Name x px) body Q) E s₁) E s) :
    wpAny (model prog w) A (exec (.For (.Name x px) iter body [] pos) env) Q E s := forRule hLo hs h
theorem compR {env : Env} {elt iter : Expr} {x : Str} {px : Pos} {scope : Scope} {pos : Pos} (cl' : List (Str × Addr)) {Q : Value → Shared → Prop} (_ : St w mg mb o g₀ g L m cl cm own s.heap s.gens s.os)
    (hclos : closureFor scope env = pure cl') (hcell : ∀ y ∈ scope.names, y.2 ≠ .cell) (hkind : scope.kind = .function) (hnames : ∀ y ∈ scope.names, y.2 = .local → scope.names.lookup y.1 = some .local) (hx : scope.names.lookup x = some .local) (hsub : SubC cl' cl)
    (hs : ∀ x, foldedSetIterable iter env x = pure x)
    (h : wpAny (model prog w) A (eval iter env) (fun xv s₁ => wpAny (model prog w) A (pyIter xv) (CompGo prog w mg mb o g₀ L m cl cm own A env scope cl' x elt fun D g' ys n F s' => St w mg mb o g₀ g' L m cl cm own s'.heap s'.gens s'.os → Q (.ref D) s') E s₁) E s) :
    wpAny (model prog w) A (eval (.ListComp elt [⟨.Name x px, iter, [], 0⟩] scope pos) env) Q E s := comp cl' hclos hcell hkind hnames hx hsub hs h
theorem compA {env : Env} {elt iter : Expr} {x y : Str} {px py : Pos} {scope : Scope} {pos spos : Pos} (cl' : List (Str × Addr)) {Q : Flow → Shared → Prop} (_ : St w mg mb o g₀ g L m cl cm own s.heap s.gens s.os)
    (hsw : swapsWith (.ListComp elt [⟨.Name x px, iter, [], 0⟩] scope pos) (some (.Name y py)) spos.line env = pure true)
    (hclos : closureFor scope env = pure cl') (hcell : ∀ y ∈ scope.names, y.2 ≠ .cell) (hkind : scope.kind = .function) (hnames : ∀ y ∈ scope.names, y.2 = .local → scope.names.lookup y.1 = some .local) (hx : scope.names.lookup x = some .local) (hsub : SubC cl' cl)
    (hs : ∀ x, foldedSetIterable iter env x = pure x) (hLo : o.heap.objs.size ≤ L) (hL : env.locals = L) (hy : env.kindOf y = some .local) (hk : env.scope.kind = .function)
    (h : wpAny (model prog w) A (eval iter env) (fun xv s₁ => wpAny (model prog w) A (pyIter xv) (CompGo prog w mg mb o g₀ L m cl cm own A env scope cl' x elt fun D g' ys n F s' => St w mg mb o g₀ g' L (fun z => if z = y then some (.ref D) else m z) cl cm own s'.heap s'.gens s'.os → Q .next s') E s₁) E s) :
    wpAny (model prog w) A (exec (.Assign [.Name y py] (.ListComp elt [⟨.Name x px, iter, [], 0⟩] scope pos) spos) env) Q E s := compAssign cl' hsw hclos hcell hkind hnames hx hsub hs hLo hL hy hk h
end

end
section
/-! the parser, with no program in sight -/
inductive PS where
  | out | val | str | esc
deriving DecidableEq
structure Cfg where
  st : PS
  lv : List (List V)
  buf : List Nat

def pushV (d : V) : List (List V) → Option (List (List V))
  | [] => none
  | l :: r => some ((l ++ [d]) :: r)
def txt (b : List Nat) : Str := ⟨b.toArray⟩
def wordV (ad : Str → Option V) (b : List Nat) : Option V := if txt b = Str.ofString "NULL" then some .none else ad (txt b)
def step1 (ad : Str → Option V) (c : Nat) (k : Cfg) : Option Cfg :=
  if k.st = .val then
    if c = 125 ∨ c = 44 then (wordV ad k.buf).bind fun d => (pushV d k.lv).map fun lv => ⟨.out, lv, k.buf⟩
    else some ⟨.val, k.lv, k.buf ++ [c]⟩
  else some k
def step2 (ad : Str → Option V) (c : Nat) (k : Cfg) : Option Cfg :=
  match k.st with
  | .val => some k
  | .out =>
    if c = 123 then (match k.lv with | [] => none | l => some ⟨.out, [] :: l, k.buf⟩)
    else if c = 125 then (match k.lv with | l :: p :: r => some ⟨.out, (p ++ [.list l]) :: r, k.buf⟩ | _ => none)
    else if c = 44 then some k
    else if c = 34 then some ⟨.str, k.lv, []⟩
    else some ⟨.val, k.lv, [c]⟩
  | .str =>
    if c = 34 then (ad (txt k.buf)).bind fun d => (pushV d k.lv).map fun lv => ⟨.out, lv, k.buf⟩
    else if c = 92 then some ⟨.esc, k.lv, k.buf⟩
    else some ⟨.str, k.lv, k.buf ++ [c]⟩
  | .esc => some ⟨.str, k.lv, k.buf ++ [c]⟩
def step (ad : Str → Option V) (c : Nat) (k : Cfg) : Option Cfg := (step1 ad c k).bind (step2 ad c)
noncomputable def run (ad : Str → Option V) : List Nat → Cfg → Option Cfg
  | [], k => some k
  | c :: r, k => (step ad c k).bind (run ad r)

theorem run_append (ad : Str → Option V) : ∀ (a b : List Nat) (k : Cfg), run ad (a ++ b) k = (run ad a k).bind (run ad b)
  | [], b, k => rfl
  | c :: r, b, k => by
    simp only [List.cons_append, run, Option.bind_assoc]
    congr 1; funext k'; exact run_append ad r b k'

/-- a run, place by place -/
theorem run_places (ad : Str → Option V) : ∀ (l : List Nat) (k k' : Cfg), run ad l k = some k' → ∃ ks : Nat → Cfg, ks 0 = k ∧ ks l.length = k' ∧ ∀ i c, l[i]? = some c → step ad c (ks i) = some (ks (i + 1))
  | [], k, k', e => ⟨fun _ => k, rfl, by simpa [run] using e, fun i c e => by simp at e⟩
  | c :: r, k, k', e => by
    rw [run] at e
    obtain ⟨k₁, e1, e2⟩ := Option.bind_eq_some_iff.mp e
    obtain ⟨ks, h0, hn, hs⟩ := run_places ad r k₁ k' e2
    refine ⟨fun | 0 => k | i + 1 => ks i, rfl, hn, fun i c' hc => ?_⟩
    cases i with
    | zero => simp at hc; subst hc; show step ad c k = some (ks 0); rw [h0]; exact e1
    | succ i => exact hs i c' (by simpa using hc)

end
end
section
local macro_rules | `(tactic| walk_at "ng") => `(tactic| with_reducible first | exact ngParserState | exact ngparsearray | exact ngarrayin | exact ngboolin | exact ngbytesin | exact ngintin | exact ngstringin | exact ngmakeparam | exact ngpytypes | exact ngarraystringescape | exact ngarrayout | exact ngcompositeout | exact ngbytesout | exact ngkindof | exact nglawtext | exact nglawshaped | exact nglawworth | exact nglawword | exact nglawjoined | exact ngintarrayin | exact ngstringarrayin | exact ngbytesarrayin | exact ngboolarrayin | exact nglawalike | exact nglawflat | exact nglawsizes | exact nglawlaid | exact nglawread)
local macro_rules | `(tactic| walk_at "nt") => `(tactic| with_reducible first | exact nbint | exact nbstr | exact nbbytes | exact nbbytearray | exact nblist | exact nbtuple | exact nbbool | exact nbrange | exact nbzip | exact bbint | exact bbstr | exact bbbytes | exact bbbytearray | exact bblist | exact bbtuple | exact bbbool | exact bbrange | exact bbzip)
local macro_rules | `(tactic| walk_at "nb") => `(tactic| with_reducible first | exact nbisinstance | exact nbany | exact nblen | exact nball | exact nbabs | exact bbisinstance | exact bbany | exact bblen | exact bball | exact bbabs)
local macro_rules | `(tactic| walk_at "nm") => `(tactic| first
  | (refine nmL (by assumption) rfl (by first | rfl | assumption) ?_ rfl (by rfl) (by decide))
  | (refine nmC (by assumption) (by rfl) (by rfl) (by first | rfl | assumption) ?_ rfl (by rfl) (by decide))
  | (refine nmFr (by assumption) (by rfl) (by rfl) (by first | rfl | assumption) ?_ rfl (by rfl) (by decide) (by decide))
  | (refine nmG (by assumption) (by walk_at "ng") ?_ rfl rfl (by rfl) (by decide))
  | (refine nmB (v := .builtin _) (by assumption) (by walk_at "nb") (by walk_at "nb") ?_ rfl rfl rfl (by rfl) (by decide) (by decide))
  | (refine nmB (v := .type _) (by assumption) (by walk_at "nt") (by walk_at "nt") ?_ rfl rfl rfl (by rfl) (by decide) (by decide))
  | (refine nmG (by assumption) (by rfl) ?_ rfl rfl (by rfl) (by decide))
  | (refine nmB (v := .type _) (by assumption) (by rfl) (by rfl) ?_ rfl rfl rfl (by rfl) (by decide) (by decide))
  | (refine nmB (v := .builtin _) (by assumption) (by rfl) (by rfl) ?_ rfl rfl rfl (by rfl) (by decide) (by decide)))
local macro_rules | `(tactic| walk_at "cw") => `(tactic| first
  | ((with_reducible show wpAny _ _ (callWith _ (Value.ref _) _ _ _) _ _ _); refine callWith_F (fnAt_of (by assumption) (by rfl)) ?_)
  | ((with_reducible show wpAny _ _ (callWith _ (Value.type _) _ _ _) _ _ _); refine Pv.callWith_type1 ?_)
  | ((with_reducible show wpAny _ _ (callWith _ (Value.builtin _) [] _ _) _ _ _); refine PyProof.Rows.callWith_builtin1 ?_)
  | ((with_reducible show wpAny _ _ (callWith _ (Value.builtin _) _ (backTo _ (starEach [] _)) _) _ _ _); refine callWith_method0 ?_)
  | ((with_reducible show wpAny _ _ (callWith _ (Value.builtin _) _ _ _) _ _ _); refine callWith_method1 ?_))
local macro_rules | `(tactic| walk_at "s") => `(tactic| first
  | with_reducible refine wpAny_execs_nil ?_
  | with_reducible refine wpAny_execs_cons ?_
  | with_reducible refine wpAny_Return_some ?_
  | ((with_reducible show wpAny _ _ (exec (Stmt.If _ _ _ _) _) _ _ _); refine wpAny_If ?_)
  | ((with_reducible show wpAny _ _ (eval (Expr.Compare _ [_] [_] _) _) _ _ _); refine wpAny_Compare1 ?_)
  | ((with_reducible show wpAny _ _ (PySem.isTrue (Expr.Compare _ [_] [_] _) _ _) _ _ _); refine wpAny_isTrue_Compare1 ?_)
  | with_reducible refine isTrue_and_nil ?_
  | with_reducible refine isTrue_or_nil ?_
  | with_reducible refine isTrue_and ?_
  | with_reducible refine isTrue_or ?_
  | with_reducible refine isTrue_not ?_
  | ((with_reducible show wpAny _ _ (PySem.isTrue (Expr.Call _ _ _ _) _ _) _ _ _); refine isTrue_plain ?_)
  | ((with_reducible show wpAny _ _ (PySem.isTrue (Expr.Name _ _) _ _) _ _ _); refine isTrue_plain ?_)
  | ((with_reducible show wpAny _ _ (eval (Expr.Name _ _) _) _ _ _); walk_at "nm")
  | with_reducible refine Constant_str ?_
  | with_reducible refine Constant_bool ?_
  | with_reducible refine Constant_none ?_
  | with_reducible refine wpAny_Constant_int ?_
  | with_reducible refine wpAny_BinOp ?_
  | with_reducible refine IfExp_ ?_
  | with_reducible refine List_ ?_
  | with_reducible refine wpAny_Pass ?_
  | ((with_reducible show wpAny _ _ (binaryOp Operator.FloorDiv (Value.int _ _) (Value.int _ _)) _ _ _); refine divT (by first | decide | omega) (by first | decide | omega) ?_)
  | ((with_reducible show wpAny _ _ (binaryOp Operator.Mod (Value.int _ _) (Value.int _ _)) _ _ _); refine modT (by first | decide | omega) ?_)
  | ((with_reducible show wpAny _ _ (exec (Stmt.Expr _ _) _) _ _ _); refine wpAny_Expr_any ?_)
  | ((with_reducible show wpAny _ _ (getMethod (Value.str _ _) (Str.ofString "join") _) _ _ _); refine GM.join ?_)
  | ((with_reducible show wpAny _ _ (getMethod (Value.str _ _) (Str.ofString "upper") _) _ _ _); refine GM.upper ?_)
  | ((with_reducible show wpAny _ _ (unaryOp UnaryOp.USub (Value.int _ _)) _ _ _); refine neg_int ?_)
  | with_reducible refine Tuple_ ?_
  | ((with_reducible show wpAny _ _ (exec (Stmt.Assign [Expr.Name _ _] _ _) _) _ _ _); refine wpAny_Assign_Name ?_)
  | with_reducible refine BoolOp_one ?_
  | with_reducible refine BoolOp_and ?_
  | with_reducible refine BoolOp_or ?_
  | with_reducible refine UnaryOp_ ?_
  | ((with_reducible show wpAny _ _ (eval (Expr.Call (Expr.Attribute _ _ _) _ [] _) _) _ _ _); refine MethodCall_ ?_)
  | ((with_reducible show wpAny _ _ (eval (Expr.Call _ _ [] _) _) _ _ _); refine Call_ ?_)
  | with_reducible refine Subscript_ ?_
  | with_reducible refine wpAny_Slice ?_
  | with_reducible refine evalPart_none_step ?_
  | with_reducible refine evalPart_some_step ?_
  | with_reducible refine spliced_none ?_
  | ((with_reducible show wpAny _ _ (spliced (backTo _ (starEach (_ :: _) _))) _ _ _); refine spliced_more ?_)
  | with_reducible refine wpAny_truthy_bool ?_
  | with_reducible refine eq_str ?_
  | with_reducible refine eq_int ?_
  | with_reducible refine add_int ?_
  | with_reducible refine sub_int ?_
  | with_reducible refine ite_t ?_
  | with_reducible refine ite_f ?_
  | ((with_reducible show wpAny _ _ (compareOp CmpOp.Is Value.none Value.none) _ _ _); refine wpAny_is_plain (by decide) ?_)
  | ((with_reducible show wpAny _ _ (compareOp CmpOp.Is _ Value.none) _ _ _); refine is_none_ne (by intro e; cases e) ?_)
  | ((with_reducible show wpAny _ _ (call (Value.builtin "isinstance") [_, Value.type _]) _ _ _); first | refine isiR (b := true) (by assumption) (by first | assumption | constructor) (by rfl) fun tk => ?_ | refine isiR (b := false) (by assumption) (by first | assumption | constructor) (by rfl) fun tk => ?_)
  | walk_at "cw")
section
section
variable {prog : Program} {w : World} {mg mb : Str → Option Value} {g : Heap}
theorem fn_array_in (ad : Addr) : Fn prog w mg mb 754 [.ref ad] 1 g (fun g' v => ∃ fa, v = .ref fa ∧ (∃ oc od fd sl, g'.get? fa = some ⟨oc, od, .func fd, sl⟩) ∧
    ∀ g'', (∀ b o, g'.get? b = some o → g''.get? b = some o) → ∀ x t r PostF, Fn prog w mg mb 747 [.str x t, .ref ad] r g'' PostF → Fn prog w mg mb fa [.str x t] (r + 1) g'' PostF) := by
  refine enter [(Str.ofString "adapter", .ref ad)] rfl (by kernel_rfl) rfl rfl rfl rfl rfl ?_
  intro A s L s' hh hd hu I hLo hco H
  repeat walk_at "s"
  refine nestDef_K rfl rfl rfl ?_
  refine makeF (clos := [(Str.ofString "adapter", L + 1)]) H (by with_unfolding_all rfl) rfl rfl fun fa g' h' tk doc pm cdv ct H1 hg hfa hrec => ?_
  refine stL H1 hLo rfl (fun h2 tk2 H2 => ?_) rfl (by rfl)
  repeat walk_at "s"
  refine ⟨_, H2.retNew I.low, fa, rfl, ?_⟩
  have ext := newG_ext (n := s.heap.objs.size) H2.inv.sub
  have hcell : (newG g' h2 s.heap.objs.size).IsCell (L + 1) (some (.ref ad)) := by
    obtain ⟨oc, e, r⟩ := (H2.cell (Str.ofString "adapter") (L + 1) (by rfl)).1
    exact ⟨oc, newG_new (hco (Str.ofString "adapter") (L + 1) (by rfl)) e, r⟩
  refine ⟨⟨_, _, _, _, ext _ _ hfa⟩, fun g'' hg'' x t r PostF C => ?_⟩
  refine enterC [(Str.ofString "data", .str x t)] (hg'' _ _ (ext _ _ hfa)) (hrec.keeps fun b o e => hg'' b o (ext b o e)) rfl (by decide) (by intro y hy; rw [List.mem_singleton.mp hy]; rfl) rfl rfl rfl ?_
  intro A s L s' hh hd hu I hLo H
  have hcell'' : g''.IsCell (_ + 1) (some (.ref ad)) := let ⟨oc, e, r⟩ := hcell; ⟨oc, hg'' _ _ e, r⟩
  repeat walk_at "s"
  refine nmF H (by rfl) hcell'' ?_ rfl (by rfl) (by decide) (by decide)
  repeat walk_at "s"
  refine ⟨fnAt_of H (by rfl), ?_⟩
  refine call_fn H C hh (by omega) (by omega) fun v g3 s3 H3 hg3 p => ?_
  exact ⟨g3, H3.ret', p⟩
end

end
section
def psA : PS → Addr
  | .out => 716
  | .str => 710
  | .val => 714
  | .esc => 712
inductive Lvs (g : Heap) : List Value → List (Addr × Obj) → List (List V) → Prop
  | nil {e : List Value} : Lvs g e [] []
  | cons {e : List Value} {a : Addr} {n : Nat} {vs : List Value} {l : List V} {own : List (Addr × Obj)} {lv : List (List V)} (r : RepL g vs l) (t : Lvs g [.ref a] own lv) : Lvs g e ((a, listOf (vs ++ e).toArray n) :: own) (l :: lv)
theorem Lvs.keeps {g g' : Heap} (hk : ∀ b o, g.get? b = some o → g'.get? b = some o) : ∀ {e : List Value} {own : List (Addr × Obj)} {lv : List (List V)}, Lvs g e own lv → Lvs g' e own lv
  | _, _, _, .nil => .nil
  | _, _, _, .cons r t => .cons (r.keeps hk) (t.keeps hk)

noncomputable def stk : List (Addr × Obj) → List Value
  | [] => []
  | p :: r => stk r ++ [.ref p.1]
theorem stk_len : ∀ l : List (Addr × Obj), (stk l).length = l.length
  | [] => rfl
  | p :: r => by rw [stk, List.length_append, stk_len r]; rfl
theorem Lvs.len {g : Heap} : ∀ {e : List Value} {own : List (Addr × Obj)} {lv : List (List V)}, Lvs g e own lv → own.length = lv.length
  | _, _, _, .nil => rfl
  | _, _, _, .cons r t => by rw [List.length_cons, List.length_cons, t.len]
theorem sign_beq (n c : Nat) : ((⟨#[n]⟩ : Str) == ⟨#[c]⟩) = decide (c = n) := by
  by_cases h : c = n
  · subst h; rw [decide_eq_true rfl]; exact beq_self_eq_true _
  · rw [decide_eq_false h]
    exact beq_eq_false_iff_ne.mpr fun e => h (by cases e; rfl)
theorem join_buf (b : List Nat) : Txt.join (Str.ofString "") (b.map fun c => (⟨#[c]⟩ : Str)) = txt b := by
  have := join_nil_signs (txt b)
  unfold signs txt at this
  rw [eq_of_beq (join_plain_closes (Str.ofString "") (b.map fun c => (⟨#[c]⟩ : Str)))]
  exact this
theorem joinOk_buf {b : List Nat} (h : b.length ≤ 16777216) : JoinOk (Str.ofString "") (b.map fun c => (⟨#[c]⟩ : Str)) = true := by
  refine joinOk_of ?_
  have e : ∀ b : List Nat, ((b.map fun c => (⟨#[c]⟩ : Str)).map (·.length)).sum = b.length := by
    intro b
    induction b with
    | nil => rfl
    | cons c r ih => simp only [List.map_cons, List.sum_cons, ih, List.length_cons]; show 1 + r.length = _; omega
  rw [e, show (Str.ofString "").length = 0 by rfl]; omega
structure PJ (ad : Addr) (B : Nat) (k : Cfg) (g : Heap) (m : Str → Option Value) (own : List (Addr × Obj)) : Prop where
  ex : ∃ S nS Vb nV bt lo, own = (S, listOf (stk lo).toArray nS) :: (Vb, listOf (strValues bt).toArray nV) :: lo ∧ m (Str.ofString "stack") = some (.ref S) ∧ m (Str.ofString "val") = some (.ref Vb) ∧
    Lvs g [] lo k.lv ∧ bt.map (·.1) = k.buf.map (fun c => (⟨#[c]⟩ : Str))
  st : m (Str.ofString "state") = some (.ref (psA k.st))
  adp : m (Str.ofString "adapter") = some (.ref ad)
  b1 : k.lv.length ≤ B
  b2 : ∀ l ∈ k.lv, l.length ≤ B
  b3 : k.buf.length ≤ B

section
variable {prog : Program} {w : World} {mg mb : Str → Option Value} {o : Shared} {g₀ g : Heap} {L : Addr} {m cm : Str → Option Value} {cl : List (Str × Addr)} {own : List (Addr × Obj)} {A : Around} {E : Value → Shared → Prop} {s : Shared}
theorem attrPS {x : Addr} {name : Str} {expr : Bool} {Q : Value → Shared → Prop} (H : St w mg mb o g₀ g L m cl cm own s.heap s.gens s.os) (e : findCls (KF w) (.ref 685) (.ref 496) name = some (.val (.ref x)))
    (h : ∀ s', St w mg mb o g₀ g L m cl cm own s'.heap s'.gens s'.os → Q (.ref x) s') : wpAny (model prog w) A (getAttr (.ref 685) name expr) Q E s :=
  cls_value (H.inv.base.k.keeps H.inv.sub) (by rfl) e rfl (h { s with toks := _ } H)
theorem psTy (k : PS) : typeIn (KF w) (.ref (psA k)) = some (.ref 685) := by cases k <;> rfl
theorem psOb (k : PS) : ∃ ob, (KF w).lookup (psA k) = some ob ∧ ob.cls = .ref 685 := by cases k <;> exact ⟨_, by rfl, by rfl⟩
theorem psNe {a b : PS} (h : a ≠ b) : psA a ≠ psA b := by cases a <;> cases b <;> first | exact absurd rfl h | decide
theorem psEq {a b : PS} {Q : Value → Shared → Prop} (hu : A.units < cLine) (H : St w mg mb o g₀ g L m cl cm own s.heap s.gens s.os) (h : Q (.bool (decide (a = b))) s) : wpAny (model prog w) A (compareOp .Eq (.ref (psA a)) (.ref (psA b))) Q E s := by
  have X := H.inv.base.k.keeps H.inv.sub
  by_cases e : a = b
  · subst e
    rw [decide_eq_true rfl] at h
    exact ps_eq_same hu X (psTy a) h
  · rw [decide_eq_false e] at h
    obtain ⟨oa, ea, ca⟩ := psOb (w := w) a
    obtain ⟨ob, eb, cb⟩ := psOb (w := w) b
    exact ps_eq_other hu X (psTy a) (psTy b) (X _ _ ea) (X _ _ eb) (by rw [ca]; intro q; cases q) (by rw [cb]; intro q; cases q) (psNe e) h
end
theorem thenR {prog : Program} {w : World} {A : Around} {E : Value → Shared → Prop} {s : Shared} {st : Stmt} {rest : List Stmt} {env : Env} {Q : Flow → Shared → Prop} (Mid : Shared → Prop) (h1 : wpAny (model prog w) A (exec st env) (fun f s1 => f = .next ∧ Mid s1) (fun _ _ => False) s) (h2 : ∀ s1, Mid s1 → wpAny (model prog w) A (execs rest env) Q E s1) :
    wpAny (model prog w) A (execs (st :: rest) env) Q E s :=
  wpAny_execs_cons (wpAny_mono h1 (fun f s1 h => by obtain ⟨rfl, h⟩ := h; exact h2 s1 h) fun _ _ x => x.elim)
def PMid (w : World) (mg mb : Str → Option Value) (o : Shared) (g₀ : Heap) (L : Addr) (cm : Str → Option Value) (ad : Addr) (B : Nat) (k : Cfg) (c : Value) (p : Addr × Obj) (g' : Heap) (s1 : Shared) : Prop :=
  ∃ g₁ m₁ own₁, (∀ b o, g'.get? b = some o → g₁.get? b = some o) ∧ PJ ad B k g₁ m₁ own₁ ∧ m₁ (Str.ofString "c") = some c ∧ St w mg mb o g₀ g₁ L m₁ [] cm (p :: own₁) s1.heap s1.gens s1.os
theorem ifFin {prog : Program} {w : World} {A : Around} {E : Value → Shared → Prop} {s : Shared} {b : Bool} {x y : Sem Value} {Q : Value → Shared → Prop} (Mid : Value → Shared → Prop) (h1 : b = true → wpAny (model prog w) A x Mid (fun _ _ => False) s) (h2 : b = false → wpAny (model prog w) A y Mid (fun _ _ => False) s) (h : ∀ v s', Mid v s' → Q v s') :
    if b = true then wpAny (model prog w) A x Q E s else wpAny (model prog w) A y Q E s := by
  cases b
  · exact wpAny_mono (h2 rfl) h fun _ _ x => x.elim
  · exact wpAny_mono (h1 rfl) h fun _ _ x => x.elim
theorem sb123 (c : Nat) : ((⟨#[c]⟩ : Str) == Str.ofString "{") = decide (c = 123) := (sign_beq c 123).trans (decide_eq_decide.mpr eq_comm)
theorem sb125 (c : Nat) : ((⟨#[c]⟩ : Str) == Str.ofString "}") = decide (c = 125) := (sign_beq c 125).trans (decide_eq_decide.mpr eq_comm)
theorem sb44 (c : Nat) : ((⟨#[c]⟩ : Str) == Str.ofString ",") = decide (c = 44) := (sign_beq c 44).trans (decide_eq_decide.mpr eq_comm)
theorem sb34 (c : Nat) : ((⟨#[c]⟩ : Str) == Str.ofString "\"") = decide (c = 34) := (sign_beq c 34).trans (decide_eq_decide.mpr eq_comm)
theorem sb92 (c : Nat) : ((⟨#[c]⟩ : Str) == Str.ofString "\\") = decide (c = 92) := (sign_beq c 92).trans (decide_eq_decide.mpr eq_comm)
theorem psT {prog : Program} {w : World} {mg mb : Str → Option Value} {o : Shared} {g₀ g : Heap} {L : Addr} {m cm : Str → Option Value} {cl : List (Str × Addr)} {own : List (Addr × Obj)} {A : Around} {E : Value → Shared → Prop} {s : Shared} (a : PS) {Q : Value → Shared → Prop} (hu : A.units < cLine) (H : St w mg mb o g₀ g L m cl cm own s.heap s.gens s.os) (h : Q (.bool true) s) : wpAny (model prog w) A (compareOp .Eq (.ref (psA a)) (.ref (psA a))) Q E s := psEq hu H (by rw [decide_eq_true rfl]; exact h)
theorem psF {prog : Program} {w : World} {mg mb : Str → Option Value} {o : Shared} {g₀ g : Heap} {L : Addr} {m cm : Str → Option Value} {cl : List (Str × Addr)} {own : List (Addr × Obj)} {A : Around} {E : Value → Shared → Prop} {s : Shared} (a b : PS) (hn : a ≠ b) {Q : Value → Shared → Prop} (hu : A.units < cLine) (H : St w mg mb o g₀ g L m cl cm own s.heap s.gens s.os) (h : Q (.bool false) s) : wpAny (model prog w) A (compareOp .Eq (.ref (psA a)) (.ref (psA b))) Q E s := psEq hu H (by rw [decide_eq_false hn]; exact h)
local macro_rules | `(tactic| walk_at "ps") => `(tactic| (refine Attribute_Name_ ?_; walk_at "nm"; refine attrPS (by assumption) (by rfl) ?_))

section
variable {prog : Program} {w : World} {mg mb : Str → Option Value} {g : Heap}
theorem fn_parse_array {ad : Addr} {adf : Str → Option V} {x : Str} {t : Tok} {ks : Nat → Cfg} {d : V} {buf : List Nat} {oc : Value} {od : Option Addr} {fd : FuncData} {sl : Array (Option Value)}
    (hF : (KF w).lookup ad = some ⟨oc, od, .func fd, sl⟩) (hA : ∀ g'', (∀ b o, g.get? b = some o → g''.get? b = some o) → ∀ y t d, adf y = some d → Fn prog w mg mb ad [.str y t] 1 g'' (fun g' v => Rep g' v d))
    (h0 : ks 0 = ⟨.out, [[]], []⟩) (hs : ∀ i c, x.cps[i]? = some c → step adf c (ks i) = some (ks (i + 1))) (hend : ks x.cps.size = ⟨.out, [[d]], buf⟩) (hz : x.cps.size ≤ 8000000) :
    Fn prog w mg mb 747 [.str x t, .ref ad] 2 g (fun g' v => Rep g' v d) := by
  refine enter [(Str.ofString "data", .str x t), (Str.ofString "adapter", .ref ad)] rfl (by kernel_rfl) rfl rfl rfl rfl rfl ?_
  intro A s L s' hh hd hu I hLo hco H
  repeat walk_at "s"
  walk_at "ps"; intro s1 H1
  refine stR H1 hLo rfl ?_ rfl (by rfl); intro s2 H2
  repeat walk_at "s"
  refine newL H2 ?_ (by decide); intro a0 s3 H3
  repeat walk_at "s"
  refine newL H3 ?_ (by rw [sizeLine_eq]; simp); intro S s4 H4
  refine stR H4 hLo rfl ?_ rfl (by rfl); intro s5 H5
  repeat walk_at "s"
  refine newL H5 ?_ (by decide); intro Vb s6 H6
  refine stR H6 hLo rfl ?_ rfl (by rfl); intro s7 H7
  repeat walk_at "s"
  refine forR H7 hLo (by intro _; with_unfolding_all rfl) ?_
  repeat walk_at "s"
  refine iter_str hh (H7.perm (List.Perm.swap ..)) fun I oI Sx s7 W hS H7 => ⟨I, _, _, Sx, g, oI, _, _, _, fun i g m _ own => PJ ad (2 * i + 1) (ks i) g m own, rfl, W, hS, H7, ?_, ?_, ?_⟩
  · show PJ ad (2 * 0 + 1) (ks 0) _ _ _
    rw [h0]
    refine ⟨⟨_, _, _, _, [], _, rfl, rfl, rfl, .cons (vs := []) .nil .nil, rfl⟩, rfl, rfl, by simp, by simp, by simp⟩
  · intro i v g' m' cm' own' oI' s1 hi hP hg' hJ H1
    obtain ⟨c, u, hc, rfl⟩ := hP
    have hst := hs i c hc
    unfold step at hst
    obtain ⟨k1, hk1, hk2⟩ := Option.bind_eq_some_iff.mp hst
    replace hJ : PJ ad (2 * i + 1) (ks i) g' m' own' := hJ
    generalize ks i = k0 at hJ hk1
    obtain ⟨st0, lv0, buf0⟩ := k0
    obtain ⟨⟨S, nS, Vb, nV, bt, lo, rfl, hmS, hmV, hLv, hbt⟩, hmst, hmad, b1, b2, b3⟩ := hJ
    replace b1 : lv0.length ≤ 2 * i + 1 := b1
    replace b2 : ∀ l ∈ lv0, l.length ≤ 2 * i + 1 := b2
    replace b3 : buf0.length ≤ 2 * i + 1 := b3
    replace hbt : bt.map (·.1) = buf0.map (fun c => (⟨#[c]⟩ : Str)) := hbt
    replace hmst : m' (Str.ofString "state") = some (.ref (psA st0)) := hmst
    have hhA : ∀ g'', (∀ b o, g'.get? b = some o → g''.get? b = some o) → ∀ y t d, adf y = some d → Fn prog w mg mb ad [.str y t] 1 g'' (fun g' v => Rep g' v d) := fun g'' he => hA g'' fun b o e => he b o (hg' b o e)
    have hx : i < x.cps.size := hi
    refine PyProof.Rows.assign_Name (stR H1 hLo rfl ?_ rfl (by rfl)); intro s2 H2
    refine thenR (PMid w mg mb s g L cm' ad (2 * i + 2) k1 (.str ⟨#[c]⟩ u) (I, oI') g') ?if1 fun s1 h => ?if2
    case if1 =>
      repeat walk_at "s"
      walk_at "ps"; intro s3 H3
      refine psEq (a := st0) (b := .val) (by have : cLine = 9900 := rfl; omega) H3 ?_
      repeat walk_at "s"
      by_cases hv : st0 = .val
      · rw [decide_eq_true hv]
        subst hv
        repeat walk_at "s"
        refine newT H3 ?_ (by rw [sizeLine_eq]; simp); intro tp s4 H4
        refine in_tuple_strs (own_tup H4 (.head _)) (.cons _ _ (.cons _ _ .nil)) ?_
        replace H4 := H4.tail
        rw [show [Str.ofString "}", Str.ofString ","].any (· == (⟨#[c]⟩ : Str)) = decide (c = 125 ∨ c = 44) by
          simp only [List.any_cons, List.any_nil, Bool.or_false, show Str.ofString "}" = ⟨#[125]⟩ by rfl, show Str.ofString "," = ⟨#[44]⟩ by rfl, sign_beq]
          by_cases h1 : c = 125 <;> by_cases h2 : c = 44 <;> simp [h1, h2]]
        repeat walk_at "s"
        by_cases hc2 : c = 125 ∨ c = 44
        · rw [decide_eq_true hc2]
          simp only [step1, if_pos, if_pos hc2] at hk1
          obtain ⟨d1, hd1, hp1⟩ := Option.bind_eq_some_iff.mp hk1
          cases hLv with
          | nil => simp [pushV] at hp1
          | @cons _ a n vs l lo lv hr ht =>
          obtain rfl : (⟨.out, (l ++ [d1]) :: lv, buf0⟩ : Cfg) = k1 := by simpa [pushV] using hp1
          repeat walk_at "s"
          refine SC.join (own_list H4 (.tail _ (.tail _ (.head _)))) hbt (joinOk_buf (by omega)) fun t' tk => ?_
          rw [join_buf]
          refine stR H4 hLo rfl ?_ rfl (by rfl); intro s5 H5
          repeat walk_at "s"
          refine lastI (own_list H5 (.tail _ (.head _))) ?_
          refine appM (H5.mem' (.tail _ (.tail _ (.tail _ (.head _))))) ?_
          repeat walk_at "s"
          refine ifFin (fun v s6 => ∃ g2, (∀ b o, g'.get? b = some o → g2.get? b = some o) ∧ Rep g2 v d1 ∧ St w mg mb s g g2 L (fun y => if y = Str.ofString "value" then some (.str (txt buf0) t') else if y = Str.ofString "c" then some (.str ⟨#[c]⟩ u) else m' y) [] cm' ((I, oI') :: (S, listOf (stk ((a, listOf (vs ++ []).toArray n) :: lo)).toArray nS) :: (Vb, listOf (strValues bt).toArray nV) :: (a, listOf (vs ++ []).toArray n) :: lo) s6.heap s6.gens s6.os) (fun hN => ?_) (fun hN => ?_) ?_
          · repeat walk_at "s"
            have : V.none = d1 := by simpa [wordV, eq_of_beq hN] using hd1
            subst this
            exact ⟨g', fun _ _ e => e, .none, H5⟩
          · have had : adf (txt buf0) = some d1 := by
              have : txt buf0 ≠ Str.ofString "NULL" := beq_eq_false_iff_ne.mp hN
              simpa [wordV, this] using hd1
            repeat walk_at "s"
            refine callWith_F (fnAt_of H5 hF) ?_
            repeat walk_at "s"
            refine ⟨fnAt_of H5 hF, ?_⟩
            exact call_fn H5 (hhA _ (fun _ _ e => e) _ _ _ had) hh (by omega) (by omega) fun v g2 s6 H6 hg2 hr => ⟨g2, hg2, hr, H6⟩
          · rintro v s6 ⟨g2, hg2, hrv, H6⟩
            repeat walk_at "s"
            have hz1 : (vs ++ []).length ≤ sizeLine := by
              have := b2 l (.head _)
              rw [List.append_nil, hr.length, sizeLine_eq]; omega
            refine appS (l₁ := [_, _, _]) H6 (by rw [List.size_toArray]; exact hz1) ?_; intro s7 n7 H7
            have e7 : (vs ++ []).toArray.push v = ((vs ++ [v]) ++ []).toArray := by simp
            rw [e7] at H7
            repeat walk_at "s"
            walk_at "ps"; intro s8 H8
            refine stR H8 hLo rfl ?_ rfl (by rfl); intro s9 H9
            repeat walk_at "s"
            refine ⟨rfl, g2, fun y => if y = Str.ofString "state" then some (.ref 716) else if y = Str.ofString "value" then some (.str (txt buf0) t') else if y = Str.ofString "c" then some (.str ⟨#[c]⟩ u) else m' y, _, hg2,
              ⟨⟨S, nS, Vb, nV, bt, _, rfl, hmS, hmV, .cons (vs := vs ++ [v]) (n := n7) (RepL.snoc hrv (hr.keeps hg2)) (ht.keeps hg2), hbt⟩, rfl, hmad, Nat.le_succ_of_le b1, ?_, Nat.le_succ_of_le b3⟩, rfl, H9⟩
            intro l' hl'
            rcases List.mem_cons.mp hl' with rfl | hl'
            · have := b2 l (.head _)
              rw [List.length_append, List.length_singleton]; omega
            · exact Nat.le_succ_of_le (b2 l' (.tail _ hl'))
        · rw [decide_eq_false hc2]
          simp only [step1, if_pos, if_neg hc2] at hk1
          obtain rfl : (⟨.val, lv0, buf0 ++ [c]⟩ : Cfg) = k1 := by simpa using hk1
          repeat walk_at "s"
          refine appM (H4.mem' (.tail _ (.tail _ (.head _)))) ?_
          repeat walk_at "s"
          refine appS (l₁ := [_, _]) H4 (by rw [List.size_toArray, sizeLine_eq]; have := congrArg List.length hbt; simp [strValues] at this ⊢; omega) ?_; intro s5 n5 H5
          have e5 : (strValues bt).toArray.push (.str ⟨#[c]⟩ u) = (strValues (bt ++ [(⟨#[c]⟩, u)])).toArray := by simp [strValues]
          rw [e5] at H5
          repeat walk_at "s"
          refine ⟨rfl, g', fun y => if y = Str.ofString "c" then some (.str ⟨#[c]⟩ u) else m' y, _, fun _ _ e => e,
            ⟨⟨S, nS, Vb, n5, bt ++ [((⟨#[c]⟩ : Str), u)], _, rfl, hmS, hmV, hLv, by simp [hbt]⟩, hmst, hmad, Nat.le_succ_of_le b1, fun l hl => Nat.le_succ_of_le (b2 l hl), ?_⟩, rfl, H5⟩
          show (buf0 ++ [c]).length ≤ _
          rw [List.length_append, List.length_singleton]; omega
      · rw [decide_eq_false hv]
        repeat walk_at "s"
        have e1 : (⟨st0, lv0, buf0⟩ : Cfg) = k1 := by simpa [step1, hv] using hk1
        subst e1
        exact ⟨rfl, g', fun y => if y = Str.ofString "c" then some (.str ⟨#[c]⟩ u) else m' y, _, fun _ _ e => e, ⟨⟨_, _, _, _, bt, lo, rfl, hmS, hmV, hLv, hbt⟩, hmst, hmad, Nat.le_succ_of_le b1, fun l hl => Nat.le_succ_of_le (b2 l hl), Nat.le_succ_of_le b3⟩, rfl, H3⟩
    case if2 =>
      have hcl : A.units < cLine := by have : cLine = 9900 := rfl; omega
      obtain ⟨g1, m1, own1, hg1, ⟨⟨S, nS, Vb, nV, bt, lo, rfl, hmS, hmV, hLv, hbt⟩, hmst, hmad, b1, b2, b3⟩, hmc, H3⟩ := h
      refine wpAny_mono (Q := fun f s3 => f = .next ∧ PMid w mg mb s g L cm' ad (2 * (i + 1) + 1) (ks (i + 1)) (.str ⟨#[c]⟩ u) (I, oI') g' s3) (E := fun _ _ => False) ?_ (fun f s3 hf => by
        obtain ⟨rfl, g3, m3, own3, hg3, hJ3, _, H3⟩ := hf
        exact ⟨rfl, g3, m3, cm', own3, hg3, hJ3, H3⟩) fun _ _ x => x
      generalize ks (i + 1) = k2 at hk2
      obtain ⟨st1, lv1, buf1⟩ := k1
      clear hk1
      replace b1 : lv1.length ≤ 2 * i + 2 := b1
      replace b2 : ∀ l ∈ lv1, l.length ≤ 2 * i + 2 := b2
      replace b3 : buf1.length ≤ 2 * i + 2 := b3
      replace hLv : Lvs g1 [] lo lv1 := hLv
      replace hbt : bt.map (·.1) = buf1.map (fun c => (⟨#[c]⟩ : Str)) := hbt
      replace hmst : m1 (Str.ofString "state") = some (.ref (psA st1)) := hmst
      have hbl : bt.length = buf1.length := by have := congrArg List.length hbt; simpa using this
      repeat walk_at "s"
      walk_at "ps"; intro s4 H4
      cases st1 with
      | val =>
        refine psF .val .out (by decide) hcl H4 ?_
        repeat walk_at "s"
        walk_at "ps"; intro s5 H5
        refine psF .val .str (by decide) hcl H5 ?_
        repeat walk_at "s"
        walk_at "ps"; intro s6 H6
        refine psF .val .esc (by decide) hcl H6 ?_
        repeat walk_at "s"
        obtain rfl : (⟨.val, lv1, buf1⟩ : Cfg) = k2 := by simpa [step2] using hk2
        exact ⟨rfl, g1, m1, _, hg1, ⟨⟨S, nS, Vb, nV, bt, lo, rfl, hmS, hmV, hLv, hbt⟩, hmst, hmad, Nat.le_succ_of_le b1, fun l hl => Nat.le_succ_of_le (b2 l hl), Nat.le_succ_of_le b3⟩, hmc, H6⟩
      | esc =>
        refine psF .esc .out (by decide) hcl H4 ?_
        repeat walk_at "s"
        walk_at "ps"; intro s5 H5
        refine psF .esc .str (by decide) hcl H5 ?_
        repeat walk_at "s"
        walk_at "ps"; intro s6 H6
        refine psT .esc hcl H6 ?_
        repeat walk_at "s"
        obtain rfl : (⟨.str, lv1, buf1 ++ [c]⟩ : Cfg) = k2 := by simpa [step2] using hk2
        refine appM (H6.mem' (.tail _ (.tail _ (.head _)))) ?_
        repeat walk_at "s"
        refine appS (l₁ := [_, _]) H6 (by rw [List.size_toArray, sizeLine_eq]; simp [strValues]; omega) ?_; intro s7 n7 H7
        have e7 : (strValues bt).toArray.push (.str ⟨#[c]⟩ u) = (strValues (bt ++ [((⟨#[c]⟩ : Str), u)])).toArray := by simp [strValues]
        rw [e7] at H7
        repeat walk_at "s"
        walk_at "ps"; intro s8 H8
        refine stR H8 hLo rfl ?_ rfl (by rfl); intro s9 H9
        repeat walk_at "s"
        refine ⟨rfl, g1, fun y => if y = Str.ofString "state" then some (.ref 710) else m1 y, _, hg1, ⟨⟨S, nS, Vb, n7, bt ++ [((⟨#[c]⟩ : Str), u)], lo, rfl, hmS, hmV, hLv, by simp [hbt]⟩, rfl, hmad, Nat.le_succ_of_le b1, fun l hl => Nat.le_succ_of_le (b2 l hl), ?_⟩, hmc, H9⟩
        show (buf1 ++ [c]).length ≤ _
        rw [List.length_append, List.length_singleton]; omega
      | str =>
        refine psF .str .out (by decide) hcl H4 ?_
        repeat walk_at "s"
        walk_at "ps"; intro s5 H5
        refine psT .str hcl H5 ?_
        repeat walk_at "s"
        rw [sb34]
        by_cases h34 : c = 34
        · rw [decide_eq_true h34]
          simp only [step2, if_pos h34] at hk2
          obtain ⟨d1, hd1, hp1⟩ := Option.bind_eq_some_iff.mp hk2
          cases hLv with
          | nil => simp [pushV] at hp1
          | @cons _ a n vs l lo lv hr ht =>
          obtain rfl : (⟨.out, (l ++ [d1]) :: lv, buf1⟩ : Cfg) = k2 := by simpa [pushV] using hp1
          repeat walk_at "s"
          refine lastI (own_list H5 (.tail _ (.head _))) ?_
          refine appM (H5.mem' (.tail _ (.tail _ (.tail _ (.head _))))) ?_
          repeat walk_at "s"
          refine callWith_F (fnAt_of H5 hF) ?_
          repeat walk_at "s"
          refine SC.join (own_list H5 (.tail _ (.tail _ (.head _)))) hbt (joinOk_buf (by omega)) fun t' tk => ?_
          rw [join_buf]
          repeat walk_at "s"
          refine ⟨fnAt_of H5 hF, ?_⟩
          refine call_fn H5 (hhA _ hg1 _ _ _ hd1) hh (by omega) (by omega) fun v g2 s6 H6 hg2 hrv => ?_
          repeat walk_at "s"
          have hz1 : (vs ++ []).length ≤ sizeLine := by
            have := b2 l (.head _)
            rw [List.append_nil, hr.length, sizeLine_eq]; omega
          refine appS (l₁ := [_, _, _]) H6 (by rw [List.size_toArray]; exact hz1) ?_; intro s7 n7 H7
          have e7 : (vs ++ []).toArray.push v = ((vs ++ [v]) ++ []).toArray := by simp
          rw [e7] at H7
          repeat walk_at "s"
          walk_at "ps"; intro s8 H8
          refine stR H8 hLo rfl ?_ rfl (by rfl); intro s9 H9
          repeat walk_at "s"
          refine ⟨rfl, g2, fun y => if y = Str.ofString "state" then some (.ref 716) else m1 y, _, fun b o e => hg2 b o (hg1 b o e),
            ⟨⟨S, nS, Vb, nV, bt, _, rfl, hmS, hmV, .cons (vs := vs ++ [v]) (n := n7) (RepL.snoc hrv (hr.keeps hg2)) (ht.keeps hg2), hbt⟩, rfl, hmad, Nat.le_succ_of_le b1, ?_, Nat.le_succ_of_le b3⟩, hmc, H9⟩
          intro l' hl'
          rcases List.mem_cons.mp hl' with rfl | hl'
          · have := b2 l (.head _)
            rw [List.length_append, List.length_singleton]; omega
          · exact Nat.le_succ_of_le (b2 l' (.tail _ hl'))
        · rw [decide_eq_false h34]
          simp only [step2, if_neg h34] at hk2
          repeat walk_at "s"
          rw [sb92]
          by_cases h92 : c = 92
          · rw [decide_eq_true h92]
            obtain rfl : (⟨.esc, lv1, buf1⟩ : Cfg) = k2 := by simpa [h92] using hk2
            repeat walk_at "s"
            walk_at "ps"; intro s8 H8
            refine stR H8 hLo rfl ?_ rfl (by rfl); intro s9 H9
            repeat walk_at "s"
            exact ⟨rfl, g1, fun y => if y = Str.ofString "state" then some (.ref 712) else m1 y, _, hg1, ⟨⟨S, nS, Vb, nV, bt, lo, rfl, hmS, hmV, hLv, hbt⟩, rfl, hmad, Nat.le_succ_of_le b1, fun l hl => Nat.le_succ_of_le (b2 l hl), Nat.le_succ_of_le b3⟩, hmc, H9⟩
          · rw [decide_eq_false h92]
            obtain rfl : (⟨.str, lv1, buf1 ++ [c]⟩ : Cfg) = k2 := by simpa [h92] using hk2
            repeat walk_at "s"
            refine appM (H5.mem' (.tail _ (.tail _ (.head _)))) ?_
            repeat walk_at "s"
            refine appS (l₁ := [_, _]) H5 (by rw [List.size_toArray, sizeLine_eq]; simp [strValues]; omega) ?_; intro s7 n7 H7
            have e7 : (strValues bt).toArray.push (.str ⟨#[c]⟩ u) = (strValues (bt ++ [((⟨#[c]⟩ : Str), u)])).toArray := by simp [strValues]
            rw [e7] at H7
            repeat walk_at "s"
            refine ⟨rfl, g1, m1, _, hg1, ⟨⟨S, nS, Vb, n7, bt ++ [((⟨#[c]⟩ : Str), u)], lo, rfl, hmS, hmV, hLv, by simp [hbt]⟩, hmst, hmad, Nat.le_succ_of_le b1, fun l hl => Nat.le_succ_of_le (b2 l hl), ?_⟩, hmc, H7⟩
            show (buf1 ++ [c]).length ≤ _
            rw [List.length_append, List.length_singleton]; omega
      | out =>
        refine psT .out hcl H4 ?_
        repeat walk_at "s"
        rw [sb123]
        by_cases h123 : c = 123
        · rw [decide_eq_true h123]
          simp only [step2, if_pos h123] at hk2
          cases hLv with
          | nil => simp at hk2
          | @cons _ a n vs l lo lv hr ht =>
          obtain rfl : (⟨.out, [] :: l :: lv, buf1⟩ : Cfg) = k2 := by simpa using hk2
          repeat walk_at "s"
          refine newL H4 ?_ (by decide); intro an s5 H5
          refine stR H5 hLo rfl ?_ rfl (by rfl); intro s6 H6
          replace H6 := H6.perm (own' := (I, oI') :: (S, _) :: (Vb, _) :: (an, _) :: (a, _) :: lo) (List.perm_middle (l₁ := [_, _, _]))
          repeat walk_at "s"
          refine lastI (own_list H6 (.tail _ (.head _))) ?_
          refine appM (H6.mem' (.tail _ (.tail _ (.tail _ (.tail _ (.head _)))))) ?_
          repeat walk_at "s"
          have hz1 : (vs ++ []).length ≤ sizeLine := by
            have := b2 l (.head _)
            rw [List.append_nil, hr.length, sizeLine_eq]; omega
          refine appS (l₁ := [_, _, _, _]) H6 (by rw [List.size_toArray]; exact hz1) ?_; intro s7 n7 H7
          have e7 : (vs ++ []).toArray.push (Value.ref an) = (vs ++ [Value.ref an]).toArray := by simp
          rw [e7] at H7
          repeat walk_at "s"
          refine appM (H7.mem' (.tail _ (.head _))) ?_
          repeat walk_at "s"
          refine appS (l₁ := [_]) H7 (by rw [List.size_toArray, stk_len, List.length_cons, sizeLine_eq, ht.len]; simp at b1; omega) ?_; intro s8 n8 H8
          have e8 : (stk ((a, listOf (vs ++ []).toArray n) :: lo)).toArray.push (Value.ref an) = (stk ((an, listOf (([] : List Value) ++ []).toArray 0) :: (a, listOf (vs ++ [Value.ref an]).toArray n7) :: lo)).toArray := by simp [stk]
          rw [e8] at H8
          repeat walk_at "s"
          refine ⟨rfl, g1, fun y => if y = Str.ofString "a" then some (.ref an) else m1 y, _, hg1,
            ⟨⟨S, n8, Vb, nV, bt, _, rfl, hmS, hmV, .cons (vs := []) (n := 0) .nil (.cons (vs := vs) (n := n7) hr ht), hbt⟩, hmst, hmad, ?_, ?_, Nat.le_succ_of_le b3⟩, hmc, H8⟩
          · simp at b1 ⊢; omega
          · intro l' hl'
            rcases List.mem_cons.mp hl' with rfl | hl'
            · exact Nat.zero_le _
            · exact Nat.le_succ_of_le (b2 l' hl')
        · rw [decide_eq_false h123]
          simp only [step2, if_neg h123] at hk2
          repeat walk_at "s"
          rw [sb125]
          by_cases h125 : c = 125
          · rw [decide_eq_true h125]
            simp only [if_pos h125] at hk2
            cases hLv with
            | nil => simp at hk2
            | @cons _ a n vs l lo lv hr ht =>
            cases ht with
            | nil => simp at hk2
            | @cons _ a2 n2 vs2 l2 lo lv hr2 ht2 =>
            obtain rfl : (⟨.out, (l2 ++ [.list l]) :: lv, buf1⟩ : Cfg) = k2 := by simpa using hk2
            repeat walk_at "s"
            refine popM (H4.mem' (.tail _ (.head _))) ?_
            repeat walk_at "s"
            refine popS (l₁ := [_]) H4 (by rw [stk_len, List.length_cons, sizeLine_eq, ht2.len]; simp at b1; omega) ?_; intro s5 n5 H5
            repeat walk_at "s"
            obtain ⟨g2, hg2, hga, H6⟩ := (H5.perm (own' := (a, _) :: (I, oI') :: (S, _) :: (Vb, _) :: (a2, _) :: lo) (List.perm_middle (l₁ := [_, _, _])).symm).frz
            have e6 : (vs2 ++ [Value.ref a]).toArray = ((vs2 ++ [Value.ref a]) ++ []).toArray := by simp
            rw [e6] at H6
            have hla : g2.IsList a vs.toArray := ⟨_, hga, rfl, n, by simp⟩
            refine ⟨rfl, g2, m1, _, fun b o e => hg2 b o (hg1 b o e),
              ⟨⟨S, n5, Vb, nV, bt, _, rfl, hmS, hmV, .cons (vs := vs2 ++ [.ref a]) (n := n2) (RepL.snoc (.list hla (hr.keeps hg2)) (hr2.keeps hg2)) (ht2.keeps hg2), hbt⟩, hmst, hmad, ?_, ?_, Nat.le_succ_of_le b3⟩, hmc, H6⟩
            · simp at b1 ⊢; omega
            · intro l' hl'
              rcases List.mem_cons.mp hl' with rfl | hl'
              · have := b2 l2 (.tail _ (.head _))
                rw [List.length_append, List.length_singleton]; omega
              · exact Nat.le_succ_of_le (b2 l' (.tail _ (.tail _ hl')))
          · rw [decide_eq_false h125]
            simp only [if_neg h125] at hk2
            repeat walk_at "s"
            rw [sb44]
            by_cases h44 : c = 44
            · rw [decide_eq_true h44]
              obtain rfl : (⟨.out, lv1, buf1⟩ : Cfg) = k2 := by simpa [h44] using hk2
              repeat walk_at "s"
              exact ⟨rfl, g1, m1, _, hg1, ⟨⟨S, nS, Vb, nV, bt, lo, rfl, hmS, hmV, hLv, hbt⟩, hmst, hmad, Nat.le_succ_of_le b1, fun l hl => Nat.le_succ_of_le (b2 l hl), Nat.le_succ_of_le b3⟩, hmc, H4⟩
            · rw [decide_eq_false h44]
              simp only [if_neg h44] at hk2
              repeat walk_at "s"
              rw [sb34]
              by_cases h34 : c = 34
              · rw [decide_eq_true h34]
                obtain rfl : (⟨.str, lv1, []⟩ : Cfg) = k2 := by simpa [h34] using hk2
                repeat walk_at "s"
                refine newL H4 ?_ (by decide); intro Vn s5 H5
                refine stR H5 hLo rfl ?_ rfl (by rfl); intro s6 H6
                replace H6 := (H6.drop (own' := (Vn, _) :: (I, oI') :: (S, _) :: lo) (.cons₂ _ (.cons₂ _ (.cons₂ _ (.cons _ (.refl _)))))).perm (own' := (I, oI') :: (S, _) :: (Vn, _) :: lo) (List.perm_middle (l₁ := [_, _]))
                repeat walk_at "s"
                walk_at "ps"; intro s8 H8
                refine stR H8 hLo rfl ?_ rfl (by rfl); intro s9 H9
                repeat walk_at "s"
                exact ⟨rfl, g1, fun y => if y = Str.ofString "state" then some (.ref 710) else if y = Str.ofString "val" then some (.ref Vn) else m1 y, _, hg1, ⟨⟨S, nS, Vn, 0, [], lo, rfl, hmS, rfl, hLv, rfl⟩, rfl, hmad, Nat.le_succ_of_le b1, fun l hl => Nat.le_succ_of_le (b2 l hl), Nat.zero_le _⟩, hmc, H9⟩
              · rw [decide_eq_false h34]
                obtain rfl : (⟨.val, lv1, [c]⟩ : Cfg) = k2 := by simpa [h34] using hk2
                repeat walk_at "s"
                refine newL H4 ?_ (by rw [sizeLine_eq]; simp); intro Vn s5 H5
                refine stR H5 hLo rfl ?_ rfl (by rfl); intro s6 H6
                replace H6 := (H6.drop (own' := (Vn, _) :: (I, oI') :: (S, _) :: lo) (.cons₂ _ (.cons₂ _ (.cons₂ _ (.cons _ (.refl _)))))).perm (own' := (I, oI') :: (S, _) :: (Vn, _) :: lo) (List.perm_middle (l₁ := [_, _]))
                repeat walk_at "s"
                walk_at "ps"; intro s8 H8
                refine stR H8 hLo rfl ?_ rfl (by rfl); intro s9 H9
                repeat walk_at "s"
                exact ⟨rfl, g1, fun y => if y = Str.ofString "state" then some (.ref 714) else if y = Str.ofString "val" then some (.ref Vn) else m1 y, _, hg1, ⟨⟨S, nS, Vn, 0, [((⟨#[c]⟩ : Str), u)], lo, rfl, hmS, rfl, hLv, rfl⟩, rfl, hmad, Nat.le_succ_of_le b1, fun l hl => Nat.le_succ_of_le (b2 l hl), by simp⟩, hmc, H9⟩
  · intro g' m' cm' own' s1 hg' hJ H1
    replace hJ : PJ ad (2 * x.cps.size + 1) (ks x.cps.size) g' m' own' := hJ
    rw [hend] at hJ
    obtain ⟨⟨S, nS, Vb, nV, bt, lo, rfl, hmS, hmV, hLv, hbt⟩, hmst, hmad, b1, b2, b3⟩ := hJ
    replace hLv : Lvs g' [] lo [[d]] := hLv
    cases hLv with
    | @cons _ a n vs l lo lv hr ht =>
    cases ht
    cases hr with
    | @cons v vs _ _ hv hr2 =>
    cases hr2
    repeat walk_at "s"
    refine itemI (own_list H1 (.head _)) (by decide) (by decide) (x := .ref a) rfl ?_
    repeat walk_at "s"
    refine itemI (own_list H1 (.tail _ (.tail _ (.head _)))) (by decide) (by decide) (x := v) rfl ?_
    exact ⟨g', H1.ret', hv⟩
end

end
section
def escL (l : List Nat) : List Nat := l.flatMap fun c => if c = 92 ∨ c = 34 then [92, c] else [c]
def badE (e : List Nat) : Bool := ((((e.length : Int) == 0) || (txt e == Str.ofString "NULL")) || (List.range e.length).any fun i => Txt.isspace ⟨#[e.getD i 0]⟩) || (List.range 4).any fun i => Txt.contains (txt e) ((["{", "}", ",", "\\"].map Str.ofString).getD i ⟨#[]⟩)
def outText (x : List Nat) : Str := if badE (escL x) then Str.empty ++ Str.ofString "\"" ++ txt (escL x) ++ Str.ofString "\"" else txt (escL x)
theorem escL_snoc (l : List Nat) (c : Nat) : escL (l ++ [c]) = escL l ++ (if c = 92 ∨ c = 34 then [92, c] else [c]) := by simp [escL]
theorem escL_len : ∀ l : List Nat, (escL l).length ≤ 2 * l.length
  | [] => Nat.le_refl _
  | c :: r => by
    have := escL_len r
    have h : escL (c :: r) = (if c = 92 ∨ c = 34 then [92, c] else [c]) ++ escL r := by simp [escL]
    rw [h, List.length_append, List.length_cons]
    split <;> simp only [List.length_cons, List.length_nil] <;> omega
def Quick (s s' : Shared) : Prop := ∃ h' tk, s' = { s with heap := h', toks := tk }

structure EJ (x : List Nat) (i : Nat) (m : Str → Option Value) (own : List (Addr × Obj)) : Prop where
  ex : ∃ Cs n bt, own = [(Cs, listOf (strValues bt).toArray n)] ∧ m (Str.ofString "cs") = some (.ref Cs) ∧ bt.map (·.1) = (escL (x.take i)).map (fun c => (⟨#[c]⟩ : Str))

section
variable {prog : Program} {w : World} {mg mb : Str → Option Value} {g : Heap}
theorem gen_name {A : Around} {E : Value → Shared → Prop} {s : Shared} {scope : Scope} {cl : List (Str × Addr)} {C : Addr} {code : Value} {bi : Addr} {env : Env} {x : Str} {pos : Pos} {v : Value} {m : Str → Option Value} {Q : Value → Shared → Prop} (hk : scope.kind = .function) (hl : scope.names.lookup x = some .local) (hn : s.heap.Ns C m) (hv : m x = some v) (h : Q v s) (hd : (x == ("__debug__" : Str)) = false) :
    wpAny (model prog w) A (eval (.Name x pos) (genEnv scope cl C code bi env)) Q E s := wpAny_Name (wpAny_loadName_local (env := genEnv scope cl C code bi env) hk (by simpa [genEnv, Env.kindOf] using hl) hn hv h) hd
theorem fn_escape {x : Str} {t : Tok} (hz : x.cps.size ≤ 1000) : Fn prog w mg mb 789 [.str x t] 2 g (fun _ v => ∃ t, v = .str (outText x.cps.toList) t) := by
  refine enter [(Str.ofString "v", .str x t)] rfl (by kernel_rfl) rfl rfl rfl rfl rfl ?_
  intro A s L s' hh hd hu I hLo hco H
  repeat walk_at "s"
  refine newL H ?_ (by decide); intro Cs s1 H1
  refine stR H1 hLo rfl ?_ rfl (by rfl); intro s2 H2
  repeat walk_at "s"
  refine forR H2 hLo (by intro _; with_unfolding_all rfl) ?_
  repeat walk_at "s"
  refine iter_str hh H2 fun I oI Sx s3 W hS H3 => ⟨I, _, _, Sx, g, oI, _, _, _, fun i _ m c own => EJ x.cps.toList i m own, rfl, W, hS, H3, ⟨_, _, [], rfl, rfl, rfl⟩, ?_, ?_⟩
  · intro i v g' m' cm' own' oI' s1 hi hP hg' hJ H1
    obtain ⟨c, u, hc, rfl⟩ := hP
    obtain ⟨Cs, n, bt, rfl, hmC, hbt⟩ := hJ
    refine PyProof.Rows.assign_Name (stR H1 hLo rfl ?_ rfl (by rfl)); intro s2 H2
    have hx : i < x.cps.size := hi
    have hc' : x.cps.toList[i]? = some c := by rw [Array.getElem?_toList]; exact hc
    have htk : x.cps.toList.take (i + 1) = x.cps.toList.take i ++ [c] := by rw [List.take_succ, hc']; rfl
    have hel : (escL (x.cps.toList.take i)).length ≤ 2 * i := Nat.le_trans (escL_len _) (by rw [List.length_take]; omega)
    have hbl : bt.length = (escL (x.cps.toList.take i)).length := by have := congrArg List.length hbt; simpa using this
    have app : ∀ (bt' : List (Str × Tok)) (n' : Nat) (y : Str) (u' : Tok) (s5 : Shared) (Q : Value → Shared → Prop), bt'.length ≤ 2 * i + 1 → St w mg mb s g g' L (fun z => if z = Str.ofString "c" then some (.str ⟨#[c]⟩ u) else m' z) [(Str.ofString "val", L + 1)] cm' ((I, oI') :: [(Cs, listOf (strValues bt').toArray n')]) s5.heap s5.gens s5.os →
        (∀ s6 n6, St w mg mb s g g' L (fun z => if z = Str.ofString "c" then some (.str ⟨#[c]⟩ u) else m' z) [(Str.ofString "val", L + 1)] cm' ((I, oI') :: [(Cs, listOf (strValues (bt' ++ [(y, u')])).toArray n6)]) s6.heap s6.gens s6.os → Q .none s6) →
        wpAny (model prog w) A (call (.builtin "list.append") [.ref Cs, .str y u']) Q (fun _ _ => False) s5 := by
      intro bt' n' y u' s5 Q hl H5 k
      refine appS (l₁ := [_]) H5 (by rw [List.size_toArray, sizeLine_eq]; simp [strValues]; omega) ?_; intro s6 n6 H6
      have e6 : (strValues bt').toArray.push (.str y u') = (strValues (bt' ++ [(y, u')])).toArray := by simp [strValues]
      rw [e6] at H6
      exact k s6 n6 H6
    refine thenR (fun s4 => ∃ n4 bt4, St w mg mb s g g' L (fun z => if z = Str.ofString "c" then some (.str ⟨#[c]⟩ u) else m' z) [(Str.ofString "val", L + 1)] cm' ((I, oI') :: [(Cs, listOf (strValues bt4).toArray n4)]) s4.heap s4.gens s4.os ∧ bt4.length ≤ 2 * i + 1 ∧
      bt4.map (·.1) = ((escL (x.cps.toList.take i)) ++ (if c = 92 ∨ c = 34 then [92] else [])).map (fun c => (⟨#[c]⟩ : Str))) ?_ ?_
    · repeat walk_at "s"
      rw [sb92]
      by_cases h92 : c = 92
      · rw [decide_eq_true h92]
        repeat walk_at "s"
        refine appM (H2.mem' (.tail _ (.head _))) ?_
        repeat walk_at "s"
        refine app bt n _ _ _ _ (by omega) H2 fun s6 n6 H6 => ?_
        repeat walk_at "s"
        exact ⟨rfl, n6, _, H6, by rw [List.length_append, List.length_singleton]; omega, by rw [if_pos (.inl h92), List.map_append, List.map_append, hbt]; rfl⟩
      · rw [decide_eq_false h92]
        repeat walk_at "s"
        rw [sb34]
        by_cases h34 : c = 34
        · rw [decide_eq_true h34]
          repeat walk_at "s"
          refine appM (H2.mem' (.tail _ (.head _))) ?_
          repeat walk_at "s"
          refine app bt n _ _ _ _ (by omega) H2 fun s6 n6 H6 => ?_
          repeat walk_at "s"
          exact ⟨rfl, n6, _, H6, by rw [List.length_append, List.length_singleton]; omega, by rw [if_pos (.inr h34), List.map_append, List.map_append, hbt]; rfl⟩
        · rw [decide_eq_false h34]
          repeat walk_at "s"
          exact ⟨rfl, n, bt, H2, by omega, by rw [if_neg (by omega), List.append_nil, hbt]⟩
    · rintro s4 ⟨n4, bt4, H4, hl4, hb4⟩
      repeat walk_at "s"
      refine appM (H4.mem' (.tail _ (.head _))) ?_
      repeat walk_at "s"
      refine app bt4 n4 _ _ _ _ hl4 H4 fun s6 n6 H6 => ?_
      repeat walk_at "s"
      refine ⟨rfl, g', fun z => if z = Str.ofString "c" then some (.str ⟨#[c]⟩ u) else m' z, cm', _, fun _ _ e => e, ⟨Cs, n6, _, rfl, hmC, ?_⟩, H6⟩
      rw [htk, escL_snoc, List.map_append, hb4]
      by_cases hc3 : c = 92 ∨ c = 34
      · rw [if_pos hc3, if_pos hc3]; simp
      · rw [if_neg hc3, if_neg hc3]; simp
  · intro g' m' cm' own' s1 hg' hJ H1
    obtain ⟨Cs, n, bt, rfl, hmC, hbt⟩ := hJ
    rw [List.take_of_length_le (by simp)] at hbt
    have hel : (escL x.cps.toList).length ≤ 2000 := by
      have : (escL x.cps.toList).length ≤ 2 * x.cps.size := by simpa using escL_len x.cps.toList
      omega
    unfold outText
    generalize escL x.cps.toList = e at hbt hel
    repeat walk_at "s"
    refine SC.join (own_list H1 (.head _)) hbt (joinOk_buf (by omega)) fun t' tk => ?_
    rw [join_buf]
    refine stRC H1.tail (by rfl) (by rfl) (hco (Str.ofString "val") _ (by rfl)) ?_ rfl (by rfl); intro s2 H2
    replace H2 : St w mg mb s g g' L m' [(Str.ofString "val", L + 1)] (fun y => if y = Str.ofString "val" then some (.str (txt e) t') else cm' y) [] s2.heap s2.gens s2.os := H2
    have hel' : (txt e).length ≤ 2000 := by show e.toArray.size ≤ 2000; simpa using hel
    refine wpAny_execs_cons (wpAny_If (wpAny_mono (Q := fun b s3 => b = badE e ∧ St w mg mb s g g' L m' [(Str.ofString "val", L + 1)] (fun y => if y = Str.ofString "val" then some (.str (txt e) t') else cm' y) [] s3.heap s3.gens s3.os) (E := fun _ _ => False) ?_ (fun b s3 h3 => ?_) fun _ _ x => x))
    · unfold badE
      refine isTrue_or ?_
      repeat walk_at "s"
      refine SBL.len (by omega) ?_
      repeat walk_at "s"
      rw [show (((txt e).length : Int) == 0) = ((e.length : Int) == 0) by rw [show (txt e).length = e.length by show e.toArray.size = _; simp]]
      refine split_bool (fun hb => ?_) (fun hb => ?_)
      · exact ⟨by simp [hb], H2⟩
      rw [hb]
      refine isTrue_or ?_
      repeat walk_at "s"
      refine split_bool (fun hb => ?_) (fun hb => ?_)
      · exact ⟨by simp [hb], H2⟩
      rw [hb]
      simp only [Bool.false_or]
      refine isTrue_or ?_
      repeat walk_at "s"
      have hsz : (txt e).cps.size = e.length := by show e.toArray.size = _; simp
      refine wpAny_mono (anyGen (cl' := []) H2 hh (by have : recursionLimit = 1000 := rfl; omega) rfl rfl rfl (by with_unfolding_all rfl) (by decide) rfl rfl rfl (by intro _; with_unfolding_all rfl) ?_) (fun v s1 h1 => spliced_none h1) fun _ _ x => x
      repeat walk_at "s"
      refine ⟨[], e.length, _, fun i => Txt.isspace ⟨#[e.getD i 0]⟩, H2, hsz ▸ src_str H2.low, ?_, ?_⟩
      · rintro A' E' C code i v s₂ m₂ hA hi ⟨c, u, hc, rfl⟩ hn hm hk
        refine MethodCall_ (gen_name (by rfl) (by rfl) hn hm ?_ (by decide))
        refine GM.isspace (callWith_method0 ?_)
        refine SC.isspace ⟨?_, _, _, rfl, fun _ _ e => e⟩
        have : e.getD i 0 = c := by
          have hc' : e[i]? = some c := by simpa [txt] using hc
          simp [List.getD, hc']
        show Value.bool (Txt.isspace ⟨#[c]⟩) = Value.bool (Txt.isspace ⟨#[e.getD i 0]⟩)
        rw [this]
      intro s3 H3
      repeat walk_at "s"
      refine split_bool (fun hb => ?_) (fun hb => ?_)
      · exact ⟨by simp only [hb, Bool.true_or], H3⟩
      rw [hb]
      simp only [Bool.false_or]
      refine isTrue_or ?_
      repeat walk_at "s"
      refine wpAny_mono (anyGen (cl' := [(Str.ofString "val", L + 1)]) H3 hh (by have : recursionLimit = 1000 := rfl; omega) rfl rfl rfl (by with_unfolding_all rfl) (by decide) rfl rfl rfl (by intro _; with_unfolding_all rfl) ?_) (fun v s1 h1 => spliced_none h1) fun _ _ x => x
      repeat walk_at "s"
      refine newT H3 ?_ (by rw [sizeLine_eq]; simp); intro tp s4 H4
      refine ⟨_, 4, _, fun i => Txt.contains (txt e) ((["{", "}", ",", "\\"].map Str.ofString).getD i ⟨#[]⟩), H4, src_tup (H4.owns _ (.head _)).2.2.2.1 (own_tup H4 (.head _)), ?_, ?_⟩
      · rintro A' E' C code i v s₂ m₂ hA hi hP hn hm hk
        refine wpAny_Compare1 (gen_name (by rfl) (by rfl) hn hm ?_ (by decide))
        have hcell : s₂.heap.IsCell (L + 1) (some (.str (txt e) t')) := by
          obtain ⟨oc, e1, r⟩ := (H4.cell (Str.ofString "val") (L + 1) (by rfl)).1
          exact ⟨oc, hk _ _ (lowD (H4.cell (Str.ofString "val") (L + 1) (by rfl)).2.2.2) e1, r⟩
        refine wpAny_Name (wpAny_loadName_free rfl (by rfl) (by rfl) hcell ?_) (by decide)
        have : ∃ u, v = .str ((["{", "}", ",", "\\"].map Str.ofString).getD i ⟨#[]⟩) u := by
          match i, hi, hP with
          | 0, _, hP => exact ⟨_, (Option.some.inj hP).symm⟩
          | 1, _, hP => exact ⟨_, (Option.some.inj hP).symm⟩
          | 2, _, hP => exact ⟨_, (Option.some.inj hP).symm⟩
          | 3, _, hP => exact ⟨_, (Option.some.inj hP).symm⟩
        obtain ⟨u, rfl⟩ := this
        exact P.in_str ⟨rfl, _, _, rfl, fun _ _ e => e⟩
      intro s5 H5
      repeat walk_at "s"
      refine split_bool (fun hb => ?_) (fun hb => ?_)
      · exact ⟨hb.symm, H5.tail⟩
      rw [hb]
      refine isTrue_or_nil ⟨rfl, H5.tail⟩
    · obtain ⟨rfl, H3⟩ := h3
      cases hb : badE e
      · repeat walk_at "s"
        exact ⟨g', H3.ret', t', rfl⟩
      · repeat walk_at "s"
        refine JoinedStr_many (joinParts_cons ?_)
        repeat walk_at "s"
        refine ⟨by rw [sizes_str, show (Str.ofString "\"").length = 1 by rfl, show Str.empty.length = 0 by rfl]; decide, joinParts_cons (FormattedValue_plain ?_)⟩
        repeat walk_at "s"
        refine formatField_str (fun t2 tk2 => ?_) (by rw [sizeLine_eq]; omega)
        refine ⟨by rw [sizes_str, sizes_str, show (Str.ofString "\"").length = 1 by rfl, show Str.empty.length = 0 by rfl, sizeLine_eq]; omega, joinParts_cons ?_⟩
        repeat walk_at "s"
        refine ⟨by rw [sizes_str, sizes_str, sizes_str, show (Str.ofString "\"").length = 1 by rfl, show Str.empty.length = 0 by rfl, sizeLine_eq]; omega, joinParts_nil ?_ (by rw [sizes_str, sizes_str, sizes_str, show (Str.ofString "\"").length = 1 by rfl, show Str.empty.length = 0 by rfl, sizeLine_eq]; omega)⟩
        refine stRC H3 (by rfl) (by rfl) (hco (Str.ofString "val") _ (by rfl)) ?_ rfl (by rfl); intro s4 H4
        repeat walk_at "s"
        exact ⟨g', H4.ret', _, rfl⟩
end

end
end
section
section

/-! numbers -/
section
variable {prog : Program} {w : World} {mg mb : Str → Option Value} {o : Shared} {g₀ g : Heap} {L : Addr} {m cm : Str → Option Value} {cl : List (Str × Addr)} {own : List (Addr × Obj)} {A : Around} {E : Value → Shared → Prop} {s : Shared} {env : Env} {x : Str} {pos : Pos} {v : Value}
theorem nmFr {c : Addr} {Q : Value → Shared → Prop} (H : St w mg mb o g₀ g L m cl cm own s.heap s.gens s.os) (hc : env.cells.lookup x = some c) (hcl : cl.lookup x = some c) (hv : cm x = some v) (h : Q v s) (hk : env.scope.kind = .function) (hl : env.kindOf x = some .free)
    (hn : (x == ("__classdict__" : Str)) = false) (hd : (x == ("__debug__" : Str)) = false) : wpAny (model prog w) A (eval (.Name x pos) env) Q E s := wpAny_Name (wpAny_loadName_free hk hl hc (hv ▸ (H.cell x c hcl).1) h hn) hd
theorem divT {n : Nat} {b : Int} {t u : Tok} {Q : Value → Shared → Prop} (hb : 0 < b) (hb2 : b < 1000000000) (h : Q (.int ((n / b.toNat : Nat) : Int) s.toks) { s with toks := s.toks + 1 }) : wpAny (model prog w) A (binaryOp .FloorDiv (.int (n : Int) t) (.int b u)) Q E s := by
  refine floordiv_int (by omega) ?_ (.inl (PyProof.noPylong_small (by omega)))
  have e : (n : Int).fdiv b = ((n / b.toNat : Nat) : Int) := by
    rw [Int.fdiv_eq_ediv_of_nonneg _ (by omega)]
    obtain ⟨m, rfl⟩ := Int.eq_ofNat_of_zero_le (Int.le_of_lt hb)
    simp
  rw [e]; exact h
theorem modT {n : Nat} {b : Int} {t u : Tok} {Q : Value → Shared → Prop} (hb : 0 < b) (h : Q (.int ((n % b.toNat : Nat) : Int) s.toks) { s with toks := s.toks + 1 }) : wpAny (model prog w) A (binaryOp .Mod (.int (n : Int) t) (.int b u)) Q E s := by
  refine mod_int' (by omega) ?_
  have e : (n : Int).fmod b = ((n % b.toNat : Nat) : Int) := by
    rw [Int.fmod_eq_emod_of_nonneg _ (by omega)]
    obtain ⟨m, rfl⟩ := Int.eq_ofNat_of_zero_le (Int.le_of_lt hb)
    simp
  rw [e]; exact h
theorem seqIndex_ofNat {i n : Nat} (h : i < n) : seqIndex? (i : Int) n = some i := by
  have := seqIndex_of (k := (i : Int)) (n := n) (by omega) (by omega)
  simpa using this
theorem itemT {value slice : Expr} {a : Addr} {l : List Value} {i : Nat} {t : Tok} {x : Value} {Q : Value → Shared → Prop} (ht : IsTup s.heap a l.toArray) (hi : l[i]? = some x) (hl : l.length < 1000) (h : Q x s)
    (hs : subscripted slice false (.ref a) (.int (i : Int) t) = operate [.ref a, .int (i : Int) t] (getItem (.ref a) (.int (i : Int) t)) := by with_unfolding_all rfl) :
    wpAny (model prog w) A (subscriptTail value slice (.ref a) (.int (i : Int) t)) Q E s := by
  have hlt : i < l.length := (List.getElem?_eq_some_iff.mp hi).1
  exact item_tupleT ht (by omega) (by omega) (seqIndex_ofNat hlt) hi h hs
theorem strs_of {B : Nat} : ∀ {ys : List Value}, (∀ (i : Nat) (y : Value), ys[i]? = some y → ∃ x u, y = .str x u ∧ x.length ≤ B) → ∃ l : List (Str × Tok), ys = strValues l ∧ ∀ p ∈ l, p.1.length ≤ B
  | [], _ => ⟨[], rfl, fun _ h => nomatch h⟩
  | y :: r, h => by
    obtain ⟨x, u, rfl, hx⟩ := h 0 y rfl
    obtain ⟨l, rfl, hl⟩ := strs_of (ys := r) fun i y e => h (i + 1) y (by simpa using e)
    exact ⟨(x, u) :: l, rfl, fun p hp => (List.mem_cons.mp hp).elim (fun e => e ▸ hx) (hl p)⟩
theorem sum_le {B : Nat} : ∀ {l : List Str}, (∀ p ∈ l, p.length ≤ B) → (l.map (·.length)).sum ≤ l.length * B
  | [], _ => Nat.zero_le _
  | p :: r, h => by
    have h1 := h p (.head _)
    have h2 := sum_le (l := r) fun q hq => h q (.tail _ hq)
    simp only [List.map_cons, List.sum_cons, List.length_cons, Nat.add_mul, Nat.one_mul]
    omega
theorem txt_join (sep : Str) (l : List Str) : Txt.join sep l = Str.join sep l := eq_of_beq (join_plain_closes sep l)
theorem join_len (sep : Str) (l : List Str) : (Txt.join sep l).length ≤ (l.map (·.length)).sum + l.length * sep.length := by rw [txt_join]; exact StrLaws.join_length_le sep l

theorem itemT5 {value slice : Expr} {a : Addr} {i : Nat} {t t1 t2 t3 t4 t5 : Tok} {a1 a2 a3 a4 a5 : Int} {Q : Value → Shared → Prop} (ht : IsTup s.heap a [Value.int a1 t1, .int a2 t2, .int a3 t3, .int a4 t4, .int a5 t5].toArray) (hi : i < 5)
    (h1 : 0 < a1 ∧ a1 < 1000000000) (h2 : 0 < a2 ∧ a2 < 1000000000) (h3 : 0 < a3 ∧ a3 < 1000000000) (h4 : 0 < a4 ∧ a4 < 1000000000) (h5 : 0 < a5 ∧ a5 < 1000000000) (h : ∀ p u, 0 < p → p < 1000000000 → Q (.int p u) s)
    (hs : subscripted slice false (.ref a) (.int (i : Int) t) = operate [.ref a, .int (i : Int) t] (getItem (.ref a) (.int (i : Int) t)) := by with_unfolding_all rfl) :
    wpAny (model prog w) A (subscriptTail value slice (.ref a) (.int (i : Int) t)) Q E s := by
  match i, hi with
  | 0, _ => exact itemT ht rfl (by simp) (h _ _ h1.1 h1.2) hs
  | 1, _ => exact itemT ht rfl (by simp) (h _ _ h2.1 h2.2) hs
  | 2, _ => exact itemT ht rfl (by simp) (h _ _ h3.1 h3.2) hs
  | 3, _ => exact itemT ht rfl (by simp) (h _ _ h4.1 h4.2) hs
  | 4, _ => exact itemT ht rfl (by simp) (h _ _ h5.1 h5.2) hs

/-! the same, the state hidden -/
theorem cInt {n : Int} {k : Nat} {pos : Pos} {Q : Value → Shared → Prop} (H : St w mg mb o g₀ g L m cl cm own s.heap s.gens s.os) (h : ∀ t s', St w mg mb o g₀ g L m cl cm own s'.heap s'.gens s'.os → Q (.int n t) s') : wpAny (model prog w) A (eval (.Constant (.int n) k pos) env) Q E s :=
  wpAny_Constant_int (h _ { s with toks := _ } H)
theorem cStr {x : Str} {k : Nat} {pos : Pos} {Q : Value → Shared → Prop} (H : St w mg mb o g₀ g L m cl cm own s.heap s.gens s.os) (h : ∀ t s', St w mg mb o g₀ g L m cl cm own s'.heap s'.gens s'.os → Q (.str x t) s') : wpAny (model prog w) A (eval (.Constant (.str x) k pos) env) Q E s :=
  Constant_str (h _ { s with toks := _ } H)
theorem divS {n : Nat} {b : Int} {t u : Tok} {Q : Value → Shared → Prop} (H : St w mg mb o g₀ g L m cl cm own s.heap s.gens s.os) (hb : 0 < b) (hb2 : b < 1000000000) (h : ∀ t s', St w mg mb o g₀ g L m cl cm own s'.heap s'.gens s'.os → Q (.int ((n / b.toNat : Nat) : Int) t) s') : wpAny (model prog w) A (binaryOp .FloorDiv (.int (n : Int) t) (.int b u)) Q E s :=
  divT hb hb2 (h _ { s with toks := _ } H)
theorem modS {n : Nat} {b : Int} {t u : Tok} {Q : Value → Shared → Prop} (H : St w mg mb o g₀ g L m cl cm own s.heap s.gens s.os) (hb : 0 < b) (h : ∀ t s', St w mg mb o g₀ g L m cl cm own s'.heap s'.gens s'.os → Q (.int ((n % b.toNat : Nat) : Int) t) s') : wpAny (model prog w) A (binaryOp .Mod (.int (n : Int) t) (.int b u)) Q E s :=
  modT hb (h _ { s with toks := _ } H)
theorem addS {a b : Int} {t u : Tok} {Q : Value → Shared → Prop} (H : St w mg mb o g₀ g L m cl cm own s.heap s.gens s.os) (h : ∀ t s', St w mg mb o g₀ g L m cl cm own s'.heap s'.gens s'.os → Q (.int (a + b) t) s') : wpAny (model prog w) A (binaryOp .Add (.int a t) (.int b u)) Q E s :=
  add_int (h _ { s with toks := _ } H)
theorem subS {a b : Int} {t u : Tok} {Q : Value → Shared → Prop} (H : St w mg mb o g₀ g L m cl cm own s.heap s.gens s.os) (h : ∀ t s', St w mg mb o g₀ g L m cl cm own s'.heap s'.gens s'.os → Q (.int (a - b) t) s') : wpAny (model prog w) A (binaryOp .Sub (.int a t) (.int b u)) Q E s :=
  sub_int (h _ { s with toks := _ } H)
theorem mulS {a b : Int} {t u : Tok} {Q : Value → Shared → Prop} (H : St w mg mb o g₀ g L m cl cm own s.heap s.gens s.os) (hm : IntMulOk a b) (h : ∀ t s', St w mg mb o g₀ g L m cl cm own s'.heap s'.gens s'.os → Q (.int (a * b) t) s') : wpAny (model prog w) A (binaryOp .Mult (.int a t) (.int b u)) Q E s :=
  mul_int (h _ { s with toks := _ } H) hm
theorem joinS {sep : Str} {t : Tok} {D : Addr} {l : List (Str × Tok)} {Q : Value → Shared → Prop} (H : St w mg mb o g₀ g L m cl cm own s.heap s.gens s.os) (hl : s.heap.IsList D (strValues l).toArray) (hz : ((l.map (·.1)).map (·.length)).sum + l.length * sep.length ≤ 16777216)
    (h : ∀ x t s', x = Str.join sep (l.map (·.1)) → x.length ≤ ((l.map (·.1)).map (·.length)).sum + l.length * sep.length → St w mg mb o g₀ g L m cl cm own s'.heap s'.gens s'.os → Q (.str x t) s') : wpAny (model prog w) A (call (.builtin "str.join") [.str sep t, .ref D]) Q E s := by
  refine SC.join hl rfl (joinOk_of (by rw [List.length_map]; exact hz)) fun t' tk => ?_
  refine h _ _ { s with toks := _ } (txt_join _ _) ?_ H
  have := join_len sep (l.map (·.1))
  rwa [List.length_map] at this
theorem upperS {x : Str} {t : Tok} {Q : Value → Shared → Prop} (H : St w mg mb o g₀ g L m cl cm own s.heap s.gens s.os) (hz : x.length ≤ 100000) (h : ∀ t s', St w mg mb o g₀ g L m cl cm own s'.heap s'.gens s'.os → Q (.str (Txt.upper x) t) s') : wpAny (model prog w) A (call (.builtin "str.upper") [.str x t]) Q E s :=
  SCL.upper (by omega) fun _ => h _ { s with toks := _ } H
theorem isiS {Q : Value → Shared → Prop} {v : Value} {d : V} {T : String} {b : Bool} (H : St w mg mb o g₀ g L m cl cm own s.heap s.gens s.os) (r : Rep g v d) (e : kitOne [] (.type (tyOf d)) (.type T) = some b) (h : ∀ s', St w mg mb o g₀ g L m cl cm own s'.heap s'.gens s'.os → Q (.bool b) s') :
    wpAny (model prog w) A (call (.builtin "isinstance") [v, .type T]) Q E s := isiR H r e fun tk => h { s with toks := tk } H
theorem addStrS {x y : Str} {t u : Tok} {Q : Value → Shared → Prop} (H : St w mg mb o g₀ g L m cl cm own s.heap s.gens s.os) (hz : x.length + y.length ≤ 16777216) (h : ∀ t s', St w mg mb o g₀ g L m cl cm own s'.heap s'.gens s'.os → Q (.str (x ++ y) t) s') : wpAny (model prog w) A (binaryOp .Add (.str x t) (.str y u)) Q E s :=
  SBL.add (fun t' k _ => h _ { s with toks := k } H) (by rw [sizeLine_eq]; exact hz)
theorem lenL {a : Addr} {its : Array Value} {Q : Value → Shared → Prop} (H : St w mg mb o g₀ g L m cl cm own s.heap s.gens s.os) (hl : s.heap.IsList a its) (hz : its.size ≤ 100000) (h : ∀ t s', St w mg mb o g₀ g L m cl cm own s'.heap s'.gens s'.os → Q (.int (its.size : Int) t) s') : wpAny (model prog w) A (call (.builtin "len") [.ref a]) Q E s :=
  call_len_list hl (by omega) (h _ { s with toks := _ } H)

theorem fits_small {n : Nat} (h : n < 1000) : fitsSsize (n : Int) = true := by
  unfold fitsSsize
  have h1 : ¬ ((n : Int) < -(2 ^ 63 : Int)) := by omega
  have h2 : ¬ ((n : Int) ≥ 2 ^ 63) := by omega
  rw [decide_eq_false h1, decide_eq_false h2]; rfl
theorem itemC {value slice : Expr} {x : Str} {t : Tok} {k n : Nat} {u : Tok} {Q : Value → Shared → Prop} (H : St w mg mb o g₀ g L m cl cm own s.heap s.gens s.os) (hx : x.length = n) (hk : k < n) (hn : n < 1000)
    (h : ∀ y t s', y.length ≤ 1 → St w mg mb o g₀ g L m cl cm own s'.heap s'.gens s'.os → Q (.str y t) s')
    (hs : subscripted slice false (.str x t) (.int (k : Int) u) = operate [.str x t, .int (k : Int) u] (getItem (.str x t) (.int (k : Int) u)) := by with_unfolding_all rfl)
    (ht : ∀ r, letTemporaryGo value (.str x t) r = pure () := by intro _; with_unfolding_all rfl) :
    wpAny (model prog w) A (subscriptTail value slice (.str x t) (.int (k : Int) u)) Q E s :=
  item_str (fits_small (by omega)) (by omega) (by omega) (fun hl => h _ _ { s with toks := _ } hl.2 H) hs ht
end

end
section
section
variable {prog : Program} {w : World} {mg mb : Str → Option Value} {o : Shared} {g₀ g : Heap} {L : Addr} {m cm : Str → Option Value} {cl : List (Str × Addr)} {own : List (Addr × Obj)} {A : Around} {E : Value → Shared → Prop} {s : Shared}
theorem sliceL {value slice : Expr} {a : Addr} {its : Array Value} {vl vu : Value} {lo hi : Option Int} {Q : Value → Shared → Prop} (H : St w mg mb o g₀ g L m cl cm own s.heap s.gens s.os) (hl : s.heap.IsList a its) (hz : its.size ≤ sizeLine) (pl : IsPart vl lo) (pu : IsPart vu hi)
    (h : ∀ b s', St w mg mb o g₀ g L m cl cm ((b, listOf (slicePick its lo hi none) 0) :: own) s'.heap s'.gens s'.os → Q (.ref b) s')
    (hs : subscripted slice false (.ref a) (.ref s.heap.objs.size) = operate [.ref s.heap.objs.size, .ref a] (getItem (.ref a) (.ref s.heap.objs.size)) := by with_unfolding_all rfl) :
    wpAny (model prog w) A (subscriptTail value slice (.ref a) (.ref s.heap.objs.size)) Q E { s with heap := s.heap.push { cls := .type "slice", data := .fields #[vl, vu, .none] } } := by
  have H' := (H.push { cls := .type "slice", data := .fields #[vl, vu, .none] }).tail
  have hl' : (s.heap.push { cls := .type "slice", data := .fields #[vl, vu, .none] }).IsList a its := IsList.keeps' hl fun _ _ e => Heap.get?_push_of_some _ e
  refine tail_any (s := { s with heap := s.heap.push { cls := .type "slice", data := .fields #[vl, vu, .none] } }) hl'.typeIs slot_list_getitem.lookup ?_ hs
  exact wpAny_getItem_list_slice (s := { s with heap := s.heap.push { cls := .type "slice", data := .fields #[vl, vu, .none] } }) hl' ⟨_, Heap.get?_push_size _ rfl, rfl, rfl⟩ pl pu .none (by decide) (h _ { s with heap := _ } (H'.push _)) hz

def natsV (ns : List Nat) : List V := ns.map fun (n : Nat) => V.int (Int.ofNat n)
theorem RepL.nat {vs : List Value} {ns : List Nat} (r : RepL g vs (natsV ns)) {i n : Nat} (h : ns[i]? = some n) : ∃ u, vs[i]? = some (.int (n : Int) u) := by
  obtain ⟨v, hv, hr⟩ := r.getD (i := i) (d := .int (n : Int)) (by simp [natsV, h])
  cases hr with
  | int _ u => exact ⟨u, hv⟩
theorem repL_of {f : Nat → V} {ys : List Value} {n : Nat} (hn : ys.length = n) (h : ∀ (i : Nat) (y : Value), ys[i]? = some y → Rep g y (f i)) : RepL g ys ((List.range n).map f) := by
  subst hn
  induction ys generalizing f with
  | nil => exact .nil
  | cons y r ih =>
    rw [List.length_cons, List.range_succ_eq_map, List.map_cons, List.map_map]
    exact .cons (h 0 y rfl) (ih (f := f ∘ Nat.succ) fun i y e => h (i + 1) y (by simpa using e))

theorem lenG {a : Addr} {its : Array Value} {n : Nat} {Q : Value → Shared → Prop} (H : St w mg mb o g₀ g L m cl cm own s.heap s.gens s.os) (hl : g.IsList a its) (hn : its.size = n) (hz : n ≤ 100000) (h : ∀ t s', St w mg mb o g₀ g L m cl cm own s'.heap s'.gens s'.os → Q (.int (n : Int) t) s') : wpAny (model prog w) A (call (.builtin "len") [.ref a]) Q E s := by
  subst hn
  exact lenL H (IsList.keeps' hl H.inv.sub) hz h
theorem itemG {value slice : Expr} {a : Addr} {l : List Value} {k : Int} {i : Nat} {x : Value} {t : Tok} {Q : Value → Shared → Prop} (H : St w mg mb o g₀ g L m cl cm own s.heap s.gens s.os) (hl : g.IsList a l.toArray) (hk : k = (i : Int)) (hx : l[i]? = some x) (hz : l.length ≤ 100000) (h : Q x s)
    (hs : subscripted slice false (.ref a) (.int k t) = operate [.ref a, .int k t] (getItem (.ref a) (.int k t)) := by with_unfolding_all rfl) :
    wpAny (model prog w) A (subscriptTail value slice (.ref a) (.int k t)) Q E s := by
  have hlt : i < l.length := (List.getElem?_eq_some_iff.mp hx).1
  subst hk
  exact itemI (IsList.keeps' hl H.inv.sub) (by omega) (by omega) (by simpa using hx) h hs
theorem sliceG {value slice : Expr} {a : Addr} {its : Array Value} {vl vu : Value} {lo hi : Option Int} {Q : Value → Shared → Prop} (H : St w mg mb o g₀ g L m cl cm own s.heap s.gens s.os) (hl : g.IsList a its) (hz : its.size ≤ 100000) (pl : IsPart vl lo) (pu : IsPart vu hi)
    (h : ∀ b s', St w mg mb o g₀ g L m cl cm ((b, listOf (slicePick its lo hi none) 0) :: own) s'.heap s'.gens s'.os → Q (.ref b) s')
    (hs : subscripted slice false (.ref a) (.ref s.heap.objs.size) = operate [.ref s.heap.objs.size, .ref a] (getItem (.ref a) (.ref s.heap.objs.size)) := by with_unfolding_all rfl) :
    wpAny (model prog w) A (subscriptTail value slice (.ref a) (.ref s.heap.objs.size)) Q E { s with heap := s.heap.push { cls := .type "slice", data := .fields #[vl, vu, .none] } } :=
  sliceL H (IsList.keeps' hl H.inv.sub) (by rw [sizeLine_eq]; omega) pl pu h hs
end
theorem bits_small {n : Nat} (h : n < 10 ^ 18) : Builtin.Int.intBits (n : Int) ≤ 64 := by
  unfold Builtin.Int.intBits
  split
  · omega
  · rename_i h0
    have hn : n ≠ 0 := by intro e; subst e; exact h0 rfl
    have : n.log2 < 63 := (Nat.log2_lt hn).mpr (Nat.lt_of_lt_of_le h (by decide))
    show n.log2 + 1 ≤ 64
    omega
theorem ints_of : ∀ {ys : List Value}, (∀ (i : Nat) (y : Value), ys[i]? = some y → ∃ (n : Nat) (u : Tok), y = .int (n : Int) u ∧ n < 256) → ∃ ns : List Int, IntsAre ys ns ∧ (∀ n ∈ ns, 0 ≤ n ∧ n < 256) ∧ ns.length = ys.length
  | [], _ => ⟨[], .nil, fun _ h => (nomatch h), rfl⟩
  | y :: r, h => by
    obtain ⟨n, u, rfl, hn⟩ := h 0 y rfl
    obtain ⟨ns, hi, hr, hl⟩ := ints_of (ys := r) fun i y e => h (i + 1) y (by simpa using e)
    exact ⟨(n : Int) :: ns, .cons _ _ hi, fun m hm => (List.mem_cons.mp hm).elim (fun e => by subst e; omega) (hr m), by simp [hl]⟩
theorem St.keepsL {w : World} {mg mb : Str → Option Value} {o : Shared} {g₀ g : Heap} {L : Addr} {m cm : Str → Option Value} {cl : List (Str × Addr)} {own : List (Addr × Obj)} {h h' : Heap} {gens : Array GenState} {os : OsState} (H : St w mg mb o g₀ g L m cl cm own h gens os) (hk : ∀ b ob, h.get? b = some ob → h'.get? b = some ob) (hLo : o.heap.objs.size ≤ L) : St w mg mb o g₀ g L m cl cm own h' gens os :=
  have hn : h'.Ns L m := H.ns.at' fun ob e => hk L ob e
  { (H.keeps (h' := h) (fun _ _ e => e) (Nat.le_refl _)) with
    inv := ⟨H.inv.base, H.inv.tabs.keeps (fun _ _ e => e) (fun _ e => hk _ _ e) (fun _ e => hk _ _ e), fun b ob e => hk b ob (H.inv.sub b ob e), H.inv.n1, H.inv.n2⟩
    ns := hn
    owns := fun p hp => ⟨hk _ _ (H.owns p hp).1, (H.owns p hp).2⟩
    cell := fun n c e => let x := H.cell n c e; let ⟨oc, hoc, hd⟩ := x.1; ⟨⟨oc, hk _ _ hoc, hd⟩, x.2⟩
    keep := fun b ob h1 h2 e => hk b ob (H.keep b ob h1 h2 e)
    sz := Nat.le_of_lt (Nat.lt_of_le_of_lt hLo hn.lt) }


theorem sliceOwn {prog : Program} {w : World} {mg mb : Str → Option Value} {o : Shared} {g₀ g : Heap} {L : Addr} {m cm : Str → Option Value} {cl : List (Str × Addr)} {own : List (Addr × Obj)} {A : Around} {E : Value → Shared → Prop} {s : Shared} {value slice : Expr} {a : Addr} {its : Array Value} {n : Nat} {vl vu : Value} {lo hi : Option Int} {Q : Value → Shared → Prop} (H : St w mg mb o g₀ g L m cl cm ((a, listOf its n) :: own) s.heap s.gens s.os) (hz : its.size ≤ sizeLine) (pl : IsPart vl lo) (pu : IsPart vu hi)
    (h : ∀ b s', St w mg mb o g₀ g L m cl cm ((b, listOf (slicePick its lo hi none) 0) :: (a, listOf its n) :: own) s'.heap s'.gens s'.os → Q (.ref b) s')
    (hs : subscripted slice false (.ref a) (.ref s.heap.objs.size) = operate [.ref s.heap.objs.size, .ref a] (getItem (.ref a) (.ref s.heap.objs.size)) := by with_unfolding_all rfl) :
    wpAny (model prog w) A (subscriptTail value slice (.ref a) (.ref s.heap.objs.size)) Q E { s with heap := s.heap.push { cls := .type "slice", data := .fields #[vl, vu, .none] } } :=
  sliceL H (own_list H (.head _)) hz pl pu h hs

theorem repL_ex {g : Heap} {P : V → Prop} : ∀ {ys : List Value}, (∀ (i : Nat) (y : Value), ys[i]? = some y → ∃ d, Rep g y d ∧ P d) → ∃ ds, RepL g ys ds ∧ ds.length = ys.length ∧ ∀ d ∈ ds, P d
  | [], _ => ⟨[], .nil, rfl, fun _ h => (nomatch h)⟩
  | y :: r, h => by
    obtain ⟨d, hr, hp⟩ := h 0 y rfl
    obtain ⟨ds, hrs, hl, hps⟩ := repL_ex (ys := r) fun i y e => h (i + 1) y (by simpa using e)
    exact ⟨d :: ds, .cons hr hrs, by simp [hl], fun x hx => (List.mem_cons.mp hx).elim (fun e => e ▸ hp) (hps x)⟩

theorem strs_list {α : Type} {f : α → Str} : ∀ {ys : List Value} {xs : List α}, ys.length = xs.length → (∀ (i : Nat) (y : Value), ys[i]? = some y → ∃ a u, xs[i]? = some a ∧ y = .str (f a) u) → ∃ l : List (Str × Tok), ys = strValues l ∧ l.map (·.1) = xs.map f
  | [], [], _, _ => ⟨[], rfl, rfl⟩
  | [], _ :: _, h, _ => by simp at h
  | _ :: _, [], h, _ => by simp at h
  | y :: r, x :: xs, hl, h => by
    obtain ⟨a, u, ha, rfl⟩ := h 0 y rfl
    obtain rfl : x = a := by simpa using ha
    obtain ⟨l, rfl, hm⟩ := strs_list (ys := r) (xs := xs) (by simpa using hl) fun i y e => by simpa using h (i + 1) y (by simpa using e)
    exact ⟨(f x, u) :: l, rfl, by rw [List.map_cons, List.map_cons, hm]⟩

theorem strsAre_get {ys : List Str} {vs : List Value} (h : StrsAre vs ys) : ∀ {i : Nat} {v : Value}, vs[i]? = some v → ∃ x u, ys[i]? = some x ∧ v = .str x u := by
  induction h with
  | nil => intro i v e; simp at e
  | cons y t h ih =>
    intro i v e
    cases i with
    | zero => simp at e; exact ⟨y, t, rfl, e.symm⟩
    | succ i => simpa using ih (by simpa using e)
section
variable {prog : Program} {w : World} {mg mb : Str → Option Value} {o : Shared} {g₀ g : Heap} {L : Addr} {m cm : Str → Option Value} {cl : List (Str × Addr)} {own : List (Addr × Obj)} {A : Around} {E : Value → Shared → Prop} {s : Shared}
theorem bools_walk {D : Addr} {ys : List Value} {tr : Nat → Bool} (hh : A.handled = none) (hLo : o.heap.objs.size ≤ L) (H : St w mg mb o g₀ g L m cl cm own s.heap s.gens s.os) (hl : g.IsList D ys.toArray) (hb : ∀ (i : Nat) (y : Value), ys[i]? = some y → y = .bool (tr i)) {R : Bool → Shared → Prop} (k : ∀ b s', St w mg mb o g₀ g L m cl cm own s'.heap s'.gens s'.os → R b s') (f : Nat → (Nat → Bool) → Bool) :
    wpAny (model prog w) A.in1 (pyIter (.ref D)) (fun it s₂ => ∃ I fp wr n P St tr', it = .ref I ∧ Walks prog w A.in1 I fp wr n P St ∧ St 0 s₂.heap ∧ TruthOf prog w A.in1 P tr' ∧ n = ys.length ∧ tr' = tr ∧
      ∀ h' tk, (∀ b o, b ∉ wr → s₂.heap.get? b = some o → h'.get? b = some o) → R (f n tr') { s₂ with heap := h', toks := tk }) E s := by
  have hl' : s.heap.IsList D ys.toArray := IsList.keeps' hl H.inv.sub
  have hne : D ≠ s.heap.objs.size := let ⟨_, e, _⟩ := hl'; Nat.ne_of_lt (Heap.lt_size e)
  refine wpAny_pyIter_list hl' ?_
  refine ⟨_, _, _, ys.toArray.size, _, fun i h => h.IsListIter s.heap.objs.size D i ∧ h.IsList D ys.toArray, tr, rfl, Walks.list (A := A.in1) hh _ D hne ys.toArray, ⟨⟨_, Heap.get?_push_size _ rfl, rfl, rfl⟩, hl'.push _⟩, fun i v s Q E hv hq => ?_, by rw [List.size_toArray], rfl, fun h' tk hk => ?_⟩
  · have := hb i v (by simpa using hv)
    subst this
    exact wpAny_truthy_bool hq
  · refine k _ { s with heap := h', toks := tk } (H.keepsL (fun b ob e => hk b ob (fun hm => ?_) (Heap.get?_push_of_some _ e)) hLo)
    exact absurd (Heap.lt_size e) (Nat.not_lt.mpr (Nat.le_of_eq (List.mem_singleton.mp hm).symm))
theorem anyL {D : Addr} {ys : List Value} {tr : Nat → Bool} {Q : Value → Shared → Prop} (hh : A.handled = none) (hLo : o.heap.objs.size ≤ L) (H : St w mg mb o g₀ g L m cl cm own s.heap s.gens s.os) (hl : g.IsList D ys.toArray) (hb : ∀ (i : Nat) (y : Value), ys[i]? = some y → y = .bool (tr i))
    (h : ∀ s', St w mg mb o g₀ g L m cl cm own s'.heap s'.gens s'.os → Q (.bool ((List.range ys.length).any tr)) s') : wpAny (model prog w) A (call (.builtin "any") [.ref D]) Q E s := by
  refine call_any_walk (wpAny_mono (bools_walk (R := fun b s' => b = (List.range ys.length).any tr → Q (.bool b) s') hh hLo H hl hb (fun b s' H' e => by subst e; exact h s' H') (fun n tr => (List.range n).any tr)) (fun it s₂ h₂ => ?_) fun _ _ x => x)
  obtain ⟨I, fp, wr, n, P, St, tr', rfl, W, hs, ht, rfl, rfl, hk⟩ := h₂
  exact ⟨I, fp, wr, _, P, St, tr', rfl, W, hs, ht, fun h' tk k => hk h' tk k rfl⟩
theorem allL {D : Addr} {ys : List Value} {tr : Nat → Bool} {Q : Value → Shared → Prop} (hh : A.handled = none) (hLo : o.heap.objs.size ≤ L) (H : St w mg mb o g₀ g L m cl cm own s.heap s.gens s.os) (hl : g.IsList D ys.toArray) (hb : ∀ (i : Nat) (y : Value), ys[i]? = some y → y = .bool (tr i))
    (h : ∀ s', St w mg mb o g₀ g L m cl cm own s'.heap s'.gens s'.os → Q (.bool ((List.range ys.length).all tr)) s') : wpAny (model prog w) A (call (.builtin "all") [.ref D]) Q E s := by
  refine call_all_walk (wpAny_mono (bools_walk (R := fun b s' => b = (List.range ys.length).all tr → Q (.bool b) s') hh hLo H hl hb (fun b s' H' e => by subst e; exact h s' H') (fun n tr => (List.range n).all tr)) (fun it s₂ h₂ => ?_) fun _ _ x => x)
  obtain ⟨I, fp, wr, n, P, St, tr', rfl, W, hs, ht, rfl, rfl, hk⟩ := h₂
  exact ⟨I, fp, wr, _, P, St, tr', rfl, W, hs, ht, fun h' tk k => hk h' tk k rfl⟩
end

theorem isNoneF {prog : Program} {w : World} {g : Heap} {A : Around} {E : Value → Shared → Prop} {s : Shared} {Q : Value → Shared → Prop} {v : Value} {d : V} (r : Rep g v d) (hn : d ≠ .none) (h : Q (.bool false) s) : wpAny (model prog w) A (compareOp .Is v .none) Q E s := by
  cases r with
  | none => exact absurd rfl hn
  | _ => exact is_none_ne (fun e => (nomatch e)) h

theorem is_none_none {M : Model} {A : Around} {E : Value → Shared → Prop} {s : Shared} {Q : Value → Shared → Prop} (h : Q (.bool true) s) : wpAny M A (compareOp .Is .none .none) Q E s := wpAny_is_plain (by decide) h

theorem newTS {prog : Program} {w : World} {mg mb : Str → Option Value} {o : Shared} {g₀ g : Heap} {L : Addr} {m cm : Str → Option Value} {cl : List (Str × Addr)} {own : List (Addr × Obj)} {A : Around} {E : Value → Shared → Prop} {s : Shared} {vs : List Value} {ys : List Str} {Q : Value → Shared → Prop} (H : St w mg mb o g₀ g L m cl cm own s.heap s.gens s.os) (hs : StrsAre vs ys) (hz : ys.length ≤ 1000)
    (h : ∀ (us : List Value) a s', StrsAre us ys → us.length = ys.length → St w mg mb o g₀ g L m cl cm ((a, tupOf us.toArray) :: own) s'.heap s'.gens s'.os → Q (.ref a) s') : wpAny (model prog w) A (newTuple vs) Q E s := by
  have hl : vs.length = ys.length := by
    clear h hz
    induction hs with
    | nil => rfl
    | cons y t _ ih => simp [ih]
  exact newT H (fun a s' H' => h vs a s' hs hl H') (by rw [sizeLine_eq]; omega)

/-! isinstance, told by the data's own shape -/
@[reducible] def isListV : V → Bool
  | .none => false
  | .bool _ => false
  | .int _ => false
  | .str _ => false
  | .bytes _ => false
  | .list _ => true
theorem isiList {prog : Program} {w : World} {mg mb : Str → Option Value} {o : Shared} {g₀ g : Heap} {L : Addr} {m cm : Str → Option Value} {cl : List (Str × Addr)} {own : List (Addr × Obj)} {A : Around} {E : Value → Shared → Prop} {s : Shared} {Q : Value → Shared → Prop} {v : Value} {d : V} (H : St w mg mb o g₀ g L m cl cm own s.heap s.gens s.os) (r : Rep g v d) (h : ∀ s', St w mg mb o g₀ g L m cl cm own s'.heap s'.gens s'.os → Q (.bool (isListV d)) s') : wpAny (model prog w) A (call (.builtin "isinstance") [v, .type "list"]) Q E s :=
  isiS H r (by cases d <;> kernel_rfl) h
@[reducible] def isTupV : V → Bool
  | .none => false
  | .bool _ => false
  | .int _ => false
  | .str _ => false
  | .bytes _ => false
  | .list _ => false
theorem isiTup {prog : Program} {w : World} {mg mb : Str → Option Value} {o : Shared} {g₀ g : Heap} {L : Addr} {m cm : Str → Option Value} {cl : List (Str × Addr)} {own : List (Addr × Obj)} {A : Around} {E : Value → Shared → Prop} {s : Shared} {Q : Value → Shared → Prop} {v : Value} {d : V} (H : St w mg mb o g₀ g L m cl cm own s.heap s.gens s.os) (r : Rep g v d) (h : ∀ s', St w mg mb o g₀ g L m cl cm own s'.heap s'.gens s'.os → Q (.bool (isTupV d)) s') : wpAny (model prog w) A (call (.builtin "isinstance") [v, .type "tuple"]) Q E s :=
  isiS H r (by cases d <;> kernel_rfl) h
@[reducible] def isStrV : V → Bool
  | .none => false
  | .bool _ => false
  | .int _ => false
  | .str _ => true
  | .bytes _ => false
  | .list _ => false
theorem isiStr {prog : Program} {w : World} {mg mb : Str → Option Value} {o : Shared} {g₀ g : Heap} {L : Addr} {m cm : Str → Option Value} {cl : List (Str × Addr)} {own : List (Addr × Obj)} {A : Around} {E : Value → Shared → Prop} {s : Shared} {Q : Value → Shared → Prop} {v : Value} {d : V} (H : St w mg mb o g₀ g L m cl cm own s.heap s.gens s.os) (r : Rep g v d) (h : ∀ s', St w mg mb o g₀ g L m cl cm own s'.heap s'.gens s'.os → Q (.bool (isStrV d)) s') : wpAny (model prog w) A (call (.builtin "isinstance") [v, .type "str"]) Q E s :=
  isiS H r (by cases d <;> kernel_rfl) h
@[reducible] def isBoolV : V → Bool
  | .none => false
  | .bool _ => true
  | .int _ => false
  | .str _ => false
  | .bytes _ => false
  | .list _ => false
theorem isiBool {prog : Program} {w : World} {mg mb : Str → Option Value} {o : Shared} {g₀ g : Heap} {L : Addr} {m cm : Str → Option Value} {cl : List (Str × Addr)} {own : List (Addr × Obj)} {A : Around} {E : Value → Shared → Prop} {s : Shared} {Q : Value → Shared → Prop} {v : Value} {d : V} (H : St w mg mb o g₀ g L m cl cm own s.heap s.gens s.os) (r : Rep g v d) (h : ∀ s', St w mg mb o g₀ g L m cl cm own s'.heap s'.gens s'.os → Q (.bool (isBoolV d)) s') : wpAny (model prog w) A (call (.builtin "isinstance") [v, .type "bool"]) Q E s :=
  isiS H r (by cases d <;> kernel_rfl) h
@[reducible] def isIntV : V → Bool
  | .none => false
  | .bool _ => true
  | .int _ => true
  | .str _ => false
  | .bytes _ => false
  | .list _ => false
theorem isiInt {prog : Program} {w : World} {mg mb : Str → Option Value} {o : Shared} {g₀ g : Heap} {L : Addr} {m cm : Str → Option Value} {cl : List (Str × Addr)} {own : List (Addr × Obj)} {A : Around} {E : Value → Shared → Prop} {s : Shared} {Q : Value → Shared → Prop} {v : Value} {d : V} (H : St w mg mb o g₀ g L m cl cm own s.heap s.gens s.os) (r : Rep g v d) (h : ∀ s', St w mg mb o g₀ g L m cl cm own s'.heap s'.gens s'.os → Q (.bool (isIntV d)) s') : wpAny (model prog w) A (call (.builtin "isinstance") [v, .type "int"]) Q E s :=
  isiS H r (by cases d <;> kernel_rfl) h

end
end
section
local macro_rules | `(tactic| walk_at "ng") => `(tactic| with_reducible first | exact ngParserState | exact ngparsearray | exact ngarrayin | exact ngboolin | exact ngbytesin | exact ngintin | exact ngstringin | exact ngmakeparam | exact ngpytypes | exact ngarraystringescape | exact ngarrayout | exact ngcompositeout | exact ngbytesout | exact ngkindof | exact nglawtext | exact nglawshaped | exact nglawworth | exact nglawword | exact nglawjoined | exact ngintarrayin | exact ngstringarrayin | exact ngbytesarrayin | exact ngboolarrayin | exact nglawalike | exact nglawflat | exact nglawsizes | exact nglawlaid | exact nglawread)
local macro_rules | `(tactic| walk_at "nt") => `(tactic| with_reducible first | exact nbint | exact nbstr | exact nbbytes | exact nbbytearray | exact nblist | exact nbtuple | exact nbbool | exact nbrange | exact nbzip | exact bbint | exact bbstr | exact bbbytes | exact bbbytearray | exact bblist | exact bbtuple | exact bbbool | exact bbrange | exact bbzip)
local macro_rules | `(tactic| walk_at "nb") => `(tactic| with_reducible first | exact nbisinstance | exact nbany | exact nblen | exact nball | exact nbabs | exact bbisinstance | exact bbany | exact bblen | exact bball | exact bbabs)
local macro_rules | `(tactic| walk_at "nm") => `(tactic| first
  | (refine nmL (by assumption) rfl (by first | rfl | assumption) ?_ rfl (by rfl) (by decide))
  | (refine nmC (by assumption) (by rfl) (by rfl) (by first | rfl | assumption) ?_ rfl (by rfl) (by decide))
  | (refine nmFr (by assumption) (by rfl) (by rfl) (by first | rfl | assumption) ?_ rfl (by rfl) (by decide) (by decide))
  | (refine nmG (by assumption) (by walk_at "ng") ?_ rfl rfl (by rfl) (by decide))
  | (refine nmB (v := .builtin _) (by assumption) (by walk_at "nb") (by walk_at "nb") ?_ rfl rfl rfl (by rfl) (by decide) (by decide))
  | (refine nmB (v := .type _) (by assumption) (by walk_at "nt") (by walk_at "nt") ?_ rfl rfl rfl (by rfl) (by decide) (by decide))
  | (refine nmG (by assumption) (by rfl) ?_ rfl rfl (by rfl) (by decide))
  | (refine nmB (v := .type _) (by assumption) (by rfl) (by rfl) ?_ rfl rfl rfl (by rfl) (by decide) (by decide))
  | (refine nmB (v := .builtin _) (by assumption) (by rfl) (by rfl) ?_ rfl rfl rfl (by rfl) (by decide) (by decide)))
local macro_rules | `(tactic| walk_at "cw") => `(tactic| first
  | ((with_reducible show wpAny _ _ (callWith _ (Value.ref _) _ _ _) _ _ _); refine callWith_F (fnAt_of (by assumption) (by rfl)) ?_)
  | ((with_reducible show wpAny _ _ (callWith _ (Value.type _) _ _ _) _ _ _); refine Pv.callWith_type1 ?_)
  | ((with_reducible show wpAny _ _ (callWith _ (Value.builtin _) [] _ _) _ _ _); refine PyProof.Rows.callWith_builtin1 ?_)
  | ((with_reducible show wpAny _ _ (callWith _ (Value.builtin _) _ (backTo _ (starEach [] _)) _) _ _ _); refine callWith_method0 ?_)
  | ((with_reducible show wpAny _ _ (callWith _ (Value.builtin _) _ _ _) _ _ _); refine callWith_method1 ?_))
local macro_rules | `(tactic| walk_at "s") => `(tactic| first
  | with_reducible refine wpAny_execs_nil ?_
  | with_reducible refine wpAny_execs_cons ?_
  | with_reducible refine wpAny_Return_some ?_
  | ((with_reducible show wpAny _ _ (exec (Stmt.If _ _ _ _) _) _ _ _); refine wpAny_If ?_)
  | ((with_reducible show wpAny _ _ (eval (Expr.Compare _ [_] [_] _) _) _ _ _); refine wpAny_Compare1 ?_)
  | ((with_reducible show wpAny _ _ (PySem.isTrue (Expr.Compare _ [_] [_] _) _ _) _ _ _); refine wpAny_isTrue_Compare1 ?_)
  | with_reducible refine isTrue_and_nil ?_
  | with_reducible refine isTrue_or_nil ?_
  | with_reducible refine isTrue_and ?_
  | with_reducible refine isTrue_or ?_
  | with_reducible refine isTrue_not ?_
  | ((with_reducible show wpAny _ _ (PySem.isTrue (Expr.Call _ _ _ _) _ _) _ _ _); refine isTrue_plain ?_)
  | ((with_reducible show wpAny _ _ (PySem.isTrue (Expr.Name _ _) _ _) _ _ _); refine isTrue_plain ?_)
  | ((with_reducible show wpAny _ _ (eval (Expr.Name _ _) _) _ _ _); walk_at "nm")
  | ((with_reducible show wpAny _ _ (eval (Expr.Constant (Const.str _) _ _) _) _ _ _); first | (refine cStr (by assumption) ?_; intro _ _ _) | refine Constant_str ?_)
  | with_reducible refine Constant_bool ?_
  | with_reducible refine Constant_none ?_
  | ((with_reducible show wpAny _ _ (eval (Expr.Constant (Const.int _) _ _) _) _ _ _); first | (refine cInt (by assumption) ?_; intro _ _ _) | refine wpAny_Constant_int ?_)
  | with_reducible refine wpAny_BinOp ?_
  | with_reducible refine IfExp_ ?_
  | with_reducible refine List_ ?_
  | with_reducible refine wpAny_Pass ?_
  | ((with_reducible show wpAny _ _ (binaryOp Operator.FloorDiv (Value.int _ _) (Value.int _ _)) _ _ _); refine divS (by assumption) (by first | decide | omega) (by first | decide | omega) ?_; intro _ _ _)
  | ((with_reducible show wpAny _ _ (binaryOp Operator.Mod (Value.int _ _) (Value.int _ _)) _ _ _); refine modS (by assumption) (by first | decide | omega) ?_; intro _ _ _)
  | ((with_reducible show wpAny _ _ (exec (Stmt.Expr _ _) _) _ _ _); refine wpAny_Expr_any ?_)
  | ((with_reducible show wpAny _ _ (getMethod (Value.str _ _) (Str.ofString "join") _) _ _ _); refine GM.join ?_)
  | ((with_reducible show wpAny _ _ (getMethod (Value.str _ _) (Str.ofString "upper") _) _ _ _); refine GM.upper ?_)
  | ((with_reducible show wpAny _ _ (unaryOp UnaryOp.USub (Value.int _ _)) _ _ _); refine neg_int ?_)
  | with_reducible refine Tuple_ ?_
  | ((with_reducible show wpAny _ _ (exec (Stmt.Assign [Expr.Name _ _] _ _) _) _ _ _); refine wpAny_Assign_Name ?_)
  | with_reducible refine BoolOp_one ?_
  | with_reducible refine BoolOp_and ?_
  | with_reducible refine BoolOp_or ?_
  | with_reducible refine UnaryOp_ ?_
  | ((with_reducible show wpAny _ _ (eval (Expr.Call (Expr.Attribute _ _ _) _ [] _) _) _ _ _); refine MethodCall_ ?_)
  | ((with_reducible show wpAny _ _ (eval (Expr.Call _ _ [] _) _) _ _ _); refine Call_ ?_)
  | with_reducible refine Subscript_ ?_
  | with_reducible refine wpAny_Slice ?_
  | with_reducible refine evalPart_none_step ?_
  | with_reducible refine evalPart_some_step ?_
  | with_reducible refine spliced_none ?_
  | ((with_reducible show wpAny _ _ (spliced (backTo _ (starEach (_ :: _) _))) _ _ _); refine spliced_more ?_)
  | with_reducible refine wpAny_truthy_bool ?_
  | with_reducible refine eq_str ?_
  | with_reducible refine eq_int ?_
  | ((with_reducible show wpAny _ _ (compareOp CmpOp.Lt (Value.int _ _) (Value.int _ _)) _ _ _); refine lt_int ?_)
  | ((with_reducible show wpAny _ _ (binaryOp Operator.Add (Value.int _ _) (Value.int _ _)) _ _ _); refine addS (by assumption) ?_; intro _ _ _)
  | ((with_reducible show wpAny _ _ (binaryOp Operator.Sub (Value.int _ _) (Value.int _ _)) _ _ _); refine subS (by assumption) ?_; intro _ _ _)
  | with_reducible refine ite_t ?_
  | with_reducible refine ite_f ?_
  | ((with_reducible show wpAny _ _ (compareOp CmpOp.Is Value.none Value.none) _ _ _); refine is_none_none ?_)
  | ((with_reducible show wpAny _ _ (compareOp CmpOp.Is (Value.int _ _) Value.none) _ _ _); refine is_none_ne (fun e => nomatch e) ?_)
  | ((with_reducible show wpAny _ _ (compareOp CmpOp.Is (Value.str _ _) Value.none) _ _ _); refine is_none_ne (fun e => nomatch e) ?_)
  | ((with_reducible show wpAny _ _ (compareOp CmpOp.Is (Value.bytes _ _) Value.none) _ _ _); refine is_none_ne (fun e => nomatch e) ?_)
  | ((with_reducible show wpAny _ _ (compareOp CmpOp.Is (Value.ref _) Value.none) _ _ _); refine is_none_ne (fun e => nomatch e) ?_)
  | ((with_reducible show wpAny _ _ (compareOp CmpOp.Is (Value.bool _) Value.none) _ _ _); refine is_none_ne (fun e => nomatch e) ?_)
  | ((with_reducible show wpAny _ _ (call (Value.builtin "isinstance") [_, Value.type "list"]) _ _ _); refine isiList (by assumption) (by first | assumption | constructor) ?_; intro _ _)
  | ((with_reducible show wpAny _ _ (call (Value.builtin "isinstance") [_, Value.type "tuple"]) _ _ _); refine isiTup (by assumption) (by first | assumption | constructor) ?_; intro _ _)
  | ((with_reducible show wpAny _ _ (call (Value.builtin "isinstance") [_, Value.type "str"]) _ _ _); refine isiStr (by assumption) (by first | assumption | constructor) ?_; intro _ _)
  | ((with_reducible show wpAny _ _ (call (Value.builtin "isinstance") [_, Value.type "bool"]) _ _ _); refine isiBool (by assumption) (by first | assumption | constructor) ?_; intro _ _)
  | ((with_reducible show wpAny _ _ (call (Value.builtin "isinstance") [_, Value.type "int"]) _ _ _); refine isiInt (by assumption) (by first | assumption | constructor) ?_; intro _ _)
  | walk_at "cw")
section

section
variable {prog : Program} {w : World} {mg mb : Str → Option Value} {g : Heap}
theorem fn_law_text {rest : Nat} {t : Tok} (hr : rest < 1000000000) : Fn prog w mg mb 812 [.int (rest : Int) t] 1 g (fun _ v => ∃ x t, v = .str x t ∧ x.length ≤ 5) := by
  refine enter [(Str.ofString "rest", .int (rest : Int) t)] rfl (by kernel_rfl) rfl rfl rfl rfl rfl ?_
  intro A s L s' hh hd hu I hLo hco H
  repeat walk_at "s"
  refine compR [(Str.ofString "rest", L + 1)] (by assumption) (by with_unfolding_all rfl) (by decide) rfl (by decide) rfl (by exact ⟨rfl, trivial⟩) (by intro _; with_unfolding_all rfl) ?_
  repeat walk_at "s"
  refine range_make (by assumption) fun r g1 s1 H1 hg1 hr1 => ?_
  refine iter_range (n := rest % 6) hh (by omega) H1 hr1 fun I oI S s2 W hS H2 => ⟨I, _, _, S, fun _ _ y => ∃ x u, y = .str x u ∧ x.length ≤ 1, g1, oI, rfl, W, by rw [sizeLine_eq]; omega, hS, H2, fun _ _ _ _ _ h => h, ?_, ?_⟩
  · rintro C i v g2 m3 s3 hi ⟨u, rfl⟩ hg2 hm3 H3
    repeat walk_at "s"
    refine newT (by assumption) ?_ (by rw [sizeLine_eq]; simp); intro tp s4 H4
    repeat walk_at "s"
    refine itemT5 (own_tup H4 (.head _)) (by omega) (by decide) (by decide) (by decide) (by decide) (by decide) fun p u2 hp hp2 => ?_
    repeat walk_at "s"
    have h16 : ∀ n : Nat, n % 16 < 16 := fun n => Nat.mod_lt _ (by decide)
    refine itemC (n := 16) (by assumption) (by rfl) (h16 _) (by decide) ?_; intro y ty s9 hy H9
    exact ⟨g2, H9.ret', _, _, rfl, hy⟩
  · intro D g2 s3 ys hg2 hl hlen hF H3
    obtain ⟨l, rfl, hlB⟩ := strs_of hF
    have hll : l.length ≤ 5 := by simp [strValues] at hlen; omega
    have hlB' : ∀ p ∈ l.map (·.1), p.length ≤ 1 := fun p hp => by
      obtain ⟨q, hq, rfl⟩ := List.mem_map.mp hp
      exact hlB q hq
    have hsum := sum_le hlB'
    rw [List.length_map] at hsum
    have h0 : (Str.ofString "").length = 0 := by rfl
    repeat walk_at "s"
    refine joinS H3 (IsList.keeps' hl H3.inv.sub) (by rw [h0]; omega) ?_
    intro word t' s4 _ hj H4
    rw [h0] at hj
    refine stR H4 hLo rfl ?_ rfl (by rfl); intro s5 H5
    repeat walk_at "s"
    refine split_bool (fun hb => ?_) (fun hb => ?_)
    · repeat walk_at "s"
      exact ⟨g2, St.ret' (by assumption), _, _, rfl, by decide⟩
    · repeat walk_at "s"
      refine upperS (by assumption) (by omega) ?_; intro t6 s6 H6
      repeat walk_at "s"
      refine split_bool (fun hb => ?_) (fun hb => ?_)
      · repeat walk_at "s"
        exact ⟨g2, St.ret' (by assumption), _, _, rfl, by decide⟩
      · repeat walk_at "s"
        exact ⟨g2, St.ret' (by assumption), _, _, rfl, by omega⟩
end

end
section
def Worth (kind : Nat) : V → Prop
  | .none => True
  | .int i => kind = 0 ∧ i.natAbs < 10 ^ 28
  | .str x => kind = 1 ∧ x.length ≤ 5
  | .bytes b => kind = 2 ∧ b.size ≤ 4
  | .bool _ => kind = 3
  | .list _ => False
section
variable {prog : Program} {w : World} {mg mb : Str → Option Value} {g : Heap}
theorem fn_law_worth {kind draw : Nat} {t u : Tok} (hk : kind < 4) (hdr : draw < 1000000000) : Fn prog w mg mb 817 [.int (kind : Int) t, .int (draw : Int) u] 2 g (fun g' v => ∃ d, Rep g' v d ∧ Worth kind d) := by
  refine enter [(Str.ofString "kind", .int (kind : Int) t), (Str.ofString "draw", .int (draw : Int) u)] rfl (by kernel_rfl) rfl rfl rfl rfl rfl ?_
  intro A s L s' hh hd hu I hLo hco H
  repeat walk_at "s"
  refine stRC (by assumption) (by rfl) (by rfl) (hco (Str.ofString "rest") _ (by rfl)) ?_ rfl (by rfl); intro s1 H1
  have hrb : draw / Int.toNat 5 < 1000000000 := Nat.lt_of_le_of_lt (Nat.div_le_self _ _) hdr
  generalize draw / Int.toNat 5 = rest at H1 hrb
  repeat walk_at "s"
  refine split_bool (fun hb => ?_) (fun hb => ?_)
  · repeat walk_at "s"
    exact ⟨g, St.ret' (by assumption), _, .none, trivial⟩
  repeat walk_at "s"
  refine split_bool (fun hb0 => ?_) (fun hb0 => ?_)
  · have hk0 : kind = 0 := by simpa using hb0
    repeat walk_at "s"
    refine split_bool (fun hb => ?_) (fun hb => ?_)
    · repeat walk_at "s"
      exact ⟨g, St.ret' (by assumption), _, .int _ _, hk0, Nat.lt_of_lt_of_le (by simpa using hrb) (by decide)⟩
    · repeat walk_at "s"
      refine mulS (by assumption) (IntMulOk.of_left (bits_small (by omega))) ?_; intro t5 s5 H5
      repeat walk_at "s"
      refine mulS (by assumption) (IntMulOk.of_right (bits_small (by omega))) ?_; intro t6 s6 H6
      repeat walk_at "s"
      refine ⟨g, St.ret' (by assumption), _, .int _ _, hk0, ?_⟩
      have h1 : (0 - (rest : Int) * rest * rest).natAbs = rest * rest * rest := by
        rw [Int.zero_sub, Int.natAbs_neg, Int.natAbs_mul, Int.natAbs_mul, Int.natAbs_natCast]
      rw [h1]
      have h2 : rest * rest ≤ 1000000000 * 1000000000 := Nat.mul_le_mul (by omega) (by omega)
      have h3 : rest * rest * rest ≤ 1000000000 * 1000000000 * 1000000000 := Nat.mul_le_mul h2 (by omega)
      exact Nat.lt_of_le_of_lt h3 (by decide)
  repeat walk_at "s"
  refine split_bool (fun hb1 => ?_) (fun hb1 => ?_)
  · have hk1 : kind = 1 := by simp at hb1; omega
    repeat walk_at "s"
    refine ⟨fnAt_of (by assumption) (by rfl), ?_⟩
    refine call_fn (by assumption) (fn_law_text hrb) hh (by omega) (by omega) fun v g3 s3 H3 hg3 hp => ?_
    obtain ⟨x, t3, rfl, hx⟩ := hp
    exact ⟨g3, H3.ret', _, .str _ _, hk1, hx⟩
  repeat walk_at "s"
  refine split_bool (fun hb2 => ?_) (fun hb2 => ?_)
  · have hk2 : kind = 2 := by simp at hb2; omega
    repeat walk_at "s"
    refine compR [(Str.ofString "rest", L + 1)] (by assumption) (by with_unfolding_all rfl) (by decide) rfl (by decide) rfl (by exact ⟨rfl, trivial⟩) (by intro _; with_unfolding_all rfl) ?_
    repeat walk_at "s"
    refine range_make (by assumption) fun r g1 s1 H1 hg1 hr1 => ?_
    refine iter_range (n := rest % 5) hh (by omega) H1 hr1 fun I oI S s2 W hS H2 => ⟨I, _, _, S, fun _ _ y => ∃ (n : Nat) (u : Tok), y = .int (n : Int) u ∧ n < 256, g1, oI, rfl, W, by rw [sizeLine_eq]; omega, hS, H2, fun _ _ _ _ _ h => h, ?_, ?_⟩
    · rintro C i v g2 m3 s3 hi ⟨u, rfl⟩ hg2 hm3 H3
      repeat walk_at "s"
      refine newT (by assumption) ?_ (by rw [sizeLine_eq]; simp); intro tp s4 H4
      repeat walk_at "s"
      refine itemT5 (own_tup H4 (.head _)) (by omega) (by decide) (by decide) (by decide) (by decide) (by decide) fun p u2 hp hp2 => ?_
      repeat walk_at "s"
      exact ⟨g2, St.ret' (by assumption), _, _, rfl, Nat.mod_lt _ (by decide)⟩
    · intro D g2 s3 ys hg2 hl hlen hF H3
      obtain ⟨ns, hi, hr, hnl⟩ := ints_of hF
      repeat walk_at "s"
      refine call_bytes_ints (IsList.keeps' hl H3.inv.sub) hi hr (by rw [hlen, sizeLine_eq]; omega) hh fun h' t' k hk' => ?_
      refine ⟨g2, St.ret' (H3.keepsL hk' hLo), _, .bytes _ _, hk2, ?_⟩
      unfold byteArr
      rw [List.size_toArray, List.length_map, hnl, hlen]; omega
  · repeat walk_at "s"
    refine ⟨g, St.ret' (by assumption), _, .bool _, ?_⟩
    simp at hb0 hb1 hb2
    show kind = 3
    omega
end

end
section
def SizesOk (ns : List Nat) : Prop := ns = [0] ∨ (1 ≤ ns.length ∧ ns.length ≤ 3 ∧ ∀ n ∈ ns, 1 ≤ n ∧ n ≤ 3)
def chunk (l : List V) (p k : Nat) : List V := (l.drop (k * p)).take p
noncomputable def shapedV : List Nat → List V → V
  | n :: m :: r, l => .list ((List.range n).map fun k => shapedV (m :: r) (chunk l (l.length / n) k))
  | _, l => .list l
section
variable {prog : Program} {w : World} {mg mb : Str → Option Value} {g : Heap}
theorem fn_law_sizes {head : Nat} {t : Tok} (hh' : head < 1000000000) : Fn prog w mg mb 829 [.int (head : Int) t] 1 g (fun g' v => ∃ ns, Rep g' v (.list (natsV ns)) ∧ SizesOk ns) := by
  refine enter [(Str.ofString "head", .int (head : Int) t)] rfl (by kernel_rfl) rfl rfl rfl rfl rfl ?_
  intro A s L s' hh hd hu I hLo hco H
  repeat walk_at "s"
  refine split_bool (fun hb => ?_) (fun hb => ?_)
  · repeat walk_at "s"
    refine newL (by assumption) ?_ (by rw [sizeLine_eq]; simp); intro a s1 H1
    obtain ⟨g2, hg2, ha, H2⟩ := H1.frz
    exact ⟨g2, H2.ret', [0], .list ⟨_, ha, rfl, _, rfl⟩ (.cons (.int _ _) .nil), .inl rfl⟩
  · repeat walk_at "s"
    refine newL (by assumption) ?_ (by rw [sizeLine_eq]; simp); intro a s1 H1
    repeat walk_at "s"
    refine sliceOwn (by assumption) (by rw [sizeLine_eq]; simp) .none (.int _ _) ?_; intro b s2 H2
    have e : (1 : Int) + ((head / Int.toNat 4 % Int.toNat 3 : Nat) : Int) = ((1 + head / Int.toNat 4 % Int.toNat 3 : Nat) : Int) := by generalize head / Int.toNat 4 % Int.toNat 3 = x; omega
    rw [e, slicePick_upto _ _ (by have h4 : head / Int.toNat 4 % Int.toNat 3 < 3 := Nat.mod_lt _ (by decide); show _ ≤ 3; omega)] at H2
    obtain ⟨g2, hg2, hb2, H3⟩ := H2.frz
    refine ⟨g2, H3.ret', [1 + head / Int.toNat 12 % Int.toNat 3, 1 + head / Int.toNat 36 % Int.toNat 3, 1 + head / Int.toNat 108 % Int.toNat 2].take (1 + head / Int.toNat 4 % Int.toNat 3), .list ⟨_, hb2, rfl, _, rfl⟩ ?_, .inr ?_⟩
    · have e1 : ∀ n : Nat, (1 : Int) + (n : Int) = Int.ofNat (1 + n) := fun n => by show _ = ((1 + n : Nat) : Int); omega
      unfold natsV
      rw [List.map_take]
      refine RepL.take ?_ _
      refine .cons ?_ (.cons ?_ (.cons ?_ .nil)) <;> rw [e1] <;> exact .int _ _
    · have h1 : head / Int.toNat 12 % Int.toNat 3 < 3 := Nat.mod_lt _ (by decide)
      have h2 : head / Int.toNat 36 % Int.toNat 3 < 3 := Nat.mod_lt _ (by decide)
      have h3 : head / Int.toNat 108 % Int.toNat 2 < 2 := Nat.mod_lt _ (by decide)
      have h4 : head / Int.toNat 4 % Int.toNat 3 < 3 := Nat.mod_lt _ (by decide)
      generalize head / Int.toNat 12 % Int.toNat 3 = x1 at *
      generalize head / Int.toNat 36 % Int.toNat 3 = x2 at *
      generalize head / Int.toNat 108 % Int.toNat 2 = x3 at *
      generalize head / Int.toNat 4 % Int.toNat 3 = x4 at *
      refine ⟨by rw [List.length_take]; simp; omega, by rw [List.length_take]; simp; omega, fun n hn => ?_⟩
      have := List.mem_of_mem_take hn
      simp at this
      omega
theorem fn_shaped_base {ns : List Nat} {g : Heap} {l : List V} {a b : Addr} (hn : ns.length < 2) (ra : Rep g (.ref a) (.list l)) (rb : Rep g (.ref b) (.list (natsV ns))) :
    Fn prog w mg mb 822 [.ref a, .ref b] (ns.length + 1) g (fun g' v => Rep g' v (shapedV ns l)) := by
  cases rb with
  | @list _ us _ hub rub =>
  have hul := rub.length
  rw [natsV, List.length_map] at hul
  refine enter [(Str.ofString "flat", .ref a), (Str.ofString "sizes", .ref b)] rfl (by kernel_rfl) rfl rfl rfl rfl rfl ?_
  intro A s L s' hh hd hu I hLo hco H
  repeat walk_at "s"
  refine lenL (by assumption) (IsList.keeps' hub H.inv.sub) (by rw [List.size_toArray, hul]; omega) ?_; intro t1 s1 H1
  repeat walk_at "s"
  rw [decide_eq_true (by rw [List.size_toArray, hul]; omega)]
  repeat walk_at "s"
  refine ⟨g, St.ret' (by assumption), ?_⟩
  match ns, hn with
  | [], _ => exact ra
  | [_], _ => exact ra
theorem fn_law_shaped : ∀ (ns : List Nat) (g : Heap) (l : List V) (a b : Addr), ns.length ≤ 3 → (2 ≤ ns.length → ∀ n ∈ ns, 1 ≤ n ∧ n ≤ 3) → l.length ≤ 27 → Rep g (.ref a) (.list l) → Rep g (.ref b) (.list (natsV ns)) →
    Fn prog w mg mb 822 [.ref a, .ref b] (ns.length + 1) g (fun g' v => Rep g' v (shapedV ns l)) := by
  intro ns
  induction ns with
  | nil => intro g l a b _ _ _ ra rb; exact fn_shaped_base (by decide) ra rb
  | cons n r ih =>
  intro g l a b hn3 hn hl ra rb
  cases r with
  | nil => exact fn_shaped_base (by simp) ra rb
  | cons n2 r2 =>
  have hn' := hn (by simp) n (.head _)
  have hnr : ∀ x ∈ n2 :: r2, 1 ≤ x ∧ x ≤ 3 := fun x hx => hn (by simp) x (.tail _ hx)
  have ra0 := ra
  have rb0 := rb
  cases ra with
  | @list _ vs _ hva rva =>
  cases rb with
  | @list _ us _ hub rub =>
  have hul := rub.length
  rw [natsV, List.length_map] at hul
  have hvl := rva.length
  obtain ⟨u0, hu0⟩ := rub.nat (i := 0) (n := n) rfl
  refine enter [(Str.ofString "flat", .ref a), (Str.ofString "sizes", .ref b)] rfl (by kernel_rfl) rfl rfl rfl rfl rfl ?_
  intro A s L s' hh hd hu I hLo hco H
  repeat walk_at "s"
  simp only [List.length_cons] at hn3 hul hd hu
  refine lenG (n := r2.length + 2) (by assumption) hub (by rw [List.size_toArray, hul]) (by omega) ?_; intro t1 s1 H1
  repeat walk_at "s"
  rw [decide_eq_false (by omega)]
  repeat walk_at "s"
  refine lenG (n := l.length) (by assumption) hva (by rw [List.size_toArray, hvl]) (by omega) ?_; intro t2 s2 H2
  repeat walk_at "s"
  refine itemG (by assumption) hub (by rfl) hu0 (by omega) ?_
  repeat walk_at "s"
  refine stRC (by assumption) (by rfl) (by rfl) (hco (Str.ofString "part") _ (by rfl)) ?_ rfl (by rfl); intro s3 H3
  have htn : (n : Int).toNat = n := by simp
  rw [htn] at H3
  have hpn : n * (l.length / n) ≤ l.length := Nat.mul_div_le _ _
  generalize hpart : l.length / n = part at H3 hpn
  have hpl : part ≤ 27 := by rw [← hpart]; exact Nat.le_trans (Nat.div_le_self _ _) hl
  repeat walk_at "s"
  refine compR [(Str.ofString "sizes", L + 2), (Str.ofString "part", L + 3), (Str.ofString "flat", L + 1)] (by assumption) (by with_unfolding_all rfl) (by decide) rfl (by decide) rfl (by exact ⟨rfl, rfl, rfl, trivial⟩) (by intro _; with_unfolding_all rfl) ?_
  repeat walk_at "s"
  refine itemG (by assumption) hub (by rfl) hu0 (by omega) ?_
  repeat walk_at "s"
  refine range_make (by assumption) fun r g1 s4 H4 hg1 hr1 => ?_
  refine iter_range (n := n) hh (by omega) H4 hr1 fun I oI S s5 W hS H5 => ⟨I, _, _, S, fun i g y => Rep g y (shapedV (n2 :: r2) (chunk l part i)), g1, oI, rfl, W, by rw [sizeLine_eq]; omega, hS, H5, fun _ _ _ _ hk r => r.keeps hk, ?_, ?_⟩
  · rintro C i v g2 m3 s6 hi ⟨u, rfl⟩ hg2 hm3 H6
    have hva2 : g2.IsList a vs.toArray := IsList.keeps' hva fun b o e => hg2 b o (hg1 b o e)
    have hub2 : g2.IsList b us.toArray := IsList.keeps' hub fun b o e => hg2 b o (hg1 b o e)
    have hb1 : (i + 1) * part ≤ l.length := Nat.le_trans (Nat.mul_le_mul_right _ hi) hpn
    have hip : i * part ≤ (i + 1) * part := Nat.mul_le_mul_right _ (Nat.le_succ _)
    repeat walk_at "s"
    refine mulS (by assumption) (IntMulOk.of_left (bits_small (by omega))) ?_; intro t7 s7 H7
    repeat walk_at "s"
    rw [show (i : Int) + 1 = ((i + 1 : Nat) : Int) by omega]
    refine mulS (by assumption) (IntMulOk.of_left (bits_small (by omega))) ?_; intro t8 s8 H8
    repeat walk_at "s"
    refine sliceG (by assumption) hva2 (by rw [List.size_toArray, hvl]; omega) (.int _ _) (.int _ _) ?_; intro b1 s9 H9
    rw [show (i : Int) * (part : Int) = ((i * part : Nat) : Int) by push_cast; rfl, show ((i + 1 : Nat) : Int) * (part : Int) = (((i + 1) * part : Nat) : Int) by push_cast; rfl, slicePick_run _ _ _ (by rw [List.size_toArray, hvl]; exact hb1) hip] at H9
    repeat walk_at "s"
    refine sliceG (by assumption) hub2 (by rw [List.size_toArray, hul]; omega) (.int _ _) .none ?_; intro b2 s10 H10
    rw [show (1 : Int) = ((1 : Nat) : Int) by rfl, slicePick_from _ _ (by rw [List.size_toArray, hul]; omega)] at H10
    repeat walk_at "s"
    obtain ⟨g3, hg3, hb3, H11⟩ := H10.frz
    obtain ⟨g4, hg4, hb4, H12⟩ := H11.frz
    have hsub : (i + 1) * part - i * part = part := by rw [Nat.succ_mul]; omega
    rw [hsub] at hb4
    have k14 : ∀ b o, g.get? b = some o → g4.get? b = some o := fun b o e => hg4 b o (hg3 b o (hg2 b o (hg1 b o e)))
    refine ⟨fnAt_of H12 (by rfl), ?_⟩
    refine call_fn H12 (ih g4 (chunk l part i) b1 b2 (by simp; omega) (fun _ => hnr) (by unfold chunk; rw [List.length_take]; omega) (.list ⟨_, hb4, rfl, _, rfl⟩ (((rva.keeps k14).drop _).take _)) (.list ⟨_, hg4 _ _ hb3, rfl, _, rfl⟩ ((rub.keeps k14).drop 1))) hh (by simp; omega) (by simp; omega) fun v g5 s13 H13 hg5 p => ?_
    exact ⟨g5, H13.ret', p⟩
  · intro D g2 s6 ys hg2 hl2 hlen hF H6
    refine ⟨g2, H6.ret', ?_⟩
    show Rep g2 (.ref D) (.list ((List.range n).map fun k => shapedV (n2 :: r2) (chunk l (l.length / n) k)))
    rw [hpart]
    exact .list hl2 (repL_of hlen hF)
end

end
section
noncomputable def prodN : List Nat → Nat
  | [] => 1
  | n :: r => n * prodN r
theorem prodN_snoc : ∀ (l : List Nat) (n : Nat), prodN (l ++ [n]) = prodN l * n
  | [], n => by simp [prodN]
  | m :: r, n => by rw [List.cons_append, prodN, prodN, prodN_snoc r n, Nat.mul_assoc]
theorem prod_le : ∀ (l : List Nat), (∀ n ∈ l, n ≤ 3) → prodN l ≤ 3 ^ l.length
  | [], _ => Nat.le_refl _
  | m :: r, h => by
    have h1 := h m (.head _)
    have h2 := prod_le r fun n hn => h n (.tail _ hn)
    rw [prodN, List.length_cons, Nat.pow_succ, Nat.mul_comm]
    exact Nat.mul_le_mul h2 h1
theorem prod_small {ns : List Nat} (h1 : ns.length ≤ 3) (h : ∀ n ∈ ns, n ≤ 3) (k : Nat) : prodN (ns.take k) ≤ 27 := by
  refine Nat.le_trans (prod_le _ fun n hn => h n (List.mem_of_mem_take hn)) ?_
  exact Nat.le_trans (Nat.pow_le_pow_right (by decide) (show (ns.take k).length ≤ 3 by rw [List.length_take]; omega)) (by decide)
theorem SizesOk.len {ns : List Nat} (h : SizesOk ns) : 1 ≤ ns.length ∧ ns.length ≤ 3 ∧ ∀ n ∈ ns, n ≤ 3 := by
  rcases h with rfl | ⟨h1, h2, h3⟩
  · exact ⟨by decide, by decide, by decide⟩
  · exact ⟨h1, h2, fun n hn => (h3 n hn).2⟩
section
variable {prog : Program} {w : World} {mg mb : Str → Option Value} {g : Heap}
theorem fn_law_flat {nums ns : List Nat} {kind : Nat} {t : Tok} {a b : Addr} (hk : kind < 4) (hn : 2 ≤ nums.length) (hn2 : nums.length ≤ 20) (hnum : ∀ n ∈ nums, n < 1000000000) (hns : SizesOk ns) (ra : Rep g (.ref a) (.list (natsV nums))) (rb : Rep g (.ref b) (.list (natsV ns))) :
    Fn prog w mg mb 834 [.ref a, .int (kind : Int) t, .ref b] 3 g (fun g' v => ∃ ds, Rep g' v (.list ds) ∧ ds.length = prodN ns ∧ ∀ d ∈ ds, Worth kind d) := by
  cases ra with
  | @list _ vs _ hva rva =>
  cases rb with
  | @list _ us _ hub rub =>
  have hul := rub.length
  rw [natsV, List.length_map] at hul
  have hvl := rva.length
  rw [natsV, List.length_map] at hvl
  have hsl := hns.len
  refine enter [(Str.ofString "numbers", .ref a), (Str.ofString "kind", .int (kind : Int) t), (Str.ofString "sizes", .ref b)] rfl (by kernel_rfl) rfl rfl rfl rfl rfl ?_
  intro A s L s' hh hd hu I hLo hco H
  repeat walk_at "s"
  refine Assign_Tuple ?_
  repeat walk_at "s"
  refine sliceG (by assumption) hva (by rw [List.size_toArray, hvl]; omega) (.int _ _) .none ?_; intro f0 s1 H1
  rw [show (1 : Int) = ((1 : Nat) : Int) by rfl, slicePick_from _ _ (by rw [List.size_toArray, hvl]; omega)] at H1
  repeat walk_at "s"
  refine newT (by assumption) ?_ (by rw [sizeLine_eq]; simp); intro tp s2 H2
  refine wpAny_assign_Tuple hh (own_tup H2 (.head _)) (by rfl) (by rfl) fun h3 hx3 => ?_
  have H3 := H2.keepsL (h' := h3) (fun b ob e => hx3 b ob (Nat.ne_of_lt (Heap.lt_size e)) e) hLo
  obtain ⟨g1, hg1, hf1, H4⟩ := H3.tail.frz
  have hfl : g1.IsList f0 (vs.drop 1).toArray := ⟨_, hf1, rfl, _, rfl⟩
  have rfu : RepL g1 (vs.drop 1) (natsV (nums.drop 1)) := by
    have := (rva.keeps hg1).drop 1
    unfold natsV at this ⊢
    rwa [List.map_drop]
  have hfn : (vs.drop 1).length = nums.length - 1 := by rw [List.length_drop, hvl]
  have hub1 := IsList.keeps' hub hg1
  refine assignInOrder_cons (PyProof.Rows.assign_Name (stR H4 hLo rfl ?_ rfl (by rfl))); intro s5 H5
  refine assignInOrder_cons (PyProof.Rows.assign_Name (stRC H5 (by rfl) (by rfl) (hco (Str.ofString "further") _ (by rfl)) ?_ rfl (by rfl))); intro s6 H6
  refine wpAny_pure ?_
  repeat walk_at "s"
  refine forR H6 hLo (by intro _; with_unfolding_all rfl) ?_
  repeat walk_at "s"
  refine iter_list hh H6 hub1 fun I oI s7 W hS H7 => ⟨I, us.toArray.size, _, _, g1, oI, _, _, _, fun i _ m c own => own = [] ∧ (∃ t, m (Str.ofString "many") = some (.int ((prodN (ns.take i) : Nat) : Int) t)) ∧ c (Str.ofString "kind") = some (.int (kind : Int) t) ∧ c (Str.ofString "further") = some (.ref f0), rfl, W, hS, H7, ⟨rfl, ⟨_, rfl⟩, rfl, rfl⟩, ?_, ?_⟩
  · rintro i v g' m' cm' own' oI' s8 hi hP hg' ⟨rfl, ⟨t8, hm8⟩, hc1, hc2⟩ H8
    have hi' : i < ns.length := by rw [List.size_toArray, hul] at hi; exact hi
    obtain ⟨u, hu⟩ := rub.nat (i := i) (n := ns[i]) (by simp [hi'])
    have hv : v = .int ((ns[i] : Nat) : Int) u := by
      have e : us[i]? = some v := by simpa using hP
      rw [hu] at e; exact (Option.some.inj e).symm
    subst hv
    have hp1 := prod_small hsl.2.1 hsl.2.2 i
    have htk : ns.take (i + 1) = ns.take i ++ [ns[i]] := by rw [List.take_succ]; simp [hi']
    refine PyProof.Rows.assign_Name (stR H8 hLo rfl ?_ rfl (by rfl)); intro s9 H9
    repeat walk_at "s"
    refine wpAny_AugAssign_Name (nmLn H9 rfl (by first | rfl | assumption) ?_ rfl (by rfl))
    repeat walk_at "s"
    refine imul_int ?_ (IntMulOk.of_left (bits_small (by omega)))
    refine stR (s := { s9 with toks := _ }) H9 hLo rfl ?_ rfl (by rfl); intro s10 H10
    repeat walk_at "s"
    refine ⟨rfl, g', _, cm', _, fun _ _ e => e, ⟨rfl, ⟨s9.toks, ?_⟩, hc1, hc2⟩, H10⟩
    show some (Value.int (((prodN (ns.take i) : Nat) : Int) * ((ns[i] : Nat) : Int)) _) = _
    rw [htk, prodN_snoc]; push_cast; rfl
  · rintro g' m' cm' own' s8 hg' ⟨rfl, ⟨t8, hm8⟩, hc1, hc2⟩ H8
    rw [List.size_toArray, hul, List.take_of_length_le (Nat.le_refl _)] at hm8
    have hp1 := prod_small hsl.2.1 hsl.2.2 ns.length
    rw [List.take_of_length_le (Nat.le_refl _)] at hp1
    have hfl' := IsList.keeps' hfl hg'
    repeat walk_at "s"
    refine compR [(Str.ofString "kind", L + 1), (Str.ofString "further", L + 2)] (by assumption) (by with_unfolding_all rfl) (by decide) rfl (by decide) rfl (by exact ⟨rfl, rfl, trivial⟩) (by intro _; with_unfolding_all rfl) ?_
    repeat walk_at "s"
    refine range_make (by assumption) fun r g2 s9 H9 hg2 hr2 => ?_
    refine iter_range (n := prodN ns) hh (by omega) H9 hr2 fun I oI S s10 W hS H10 => ⟨I, _, _, S, fun i g y => ∃ d, Rep g y d ∧ Worth kind d, g2, oI, rfl, W, by rw [sizeLine_eq]; omega, hS, H10, fun _ _ _ _ hk ⟨d, r, w⟩ => ⟨d, r.keeps hk, w⟩, ?_, ?_⟩
    · rintro C i v g3 m3 s11 hi ⟨u, rfl⟩ hg3 hm3 H11
      have hfl3 : g3.IsList f0 (vs.drop 1).toArray := IsList.keeps' hfl' fun b o e => hg3 b o (hg2 b o e)
      repeat walk_at "s"
      refine lenG (n := nums.length - 1) (by assumption) hfl3 (by rw [List.size_toArray, hfn]) (by omega) ?_; intro t12 s12 H12
      repeat walk_at "s"
      have hlt : i % (((nums.length - 1 : Nat) : Int)).toNat < (nums.drop 1).length := by rw [List.length_drop]; simp; exact Nat.mod_lt _ (by omega)
      obtain ⟨u2, hu2⟩ := rfu.nat (i := i % (((nums.length - 1 : Nat) : Int)).toNat) (n := (nums.drop 1)[i % (((nums.length - 1 : Nat) : Int)).toNat]) (by simp [hlt])
      have hnb := hnum _ (List.mem_of_mem_drop (List.getElem_mem hlt))
      generalize (nums.drop 1)[i % (((nums.length - 1 : Nat) : Int)).toNat] = dr at hu2 hnb
      refine itemG (by assumption) hfl3 rfl hu2 (by omega) ?_
      repeat walk_at "s"
      refine lenG (n := nums.length - 1) (by assumption) hfl3 (by rw [List.size_toArray, hfn]) (by omega) ?_; intro t13 s13 H13
      repeat walk_at "s"
      have hdl : i / (((nums.length - 1 : Nat) : Int)).toNat ≤ i := Nat.div_le_self _ _
      have hnn : (0 : Int) ≤ ((i / (((nums.length - 1 : Nat) : Int)).toNat : Nat) : Int) := Int.natCast_nonneg _
      refine divS (by assumption) (by omega) (by omega) ?_; intro t14 s14 H14
      repeat walk_at "s"
      refine ⟨fnAt_of H14 (by rfl), ?_⟩
      refine call_fn H14 (fn_law_worth hk (Nat.lt_of_le_of_lt (Nat.div_le_self _ _) hnb)) hh (by omega) (by omega) fun v g4 s15 H15 hg4 hp => ?_
      exact ⟨g4, H15.ret', hp⟩
    · intro D g3 s11 ys hg3 hl3 hlen hF H11
      obtain ⟨ds, hrs, hdl, hws⟩ := repL_ex hF
      exact ⟨g3, H11.ret', ds, .list hl3 hrs, hdl.trans hlen, hws⟩
end

end
section

def wordOf : V → Str
  | .int i => Str.ofString (toString i)
  | .str x => x
  | .bytes b => Str.ofString "\\x" ++ FH.hexText b
  | .bool b => if b then Str.ofString "t" else Str.ofString "f"
  | _ => Str.empty
theorem hex_item : ∀ k : Nat, k < 16 → Txt.item (Str.ofString "0123456789abcdef") (k : Int) = ⟨#[Builtin.Bytes.hexDigit k]⟩ :=
  FH.hex16 (by rfl) (by rfl) (by rfl) (by rfl) (by rfl) (by rfl) (by rfl) (by rfl) (by rfl) (by rfl) (by rfl) (by rfl) (by rfl) (by rfl) (by rfl) (by rfl)
theorem join_hex : ∀ l : List UInt8, Str.join ⟨#[]⟩ (l.map fun c => (⟨(FH.pairOf c).toArray⟩ : Str)) = ⟨(FH.hexCodes l).toArray⟩
  | [] => rfl
  | c :: r => by
    rw [List.map_cons, join_nil_cons, join_hex r]
    show (⟨(FH.pairOf c).toArray ++ (FH.hexCodes r).toArray⟩ : Str) = ⟨(FH.pairOf c ++ FH.hexCodes r).toArray⟩
    simp
section
variable {prog : Program} {w : World} {mg mb : Str → Option Value} {g : Heap}
theorem itemX {o : Shared} {g₀ : Heap} {L : Addr} {m cm : Str → Option Value} {cl : List (Str × Addr)} {own : List (Addr × Obj)} {A : Around} {E : Value → Shared → Prop} {s : Shared} {value slice : Expr} {t : Tok} {k : Nat} {u : Tok} {Q : Value → Shared → Prop} (H : St w mg mb o g₀ g L m cl cm own s.heap s.gens s.os) (hk : k < 16)
    (h : ∀ t s', St w mg mb o g₀ g L m cl cm own s'.heap s'.gens s'.os → Q (.str ⟨#[Builtin.Bytes.hexDigit k]⟩ t) s')
    (hs : subscripted slice false (.str (Str.ofString "0123456789abcdef") t) (.int (k : Int) u) = operate [.str (Str.ofString "0123456789abcdef") t, .int (k : Int) u] (getItem (.str (Str.ofString "0123456789abcdef") t) (.int (k : Int) u)) := by with_unfolding_all rfl)
    (ht : ∀ r, letTemporaryGo value (.str (Str.ofString "0123456789abcdef") t) r = pure () := by intro _; with_unfolding_all rfl) :
    wpAny (model prog w) A (subscriptTail value slice (.str (Str.ofString "0123456789abcdef") t) (.int (k : Int) u)) Q E s := by
  refine item_str (fits_small (by omega)) (by omega) (by show (k : Int) < ((16 : Nat) : Int); omega) (fun hl => ?_) hs ht
  rw [hex_item k hk]
  exact h _ { s with toks := _ } H
theorem fn_law_word {kind : Nat} {t : Tok} {v : Value} {d : V} (hr : Rep g v d) (hw : Worth kind d) (hn : d ≠ .none) : Fn prog w mg mb 839 [.int (kind : Int) t, v] 1 g (fun _ v => ∃ t, v = .str (wordOf d) t) := by
  refine enter [(Str.ofString "kind", .int (kind : Int) t), (Str.ofString "worth", v)] rfl (by kernel_rfl) rfl rfl rfl rfl rfl ?_
  intro A s L s' hh hd hu I hLo hco H
  repeat walk_at "s"
  cases hr with
  | none => exact absurd rfl hn
  | list h r => exact hw.elim
  | bool b =>
    replace hw : kind = 3 := hw
    subst hw
    repeat walk_at "s"
    rw [show (((3 : Nat) : Int) == 2) = false by rfl]
    repeat walk_at "s"
    rw [show (((3 : Nat) : Int) == 3) = true by rfl]
    repeat walk_at "s"
    cases b <;> (repeat walk_at "s") <;> exact ⟨g, St.ret' (by assumption), _, rfl⟩
  | int i u =>
    obtain ⟨rfl, hi⟩ := hw
    repeat walk_at "s"
    rw [show (((0 : Nat) : Int) == 2) = false by rfl]
    repeat walk_at "s"
    rw [show (((0 : Nat) : Int) == 3) = false by rfl]
    repeat walk_at "s"
    rw [show (((0 : Nat) : Int) == 1) = false by rfl]
    repeat walk_at "s"
    refine P.str_of_int (log2_lt (Nat.lt_of_lt_of_le hi (by decide))) ?_
    exact ⟨g, St.ret' (by assumption), _, rfl⟩
  | str x u =>
    obtain ⟨rfl, hx⟩ := hw
    repeat walk_at "s"
    rw [show (((1 : Nat) : Int) == 2) = false by rfl]
    repeat walk_at "s"
    rw [show (((1 : Nat) : Int) == 3) = false by rfl]
    repeat walk_at "s"
    rw [show (((1 : Nat) : Int) == 1) = true by rfl]
    repeat walk_at "s"
    exact ⟨g, St.ret' (by assumption), _, rfl⟩
  | bytes b u =>
    obtain ⟨rfl, hb⟩ := hw
    repeat walk_at "s"
    rw [show (((2 : Nat) : Int) == 2) = true by rfl]
    repeat walk_at "s"
    refine compR [] (by assumption) (by with_unfolding_all rfl) (by decide) rfl (by decide) rfl (by exact trivial) (by intro _; with_unfolding_all rfl) ?_
    repeat walk_at "s"
    refine iter_bytes hh (by assumption) fun I oI S s2 W hS H2 => ⟨I, _, _, S, fun i _ y => ∃ c u, b[i]? = some c ∧ y = .str ⟨(FH.pairOf c).toArray⟩ u, g, oI, rfl, W, by rw [sizeLine_eq]; omega, hS, H2, fun _ _ _ _ _ h => h, ?_, ?_⟩
    · rintro C i v g2 m3 s3 hi ⟨c, u2, hc, rfl⟩ hg2 hm3 H3
      have hc256 : c.toNat < 256 := c.toNat_lt
      repeat walk_at "s"
      refine itemX (by assumption) (by show c.toNat / 16 < 16; omega) ?_; intro t4 s4 H4
      repeat walk_at "s"
      refine itemX (by assumption) (Nat.mod_lt _ (by decide)) ?_; intro t5 s5 H5
      refine addStrS (by assumption) (by show 1 + 1 ≤ _; decide) ?_; intro t6 s6 H6
      exact ⟨g2, H6.ret', c, _, hc, rfl⟩
    · intro D g2 s3 ys hg2 hl hlen hF H3
      obtain ⟨l, rfl, hl2⟩ := strs_list (xs := b.toList) (f := fun c => (⟨(FH.pairOf c).toArray⟩ : Str)) (by rw [hlen, Array.length_toList]) (fun i y e => by
        obtain ⟨c, u, hc, e2⟩ := hF i y e
        exact ⟨c, u, by rw [Array.getElem?_toList]; exact hc, e2⟩) (ys := ys)
      have hll : l.length = b.size := by have := congrArg List.length hl2; simpa using this
      have h0 : (Str.ofString "").length = 0 := by rfl
      have hsum := sum_le (B := 2) (l := l.map (·.1)) (by
        rw [hl2]; intro p hp
        obtain ⟨c, _, rfl⟩ := List.mem_map.mp hp
        exact Nat.le_refl 2)
      rw [List.length_map] at hsum
      repeat walk_at "s"
      refine joinS (by assumption) (IsList.keeps' hl H3.inv.sub) (by rw [h0]; omega) ?_
      intro x t4 s4 hx hxl H4
      rw [hl2, show Str.ofString "" = ⟨#[]⟩ by rfl, join_hex] at hx
      subst hx
      refine addStrS (by assumption) (by rw [show (Str.ofString "\\x").length = 2 by rfl]; rw [h0] at hxl; omega) ?_; intro t6 s6 H6
      exact ⟨g2, H6.ret', _, rfl⟩
end

end
section

def escOne (c : Nat) : Str := if c = 92 ∨ c = 34 then ⟨#[92, c]⟩ else ⟨#[c]⟩
theorem join_esc : ∀ l : List Nat, Str.join ⟨#[]⟩ (l.map escOne) = txt (escL l)
  | [] => rfl
  | c :: r => by
    rw [List.map_cons, join_nil_cons, join_esc r]
    have h : escL (c :: r) = (if c = 92 ∨ c = 34 then [92, c] else [c]) ++ escL r := by simp [escL]
    rw [h]
    unfold escOne txt
    split
    · show (⟨#[92, c] ++ (escL r).toArray⟩ : Str) = _; simp
    · show (⟨#[c] ++ (escL r).toArray⟩ : Str) = _; simp
def lawSigns : List Str := ["\"", "\\", "{", "}", ",", " ", "\t", "\n", "\r", "\x0b", "\x0c"].map Str.ofString
inductive Laid : Str → V → Prop
  | null : Laid (Str.ofString "NULL") .none
  | bare {d : V} (h : d ≠ .none) (h0 : wordOf d ≠ Str.empty) (hN : wordOf d ≠ Str.ofString "NULL") (hs : ∀ x ∈ lawSigns, Txt.contains (wordOf d) x = false) : Laid (wordOf d) d
  | quoted {d : V} (h : d ≠ .none) : Laid (Str.ofString "\"" ++ txt (escL (wordOf d).cps.toList) ++ Str.ofString "\"") d
theorem wordOf_len {kind : Nat} {d : V} (h : Worth kind d) : (wordOf d).length ≤ 101 := by
  cases d with
  | int i => exact int_len (Nat.lt_of_lt_of_le h.2 (Nat.pow_le_pow_right (by decide) (by decide)))
  | str x => exact Nat.le_trans h.2 (by decide)
  | bytes b =>
    show (Str.ofString "\\x" ++ FH.hexText b).length ≤ 101
    rw [sizes_str, hexText_len, show (Str.ofString "\\x").length = 2 by rfl]
    have := h.2; omega
  | bool b => cases b <;> decide
  | none => decide
  | list l => exact h.elim
section
variable {prog : Program} {w : World} {mg mb : Str → Option Value} {g : Heap}
theorem fn_law_laid {kind : Nat} {t : Tok} {v : Value} {d : V} {q : Bool} (hr : Rep g v d) (hw : Worth kind d) : Fn prog w mg mb 844 [.int (kind : Int) t, v, .bool q] 2 g (fun _ v => ∃ x t, v = .str x t ∧ Laid x d ∧ x.length ≤ 204) := by
  refine enter [(Str.ofString "kind", .int (kind : Int) t), (Str.ofString "worth", v), (Str.ofString "quoted", .bool q)] rfl (by kernel_rfl) rfl rfl rfl rfl rfl ?_
  intro A s L s' hh hd hu I hLo hco H
  repeat walk_at "s"
  by_cases hdn : d = .none
  · subst hdn
    cases hr
    refine is_none_none ?_
    repeat walk_at "s"
    exact ⟨g, St.ret' (by assumption), _, _, rfl, .null, by decide⟩
  refine isNoneF hr hdn ?_
  repeat walk_at "s"
  refine ⟨fnAt_of (by assumption) (by rfl), ?_⟩
  refine call_fn (by assumption) (fn_law_word hr hw hdn) hh (by omega) (by omega) fun v g2 s2 H2 hg2 hp => ?_
  obtain ⟨t2, rfl⟩ := hp
  have hwl := wordOf_len hw
  refine stRC (by assumption) (by rfl) (by rfl) (hco (Str.ofString "word") _ (by rfl)) ?_ rfl (by rfl); intro s3 H3
  refine wpAny_execs_cons (wpAny_If (wpAny_mono (Q := fun b s4 => (b = false → wordOf d ≠ Str.empty ∧ wordOf d ≠ Str.ofString "NULL" ∧ ∀ x ∈ lawSigns, Txt.contains (wordOf d) x = false) ∧ ∃ g4, St w mg mb s g g4 L (bindL (fun x => List.lookup x [(Str.ofString "kind", NameKind.local), (Str.ofString "worth", NameKind.local), (Str.ofString "quoted", NameKind.local), (Str.ofString "word", NameKind.cell)]) [(Str.ofString "kind", .int (kind : Int) t), (Str.ofString "worth", v), (Str.ofString "quoted", .bool q)] fun _ => none) [(Str.ofString "word", L + 1)] (fun y => if y = Str.ofString "word" then some (.str (wordOf d) t2) else none) [] s4.heap s4.gens s4.os) (E := fun _ _ => False) ?_ (fun b s4 h4 => ?_) fun _ _ x => x))
  · repeat walk_at "s"
    refine split_bool (fun hb => ?_) (fun hb => ?_)
    · exact ⟨fun e => (nomatch e), g2, by assumption⟩
    repeat walk_at "s"
    refine upperS (by assumption) (by omega) ?_; intro t6 s6 H6
    repeat walk_at "s"
    refine newT (by assumption) ?_ (by rw [sizeLine_eq]; simp); intro tp s7 H7
    refine in_tuple_strs (own_tup H7 (.head _)) (.cons _ _ (.cons _ _ .nil)) ?_
    replace H7 := H7.tail
    repeat walk_at "s"
    refine split_bool (fun hb2 => ?_) (fun hb2 => ?_)
    · exact ⟨fun e => (nomatch e), g2, by assumption⟩
    have hne : wordOf d ≠ Str.empty ∧ wordOf d ≠ Str.ofString "NULL" := by
      refine ⟨fun e => ?_, fun e => ?_⟩
      · rw [e, show ([Str.ofString "", Str.ofString "NULL"].any fun y => y == Txt.upper Str.empty) = true by decide +kernel] at hb2
        cases hb2
      · rw [e, show ([Str.ofString "", Str.ofString "NULL"].any fun y => y == Txt.upper (Str.ofString "NULL")) = true by decide +kernel] at hb2
        cases hb2
    repeat walk_at "s"
    refine compR [(Str.ofString "word", L + 1)] (by assumption) (by with_unfolding_all rfl) (by decide) rfl (by decide) rfl (by exact ⟨rfl, trivial⟩) (by intro _; with_unfolding_all rfl) ?_
    repeat walk_at "s"
    refine newTS (ys := lawSigns) (by assumption) (by exact .cons _ _ (.cons _ _ (.cons _ _ (.cons _ _ (.cons _ _ (.cons _ _ (.cons _ _ (.cons _ _ (.cons _ _ (.cons _ _ (.cons _ _ .nil))))))))))) (by decide) ?_; intro us tp2 s8 hsa hul H8
    replace hul : us.length = 11 := hul
    obtain ⟨g3, hg3, htp, H9⟩ := H8.frz
    refine iter_tuple hh H9 ⟨_, htp, rfl, _, rfl⟩ fun I oI s10 W hS H10 => ⟨I, _, _, _, fun i _ y => ∃ x, lawSigns[i]? = some x ∧ y = .bool (Txt.contains (wordOf d) x), g3, oI, rfl, W, by rw [sizeLine_eq, List.size_toArray, hul]; decide, hS, H10, fun _ _ _ _ _ h => h, ?_, ?_⟩
    · rintro C i v g4 m3 s11 hi hP hg4 hm3 H11
      obtain ⟨x, u, hx, rfl⟩ := strsAre_get hsa (i := i) (by simpa using hP)
      repeat walk_at "s"
      refine P.in_str ?_
      exact ⟨g4, St.ret' (by assumption), x, hx, rfl⟩
    · intro D g4 s11 ys hg4 hl4 hlen hF H11
      repeat walk_at "s"
      refine anyL (tr := fun i => Txt.contains (wordOf d) (lawSigns.getD i Str.empty)) hh hLo (by assumption) hl4 (fun i y e => by
        obtain ⟨x, hx, rfl⟩ := hF i y e
        simp [List.getD, hx]) ?_; intro s12 H12
      repeat walk_at "s"
      refine split_bool (fun hb3 => ?_) (fun hb3 => ?_)
      · exact ⟨fun e => (nomatch e), g4, by assumption⟩
      repeat walk_at "s"
      refine ⟨fun _ => ⟨hne.1, hne.2, fun x hx => ?_⟩, g4, by assumption⟩
      obtain ⟨i, hi⟩ := List.getElem?_of_mem hx
      have hlt : i < 11 := by
        have := (List.getElem?_eq_some_iff.mp hi).1
        simpa [lawSigns] using this
      have hy : ys.length = 11 := by rw [hlen, List.size_toArray, hul]
      rw [hy] at hb3
      have := List.any_eq_false.mp hb3 i (List.mem_range.mpr hlt)
      simpa [List.getD, hi] using this
  · obtain ⟨hb, g4, H4⟩ := h4
    cases b
    · repeat walk_at "s"
      obtain ⟨h0, hN, hsg⟩ := hb rfl
      exact ⟨g4, St.ret' (by assumption), _, _, rfl, .bare hdn h0 hN hsg, by omega⟩
    · repeat walk_at "s"
      refine compR [] (by assumption) (by with_unfolding_all rfl) (by decide) rfl (by decide) rfl (by exact trivial) (by intro _; with_unfolding_all rfl) ?_
      repeat walk_at "s"
      have hsz : (wordOf d).cps.size ≤ 101 := hwl
      refine iter_str hh (by assumption) fun I oI S s5 W hS H5 => ⟨I, _, _, S, fun i _ y => ∃ c u, (wordOf d).cps.toList[i]? = some c ∧ y = .str (escOne c) u, g4, oI, rfl, W, by rw [sizeLine_eq]; omega, hS, H5, fun _ _ _ _ _ h => h, ?_, ?_⟩
      · rintro C i v g5 m3 s6 hi ⟨c, u, hc, rfl⟩ hg5 hm3 H6
        have hc' : (wordOf d).cps.toList[i]? = some c := by rw [Array.getElem?_toList]; exact hc
        repeat walk_at "s"
        refine newT (by assumption) ?_ (by rw [sizeLine_eq]; simp); intro tp s7 H7
        refine in_tuple_strs (own_tup H7 (.head _)) (.cons _ _ (.cons _ _ .nil)) ?_
        replace H7 := H7.tail
        rw [show [Str.ofString "\"", Str.ofString "\\"].any (· == (⟨#[c]⟩ : Str)) = decide (c = 92 ∨ c = 34) by
          simp only [List.any_cons, List.any_nil, Bool.or_false, show Str.ofString "\"" = ⟨#[34]⟩ by rfl, show Str.ofString "\\" = ⟨#[92]⟩ by rfl, sign_beq]
          by_cases h1 : c = 92 <;> by_cases h2 : c = 34 <;> simp [h1, h2]]
        repeat walk_at "s"
        by_cases hc2 : c = 92 ∨ c = 34
        · rw [decide_eq_true hc2]
          repeat walk_at "s"
          refine addStrS (by assumption) (by show 1 + 1 ≤ _; decide) ?_; intro t8 s8 H8
          refine ⟨g5, St.ret' (by assumption), c, t8, hc', ?_⟩
          unfold escOne; rw [if_pos hc2]; rfl
        · rw [decide_eq_false hc2]
          repeat walk_at "s"
          refine ⟨g5, St.ret' (by assumption), c, u, hc', ?_⟩
          unfold escOne; rw [if_neg hc2]
      · intro D g5 s6 ys hg5 hl5 hlen hF H6
        obtain ⟨l, rfl, hl2⟩ := strs_list (xs := (wordOf d).cps.toList) (f := escOne) (by rw [hlen, Array.length_toList]) (fun i y e => by
          obtain ⟨c, u, hc, e2⟩ := hF i y e
          exact ⟨c, u, hc, e2⟩) (ys := ys)
        have hll : l.length = (wordOf d).cps.size := by have := congrArg List.length hl2; simpa using this
        have h0 : (Str.ofString "").length = 0 := by rfl
        have h1 : (Str.ofString "\"").length = 1 := by rfl
        have hsum := sum_le (B := 2) (l := l.map (·.1)) (by
          rw [hl2]; intro p hp
          obtain ⟨c, _, rfl⟩ := List.mem_map.mp hp
          unfold escOne; split
          · exact Nat.le_refl 2
          · exact Nat.le_succ 1)
        rw [List.length_map] at hsum
        repeat walk_at "s"
        refine joinS (by assumption) (IsList.keeps' hl5 H6.inv.sub) (by rw [h0]; omega) ?_
        intro x t7 s7 hx hxl H7
        rw [hl2, show Str.ofString "" = ⟨#[]⟩ by rfl, join_esc] at hx
        subst hx
        rw [h0] at hxl
        refine addStrS (by assumption) (by omega) ?_; intro t8 s8 H8
        repeat walk_at "s"
        refine addStrS (by assumption) (by rw [sizes_str]; omega) ?_; intro t9 s9 H9
        repeat walk_at "s"
        exact ⟨g5, St.ret' (by assumption), _, _, rfl, .quoted hdn, by rw [sizes_str, sizes_str]; omega⟩
end

end
section

/-- a V of texts -/
noncomputable def szV : V → Nat
  | .str x => x.length
  | .list l => 2 + szL l
  | _ => 0
where szL : List V → Nat
  | [] => 0
  | d :: r => szV d + 1 + szL r
mutual
noncomputable def flatV : V → Str
  | .str x => x
  | .list l => Str.ofString "{" ++ Str.join (Str.ofString ",") (flatL l) ++ Str.ofString "}"
  | _ => Str.empty
noncomputable def flatL : List V → List Str
  | [] => []
  | d :: r => flatV d :: flatL r
end
mutual
inductive Texts : Nat → V → Prop
  | str (n : Nat) (x : Str) (h : x.length ≤ 204) : Texts n (.str x)
  | list (n : Nat) (l : List V) (hl : l.length ≤ 27) (h : TextsL n l) : Texts (n + 1) (.list l)
inductive TextsL : Nat → List V → Prop
  | nil (n : Nat) : TextsL n []
  | cons (n : Nat) (d : V) (l : List V) (h : Texts n d) (r : TextsL n l) : TextsL n (d :: l)
end
noncomputable def capN : Nat → Nat
  | 0 => 204
  | n + 1 => 2 + 27 * (capN n + 1)
section
variable {prog : Program} {w : World} {mg mb : Str → Option Value}
theorem TextsL.get {n : Nat} : ∀ {l : List V}, TextsL n l → ∀ {i : Nat} {d : V}, l[i]? = some d → Texts n d
  | _, .nil _, i, d, e => by simp at e
  | _, .cons _ _ _ h r, 0, d, e => by simp at e; exact e ▸ h
  | _, .cons _ _ _ h r, i + 1, d, e => r.get (by simpa using e)
theorem flatL_map : ∀ l : List V, flatL l = l.map flatV
  | [] => rfl
  | d :: r => by rw [flatL, flatL_map r]; rfl
theorem cap_mono : ∀ n, 204 ≤ capN n
  | 0 => Nat.le_refl _
  | n + 1 => by have := cap_mono n; rw [capN]; omega
theorem fn_law_joined : ∀ (n : Nat) (g : Heap) (v : Value) (d : V), n ≤ 3 → Rep g v d → Texts n d → Fn prog w mg mb 849 [v] (n + 1) g (fun _ v => ∃ t, v = .str (flatV d) t ∧ (flatV d).length ≤ capN n) := by
  intro n
  induction n with
  | zero =>
    intro g v d hn hr ht
    cases ht with
    | str _ x hx =>
    cases hr with
    | str _ u =>
    refine enter [(Str.ofString "shaped", .str x u)] rfl (by kernel_rfl) rfl rfl rfl rfl rfl ?_
    intro A s L s' hh hd hu I hLo hco H
    have R : Rep g (.str x u) (.str x) := .str x u
    repeat walk_at "s"
    exact ⟨g, St.ret' (by assumption), _, rfl, hx⟩
  | succ n ih =>
    intro g v d hn hr ht
    cases ht with
    | str _ x hx =>
      cases hr with
      | str _ u =>
      refine enter [(Str.ofString "shaped", .str x u)] rfl (by kernel_rfl) rfl rfl rfl rfl rfl ?_
      intro A s L s' hh hd hu I hLo hco H
      have R : Rep g (.str x u) (.str x) := .str x u
      repeat walk_at "s"
      exact ⟨g, St.ret' (by assumption), _, rfl, Nat.le_trans hx (cap_mono _)⟩
    | list _ l hl ht =>
      have R := hr
      cases hr with
      | @list a vs _ hva rva =>
      have hvl := rva.length
      refine enter [(Str.ofString "shaped", .ref a)] rfl (by kernel_rfl) rfl rfl rfl rfl rfl ?_
      intro A s L s' hh hd hu I hLo hco H
      repeat walk_at "s"
      refine compR [] (by assumption) (by with_unfolding_all rfl) (by decide) rfl (by decide) rfl (by exact trivial) (by intro _; with_unfolding_all rfl) ?_
      repeat walk_at "s"
      refine iter_list hh (by assumption) hva fun I oI s2 W hS H2 => ⟨I, _, _, _, fun i _ y => ∃ x u, l[i]? = some x ∧ y = .str (flatV x) u ∧ (flatV x).length ≤ capN n, g, oI, rfl, W, by rw [sizeLine_eq, List.size_toArray, hvl]; omega, hS, H2, fun _ _ _ _ _ h => h, ?_, ?_⟩
      · rintro C i v g2 m3 s3 hi hP hg2 hm3 H3
        have hP' : vs[i]? = some v := by simpa using hP
        obtain ⟨d', hd', hr'⟩ := rva.get hP'
        repeat walk_at "s"
        refine ⟨fnAt_of (by assumption) (by rfl), ?_⟩
        refine call_fn (by assumption) (ih g2 v d' (by omega) (hr'.keeps hg2) (ht.get hd')) hh (by omega) (by omega) fun v g4 s4 H4 hg4 hp => ?_
        obtain ⟨t4, rfl, hx⟩ := hp
        exact ⟨g4, H4.ret', d', t4, hd', rfl, hx⟩
      · intro D g2 s3 ys hg2 hl2 hlen hF H3
        obtain ⟨l2, rfl, hl3⟩ := strs_list (xs := l) (f := flatV) (by rw [hlen, List.size_toArray, hvl]) (fun i y e => by
          obtain ⟨x, u, hx, e2, _⟩ := hF i y e
          exact ⟨x, u, hx, e2⟩) (ys := ys)
        have hll : l2.length = l.length := by have := congrArg List.length hl3; simpa using this
        have h1 : (Str.ofString ",").length = 1 := by rfl
        have h2 : (Str.ofString "{").length = 1 := by rfl
        have h3 : (Str.ofString "}").length = 1 := by rfl
        have hB : ∀ p ∈ l2.map (·.1), p.length ≤ capN n := by
          rw [hl3]; intro p hp
          obtain ⟨x, hx, rfl⟩ := List.mem_map.mp hp
          obtain ⟨i, hi⟩ := List.getElem?_of_mem hx
          have hlt : i < (strValues l2).length := by rw [strValues, List.length_map, hll]; exact (List.getElem?_eq_some_iff.mp hi).1
          obtain ⟨x', u, hx', _, hc⟩ := hF i _ (List.getElem?_eq_getElem hlt)
          rw [hi] at hx'; cases hx'; exact hc
        have hsum := sum_le hB
        rw [List.length_map, hll] at hsum
        have hsum2 : l.length * capN n ≤ 27 * capN n := Nat.mul_le_mul_right _ hl
        have hcap : capN n ≤ 200000 := by
          have : ∀ k, k ≤ 2 → capN k ≤ 200000 := fun k hk => by
            match k, hk with
            | 0, _ => decide
            | 1, _ => decide
            | 2, _ => decide
          exact this n (by omega)
        repeat walk_at "s"
        refine joinS (by assumption) (IsList.keeps' hl2 H3.inv.sub) (by rw [h1]; omega) ?_
        intro x t7 s7 hx hxl H7
        rw [hl3] at hx
        rw [h1] at hxl
        refine addStrS (by assumption) (by omega) ?_; intro t8 s8 H8
        repeat walk_at "s"
        refine addStrS (by assumption) (by rw [sizes_str]; omega) ?_; intro t9 s9 H9
        repeat walk_at "s"
        refine ⟨g2, St.ret' (by assumption), t9, ?_, ?_⟩
        · show Value.str (Str.ofString "{" ++ x ++ Str.ofString "}") t9 = Value.str (flatV (.list l)) t9
          rw [hx, flatV, flatL_map]
        · have e : flatV (.list l) = Str.ofString "{" ++ x ++ Str.ofString "}" := by rw [hx, flatV, flatL_map]
          rw [e, sizes_str, sizes_str, capN]; omega
end

end
section

def ArrOk (kind : Nat) (ad : Addr) : Prop := (kind = 0 ∧ ad = 63) ∨ (kind = 1 ∧ ad = 91) ∨ (kind = 2 ∧ ad = 49) ∨ (kind = 3 ∧ ad = 35)
section
variable {prog : Program} {w : World} {mg mb : Str → Option Value}
theorem fn_arr {ad af : Addr} (haf : (ad = 63 ∧ af = 775) ∨ (ad = 91 ∧ af = 782) ∨ (ad = 49 ∧ af = 768) ∨ (ad = 35 ∧ af = 761)) {g : Heap} {x : Str} {t : Tok} {r : Nat} {Post : Heap → Value → Prop}
    (C : ∀ g'', (∀ b o, g.get? b = some o → g''.get? b = some o) → Fn prog w mg mb 747 [.str x t, .ref ad] (r + 1) g'' Post) : Fn prog w mg mb af [.str x t] (r + 3) g Post := by
  rcases haf with ⟨rfl, rfl⟩ | ⟨rfl, rfl⟩ | ⟨rfl, rfl⟩ | ⟨rfl, rfl⟩
  all_goals
    refine enter [(Str.ofString "data", .str x t)] rfl (by kernel_rfl) rfl rfl rfl rfl rfl ?_
    intro A s L s' hh hd hu I hLo hco H
    repeat walk_at "s"
    refine ⟨fnAt_of (by assumption) (by rfl), ?_⟩
    refine call_fn (by assumption) (fn_array_in _) hh (by omega) (by omega) fun v g2 s2 H2 hg2 hp => ?_
    obtain ⟨fa, rfl, ⟨oc, od, fd, sl, hfa⟩, hf⟩ := hp
    refine callWith_F ⟨oc, od, fd, sl, H2.inv.sub _ _ hfa⟩ ?_
    repeat walk_at "s"
    refine ⟨⟨oc, od, fd, sl, H2.inv.sub _ _ hfa⟩, ?_⟩
    refine call_fn H2 (hf g2 (fun _ _ e => e) x t (r + 1) Post (C g2 hg2)) hh (by omega) (by omega) fun v g3 s3 H3 hg3 hp => ?_
    exact ⟨g3, H3.ret', hp⟩
theorem fn_law_read {kind : Nat} (hk : kind < 4) {g : Heap} {x : Str} {t u : Tok} {r : Nat} {Post : Heap → Value → Prop}
    (C : ∀ ad, ArrOk kind ad → ∀ g'', (∀ b o, g.get? b = some o → g''.get? b = some o) → Fn prog w mg mb 747 [.str x t, .ref ad] (r + 1) g'' Post) : Fn prog w mg mb 856 [.int (kind : Int) u, .str x t] (r + 4) g Post := by
  refine enter [(Str.ofString "kind", .int (kind : Int) u), (Str.ofString "text", .str x t)] rfl (by kernel_rfl) rfl rfl rfl rfl rfl ?_
  intro A s L s' hh hd hu I hLo hco H
  have hk4 : kind = 0 ∨ kind = 1 ∨ kind = 2 ∨ kind = 3 := by omega
  have fin : ∀ {af ad : Addr} {s2 : Shared} {Q : Value → Shared → Prop} {m : Str → Option Value} {cl : List (Str × Addr)} {cm : Str → Option Value}, ((ad = 63 ∧ af = 775) ∨ (ad = 91 ∧ af = 782) ∨ (ad = 49 ∧ af = 768) ∨ (ad = 35 ∧ af = 761)) → ArrOk kind ad → St w mg mb s g g L m cl cm [] s2.heap s2.gens s2.os →
      (∀ v g' s', Ret w mg mb g s g' s' → Post g' v → Q v s') → wpAny (model prog w) A (call (.ref af) [.str x t]) Q (fun _ _ => False) s2 := fun haf ho H2 k =>
    call_fn H2 (fn_arr haf (C _ ho)) hh (by omega) (by omega) fun v g' s' H' hg' p => k v g' s' H'.ret' p
  rcases hk4 with rfl | rfl | rfl | rfl
  · repeat walk_at "s"
    rw [show (((0 : Nat) : Int) == 0) = true by rfl]
    repeat walk_at "s"
    refine ⟨fnAt_of (by assumption) (by rfl), ?_⟩
    exact fin (.inl ⟨rfl, rfl⟩) (.inl ⟨rfl, rfl⟩) (by assumption) fun v g' s' R p => ⟨g', R, p⟩
  · repeat walk_at "s"
    rw [show (((1 : Nat) : Int) == 0) = false by rfl]
    repeat walk_at "s"
    rw [show (((1 : Nat) : Int) == 1) = true by rfl]
    repeat walk_at "s"
    refine ⟨fnAt_of (by assumption) (by rfl), ?_⟩
    exact fin (.inr (.inl ⟨rfl, rfl⟩)) (.inr (.inl ⟨rfl, rfl⟩)) (by assumption) fun v g' s' R p => ⟨g', R, p⟩
  · repeat walk_at "s"
    rw [show (((2 : Nat) : Int) == 0) = false by rfl]
    repeat walk_at "s"
    rw [show (((2 : Nat) : Int) == 1) = false by rfl]
    repeat walk_at "s"
    rw [show (((2 : Nat) : Int) == 2) = true by rfl]
    repeat walk_at "s"
    refine ⟨fnAt_of (by assumption) (by rfl), ?_⟩
    exact fin (.inr (.inr (.inl ⟨rfl, rfl⟩))) (.inr (.inr (.inl ⟨rfl, rfl⟩))) (by assumption) fun v g' s' R p => ⟨g', R, p⟩
  · repeat walk_at "s"
    rw [show (((3 : Nat) : Int) == 0) = false by rfl]
    repeat walk_at "s"
    rw [show (((3 : Nat) : Int) == 1) = false by rfl]
    repeat walk_at "s"
    rw [show (((3 : Nat) : Int) == 2) = false by rfl]
    repeat walk_at "s"
    refine ⟨fnAt_of (by assumption) (by rfl), ?_⟩
    exact fin (.inr (.inr (.inr ⟨rfl, rfl⟩))) (.inr (.inr (.inr ⟨rfl, rfl⟩))) (by assumption) fun v g' s' R p => ⟨g', R, p⟩
end

end
end
section
section
/-! a comprehension over pairs -/
theorem compLoop_go {M : Model} {A : Around} {s : Shared} {R : Result → Shared → Prop} {prog : Program} {w : World} {elt target iter : Expr} {scope : Scope} {pos : Pos} {it acc : Value} {env : Env} (I : Nat → Shared → Prop)
    (turn : ∀ n s, I n s → wpAny (model prog w) A (pyNext it) (fun r s₁ => match r with
      | none => R (.ok .next) s₁
      | some v => wpAny (model prog w) A (letOwnedTupleGo target it v) (fun _ s₁' => wpAny (model prog w) A (assign target env v) (fun _ s₂ => wpAny (model prog w) A (eval elt env) (fun x s₃ =>
          wpAny (model prog w) A (call (.builtin "list.append") [acc, x]) (fun _ s₄ => ∃ m, m < n ∧ I m s₄) (notedBy (model prog w) A env fun e s' => R (.error e) s') s₃)
          (notedBy (model prog w) A env fun e s' => R (.error e) s') s₂) (notedBy (model prog w) A env fun e s' => R (.error e) s') s₁') (notedBy (model prog w) A env fun e s' => R (.error e) s') s₁) (notedBy (model prog w) A env fun e s' => R (.error e) s') s)
    (n : Nat) (h : I n s) :
    codeAny (model prog w) A (.compLoop (.ListComp elt [⟨target, iter, [], 0⟩] scope pos) 0 it acc env) R s := by
  refine codeAny_loop rfl I (fun n s hI => ?_) n h
  show wpAny _ _ ((compTurn (.ListComp elt [⟨target, iter, [], 0⟩] scope pos) 0 it acc env).onRaise (fun x => do noteFrame x env; theTreesLotGoes x)) _ _ s
  refine wpAny_noted ?_
  rw [compTurn_list1]
  refine wpAny_bind (wpAny_standAt (wpAny_bind (wpAny_mono (turn n s hI) (fun r s₁ h₁ => ?_) fun _ _ h' => h')))
  cases r with
  | none => exact wpAny_pure h₁
  | some v =>
    refine wpAny_bind (wpAny_mono h₁ (fun _ s₁' h₁' => ?_) fun _ _ h' => h')
    exact wpAny_bind (wpAny_mono h₁' (fun _ s₂ h₂ => wpAny_bind (wpAny_bind (wpAny_mono h₂ (fun x s₃ h₃ => wpAny_bind (wpAny_mono h₃
      (fun _ s₄ h₄ => wpAny_pure (wpAny_pure ⟨rfl, h₄⟩)) fun _ _ h' => h')) fun _ _ h' => h'))) fun _ _ h' => h')

section
variable {prog : Program} {w : World} {mg mb : Str → Option Value} {o : Shared} {g₀ g : Heap} {L : Addr} {m cm : Str → Option Value} {cl : List (Str × Addr)} {own : List (Addr × Obj)} {A : Around} {E : Value → Shared → Prop} {env : Env}

theorem St.keepsX {h h' : Heap} {gens : Array GenState} {os : OsState} {wr : List Addr} (H : St w mg mb o g₀ g L m cl cm own h gens os) (hk : ∀ b ob, b ∉ wr → h.get? b = some ob → h'.get? b = some ob)
    (hw : ∀ b ∈ wr, b ≠ L ∧ 784 < b ∧ o.heap.objs.size ≤ b ∧ g.get? b = none ∧ (∀ p ∈ own, p.1 ≠ b) ∧ ∀ n c, cl.lookup n = some c → c ≠ b) (hLo : o.heap.objs.size ≤ L) : St w mg mb o g₀ g L m cl cm own h' gens os := by
  have hn : h'.Ns L m := H.ns.at' fun ob e => hk L ob (fun hm => (hw _ hm).1 rfl) e
  have n749 : 749 ∉ wr := fun hm => absurd (hw _ hm).2.1 (by decide)
  have n784 : 784 ∉ wr := fun hm => absurd (hw _ hm).2.1 (by decide)
  exact {
    inv := ⟨H.inv.base, H.inv.tabs.keeps (fun _ _ e => e) (fun _ e => hk _ _ n749 e) (fun _ e => hk _ _ n784 e), fun b ob e => hk b ob (fun hm => by rw [(hw _ hm).2.2.2.1] at e; cases e) (H.inv.sub b ob e), H.inv.n1, H.inv.n2⟩
    ns := hn
    nL := H.nL
    owns := fun p hp => ⟨hk _ _ (fun hm => (hw _ hm).2.2.2.2.1 p hp rfl) (H.owns p hp).1, (H.owns p hp).2⟩
    nd := H.nd
    cell := fun n c e => let x := H.cell n c e; let ⟨oc, hoc, hd⟩ := x.1; ⟨⟨oc, hk _ _ (fun hm => (hw _ hm).2.2.2.2.2 n c e rfl) hoc, hd⟩, x.2⟩
    capart := H.capart
    cown := H.cown
    keep := fun b ob h1 h2 e => hk b ob (fun hm => absurd (Heap.lt_size e) (Nat.not_lt.mpr (hw _ hm).2.2.1)) (H.keep b ob h1 h2 e)
    ext := H.ext
    fresh := H.fresh
    hL := H.hL
    sz := Nat.le_of_lt (Nat.lt_of_le_of_lt hLo hn.lt)
    oss := H.oss
    gn := H.gn }

theorem comp_loop2 {elt iter : Expr} {xa xb : Str} {pa pb tpos : Pos} {kt : Nat} {scope : Scope} {pos : Pos} {cenv : Env} {I D n : Nat} {fp wr X : List Addr} {Pt : Nat → Array Value → Prop} {S : Nat → Heap → Prop} {Mid : Nat → Addr → Heap → Prop} {F : Nat → Heap → Value → Prop} {cl' : List (Str × Addr)} {R : Result → Shared → Prop} {C : Addr} {oC oD : Obj} {m₀ : Str → Option Value} {s : Shared}
    (hh : A.handled = none) (hLo : o.heap.objs.size ≤ L) (hz : n ≤ sizeLine) (hF : ∀ i g g' y, (∀ b o, g.get? b = some o → g'.get? b = some o) → F i g y → F i g' y) (hCe : cenv.locals = C) (hxa : cenv.kindOf xa = some .local) (hxb : cenv.kindOf xb = some .local) (hab : xa ≠ xb) (hp : (cenv.scope.kind == .class || (cenv.scope.kind == .module && cenv.locals != cenv.globals)) = false)
    (W : WalksT prog w A I fp wr n Pt S Mid) (hfp : ∀ b ∈ fp, b ∈ X ∨ ∃ ob, g.get? b = some ob) (hwr : ∀ b ∈ wr, b ∈ X)
    (hX : ∀ b ∈ X, b < C ∧ b < D ∧ b ≠ L ∧ 784 < b ∧ o.heap.objs.size ≤ b ∧ (∀ p ∈ own, p.1 ≠ b) ∧ ∀ n c, cl.lookup n = some c → c ≠ b) (hXg : ∀ b ∈ X, g.get? b = none) (hPt : ∀ i vals, Pt i vals → ∃ va vb, vals = #[va, vb])
    (hsub : ∀ n c, cl'.lookup n = some c → cl.lookup n = some c)
    (H : St w mg mb o g₀ g L m cl cm ((C, oC) :: (D, oD) :: own) s.heap s.gens s.os) (hS : S 0 s.heap) (hC : DictObj oC m₀) (hD : ListObj oD #[])
    (helt : ∀ i va vb g' m₃ s₃, i < n → Pt i #[va, vb] → (∀ b o, g.get? b = some o → g'.get? b = some o) → m₃ xa = some va → m₃ xb = some vb → St w mg mb s₃ g' g' C m₃ cl' cm [] s₃.heap s₃.gens s₃.os →
      wpAny (model prog w) A (eval elt cenv) (fun y s₄ => ∃ g'', Ret w mg mb g' s₃ g'' s₄ ∧ F i g'' y) (fun _ _ => False) s₃)
    (hR : ∀ g' oC' m' oD' (ys : List Value) s', St w mg mb o g₀ g' L m cl cm ((C, oC') :: (D, oD') :: own) s'.heap s'.gens s'.os → DictObj oC' m' → ListObj oD' ys.toArray → (∀ b o, g.get? b = some o → g'.get? b = some o) → ys.length = n → (∀ i y, ys[i]? = some y → F i g' y) → R (.ok .next) s') :
    codeAny (model prog w) A (.compLoop (.ListComp elt [⟨.Tuple [.Name xa pa, .Name xb pb] kt tpos, iter, [], 0⟩] scope pos) 0 (.ref I) (.ref D) cenv) R s := by
  refine compLoop_go (M := model prog w) (fun k s' => ∃ i g' oC' m' oD' ys, St w mg mb o g₀ g' L m cl cm ((C, oC') :: (D, oD') :: own) s'.heap s'.gens s'.os ∧ S i s'.heap ∧ DictObj oC' m' ∧ ListObj oD' (List.toArray ys) ∧
      (∀ b o, g.get? b = some o → g'.get? b = some o) ∧ (∀ b ∈ X, g'.get? b = none) ∧ ys.length = i ∧ (∀ j y, ys[j]? = some y → F j g' y) ∧ i ≤ n ∧ k = n + 1 - i) ?_ (n + 1)
    ⟨0, g, oC, m₀, oD, [], H, hS, hC, hD, fun _ _ e => e, hXg, rfl, fun j y e => by simp at e, Nat.zero_le _, rfl⟩
  rintro k s' ⟨i, g', oC', m', oD', ys, H', hS', hC', hD', hg', hXg', hlen, hFs, hi, rfl⟩
  have hCo := H'.owns (C, oC') (.head _)
  have hw : ∀ {oC₁ oD₁ : Obj}, ∀ b ∈ wr, b ≠ L ∧ 784 < b ∧ o.heap.objs.size ≤ b ∧ g'.get? b = none ∧ (∀ p ∈ (C, oC₁) :: (D, oD₁) :: own, p.1 ≠ b) ∧ ∀ n c, cl.lookup n = some c → c ≠ b := fun b hb => by
    obtain ⟨h1, h2, h3, h4, h5, h6, h7⟩ := hX b (hwr b hb)
    refine ⟨h3, h4, h5, hXg' b (hwr b hb), fun p hp => ?_, h7⟩
    rcases List.mem_cons.mp hp with rfl | hp
    · exact Nat.ne_of_gt h1
    · rcases List.mem_cons.mp hp with rfl | hp
      · exact Nat.ne_of_gt h2
      · exact h6 p hp
  by_cases hlt : i < n
  · refine W.item i s' _ _ hlt hS' fun T vals h₁ tk₁ hP hTs hT hMid hk₁ => ?_
    obtain ⟨va, vb, rfl⟩ := hPt i vals hP
    have H₁ := H'.keepsX hk₁ hw hLo
    refine W.go _ _ _ i T ⟨h₁, s'.gens, s'.drawn, tk₁, s'.os⟩ _ _ hMid fun h₂ hS₂ hk₂ => ?_
    have H₂ := H₁.keepsX hk₂ hw hLo
    have hTw := W.apart i T h₁ hMid
    have hT₂ : h₂.IsTuple T #[va, vb] := let ⟨oT, e, r⟩ := hT; ⟨oT, hk₂ _ _ hTw e, r⟩
    refine wpAny_assign_Tuple (s := ⟨h₂, s'.gens, s'.drawn, tk₁, s'.os⟩) hh hT₂ (by rfl) (by rfl) fun h₃ hx₃ => ?_
    have kx : ∀ b ob, h₂.get? b = some ob → h₃.get? b = some ob := fun b ob e => hx₃ b ob (Nat.ne_of_lt (Heap.lt_size e)) e
    have H₃ := H₂.keepsL kx hLo
    have hS₃ : S (i + 1) h₃ := W.frame _ _ _ hS₂ fun b _ ob e => kx b ob e
    have fpC : ∀ b ∈ fp, b ≠ C := fun b hb q => by
      rcases hfp b hb with hb | ⟨ob', e'⟩
      · exact Nat.lt_irrefl _ (q ▸ (hX b hb).1)
      · have := hg' _ _ e'; rw [q, hCo.2.2.1] at this; cases this
    refine assignInOrder_cons (PyProof.Rows.assign_Name (wpAny_storeName_local hxa (hCe ▸ hC'.ns (H₃.owns (C, oC') (.head _)).1) (fun h₄ hn₄ hs₄ => ?_) hp))
    rw [hCe] at hn₄ hs₄
    obtain ⟨oC₄, hC₄, hC₄'⟩ := DictObj.of hn₄
    have H₄ := H₃.upd hs₄ hC₄
    have hS₄ : S (i + 1) h₄ := W.frame _ _ _ hS₃ fun b hb ob e => hs₄.extBut b ob (fpC b hb) e
    refine assignInOrder_cons (PyProof.Rows.assign_Name (wpAny_storeName_local hxb (hCe ▸ hC₄'.ns (H₄.owns (C, oC₄) (.head _)).1) (fun h₅ hn₅ hs₅ => ?_) hp))
    rw [hCe] at hn₅ hs₅
    obtain ⟨oC₅, hC₅, hC₅'⟩ := DictObj.of hn₅
    have H₅ := H₄.upd hs₅ hC₅
    have hS₅ : S (i + 1) h₅ := W.frame _ _ _ hS₄ fun b hb ob e => hs₅.extBut b ob (fpC b hb) e
    refine wpAny_pure ?_
    refine wpAny_mono (helt i va vb g' _ ⟨h₅, s'.gens, s'.drawn, _, s'.os⟩ hlt hP hg' (by simp [hab]) (by simp) (H₅.within (s := ⟨h₅, s'.gens, s'.drawn, _, s'.os⟩) hC₅' hsub)) (fun y s₆ h₆ => ?_) fun _ _ x => x.elim
    obtain ⟨g'', R₆, hy⟩ := h₆
    have H₆ := St.back (s := ⟨h₅, s'.gens, s'.drawn, _, s'.os⟩) H₅ R₆
    have hD₆ : s₆.heap.IsList D ys.toArray := hD'.is (H₆.owns (D, oD') (.tail _ (.head _))).1
    refine wpAny_list_append hD₆ (fun h₇ hl₇ hs₇ => ?_) (by rw [List.size_toArray]; omega)
    obtain ⟨oD₇, hD₇, hD₇'⟩ := ListObj.of hl₇
    have H₇ := ((H₆.perm (own' := (D, oD') :: (C, oC₅) :: own) (List.Perm.swap ..)).upd hs₇ hD₇).perm (own' := (C, oC₅) :: (D, oD₇) :: own) (List.Perm.swap ..)
    have hX₇ : ∀ b ∈ X, g''.get? b = none := fun b hb => by
      cases q : g''.get? b with
      | none => rfl
      | some ob =>
        rcases R₆.fresh b ob q with ⟨o', e'⟩ | hle
        · rw [hXg' b hb] at e'; cases e'
        · have hCs : C < h₅.objs.size := Heap.lt_size (H₅.owns (C, oC₅) (.head _)).1
          exact absurd (Nat.lt_trans (hX b hb).1 hCs) (Nat.not_lt.mpr hle)
    refine ⟨n + 1 - (i + 1), by omega, i + 1, g'', oC₅, _, oD₇, ys ++ [y], H₇, ?_, hC₅', ?_, fun b ob e => R₆.ext b ob (hg' b ob e), hX₇, by simp [hlen], ?_, hlt, rfl⟩
    · refine W.frame _ _ _ hS₅ fun b hb ob e => ?_
      rcases hfp b hb with hb | ⟨ob', e'⟩
      · have hxb := hX b hb
        exact hs₇.extBut b ob (Nat.ne_of_lt hxb.2.1) (R₆.keep b ob (lowB hxb.2.2.2.1) (lowD hxb.2.2.2.1) e)
      · have e2 := H₅.inv.sub b ob' (hg' b ob' e')
        rw [e2] at e; cases e
        exact H₇.inv.sub b _ (R₆.ext _ _ (hg' b _ e'))
    · simpa using hD₇'
    · intro j y' e
      rcases Nat.lt_trichotomy j ys.length with h | h | h
      · exact hF _ _ _ _ R₆.ext (hFs j y' (by rwa [List.getElem?_append_left h] at e))
      · subst h; simp at e; subst e; subst hlen; exact hy
      · have : (ys ++ [y])[j]? = none := List.getElem?_eq_none (by rw [List.length_append, List.length_singleton]; omega)
        rw [this] at e; cases e
  · have hin : i = n := by omega
    subst hin
    refine W.done _ _ _ hS' fun h₁ tk₁ hk₁ => ?_
    exact hR g' oC' m' oD' ys ⟨h₁, s'.gens, s'.drawn, tk₁, s'.os⟩ (H'.keepsX hk₁ hw hLo) hC' hD' hg' hlen hFs
end

end
section
section
variable {prog : Program} {w : World} {mg mb : Str → Option Value} {o : Shared} {g₀ g : Heap} {L : Addr} {m cm : Str → Option Value} {cl : List (Str × Addr)} {own : List (Addr × Obj)} {A : Around} {E : Value → Shared → Prop} {env : Env} {s : Shared}
def ZipSt (z TI TO i1 i2 l1 l2 : Addr) (xs ys : Array Value) (i : Nat) (h : Heap) : Prop :=
  IsZip h z TI TO .none ∧ IsPair h TI (.ref i1) (.ref i2) ∧ (∃ a b, IsPair h TO a b) ∧ h.IsListIter i1 l1 i ∧ h.IsListIter i2 l2 i ∧ h.IsList l1 xs ∧ h.IsList l2 ys
def ZipGo (w : World) (mg mb : Str → Option Value) (o : Shared) (g₀ g : Heap) (L : Addr) (m : Str → Option Value) (cl : List (Str × Addr)) (cm : Str → Option Value) (own : List (Addr × Obj)) (l1 l2 : Addr) (xs ys : Array Value) (xv : Value) (s : Shared) : Prop :=
  ∃ z TI TO i1 i2, xv = .ref z ∧ ZipApart z TI TO i1 i2 l1 l2 ∧ ZipSt z TI TO i1 i2 l1 l2 xs ys 0 s.heap ∧ St w mg mb o g₀ g L m cl cm own s.heap s.gens s.os ∧ g.IsList l1 xs ∧ g.IsList l2 ys ∧
    ∀ b ∈ [z, TI, TO, i1, i2], b < s.heap.objs.size ∧ b ≠ L ∧ 784 < b ∧ o.heap.objs.size ≤ b ∧ g.get? b = none ∧ (∀ p ∈ own, p.1 ≠ b) ∧ ∀ n c, cl.lookup n = some c → c ≠ b

theorem zipS {l1 l2 : Addr} {xs ys : Array Value} {Q : Value → Shared → Prop} (H : St w mg mb o g₀ g L m cl cm own s.heap s.gens s.os) (hLo : o.heap.objs.size ≤ L) (hl1 : g.IsList l1 xs) (hl2 : g.IsList l2 ys)
    (h : ∀ xv s', ZipGo w mg mb o g₀ g L m cl cm own l1 l2 xs ys xv s' → Q xv s') : wpAny (model prog w) A (call (.type "zip") [.ref l1, .ref l2]) Q E s := by
  have k1 := IsList.keeps' hl1 H.inv.sub
  have k2 := IsList.keeps' hl2 H.inv.sub
  refine call_zip_2 k1 k2 fun h' a1 a2 a3 a4 a5 hsz hk => ?_
  have lt1 : l1 < s.heap.objs.size := let ⟨_, e, _⟩ := k1; Heap.lt_size e
  have lt2 : l2 < s.heap.objs.size := let ⟨_, e, _⟩ := k2; Heap.lt_size e
  have ne : ∀ {k : Nat} {l : Addr}, l < s.heap.objs.size → l ≠ s.heap.objs.size + k := fun h => Nat.ne_of_lt (Nat.lt_of_lt_of_le h (Nat.le_add_right _ _))
  refine h _ { s with heap := h' } ⟨s.heap.objs.size + 4, s.heap.objs.size + 2, s.heap.objs.size + 3, s.heap.objs.size, s.heap.objs.size + 1, rfl, ?_, ⟨a1, a2, ⟨_, _, a3⟩, a4, a5, IsList.keeps' k1 hk, IsList.keeps' k2 hk⟩, H.keepsL hk hLo, hl1, hl2, ?_⟩
  · have q : ∀ a b : Nat, a ≠ b → s.heap.objs.size + a ≠ s.heap.objs.size + b := fun a b h => by omega
    constructor <;> first | exact ne (k := 0) lt1 | exact ne (k := 0) lt2 | exact ne lt1 | exact ne lt2 | (exact q _ _ (by decide)) | exact q 0 _ (by decide) | exact q _ 0 (by decide)
  · have low := H.inv.low
    have all : ∀ k : Nat, k < 5 → s.heap.objs.size + k < h'.objs.size ∧ s.heap.objs.size + k ≠ L ∧ 784 < s.heap.objs.size + k ∧ o.heap.objs.size ≤ s.heap.objs.size + k ∧ g.get? (s.heap.objs.size + k) = none ∧ (∀ p ∈ own, p.1 ≠ s.heap.objs.size + k) ∧ ∀ n c, cl.lookup n = some c → c ≠ s.heap.objs.size + k := fun k hk5 =>
      ⟨by rw [hsz]; omega, (ne H.lt).symm, by omega, Nat.le_trans H.sz (Nat.le_add_right _ _), get_none_of_sub H.inv.sub (Nat.le_add_right _ _), fun p hp => ne (Heap.lt_size (H.owns p hp).1), fun n c e => ne (H.cell n c e).1.lt⟩
    intro b hb
    simp only [List.mem_cons, List.not_mem_nil, or_false] at hb
    rcases hb with rfl | rfl | rfl | rfl | rfl
    · exact all 4 (by decide)
    · exact all 2 (by decide)
    · exact all 3 (by decide)
    · exact all 0 (by decide)
    · exact all 1 (by decide)

theorem compZip {elt iter : Expr} {xa xb : Str} {pa pb tpos : Pos} {kt : Nat} {scope : Scope} {pos : Pos} (cl' : List (Str × Addr)) {l1 l2 : Addr} {xs ys : Array Value} {F : Nat → Heap → Value → Prop} {Q : Value → Shared → Prop}
    (_ : St w mg mb o g₀ g L m cl cm own s.heap s.gens s.os) (hh : A.handled = none) (hLo : o.heap.objs.size ≤ L)
    (hclos : closureFor scope env = pure cl') (hcell : ∀ y ∈ scope.names, y.2 ≠ .cell) (hkind : scope.kind = .function) (hnames : ∀ y ∈ scope.names, y.2 = .local → scope.names.lookup y.1 = some .local) (hxa : scope.names.lookup xa = some .local) (hxb : scope.names.lookup xb = some .local) (hab : xa ≠ xb) (hsub : SubC cl' cl)
    (hs : ∀ x, foldedSetIterable iter env x = pure x) (hz : min xs.size ys.size ≤ sizeLine)
    (h : wpAny (model prog w) A (eval iter env) (ZipGo w mg mb o g₀ g L m cl cm own l1 l2 xs ys) E s)
    (hF : ∀ i g g' y, (∀ b o, g.get? b = some o → g'.get? b = some o) → F i g y → F i g' y)
    (helt : ∀ C i va vb g' m₃ s₃, i < min xs.size ys.size → xs[i]? = some va → ys[i]? = some vb → (∀ b o, g.get? b = some o → g'.get? b = some o) → m₃ xa = some va → m₃ xb = some vb → St w mg mb s₃ g' g' C m₃ cl' cm [] s₃.heap s₃.gens s₃.os →
      wpAny (model prog w) A (eval elt (compEnvC scope cl' C env)) (fun y s₄ => ∃ g'', Ret w mg mb g' s₃ g'' s₄ ∧ F i g'' y) (fun _ _ => False) s₃)
    (hD : ∀ D g' s' (zs : List Value), (∀ b o, g.get? b = some o → g'.get? b = some o) → g'.IsList D zs.toArray → zs.length = min xs.size ys.size → (∀ i y, zs[i]? = some y → F i g' y) → St w mg mb o g₀ g' L m cl cm own s'.heap s'.gens s'.os → Q (.ref D) s') :
    wpAny (model prog w) A (eval (.ListComp elt [⟨.Tuple [.Name xa pa, .Name xb pb] kt tpos, iter, [], 0⟩] scope pos) env) Q E s := by
  rw [eval_ListComp]
  refine wpAny_comprehension_free (use := none) rfl hs hclos hkind hnames (wpAny_mono h (fun xv s₁ h₁ => ?_) fun _ _ e => e)
  obtain ⟨z, TI, TO, i1, i2, rfl, D0, hS, H, hl1, hl2, hX⟩ := h₁
  have W := WalksT.zip2 (prog := prog) (w := w) hh z TI TO i1 i2 l1 l2 D0 xs ys
  refine W.self 0 _ _ _ hS ?_
  refine wpAny_newObj_type (wpAny_newFunctionEnv hcell (by intro y hy; simp at hy) (fun h₁ hns₁ hsb₁ => ?_) hkind)
  have H₁ := H.push { cls := .type "list", data := .seq ([] : List Value).toArray }
  have H₂ := H₁.push { cls := .type "dict", data := .dict #[] }
  obtain ⟨oC, hC, hC'⟩ := DictObj.of hns₁
  have H₃ := H₂.upd hsb₁ hC
  have k₃ : ∀ b ob, s₁.heap.get? b = some ob → h₁.get? b = some ob := fun b ob e => hsb₁.extBut b ob (by
    rw [Heap.size_push]; exact Nat.ne_of_lt (Nat.lt_trans (Heap.lt_size e) (Nat.lt_succ_self _))) (Heap.get?_push_of_some _ (Heap.get?_push_of_some _ e))
  have hS₃ := W.frame 0 _ _ hS fun b _ ob e => k₃ b ob e
  have loop : ∀ s₃ : Shared, s₃.heap = h₁ → s₃.gens = s₁.gens → s₃.os = s₁.os →
      codeAny (model prog w) A (.compLoop (.ListComp elt [⟨.Tuple [.Name xa pa, .Name xb pb] kt tpos, iter, [], 0⟩] scope pos) 0 (.ref z) (.ref s₁.heap.objs.size) (compEnvC scope cl' (s₁.heap.push { cls := .type "list", data := .seq ([] : List Value).toArray }).objs.size env))
        (compPost (model prog w) A E none Q (.ref s₁.heap.objs.size) (s₁.heap.push { cls := .type "list", data := .seq ([] : List Value).toArray }).objs.size) s₃ := by
    intro s₃ e1 e2 e3
    refine comp_loop2 (X := [z, TI, TO, i1, i2]) hh hLo hz hF rfl (lookup_relabel_local hxa) (lookup_relabel_local hxb) hab (by simp [compEnvC, relabel, hkind]) W (fun b hb => ?_) (fun b hb => ?_) (fun b hb => ?_) (fun b hb => (hX b hb).2.2.2.2.1) (fun i vals hP => ?_) hsub.sub (by rw [e1, e2, e3]; exact H₃) (by rw [e1]; exact hS₃) hC' ⟨rfl, _, rfl⟩ ?_ ?_
    · simp only [List.mem_cons, List.not_mem_nil, or_false] at hb ⊢
      rcases hb with rfl | rfl | rfl | rfl | rfl | rfl | rfl
      · exact .inl (.inl rfl)
      · exact .inl (.inr (.inl rfl))
      · exact .inl (.inr (.inr (.inl rfl)))
      · exact .inl (.inr (.inr (.inr (.inl rfl))))
      · exact .inl (.inr (.inr (.inr (.inr rfl))))
      · exact .inr (let ⟨ob, e, _⟩ := hl1; ⟨ob, e⟩)
      · exact .inr (let ⟨ob, e, _⟩ := hl2; ⟨ob, e⟩)
    · simp only [List.mem_cons, List.not_mem_nil, or_false] at hb ⊢
      rcases hb with rfl | rfl | rfl | rfl
      · exact .inl rfl
      · exact .inr (.inr (.inl rfl))
      · exact .inr (.inr (.inr (.inl rfl)))
      · exact .inr (.inr (.inr (.inr rfl)))
    · have x := hX b hb
      exact ⟨by rw [Heap.size_push]; exact Nat.lt_succ_of_lt x.1, x.1, x.2.1, x.2.2.1, x.2.2.2.1, x.2.2.2.2.2.1, x.2.2.2.2.2.2⟩
    · obtain ⟨x, y, _, _, rfl⟩ := hP; exact ⟨x, y, rfl⟩
    · rintro i va vb g' m₃ s₃ hi ⟨x, y, hx, hy, e⟩ hg' hma hmb H'
      obtain ⟨rfl, rfl⟩ : va = x ∧ vb = y := by simpa using e
      exact helt _ i va vb g' m₃ s₃ hi hx hy hg' hma hmb H'
    · intro g' oC' m' oD' zs s' H' hC' hD' hg' hlen hFs
      refine ⟨m', hC'.ns (H'.owns _ (.head _)).1, fun h'' hs'' => ?_⟩
      obtain ⟨g'', hg'', hDg, H''⟩ := (H'.other hs'').frz
      exact hD _ g'' { s' with heap := h'' } zs (fun b ob e => hg'' b ob (hg' b ob e)) (hD'.is hDg) hlen (fun i y e => hF _ _ _ _ hg'' (hFs i y e)) H''
  exact codeAny_compStart_list (loop _ rfl rfl rfl) (W.self 0 _ _ _ hS₃ (loop _ rfl rfl rfl))
end

end
end
section
local macro_rules | `(tactic| walk_at "ng") => `(tactic| with_reducible first | exact ngParserState | exact ngparsearray | exact ngarrayin | exact ngboolin | exact ngbytesin | exact ngintin | exact ngstringin | exact ngmakeparam | exact ngpytypes | exact ngarraystringescape | exact ngarrayout | exact ngcompositeout | exact ngbytesout | exact ngkindof | exact nglawtext | exact nglawshaped | exact nglawworth | exact nglawword | exact nglawjoined | exact ngintarrayin | exact ngstringarrayin | exact ngbytesarrayin | exact ngboolarrayin | exact nglawalike | exact nglawflat | exact nglawsizes | exact nglawlaid | exact nglawread)
local macro_rules | `(tactic| walk_at "nt") => `(tactic| with_reducible first | exact nbint | exact nbstr | exact nbbytes | exact nbbytearray | exact nblist | exact nbtuple | exact nbbool | exact nbrange | exact nbzip | exact bbint | exact bbstr | exact bbbytes | exact bbbytearray | exact bblist | exact bbtuple | exact bbbool | exact bbrange | exact bbzip)
local macro_rules | `(tactic| walk_at "nb") => `(tactic| with_reducible first | exact nbisinstance | exact nbany | exact nblen | exact nball | exact nbabs | exact bbisinstance | exact bbany | exact bblen | exact bball | exact bbabs)
local macro_rules | `(tactic| walk_at "nm") => `(tactic| first
  | (refine nmL (by assumption) rfl (by first | rfl | assumption) ?_ rfl (by rfl) (by decide))
  | (refine nmC (by assumption) (by rfl) (by rfl) (by first | rfl | assumption) ?_ rfl (by rfl) (by decide))
  | (refine nmFr (by assumption) (by rfl) (by rfl) (by first | rfl | assumption) ?_ rfl (by rfl) (by decide) (by decide))
  | (refine nmG (by assumption) (by walk_at "ng") ?_ rfl rfl (by rfl) (by decide))
  | (refine nmB (v := .builtin _) (by assumption) (by walk_at "nb") (by walk_at "nb") ?_ rfl rfl rfl (by rfl) (by decide) (by decide))
  | (refine nmB (v := .type _) (by assumption) (by walk_at "nt") (by walk_at "nt") ?_ rfl rfl rfl (by rfl) (by decide) (by decide))
  | (refine nmG (by assumption) (by rfl) ?_ rfl rfl (by rfl) (by decide))
  | (refine nmB (v := .type _) (by assumption) (by rfl) (by rfl) ?_ rfl rfl rfl (by rfl) (by decide) (by decide))
  | (refine nmB (v := .builtin _) (by assumption) (by rfl) (by rfl) ?_ rfl rfl rfl (by rfl) (by decide) (by decide)))
local macro_rules | `(tactic| walk_at "cw") => `(tactic| first
  | ((with_reducible show wpAny _ _ (callWith _ (Value.ref _) _ _ _) _ _ _); refine callWith_F (fnAt_of (by assumption) (by rfl)) ?_)
  | ((with_reducible show wpAny _ _ (callWith _ (Value.type _) _ _ _) _ _ _); refine Pv.callWith_type1 ?_)
  | ((with_reducible show wpAny _ _ (callWith _ (Value.builtin _) [] _ _) _ _ _); refine PyProof.Rows.callWith_builtin1 ?_)
  | ((with_reducible show wpAny _ _ (callWith _ (Value.builtin _) _ (backTo _ (starEach [] _)) _) _ _ _); refine callWith_method0 ?_)
  | ((with_reducible show wpAny _ _ (callWith _ (Value.builtin _) _ _ _) _ _ _); refine callWith_method1 ?_))
local macro_rules | `(tactic| walk_at "s") => `(tactic| first
  | with_reducible refine wpAny_execs_nil ?_
  | with_reducible refine wpAny_execs_cons ?_
  | with_reducible refine wpAny_Return_some ?_
  | ((with_reducible show wpAny _ _ (exec (Stmt.If _ _ _ _) _) _ _ _); refine wpAny_If ?_)
  | ((with_reducible show wpAny _ _ (eval (Expr.Compare _ [_] [_] _) _) _ _ _); refine wpAny_Compare1 ?_)
  | ((with_reducible show wpAny _ _ (PySem.isTrue (Expr.Compare _ [_] [_] _) _ _) _ _ _); refine wpAny_isTrue_Compare1 ?_)
  | with_reducible refine isTrue_and_nil ?_
  | with_reducible refine isTrue_or_nil ?_
  | with_reducible refine isTrue_and ?_
  | with_reducible refine isTrue_or ?_
  | with_reducible refine isTrue_not ?_
  | ((with_reducible show wpAny _ _ (PySem.isTrue (Expr.Call _ _ _ _) _ _) _ _ _); refine isTrue_plain ?_)
  | ((with_reducible show wpAny _ _ (PySem.isTrue (Expr.Name _ _) _ _) _ _ _); refine isTrue_plain ?_)
  | ((with_reducible show wpAny _ _ (eval (Expr.Name _ _) _) _ _ _); walk_at "nm")
  | ((with_reducible show wpAny _ _ (eval (Expr.Constant (Const.str _) _ _) _) _ _ _); first | (refine cStr (by assumption) ?_; intro _ _ _) | refine Constant_str ?_)
  | with_reducible refine Constant_bool ?_
  | with_reducible refine Constant_none ?_
  | ((with_reducible show wpAny _ _ (eval (Expr.Constant (Const.int _) _ _) _) _ _ _); first | (refine cInt (by assumption) ?_; intro _ _ _) | refine wpAny_Constant_int ?_)
  | with_reducible refine wpAny_BinOp ?_
  | with_reducible refine IfExp_ ?_
  | with_reducible refine List_ ?_
  | with_reducible refine wpAny_Pass ?_
  | ((with_reducible show wpAny _ _ (binaryOp Operator.FloorDiv (Value.int _ _) (Value.int _ _)) _ _ _); refine divS (by assumption) (by first | decide | omega) (by first | decide | omega) ?_; intro _ _ _)
  | ((with_reducible show wpAny _ _ (binaryOp Operator.Mod (Value.int _ _) (Value.int _ _)) _ _ _); refine modS (by assumption) (by first | decide | omega) ?_; intro _ _ _)
  | ((with_reducible show wpAny _ _ (exec (Stmt.Expr _ _) _) _ _ _); refine wpAny_Expr_any ?_)
  | ((with_reducible show wpAny _ _ (getMethod (Value.str _ _) (Str.ofString "join") _) _ _ _); refine GM.join ?_)
  | ((with_reducible show wpAny _ _ (getMethod (Value.str _ _) (Str.ofString "upper") _) _ _ _); refine GM.upper ?_)
  | ((with_reducible show wpAny _ _ (unaryOp UnaryOp.USub (Value.int _ _)) _ _ _); refine neg_int ?_)
  | with_reducible refine Tuple_ ?_
  | ((with_reducible show wpAny _ _ (exec (Stmt.Assign [Expr.Name _ _] _ _) _) _ _ _); refine wpAny_Assign_Name ?_)
  | with_reducible refine BoolOp_one ?_
  | with_reducible refine BoolOp_and ?_
  | with_reducible refine BoolOp_or ?_
  | with_reducible refine UnaryOp_ ?_
  | ((with_reducible show wpAny _ _ (eval (Expr.Call (Expr.Attribute _ _ _) _ [] _) _) _ _ _); refine MethodCall_ ?_)
  | ((with_reducible show wpAny _ _ (eval (Expr.Call _ _ [] _) _) _ _ _); refine Call_ ?_)
  | with_reducible refine Subscript_ ?_
  | with_reducible refine wpAny_Slice ?_
  | with_reducible refine evalPart_none_step ?_
  | with_reducible refine evalPart_some_step ?_
  | with_reducible refine spliced_none ?_
  | ((with_reducible show wpAny _ _ (spliced (backTo _ (starEach (_ :: _) _))) _ _ _); refine spliced_more ?_)
  | with_reducible refine wpAny_truthy_bool ?_
  | with_reducible refine eq_str ?_
  | with_reducible refine eq_int ?_
  | ((with_reducible show wpAny _ _ (compareOp CmpOp.Lt (Value.int _ _) (Value.int _ _)) _ _ _); refine lt_int ?_)
  | ((with_reducible show wpAny _ _ (binaryOp Operator.Add (Value.int _ _) (Value.int _ _)) _ _ _); refine addS (by assumption) ?_; intro _ _ _)
  | ((with_reducible show wpAny _ _ (binaryOp Operator.Sub (Value.int _ _) (Value.int _ _)) _ _ _); refine subS (by assumption) ?_; intro _ _ _)
  | with_reducible refine ite_t ?_
  | with_reducible refine ite_f ?_
  | ((with_reducible show wpAny _ _ (compareOp CmpOp.Is Value.none Value.none) _ _ _); refine is_none_none ?_)
  | ((with_reducible show wpAny _ _ (compareOp CmpOp.Is (Value.int _ _) Value.none) _ _ _); refine is_none_ne (fun e => nomatch e) ?_)
  | ((with_reducible show wpAny _ _ (compareOp CmpOp.Is (Value.str _ _) Value.none) _ _ _); refine is_none_ne (fun e => nomatch e) ?_)
  | ((with_reducible show wpAny _ _ (compareOp CmpOp.Is (Value.bytes _ _) Value.none) _ _ _); refine is_none_ne (fun e => nomatch e) ?_)
  | ((with_reducible show wpAny _ _ (compareOp CmpOp.Is (Value.ref _) Value.none) _ _ _); refine is_none_ne (fun e => nomatch e) ?_)
  | ((with_reducible show wpAny _ _ (compareOp CmpOp.Is (Value.bool _) Value.none) _ _ _); refine is_none_ne (fun e => nomatch e) ?_)
  | ((with_reducible show wpAny _ _ (call (Value.builtin "isinstance") [_, Value.type "list"]) _ _ _); refine isiList (by assumption) (by first | assumption | constructor) ?_; intro _ _)
  | ((with_reducible show wpAny _ _ (call (Value.builtin "isinstance") [_, Value.type "tuple"]) _ _ _); refine isiTup (by assumption) (by first | assumption | constructor) ?_; intro _ _)
  | ((with_reducible show wpAny _ _ (call (Value.builtin "isinstance") [_, Value.type "str"]) _ _ _); refine isiStr (by assumption) (by first | assumption | constructor) ?_; intro _ _)
  | ((with_reducible show wpAny _ _ (call (Value.builtin "isinstance") [_, Value.type "bool"]) _ _ _); refine isiBool (by assumption) (by first | assumption | constructor) ?_; intro _ _)
  | ((with_reducible show wpAny _ _ (call (Value.builtin "isinstance") [_, Value.type "int"]) _ _ _); refine isiInt (by assumption) (by first | assumption | constructor) ?_; intro _ _)
  | walk_at "cw")
section
inductive Shp (P : V → Prop) : Nat → V → Prop
  | leaf (n : Nat) (d : V) (h : P d) : Shp P n d
  | list (n : Nat) (l : List V) (hl : l.length ≤ 27) (h : ∀ d ∈ l, Shp P n d) : Shp P (n + 1) (.list l)
def okB (d : V) (T : String) : Bool := match kitOne [] (.type (tyOf d)) (.type T) with
  | some b => b
  | none => false
section
variable {prog : Program} {w : World} {mg mb : Str → Option Value}
theorem fn_alike_leaf {kind : Nat} {n : Nat} {g : Heap} {v1 v2 : Value} {d : V} (hw : Worth kind d) (r1 : Rep g v1 d) (r2 : Rep g v2 d) : Fn prog w mg mb 861 [v1, v2] (n + 1) g (fun _ v => v = .bool true) := by
  refine enter [(Str.ofString "one", v1), (Str.ofString "two", v2)] rfl (by kernel_rfl) rfl rfl rfl rfl rfl ?_
  intro A s L s' hh hd hu I hLo hco H
  have fin : ∀ (b1 b2 b3 : Bool) (m : Str → Option Value) (cl : List (Str × Addr)) (cm : Str → Option Value) (t1 t2 : Addr) (own : List (Addr × Obj)) (s2 : Shared) (Q : Value → Shared → Prop), St w mg mb s g g L m cl cm own s2.heap s2.gens s2.os → (t1, tupOf [Value.bool b1, .bool b2, .bool b3].toArray) ∈ own → (t2, tupOf [Value.bool b1, .bool b2, .bool b3].toArray) ∈ own →
      Q (.bool true) s2 → wpAny (model prog w) A (compareOp .Eq (.ref t1) (.ref t2)) Q (fun _ _ => False) s2 := by
    intro b1 b2 b3 m cl cm t1 t2 own s2 Q H2 h1 h2 hq
    refine SeqAt.eq_tupleAt (e := fun _ => true) (own_tup H2 h1) (own_tup H2 h2) (by have : cLine = 9900 := rfl; omega) (fun j hj1 hj2 => ?_) hq
    exact SeqAt.EqAt.same _
  cases r1 with
  | list h r => exact hw.elim
  | none =>
    cases r2
    repeat walk_at "s"
    refine PySem.EqNone.eq_none_none ?_
    repeat walk_at "s"
    refine newT (by assumption) ?_ (by rw [sizeLine_eq]; simp); intro t1 s1 H1
    repeat walk_at "s"
    refine newT (by assumption) ?_ (by rw [sizeLine_eq]; simp); intro t2 s2 H2
    exact fin _ _ _ _ _ _ t1 t2 _ s2 _ H2 (.tail _ (.head _)) (.head _) ⟨g, H2.ret', rfl⟩
  | bool b =>
    cases r2
    repeat walk_at "s"
    refine eq_bool ?_
    rw [show (b == b) = true from beq_self_eq_true b]
    repeat walk_at "s"
    refine newT (by assumption) ?_ (by rw [sizeLine_eq]; simp); intro t1 s1 H1
    repeat walk_at "s"
    refine newT (by assumption) ?_ (by rw [sizeLine_eq]; simp); intro t2 s2 H2
    exact fin _ _ _ _ _ _ t1 t2 _ s2 _ H2 (.tail _ (.head _)) (.head _) ⟨g, H2.ret', rfl⟩
  | int i t =>
    cases r2
    repeat walk_at "s"
    rw [show (i == i) = true from beq_self_eq_true i]
    repeat walk_at "s"
    refine newT (by assumption) ?_ (by rw [sizeLine_eq]; simp); intro t1 s1 H1
    repeat walk_at "s"
    refine newT (by assumption) ?_ (by rw [sizeLine_eq]; simp); intro t2 s2 H2
    exact fin _ _ _ _ _ _ t1 t2 _ s2 _ H2 (.tail _ (.head _)) (.head _) ⟨g, H2.ret', rfl⟩
  | str x t =>
    cases r2
    repeat walk_at "s"
    rw [show (x == x) = true from beq_self_eq_true x]
    repeat walk_at "s"
    refine newT (by assumption) ?_ (by rw [sizeLine_eq]; simp); intro t1 s1 H1
    repeat walk_at "s"
    refine newT (by assumption) ?_ (by rw [sizeLine_eq]; simp); intro t2 s2 H2
    exact fin _ _ _ _ _ _ t1 t2 _ s2 _ H2 (.tail _ (.head _)) (.head _) ⟨g, H2.ret', rfl⟩
  | bytes b t =>
    cases r2
    repeat walk_at "s"
    refine PySem.W.eq_bytes ?_
    rw [show (b.toList == b.toList) = true from beq_self_eq_true _]
    repeat walk_at "s"
    refine newT (by assumption) ?_ (by rw [sizeLine_eq]; simp); intro t1 s1 H1
    repeat walk_at "s"
    refine newT (by assumption) ?_ (by rw [sizeLine_eq]; simp); intro t2 s2 H2
    exact fin _ _ _ _ _ _ t1 t2 _ s2 _ H2 (.tail _ (.head _)) (.head _) ⟨g, H2.ret', rfl⟩
theorem fn_law_alike {kind : Nat} : ∀ (n : Nat) (g : Heap) (v1 v2 : Value) (d : V), n ≤ 10 → Shp (Worth kind) n d → Rep g v1 d → Rep g v2 d → Fn prog w mg mb 861 [v1, v2] (n + 1) g (fun _ v => v = .bool true) := by
  intro n
  induction n with
  | zero =>
    intro g v1 v2 d _ hs r1 r2
    cases hs with
    | leaf _ _ h => exact fn_alike_leaf h r1 r2
  | succ n ih =>
    intro g v1 v2 d hn hs r1 r2
    cases hs with
    | leaf _ _ h => exact fn_alike_leaf h r1 r2
    | list _ l hl h =>
    have R1 := r1
    have R2 := r2
    cases r1 with
    | @list a1 vs1 _ hv1 rv1 =>
    cases r2 with
    | @list a2 vs2 _ hv2 rv2 =>
    have hl1 := rv1.length
    have hl2 := rv2.length
    refine enter [(Str.ofString "one", .ref a1), (Str.ofString "two", .ref a2)] rfl (by kernel_rfl) rfl rfl rfl rfl rfl ?_
    intro A s L s' hh hd hu I hLo hco H
    repeat walk_at "s"
    refine lenG (n := l.length) (by assumption) hv1 (by rw [List.size_toArray, hl1]) (by omega) ?_; intro t1 s1 H1
    repeat walk_at "s"
    refine lenG (n := l.length) (by assumption) hv2 (by rw [List.size_toArray, hl2]) (by omega) ?_; intro t2 s2 H2
    repeat walk_at "s"
    rw [show ((l.length : Int) == (l.length : Int)) = true from beq_self_eq_true _]
    repeat walk_at "s"
    have hmin : min vs1.toArray.size vs2.toArray.size = l.length := by rw [List.size_toArray, List.size_toArray, hl1, hl2, Nat.min_self]
    refine compZip [] (l1 := a1) (l2 := a2) (xs := vs1.toArray) (ys := vs2.toArray) (F := fun _ _ y => y = .bool true) (by assumption) hh hLo (by with_unfolding_all rfl) (by decide) rfl (by decide) rfl rfl (by decide) (by exact trivial) (by intro _; with_unfolding_all rfl) (by rw [hmin, sizeLine_eq]; omega) ?_ (fun _ _ _ _ _ h => h) ?_ ?_
    · repeat walk_at "s"
      refine zipS (by assumption) hLo hv1 hv2 fun xv s' hz => hz
    · intro C i va vb g' m3 s3 hi h1 h2 hg' hma hmb H3
      rw [hmin] at hi
      obtain ⟨d1, hd1, q1⟩ := rv1.get (i := i) (v := va) (by simpa using h1)
      obtain ⟨d2, hd2, q2⟩ := rv2.get (i := i) (v := vb) (by simpa using h2)
      rw [hd1] at hd2
      cases hd2
      repeat walk_at "s"
      refine ⟨fnAt_of (by assumption) (by rfl), ?_⟩
      refine call_fn (by assumption) (ih g' va vb d1 (by omega) (h d1 (List.mem_of_getElem? hd1)) (q1.keeps hg') (q2.keeps hg')) hh (by omega) (by omega) fun v g4 s4 H4 hg4 hp => ?_
      exact ⟨g4, H4.ret', hp⟩
    · intro D g2 s3 zs hg2 hD hlen hF H3
      repeat walk_at "s"
      refine allL (tr := fun _ => true) hh hLo (by assumption) hD hF ?_; intro s4 H4
      refine ⟨g2, H4.ret', ?_⟩
      show Value.bool _ = _
      simp
end

end
section
section
variable {prog : Program} {w : World} {mg mb : Str → Option Value} {g : Heap}
theorem pyTypes_int {o : Shared} {g₀ : Heap} {L : Addr} {m cm : Str → Option Value} {cl : List (Str × Addr)} {own : List (Addr × Obj)} {A : Around} {E : Value → Shared → Prop} {s : Shared} {value slice : Expr} {t : Tok} {Q : Value → Shared → Prop} (H : St w mg mb o g₀ g L m cl cm own s.heap s.gens s.os)
    (h : ∀ s', St w mg mb o g₀ g L m cl cm own s'.heap s'.gens s'.os → Q (.ref 70) s')
    (hs : subscripted slice false (.ref 800) (.str (Str.ofString "int") t) = operate [.ref 800, .str (Str.ofString "int") t] (getItem (.ref 800) (.str (Str.ofString "int") t)) := by with_unfolding_all rfl) :
    wpAny (model prog w) A (subscriptTail value slice (.ref 800) (.str (Str.ofString "int") t)) Q E s := by
  have X := H.inv.base.k.keeps H.inv.sub
  have hm := mapOf_K (prog := prog) (w := w) (a := 800) X (by rfl) (by repeat (first | exact trivial | refine ⟨⟨_, _, rfl, rfl⟩, ?_⟩))
  exact tail_any hm.typeIs slot_dict_getitem.lookup (wpAny_getItem_of (strKind_is prog w _ t) hm (find_K (by rfl) (by rfl : nsIn (KF w) 800 (Str.ofString "int") = some (some (.ref 70)))) (h { s with toks := _ } H)) hs
theorem fn_make_param_int {i : Int} {t : Tok} (hi : i.natAbs < 10 ^ 30) : Fn prog w mg mb 807 [.ref 800, .int i t] 2 g (fun _ v => ∃ t, v = .str (Str.ofString (toString i)) t) := by
  refine enter [(Str.ofString "py_types", .ref 800), (Str.ofString "value", .int i t)] rfl (by kernel_rfl) rfl rfl rfl rfl rfl ?_
  intro A s L s' hh hd hu I hLo hco H
  repeat walk_at "s"
  refine wpAny_Try_except (wpAny_mono (E := fun _ _ => False) (Q := fun f s1 => f = .next ∧ ∃ g2, St w mg mb s g g2 L (fun y => if y = Str.ofString "func" then some (.ref 70) else bindL (fun x => List.lookup x [(Str.ofString "py_types", NameKind.local), (Str.ofString "value", NameKind.local), (Str.ofString "func", NameKind.local)]) [(Str.ofString "py_types", .ref 800), (Str.ofString "value", .int i t)] (fun _ => none) y) [] (fun _ => none) [] s1.heap s1.gens s1.os) ?_ (fun f s1 h1 => ?_) fun _ _ x => x.elim)
  · repeat walk_at "s"
    refine ⟨fnAt_of (by assumption) (by rfl), ?_⟩
    refine call_fn (by assumption) (fn_kind_of_int i t) hh (by omega) (by omega) fun v g2 s2 H2 hg2 hp => ?_
    obtain ⟨t2, rfl⟩ := hp
    repeat walk_at "s"
    refine pyTypes_int H2 ?_; intro s3 H3
    refine stR H3 hLo rfl ?_ rfl (by rfl); intro s4 H4
    repeat walk_at "s"
    exact ⟨rfl, g2, H4⟩
  · obtain ⟨rfl, g1, H1⟩ := h1
    repeat walk_at "s"
    refine ⟨fnAt_of (by assumption) (by rfl), ?_⟩
    refine call_fn (by assumption) (fn_int_out i t hi) hh (by omega) (by omega) fun v g2 s2 H2 hg2 hp => ?_
    exact ⟨g2, H2.ret', hp⟩
end
def outOf : V → Str
  | .none => Str.ofString "NULL"
  | .int i => Str.ofString (toString i)
  | .str x => outText x.cps.toList
  | .bytes b => Str.empty ++ Str.ofString "\"\\" ++ (Str.ofString "\\x" ++ FH.hexText b) ++ Str.ofString "\""
  | _ => Str.empty
mutual
noncomputable def layV (f : V → Str) : V → V
  | .list l => .list (layL f l)
  | d => .str (f d)
noncomputable def layL (f : V → Str) : List V → List V
  | [] => []
  | d :: r => layV f d :: layL f r
end
theorem layL_map (f : V → Str) : ∀ l : List V, layL f l = l.map (layV f)
  | [] => rfl
  | d :: r => by rw [layL, layL_map f r]; rfl
theorem outText_len (x : List Nat) (h : x.length ≤ 5) : (outText x).length ≤ 204 := by
  have h1 := escL_len x
  have h2 : (txt (escL x)).length = (escL x).length := by show (escL x).toArray.size = _; simp
  unfold outText
  split
  · rw [sizes_str, sizes_str, sizes_str, h2, show (Str.ofString "\"").length = 1 by rfl, show Str.empty.length = 0 by rfl]; omega
  · rw [h2]; omega
theorem outOf_len {kind : Nat} {d : V} (h : Worth kind d) : (outOf d).length ≤ 204 := by
  cases d with
  | none => decide
  | bool b => exact Nat.zero_le _
  | int i => exact Nat.le_trans (int_len (Nat.lt_of_lt_of_le h.2 (Nat.pow_le_pow_right (by decide) (by decide)))) (by decide)
  | str x => exact outText_len _ (by rw [Array.length_toList]; exact h.2)
  | bytes b =>
    show (Str.empty ++ Str.ofString "\"\\" ++ (Str.ofString "\\x" ++ FH.hexText b) ++ Str.ofString "\"").length ≤ 204
    rw [sizes_str, sizes_str, sizes_str, sizes_str, hexText_len, show (Str.ofString "\"").length = 1 by rfl, show (Str.ofString "\"\\").length = 2 by rfl, show (Str.ofString "\\x").length = 2 by rfl, show Str.empty.length = 0 by rfl]
    have := h.2; omega
  | list l => exact h.elim
section
variable {prog : Program} {w : World} {mg mb : Str → Option Value}
theorem joinG {sep : Str} {t : Tok} {D : Addr} {l : List (Str × Tok)} {o : Shared} {g₀ g : Heap} {L : Addr} {m cm : Str → Option Value} {cl : List (Str × Addr)} {own : List (Addr × Obj)} {A : Around} {E : Value → Shared → Prop} {s : Shared} {Q : Value → Shared → Prop} (H : St w mg mb o g₀ g L m cl cm own s.heap s.gens s.os) (hl : g.IsList D (strValues l).toArray) (hz : ((l.map (·.1)).map (·.length)).sum + l.length * sep.length ≤ 16777216)
    (h : ∀ x t s', x = Str.join sep (l.map (·.1)) → x.length ≤ ((l.map (·.1)).map (·.length)).sum + l.length * sep.length → St w mg mb o g₀ g L m cl cm own s'.heap s'.gens s'.os → Q (.str x t) s') : wpAny (model prog w) A (call (.builtin "str.join") [.str sep t, .ref D]) Q E s := joinS H (IsList.keeps' hl H.inv.sub) hz h
theorem isiTS {o : Shared} {g₀ g : Heap} {L : Addr} {m cm : Str → Option Value} {cl : List (Str × Addr)} {own : List (Addr × Obj)} {A : Around} {E : Value → Shared → Prop} {s : Shared} {Q : Value → Shared → Prop} {v : Value} {d : V} {tp : Addr} {its : List Value} (b : Bool) (H : St w mg mb o g₀ g L m cl cm ((tp, tupOf its.toArray) :: own) s.heap s.gens s.os) (r : Rep g v d) (e : kitAny [] (.type (tyOf d)) its = some b)
    (h : ∀ s', St w mg mb o g₀ g L m cl cm own s'.heap s'.gens s'.os → Q (.bool b) s') : wpAny (model prog w) A (call (.builtin "isinstance") [v, .ref tp]) Q E s := isiRT H r (.head _) e fun tk => h { s with toks := tk } H.tail
theorem fn_out_leaf {kind n : Nat} {g : Heap} {v : Value} {d : V} (hk : kind ≠ 3) (hw : Worth kind d) (hr : Rep g v d) : Fn prog w mg mb 794 [v] (n + 3) g (fun _ v => ∃ t, v = .str (outOf d) t) := by
  refine enter [(Str.ofString "val", v)] rfl (by kernel_rfl) rfl rfl rfl rfl rfl ?_
  intro A s L s' hh hd hu I hLo hco H
  cases hr with
  | list h r => exact hw.elim
  | bool b => exact absurd hw hk
  | none =>
    repeat walk_at "s"
    exact ⟨g, St.ret' (by assumption), _, rfl⟩
  | int i t =>
    repeat walk_at "s"
    refine newT (by assumption) ?_ (by rw [sizeLine_eq]; simp); intro t1 s1 H1
    repeat walk_at "s"
    refine isiTS false H1 (.int i t) (by rfl) ?_; intro s2 H2
    repeat walk_at "s"
    refine ⟨fnAt_of (by assumption) (by rfl), ?_⟩
    refine call_fn (by assumption) (fn_make_param_int (Nat.lt_of_lt_of_le hw.2 (by decide))) hh (by omega) (by omega) fun v g2 s2 H2 hg2 hp => ?_
    exact ⟨g2, H2.ret', hp⟩
  | str x t =>
    repeat walk_at "s"
    refine newT (by assumption) ?_ (by rw [sizeLine_eq]; simp); intro t1 s1 H1
    repeat walk_at "s"
    refine isiTS false H1 (.str x t) (by rfl) ?_; intro s2 H2
    repeat walk_at "s"
    refine ⟨fnAt_of (by assumption) (by rfl), ?_⟩
    refine call_fn (by assumption) (fn_escape (Nat.le_trans hw.2 (by decide))) hh (by omega) (by omega) fun v g2 s2 H2 hg2 hp => ?_
    exact ⟨g2, H2.ret', hp⟩
  | bytes b t =>
    repeat walk_at "s"
    refine newT (by assumption) ?_ (by rw [sizeLine_eq]; simp); intro t1 s1 H1
    repeat walk_at "s"
    refine isiTS true H1 (.bytes b t) (by rfl) ?_; intro s2 H2
    repeat walk_at "s"
    have hb : b.size ≤ 4 := hw.2
    have l1 : (Str.ofString "\"").length = 1 := by rfl
    have l2 : (Str.ofString "\"\\").length = 2 := by rfl
    have l3 : (Str.ofString "\\x").length = 2 := by rfl
    have l0 : Str.empty.length = 0 := by rfl
    have l4 := hexText_len b
    refine JoinedStr_many (joinParts_cons ?_)
    repeat walk_at "s"
    refine ⟨by rw [sizes_str, l0, l2]; decide, joinParts_cons (FormattedValue_plain ?_)⟩
    repeat walk_at "s"
    refine ⟨fnAt_of (by assumption) (by rfl), ?_⟩
    refine call_fn (by assumption) (fn_bytes_out b t (by omega)) hh (by omega) (by omega) fun v g2 s2 H2 hg2 hp => ?_
    obtain ⟨t2, rfl⟩ := hp
    refine formatField_str (fun t2 tk2 => ?_) (by rw [sizeLine_eq, sizes_str]; omega)
    refine ⟨by rw [sizes_str, sizes_str, sizes_str, l0, l2, l3, l4, sizeLine_eq]; omega, joinParts_cons ?_⟩
    refine cStr (s := { s2 with toks := tk2 }) H2 ?_; intro t3 s3 H3
    refine ⟨by rw [sizes_str, sizes_str, sizes_str, sizes_str, l0, l1, l2, l3, l4, sizeLine_eq]; omega, joinParts_nil ?_ (by rw [sizes_str, sizes_str, sizes_str, sizes_str, l0, l1, l2, l3, l4, sizeLine_eq]; omega)⟩
    exact ⟨g2, St.ret' H3, _, rfl⟩
theorem fn_array_out {kind : Nat} (hk : kind ≠ 3) : ∀ (n : Nat) (g : Heap) (v : Value) (d : V), n ≤ 3 → Shp (Worth kind) n d → Rep g v d → Fn prog w mg mb 794 [v] (n + 3) g (fun _ v => ∃ t, v = .str (flatV (layV outOf d)) t ∧ (flatV (layV outOf d)).length ≤ capN n) := by
  have leaf : ∀ (n : Nat) (g : Heap) (v : Value) (d : V), Worth kind d → Rep g v d → Fn prog w mg mb 794 [v] (n + 3) g (fun _ v => ∃ t, v = .str (flatV (layV outOf d)) t ∧ (flatV (layV outOf d)).length ≤ capN n) := by
    intro n g v d hw hr A s Q E hh hd hu I k
    refine fn_out_leaf (n := n) hk hw hr A s Q E hh hd hu I fun v' g' s' R hp => k v' g' s' R ?_
    have e : flatV (layV outOf d) = outOf d := by
      cases d with
      | list l => exact hw.elim
      | none => rfl
      | bool b => rfl
      | int i => rfl
      | str x => rfl
      | bytes b => rfl
    obtain ⟨t, rfl⟩ := hp
    rw [e]
    exact ⟨t, rfl, Nat.le_trans (outOf_len hw) (cap_mono n)⟩
  intro n
  induction n with
  | zero =>
    intro g v d _ hs hr
    cases hs with
    | leaf _ _ h => exact leaf 0 g v d h hr
  | succ n ih =>
    intro g v d hn hs hr
    cases hs with
    | leaf _ _ h => exact leaf _ g v d h hr
    | list _ l hl ht =>
    have R := hr
    cases hr with
    | @list a vs _ hva rva =>
    have hvl := rva.length
    refine enter [(Str.ofString "val", .ref a)] rfl (by kernel_rfl) rfl rfl rfl rfl rfl ?_
    intro A s L s' hh hd hu I hLo hco H
    repeat walk_at "s"
    refine compA [] (by assumption) (by with_unfolding_all rfl) (by with_unfolding_all rfl) (by decide) rfl (by decide) rfl (by exact trivial) (by intro _; with_unfolding_all rfl) hLo rfl (by rfl) rfl ?_
    repeat walk_at "s"
    refine iter_list hh (by assumption) hva fun I oI s2 W hS H2 => ⟨I, _, _, _, fun i _ y => ∃ x u, l[i]? = some x ∧ y = .str (flatV (layV outOf x)) u ∧ (flatV (layV outOf x)).length ≤ capN n, g, oI, rfl, W, by rw [sizeLine_eq, List.size_toArray, hvl]; omega, hS, H2, fun _ _ _ _ _ h => h, ?_, ?_⟩
    · rintro C i v g2 m3 s3 hi hP hg2 hm3 H3
      have hP' : vs[i]? = some v := by simpa using hP
      obtain ⟨d', hd', hr'⟩ := rva.get hP'
      repeat walk_at "s"
      refine ⟨fnAt_of (by assumption) (by rfl), ?_⟩
      refine call_fn (by assumption) (ih g2 v d' (by omega) (ht d' (List.mem_of_getElem? hd')) (hr'.keeps hg2)) hh (by omega) (by omega) fun v g4 s4 H4 hg4 hp => ?_
      obtain ⟨t4, rfl, hx⟩ := hp
      exact ⟨g4, H4.ret', d', t4, hd', rfl, hx⟩
    · intro D g2 s3 ys hg2 hl2 hlen hF H3
      obtain ⟨l2, rfl, hl3⟩ := strs_list (xs := l) (f := fun x => flatV (layV outOf x)) (by rw [hlen, List.size_toArray, hvl]) (fun i y e => by
        obtain ⟨x, u, hx, e2, _⟩ := hF i y e
        exact ⟨x, u, hx, e2⟩) (ys := ys)
      have hll : l2.length = l.length := by have := congrArg List.length hl3; simpa using this
      have h1 : (Str.ofString ",").length = 1 := by rfl
      have h2 : (Str.ofString "{").length = 1 := by rfl
      have h3 : (Str.ofString "}").length = 1 := by rfl
      have h0 : Str.empty.length = 0 := by rfl
      have hB : ∀ p ∈ l2.map (·.1), p.length ≤ capN n := by
        rw [hl3]; intro p hp
        obtain ⟨x, hx, rfl⟩ := List.mem_map.mp hp
        obtain ⟨i, hi⟩ := List.getElem?_of_mem hx
        have hlt : i < (strValues l2).length := by rw [strValues, List.length_map, hll]; exact (List.getElem?_eq_some_iff.mp hi).1
        obtain ⟨x', u, hx', _, hc⟩ := hF i _ (List.getElem?_eq_getElem hlt)
        rw [hi] at hx'; cases hx'; exact hc
      have hsum := sum_le hB
      rw [List.length_map, hll] at hsum
      have hsum2 : l.length * capN n ≤ 27 * capN n := Nat.mul_le_mul_right _ hl
      have hcap : capN n ≤ 200000 := by
        have : ∀ k, k ≤ 2 → capN k ≤ 200000 := fun k hk => by
          match k, hk with
          | 0, _ => decide
          | 1, _ => decide
          | 2, _ => decide
        exact this n (by omega)
      repeat walk_at "s"
      refine JoinedStr_many (joinParts_cons ?_)
      repeat walk_at "s"
      refine ⟨by rw [sizes_str, h0, h2]; decide, joinParts_cons (FormattedValue_plain ?_)⟩
      repeat walk_at "s"
      refine joinG (by assumption) hl2 (by rw [h1]; omega) ?_
      intro x t7 s7 hx hxl H7
      rw [hl3] at hx
      rw [h1] at hxl
      refine formatField_str (fun t8 tk8 => ?_) (by rw [sizeLine_eq]; omega)
      refine ⟨by rw [sizes_str, sizes_str, h0, h2, sizeLine_eq]; omega, joinParts_cons ?_⟩
      refine cStr (s := { s7 with toks := tk8 }) H7 ?_; intro t9 s9 H9
      refine ⟨by rw [sizes_str, sizes_str, sizes_str, h0, h2, h3, sizeLine_eq]; omega, joinParts_nil ?_ (by rw [sizes_str, sizes_str, sizes_str, h0, h2, h3, sizeLine_eq]; omega)⟩
      have e : flatV (layV outOf (.list l)) = Str.empty ++ Str.ofString "{" ++ x ++ Str.ofString "}" := by
        rw [hx, Str.empty_append, layV, flatV, flatL_map, layL_map, List.map_map]; rfl
      refine ⟨g2, St.ret' H9, s9.toks, ?_, ?_⟩
      · show Value.str (Str.empty ++ Str.ofString "{" ++ x ++ Str.ofString "}") s9.toks = _
        rw [e]
      · rw [e, sizes_str, sizes_str, sizes_str, h0, h2, h3, capN]; omega
end

end
end
section
section

/-! what is laid is read -/
def specials : List Nat := [34, 123, 125, 44]
/-- a text laid for an element -/
inductive Lf (ad : Str → Option V) : Str → V → Prop
  | null : Lf ad (Str.ofString "NULL") .none
  | bare {x : List Nat} {d : V} (h0 : x ≠ []) (hN : txt x ≠ Str.ofString "NULL") (hs : ∀ c ∈ x, c ∉ specials) (ha : ad (txt x) = some d) : Lf ad (txt x) d
  | quoted {x : List Nat} {d : V} (ha : ad (txt x) = some d) : Lf ad (txt (34 :: (escL x ++ [34]))) d
inductive Den (ad : Str → Option V) : V → V → Prop
  | leaf {x : Str} {d : V} (h : Lf ad x d) : Den ad (.str x) d
  | nil : Den ad (.list []) (.list [])
  | cons {t d : V} {ts ds : List V} (h : Den ad t d) (r : Den ad (.list ts) (.list ds)) : Den ad (.list (t :: ts)) (.list (d :: ds))

/-- a configuration that stands for one where l ++ [d] is on top, once a sign that ends a word comes -/
def Pend (ad : Str → Option V) (k : Cfg) (l : List V) (r : List (List V)) (d : V) : Prop :=
  (k.st = .out ∧ k.lv = (l ++ [d]) :: r) ∨ (k.st = .val ∧ k.lv = l :: r ∧ wordV ad k.buf = some d)
theorem Pend.comma {ad : Str → Option V} {k : Cfg} {l : List V} {r : List (List V)} {d : V} (h : Pend ad k l r d) : ∃ b, step ad 44 k = some ⟨.out, (l ++ [d]) :: r, b⟩ := by
  obtain ⟨st, lv, buf⟩ := k
  rcases h with ⟨h1, h2⟩ | ⟨h1, h2, h3⟩
  · simp only at h1 h2; subst h1 h2
    exact ⟨buf, by simp [step, step1, step2]⟩
  · simp only at h1 h2 h3; subst h1 h2
    exact ⟨buf, by simp [step, step1, step2, h3, pushV]⟩
theorem Pend.close {ad : Str → Option V} {k : Cfg} {l p : List V} {r : List (List V)} {d : V} (h : Pend ad k l (p :: r) d) : ∃ b, step ad 125 k = some ⟨.out, (p ++ [.list (l ++ [d])]) :: r, b⟩ := by
  obtain ⟨st, lv, buf⟩ := k
  rcases h with ⟨h1, h2⟩ | ⟨h1, h2, h3⟩
  · simp only at h1 h2; subst h1 h2
    exact ⟨buf, by simp [step, step1, step2]⟩
  · simp only at h1 h2 h3; subst h1 h2
    exact ⟨buf, by simp [step, step1, step2, h3, pushV]⟩

theorem run_val {ad : Str → Option V} : ∀ (x b : List Nat) (lv : List (List V)), (∀ c ∈ x, c ∉ specials) → run ad x ⟨.val, lv, b⟩ = some ⟨.val, lv, b ++ x⟩
  | [], b, lv, _ => by simp [run]
  | c :: r, b, lv, h => by
    have hc := h c (.head _)
    simp only [specials, List.mem_cons, List.not_mem_nil, or_false, not_or] at hc
    have e : step ad c ⟨.val, lv, b⟩ = some ⟨.val, lv, b ++ [c]⟩ := by simp [step, step1, step2, hc.2.2.1, hc.2.2.2]
    rw [run, e]
    show run ad r _ = _
    rw [run_val r (b ++ [c]) lv fun c hc => h c (.tail _ hc), List.append_assoc]; rfl
theorem run_str {ad : Str → Option V} : ∀ (x b : List Nat) (lv : List (List V)), run ad (escL x) ⟨.str, lv, b⟩ = some ⟨.str, lv, b ++ x⟩
  | [], b, lv => by simp [escL, run]
  | c :: r, b, lv => by
    have h : escL (c :: r) = (if c = 92 ∨ c = 34 then [92, c] else [c]) ++ escL r := by simp [escL]
    rw [h, run_append]
    have e : run ad (if c = 92 ∨ c = 34 then [92, c] else [c]) ⟨.str, lv, b⟩ = some ⟨.str, lv, b ++ [c]⟩ := by
      by_cases hc : c = 92 ∨ c = 34
      · rw [if_pos hc]; simp [run, step, step1, step2]
      · rw [if_neg hc]
        rw [not_or] at hc
        simp [run, step, step1, step2, hc.1, hc.2]
    rw [e]
    show run ad (escL r) _ = _
    rw [run_str r (b ++ [c]) lv, List.append_assoc]; rfl

theorem run_leaf {ad : Str → Option V} {x : Str} {d : V} (h : Lf ad x d) (l : List V) (r : List (List V)) (b : List Nat) : ∃ k, run ad x.cps.toList ⟨.out, l :: r, b⟩ = some k ∧ Pend ad k l r d := by
  cases h with
  | null =>
    refine ⟨⟨.val, l :: r, [78, 85, 76, 76]⟩, ?_, .inr ⟨rfl, rfl, ?_⟩⟩
    · rw [show (Str.ofString "NULL").cps.toList = [78, 85, 76, 76] by rfl]
      simp [run, step, step1, step2]
    · unfold wordV; rw [if_pos (by rfl)]
  | @bare x d h0 hN hs ha =>
    cases x with
    | nil => exact absurd rfl h0
    | cons c x =>
      have hc := hs c (.head _)
      simp only [specials, List.mem_cons, List.not_mem_nil, or_false, not_or] at hc
      refine ⟨⟨.val, l :: r, c :: x⟩, ?_, .inr ⟨rfl, rfl, by unfold wordV; rw [if_neg hN]; exact ha⟩⟩
      show run ad (txt (c :: x)).cps.toList _ = _
      rw [show (txt (c :: x)).cps.toList = c :: x by simp [txt], run]
      have e : step ad c ⟨.out, l :: r, b⟩ = some ⟨.val, l :: r, [c]⟩ := by simp [step, step1, step2, hc.1, hc.2.1, hc.2.2.1, hc.2.2.2]
      rw [e]
      show run ad x _ = _
      rw [run_val x [c] (l :: r) fun c hc => hs c (.tail _ hc)]; rfl
  | @quoted x d ha =>
    refine ⟨⟨.out, (l ++ [d]) :: r, x⟩, ?_, .inl ⟨rfl, rfl⟩⟩
    rw [show (txt (34 :: (escL x ++ [34]))).cps.toList = 34 :: (escL x ++ [34]) by simp [txt], run]
    have e : step ad 34 ⟨.out, l :: r, b⟩ = some ⟨.str, l :: r, []⟩ := by simp [step, step1, step2]
    rw [e]
    show run ad (escL x ++ [34]) _ = _
    rw [run_append, run_str]
    show run ad [34] _ = _
    simp [run, step, step1, step2, ha, pushV]

theorem cps_append (x y : Str) : (x ++ y).cps.toList = x.cps.toList ++ y.cps.toList := by show (x.cps ++ y.cps).toList = _; simp
def RunOk (ad : Str → Option V) (t d : V) : Prop := ∀ (l : List V) (r : List (List V)) (b : List Nat), ∃ k, run ad (flatV t).cps.toList ⟨.out, l :: r, b⟩ = some k ∧ Pend ad k l r d
def Items (ad : Str → Option V) (ts ds : List V) : Prop := ∀ (acc : List V) (rest : List (List V)) (b : List Nat), ts ≠ [] → ∃ k l' d', run ad (Str.join (Str.ofString ",") (flatL ts)).cps.toList ⟨.out, acc :: rest, b⟩ = some k ∧ acc ++ ds = l' ++ [d'] ∧ Pend ad k l' rest d'
theorem run_listS {ad : Str → Option V} {ts ds : List V} (h : Items ad ts ds) (h0 : ts = [] → ds = []) (l : List V) (r : List (List V)) (b : List Nat) : ∃ b', run ad (flatV (.list ts)).cps.toList ⟨.out, l :: r, b⟩ = some ⟨.out, (l ++ [.list ds]) :: r, b'⟩ := by
  rw [flatV, cps_append, cps_append, run_append, run_append]
  rw [show (Str.ofString "{").cps.toList = [123] by rfl, show (Str.ofString "}").cps.toList = [125] by rfl]
  have e : run ad [123] ⟨.out, l :: r, b⟩ = some ⟨.out, [] :: l :: r, b⟩ := by simp [run, step, step1, step2]
  rw [e]
  by_cases hts : ts = []
  · have hds := h0 hts
    subst hts hds
    refine ⟨b, ?_⟩
    show (run ad (Str.join (Str.ofString ",") []).cps.toList ⟨.out, [] :: l :: r, b⟩).bind (run ad [125]) = _
    rw [show (Str.join (Str.ofString ",") []).cps.toList = [] by rfl]
    simp [run, step, step1, step2]
  · obtain ⟨k, l', d', h1, h2, h3⟩ := h [] (l :: r) b hts
    obtain ⟨b', h4⟩ := h3.close
    refine ⟨b', ?_⟩
    show (run ad _ ⟨.out, [] :: l :: r, b⟩).bind (run ad [125]) = _
    rw [h1]
    show run ad [125] k = _
    rw [run, h4, ← h2]; rfl
theorem run_list {ad : Str → Option V} {ts ds : List V} (h : Items ad ts ds) (h0 : ts = [] → ds = []) : RunOk ad (.list ts) (.list ds) := fun l r b => let ⟨_, e⟩ := run_listS h h0 l r b; ⟨_, e, .inl ⟨rfl, rfl⟩⟩
theorem run_den {ad : Str → Option V} {t d : V} (h : Den ad t d) : RunOk ad t d ∧ ∀ ts ds, t = .list ts → d = .list ds → Items ad ts ds ∧ (ts = [] → ds = []) := by
  induction h with
  | leaf h => exact ⟨fun l r b => run_leaf h l r b, fun ts ds e => by cases e⟩
  | nil =>
    have hi : Items ad [] [] := fun _ _ _ h => absurd rfl h
    exact ⟨run_list hi fun _ => rfl, fun ts ds e1 e2 => by cases e1; cases e2; exact ⟨hi, fun _ => rfl⟩⟩
  | @cons t d ts ds h r ih1 ih2 =>
    have hi : Items ad (t :: ts) (d :: ds) := by
      intro acc rest b _
      obtain ⟨i1, i2⟩ := ih2.2 ts ds rfl rfl
      obtain ⟨k, hk, hp⟩ := ih1.1 acc rest b
      cases ts with
      | nil =>
        have := i2 rfl
        subst this
        exact ⟨k, acc, d, hk, rfl, hp⟩
      | cons t2 ts =>
        obtain ⟨b', hc⟩ := hp.comma
        obtain ⟨k2, l', d', h1, h2, h3⟩ := i1 (acc ++ [d]) rest b' (by simp)
        refine ⟨k2, l', d', ?_, by rw [← h2, List.append_assoc]; rfl, h3⟩
        show run ad (flatV t ++ Str.ofString "," ++ Str.join (Str.ofString ",") (flatL (t2 :: ts))).cps.toList _ = _
        rw [cps_append, cps_append, run_append, run_append, hk]
        show ((run ad (Str.ofString ",").cps.toList k).bind _) = _
        rw [show (Str.ofString ",").cps.toList = [44] by rfl, run, hc]
        exact h1
    exact ⟨run_list hi (fun e => nomatch e), fun ts' ds' e1 e2 => by cases e1; cases e2; exact ⟨hi, fun e => nomatch e⟩⟩

end
section
theorem hexDigit_inj : ∀ a, a < 16 → ∀ b, b < 16 → Builtin.Bytes.hexDigit a = Builtin.Bytes.hexDigit b → a = b := by decide
theorem pair_inj {a b : UInt8} (h : FH.pairOf a = FH.pairOf b) : a = b := by
  have ha : a.toNat < 256 := a.toNat_lt
  have hb : b.toNat < 256 := b.toNat_lt
  unfold FH.pairOf at h
  injection h with h1 h2
  injection h2 with h2 _
  have e1 := hexDigit_inj _ (by omega) _ (by omega) h1
  have e2 := hexDigit_inj _ (Nat.mod_lt _ (by decide)) _ (Nat.mod_lt _ (by decide)) h2
  exact UInt8.toNat_inj.mp (by omega)
theorem hexCodes_inj : ∀ {l l' : List UInt8}, FH.hexCodes l = FH.hexCodes l' → l = l'
  | [], [], _ => rfl
  | [], c :: r, h => by simp [FH.hexCodes, FH.pairOf] at h
  | c :: r, [], h => by simp [FH.hexCodes, FH.pairOf] at h
  | c :: r, c' :: r', h => by
    have h' : FH.pairOf c ++ FH.hexCodes r = FH.pairOf c' ++ FH.hexCodes r' := h
    obtain ⟨h1, h2⟩ := List.append_inj h' rfl
    rw [pair_inj h1, hexCodes_inj h2]
theorem hexText_inj {b b' : Array UInt8} (h : FH.hexText b = FH.hexText b') : b = b' := by
  unfold FH.hexText at h
  injection h with h
  have := congrArg Array.toList h
  simp only at this
  exact Array.toList_inj.mp (hexCodes_inj this)
theorem app_inj {p x y : Str} (h : p ++ x = p ++ y) : x = y := by
  have : (p ++ x).cps.toList = (p ++ y).cps.toList := by rw [h]
  rw [cps_append, cps_append] at this
  have := List.append_cancel_left this
  cases x; cases y
  exact congrArg Str.mk (Array.toList_inj.mp this)
theorem word_inj {kind : Nat} {d d' : V} (h : Worth kind d) (h' : Worth kind d') (hn : d ≠ .none) (hn' : d' ≠ .none) (e : wordOf d = wordOf d') : d = d' := by
  cases d with
  | none => exact absurd rfl hn
  | list l => exact h.elim
  | int i =>
    cases d' with
    | none => exact absurd rfl hn'
    | list l => exact h'.elim
    | int j =>
      have hi := int_reads i (Nat.le_trans (int_len (Nat.lt_of_lt_of_le h.2 (Nat.pow_le_pow_right (by decide) (by decide)))) (by decide))
      have hj := int_reads j (Nat.le_trans (int_len (Nat.lt_of_lt_of_le h'.2 (Nat.pow_le_pow_right (by decide) (by decide)))) (by decide))
      rw [show Str.ofString (toString i) = Str.ofString (toString j) from e, hj] at hi
      rw [Option.some.inj hi]
    | str y => exact absurd (h.1.symm.trans h'.1) (by decide)
    | bytes y => exact absurd (h.1.symm.trans h'.1) (by decide)
    | bool y => exact absurd (h.1.symm.trans h') (by decide)
  | str x =>
    cases d' with
    | none => exact absurd rfl hn'
    | list l => exact h'.elim
    | int j => exact absurd (h.1.symm.trans h'.1) (by decide)
    | str y => exact congrArg V.str e
    | bytes y => exact absurd (h.1.symm.trans h'.1) (by decide)
    | bool y => exact absurd (h.1.symm.trans h') (by decide)
  | bytes x =>
    cases d' with
    | none => exact absurd rfl hn'
    | list l => exact h'.elim
    | int j => exact absurd (h.1.symm.trans h'.1) (by decide)
    | str y => exact absurd (h.1.symm.trans h'.1) (by decide)
    | bytes y => exact congrArg V.bytes (hexText_inj (app_inj e))
    | bool y => exact absurd (h.1.symm.trans h') (by decide)
  | bool x =>
    cases d' with
    | none => exact absurd rfl hn'
    | list l => exact h'.elim
    | int j => exact absurd (Eq.trans (Eq.symm h) h'.1) (by decide)
    | str y => exact absurd (Eq.trans (Eq.symm h) h'.1) (by decide)
    | bytes y => exact absurd (Eq.trans (Eq.symm h) h'.1) (by decide)
    | bool y =>
      cases x <;> cases y
      · rfl
      · exact absurd e (by decide)
      · exact absurd e (by decide)
      · rfl
open Classical in
noncomputable def adOf (kind : Nat) (y : Str) : Option V := if h : ∃ d, Worth kind d ∧ d ≠ .none ∧ wordOf d = y then some h.choose else none
theorem adOf_word {kind : Nat} {d : V} (h : Worth kind d) (hn : d ≠ .none) : adOf kind (wordOf d) = some d := by
  have hx : ∃ d', Worth kind d' ∧ d' ≠ .none ∧ wordOf d' = wordOf d := ⟨d, h, hn, rfl⟩
  unfold adOf
  rw [dif_pos hx]
  obtain ⟨h1, h2, h3⟩ := hx.choose_spec
  rw [word_inj h1 h h2 hn h3]
theorem adOf_spec {kind : Nat} {y : Str} {d : V} (h : adOf kind y = some d) : Worth kind d ∧ d ≠ .none ∧ wordOf d = y := by
  unfold adOf at h
  split at h
  · rename_i hx
    cases h
    exact hx.choose_spec
  · cases h
section
variable {prog : Program} {w : World} {mg mb : Str → Option Value}
theorem fn_ad {kind : Nat} {ad : Addr} (ho : ArrOk kind ad) (g : Heap) (y : Str) (t : Tok) (d : V) (h : adOf kind y = some d) : Fn prog w mg mb ad [.str y t] 1 g (fun g' v => Rep g' v d) := by
  obtain ⟨hw, hn, rfl⟩ := adOf_spec h
  have wk : ∀ {P Q : Heap → Value → Prop}, (∀ g v, P g v → Q g v) → ∀ {f vs r g}, Fn prog w mg mb f vs r g P → Fn prog w mg mb f vs r g Q := fun hPQ _ _ _ _ C A s Q E a b c I k => C A s Q E a b c I fun v g' s' R p => k v g' s' R (hPQ _ _ p)
  cases d with
  | none => exact absurd rfl hn
  | list l => exact hw.elim
  | int i =>
    rcases ho with ⟨_, rfl⟩ | ⟨rfl, _⟩ | ⟨rfl, _⟩ | ⟨rfl, _⟩
    · exact wk (fun g v ⟨t, e⟩ => e ▸ .int i t) (fn_int_in i t (Nat.lt_of_lt_of_le hw.2 (Nat.pow_le_pow_right (by decide) (by decide))))
    · exact absurd hw.1 (by decide)
    · exact absurd hw.1 (by decide)
    · exact absurd hw.1 (by decide)
  | str x =>
    rcases ho with ⟨rfl, _⟩ | ⟨_, rfl⟩ | ⟨rfl, _⟩ | ⟨rfl, _⟩
    · exact absurd hw.1 (by decide)
    · exact wk (fun g v e => e ▸ .str x t) (fn_string_in x t)
    · exact absurd hw.1 (by decide)
    · exact absurd hw.1 (by decide)
  | bytes b =>
    rcases ho with ⟨rfl, _⟩ | ⟨rfl, _⟩ | ⟨_, rfl⟩ | ⟨rfl, _⟩
    · exact absurd hw.1 (by decide)
    · exact absurd hw.1 (by decide)
    · exact wk (fun g v ⟨t, e⟩ => e ▸ .bytes b t) (fn_bytes_in b t (Nat.le_trans hw.2 (by decide)))
    · exact absurd hw.1 (by decide)
  | bool b =>
    rcases ho with ⟨rfl, _⟩ | ⟨rfl, _⟩ | ⟨rfl, _⟩ | ⟨_, rfl⟩
    · exact absurd (show (0 : Nat) = 3 from hw) (by decide)
    · exact absurd (show (1 : Nat) = 3 from hw) (by decide)
    · exact absurd (show (2 : Nat) = 3 from hw) (by decide)
    · refine wk (fun g v e => ?_) (fn_bool_in (wordOf (.bool b)) t)
      rw [e, show (wordOf (.bool b) == Str.ofString "t") = b by cases b <;> decide]
      exact .bool b
end

end
section
theorem txt_of (x : Str) : txt x.cps.toList = x := by cases x; simp [txt]
theorem contains_one {x : Str} {c : Nat} (h : Txt.contains x ⟨#[c]⟩ = false) : c ∉ x.cps.toList := by
  have := StrLaws.found_one x c
  unfold Txt.contains at h
  rw [h] at this
  exact fun hm => by rw [decide_eq_true hm] at this; cases this
theorem quote_txt (e : List Nat) : Str.ofString "\"" ++ txt e ++ Str.ofString "\"" = txt (34 :: (e ++ [34])) := by
  show (⟨#[34] ++ e.toArray ++ #[34]⟩ : Str) = ⟨(34 :: (e ++ [34])).toArray⟩
  congr 1
  apply Array.toList_inj.mp
  simp
theorem lf_laid {kind : Nat} {x : Str} {d : V} (hw : Worth kind d) (h : Laid x d) : Lf (adOf kind) x d := by
  cases h with
  | null => exact .null
  | bare h h0 hN hs =>
    rw [← txt_of (wordOf d)]
    refine .bare (fun e => h0 ?_) (by rw [txt_of]; exact hN) (fun c hc hsp => ?_) (by rw [txt_of]; exact adOf_word hw h)
    · rw [← txt_of (wordOf d), e]; rfl
    · have k : ∀ (y : Str) (n : Nat), y ∈ lawSigns → y = ⟨#[n]⟩ → c ≠ n := fun y n hy e q => by
        subst e q
        exact contains_one (hs _ hy) hc
      simp only [specials, List.mem_cons, List.not_mem_nil, or_false] at hsp
      rcases hsp with e | e | e | e
      · exact k (Str.ofString "\"") 34 (by simp [lawSigns]) rfl e
      · exact k (Str.ofString "{") 123 (by simp [lawSigns]) rfl e
      · exact k (Str.ofString "}") 125 (by simp [lawSigns]) rfl e
      · exact k (Str.ofString ",") 44 (by simp [lawSigns]) rfl e
  | quoted h =>
    rw [quote_txt]
    exact .quoted (by rw [txt_of]; exact adOf_word hw h)
theorem esc_safe : ∀ {l : List Nat}, (∀ c ∈ l, c ≠ 92 ∧ c ≠ 34) → escL l = l
  | [], _ => rfl
  | c :: r, h => by
    have hc := h c (.head _)
    have e : escL (c :: r) = (if c = 92 ∨ c = 34 then [92, c] else [c]) ++ escL r := by simp [escL]
    rw [e, if_neg (by rw [not_or]; exact hc), esc_safe fun x hx => h x (.tail _ hx)]; rfl
theorem esc_no : ∀ {l : List Nat}, 92 ∉ escL l → ∀ c ∈ l, c ≠ 92 ∧ c ≠ 34
  | [], _, c, hc => by cases hc
  | a :: r, h, c, hc => by
    have e : escL (a :: r) = (if a = 92 ∨ a = 34 then [92, a] else [a]) ++ escL r := by simp [escL]
    rw [e] at h
    have h1 : ¬ (a = 92 ∨ a = 34) := fun q => h (by rw [if_pos q]; simp)
    rcases List.mem_cons.mp hc with rfl | hc
    · exact not_or.mp h1
    · exact esc_no (fun hm => h (List.mem_append.mpr (.inr hm))) c hc
theorem hex_safe : ∀ k, k < 16 → Builtin.Bytes.hexDigit k ≠ 92 ∧ Builtin.Bytes.hexDigit k ≠ 34 := by decide
theorem codes_safe : ∀ (l : List UInt8), ∀ c ∈ FH.hexCodes l, c ≠ 92 ∧ c ≠ 34
  | [], c, hc => by cases hc
  | a :: r, c, hc => by
    have hc' : c ∈ FH.pairOf a ++ FH.hexCodes r := hc
    have ha : a.toNat < 256 := a.toNat_lt
    rcases List.mem_append.mp hc' with h | h
    · unfold FH.pairOf at h
      simp only [List.mem_cons, List.not_mem_nil, or_false] at h
      rcases h with rfl | rfl
      · exact hex_safe _ (by omega)
      · exact hex_safe _ (Nat.mod_lt _ (by decide))
    · exact codes_safe r c h
theorem lf_out {kind : Nat} {d : V} (hk : kind ≠ 3) (hw : Worth kind d) : Lf (adOf kind) (outOf d) d := by
  cases d with
  | none => exact .null
  | list l => exact hw.elim
  | bool b => exact absurd hw hk
  | int i =>
    have ha := adOf_word hw (fun e => nomatch e)
    obtain ⟨ds, hne, hd, _, _, hc⟩ := int_codes i
    show Lf _ (Str.ofString (toString i)) _
    have e : Str.ofString (toString i) = txt (if i < 0 then 45 :: ds else ds) := by rw [← txt_of (Str.ofString (toString i)), hc]
    have ha' : adOf kind (txt (if i < 0 then 45 :: ds else ds)) = some (.int i) := by rw [← e]; exact ha
    rw [e]
    have hx : ∀ c ∈ (if i < 0 then 45 :: ds else ds), c ≤ 57 ∧ 45 ≤ c ∧ c ≠ 44 := fun c hcm => by
      have hdc : ∀ c ∈ ds, 48 ≤ c ∧ c ≤ 57 := fun c hc => hd c hc
      split at hcm
      · rcases List.mem_cons.mp hcm with rfl | hcm
        · decide
        · have := hdc c hcm; omega
      · have := hdc c hcm; omega
    refine .bare (fun q => ?_) (fun q => ?_) (fun c hcm hsp => ?_) ha'
    · split at q
      · cases q
      · exact hne q
    · have q2 := congrArg (fun x : Str => x.cps.toList) q
      have q3 : (if i < 0 then 45 :: ds else ds) = [78, 85, 76, 76] := Eq.trans (by simpa [txt] using q2) (show (Str.ofString "NULL").cps.toList = [78, 85, 76, 76] by rfl)
      have := hx 78 (by rw [q3]; exact .head _)
      omega
    · have := hx c hcm
      simp only [specials, List.mem_cons, List.not_mem_nil, or_false] at hsp
      omega
  | bytes b =>
    have ha := adOf_word hw (fun e => nomatch e)
    have e : outOf (.bytes b) = txt (34 :: (escL (wordOf (.bytes b)).cps.toList ++ [34])) := by
      have h1 : (wordOf (.bytes b)).cps.toList = 92 :: 120 :: FH.hexCodes b.toList := by
        show (Str.ofString "\\x" ++ FH.hexText b).cps.toList = _
        rw [cps_append, show (Str.ofString "\\x").cps.toList = [92, 120] by rfl]
        show _ ++ (FH.hexCodes b.toList).toArray.toList = _
        simp
      have h2 : escL (92 :: 120 :: FH.hexCodes b.toList) = 92 :: 92 :: 120 :: FH.hexCodes b.toList := by
        have : escL (92 :: 120 :: FH.hexCodes b.toList) = [92, 92] ++ escL (120 :: FH.hexCodes b.toList) := by simp [escL]
        rw [this, esc_safe]
        · rfl
        · intro c hc
          rcases List.mem_cons.mp hc with rfl | hc
          · decide
          · exact codes_safe _ c hc
      rw [h1, h2, ← txt_of (outOf (.bytes b))]
      congr 1
      show (Str.empty ++ Str.ofString "\"\\" ++ (Str.ofString "\\x" ++ FH.hexText b) ++ Str.ofString "\"").cps.toList = _
      rw [cps_append, cps_append, cps_append, cps_append, show (Str.ofString "\"\\").cps.toList = [34, 92] by rfl, show (Str.ofString "\\x").cps.toList = [92, 120] by rfl, show (Str.ofString "\"").cps.toList = [34] by rfl, show Str.empty.cps.toList = [] by rfl]
      show [] ++ [34, 92] ++ ([92, 120] ++ (FH.hexCodes b.toList).toArray.toList) ++ [34] = _
      simp
    rw [e]
    exact .quoted (by rw [txt_of]; exact ha)
  | str x =>
    have ha := adOf_word hw (fun e => nomatch e)
    show Lf _ (outText x.cps.toList) _
    unfold outText
    cases hb : badE (escL x.cps.toList) with
    | true =>
      rw [if_pos rfl, Str.empty_append, quote_txt]
      exact .quoted (by rw [txt_of]; exact ha)
    | false =>
      rw [if_neg (by decide)]
      unfold badE at hb
      rw [Bool.or_eq_false_iff, Bool.or_eq_false_iff, Bool.or_eq_false_iff] at hb
      obtain ⟨⟨⟨h0, hN⟩, _⟩, hs⟩ := hb
      have hs' : ∀ i, i < 4 → Txt.contains (txt (escL x.cps.toList)) ((["{", "}", ",", "\\"].map Str.ofString).getD i ⟨#[]⟩) = false := fun i hi => by
        have := List.any_eq_false.mp hs i (List.mem_range.mpr hi)
        simpa using this
      have hcp : (txt (escL x.cps.toList)).cps.toList = escL x.cps.toList := by simp [txt]
      have c123 := contains_one (c := 123) (hs' 0 (by decide))
      have c125 := contains_one (c := 125) (hs' 1 (by decide))
      have c44 := contains_one (c := 44) (hs' 2 (by decide))
      have c92 := contains_one (c := 92) (hs' 3 (by decide))
      rw [hcp] at c123 c125 c44 c92
      have hno := esc_no c92
      have hx := esc_safe hno
      rw [hx] at c123 c125 c44 c92 h0 hN ⊢
      refine .bare (fun q => ?_) (fun q => ?_) (fun c hcm hsp => ?_) (by rw [txt_of]; exact ha)
      · rw [q] at h0; cases h0
      · rw [q] at hN; exact absurd hN (by decide)
      · simp only [specials, List.mem_cons, List.not_mem_nil, or_false] at hsp
        rcases hsp with rfl | rfl | rfl | rfl
        · exact (hno _ hcm).2 rfl
        · exact c123 hcm
        · exact c125 hcm
        · exact c44 hcm
/-! shapes -/
inductive All2 (R : V → V → Prop) : List V → List V → Prop
  | nil : All2 R [] []
  | cons {t d : V} {ts ds : List V} (h : R t d) (r : All2 R ts ds) : All2 R (t :: ts) (d :: ds)
theorem All2.len {R : V → V → Prop} : ∀ {ts ds : List V}, All2 R ts ds → ts.length = ds.length
  | _, _, .nil => rfl
  | _, _, .cons _ r => by rw [List.length_cons, List.length_cons, r.len]
theorem All2.drop {R : V → V → Prop} : ∀ {ts ds : List V}, All2 R ts ds → ∀ n, All2 R (ts.drop n) (ds.drop n)
  | _, _, .nil, n => by rw [List.drop_nil]; exact .nil
  | _, _, .cons h r, 0 => .cons h r
  | _, _, .cons _ r, n + 1 => r.drop n
theorem All2.take {R : V → V → Prop} : ∀ {ts ds : List V}, All2 R ts ds → ∀ n, All2 R (ts.take n) (ds.take n)
  | _, _, .nil, n => by rw [List.take_nil]; exact .nil
  | _, _, .cons _ _, 0 => .nil
  | _, _, .cons h r, n + 1 => .cons h (r.take n)
theorem den_all {ad : Str → Option V} : ∀ {ts ds : List V}, All2 (Den ad) ts ds → Den ad (.list ts) (.list ds)
  | _, _, .nil => .nil
  | _, _, .cons h r => .cons h (den_all r)
theorem all2_map {R : V → V → Prop} {f g : Nat → V} : ∀ {l : List Nat}, (∀ a ∈ l, R (f a) (g a)) → All2 R (l.map f) (l.map g)
  | [], _ => .nil
  | a :: r, h => .cons (h a (.head _)) (all2_map fun b hb => h b (.tail _ hb))
theorem den_shaped {ad : Str → Option V} : ∀ (ns : List Nat) (ts ds : List V), All2 (Den ad) ts ds → Den ad (shapedV ns ts) (shapedV ns ds)
  | [], _, _, h => den_all h
  | [_], _, _, h => den_all h
  | n :: m :: r, ts, ds, h => by
    rw [shapedV, shapedV, h.len]
    exact den_all (all2_map fun k _ => den_shaped (m :: r) _ _ ((h.drop _).take _))
theorem shp_shaped {P : V → Prop} : ∀ (ns : List Nat) (ds : List V), 1 ≤ ns.length → (∀ d ∈ ds, P d) → ds.length ≤ 27 → (∀ n ∈ ns, n ≤ 3) → Shp P ns.length (shapedV ns ds)
  | [], _, h, _, _, _ => absurd h (by decide)
  | [_], ds, _, hp, hl, _ => .list 0 ds hl fun d hd => .leaf 0 d (hp d hd)
  | n :: m :: r, ds, _, hp, hl, hn => by
    rw [shapedV]
    refine .list _ _ (by rw [List.length_map, List.length_range]; exact Nat.le_trans (hn n (.head _)) (by decide)) fun d hd => ?_
    obtain ⟨k, _, rfl⟩ := List.mem_map.mp hd
    exact shp_shaped (m :: r) _ (by simp) (fun d hd => hp d (List.mem_of_mem_drop (List.mem_of_mem_take hd))) (by unfold chunk; rw [List.length_take, List.length_drop]; omega) fun x hx => hn x (.tail _ hx)
theorem textsL_of {n : Nat} : ∀ {l : List V}, (∀ d ∈ l, Texts n d) → TextsL n l
  | [], _ => .nil n
  | d :: r, h => .cons n d r (h d (.head _)) (textsL_of fun x hx => h x (.tail _ hx))
theorem texts_of {n : Nat} {d : V} (h : Shp (fun d => ∃ x, d = .str x ∧ x.length ≤ 204) n d) : Texts n d := by
  induction h with
  | leaf n d h => obtain ⟨x, rfl, hx⟩ := h; exact .str n x hx
  | list n l hl _ ih => exact .list n l hl (textsL_of ih)
theorem den_lay {kind n : Nat} {d : V} (hk : kind ≠ 3) (h : Shp (Worth kind) n d) : Den (adOf kind) (layV outOf d) d := by
  induction h with
  | leaf n d h =>
    have e : layV outOf d = .str (outOf d) := by
      cases d with
      | list l => exact h.elim
      | none => rfl
      | bool b => rfl
      | int i => rfl
      | str x => rfl
      | bytes b => rfl
    rw [e]
    exact .leaf (lf_out hk h)
  | list n l hl h0 ih =>
    rw [layV, layL_map]
    refine den_all ?_
    clear hl h0
    induction l with
    | nil => exact .nil
    | cons d r ihr => exact .cons (ih d (.head _)) (ihr fun x hx => ih x (.tail _ hx))
/-- what is read of a text that denotes d -/
theorem read_runs {ad : Str → Option V} {ts ds : List V} (h : Den ad (.list ts) (.list ds)) : ∃ ks : Nat → Cfg, ∃ b, ks 0 = ⟨.out, [[]], []⟩ ∧ (∀ i c, (flatV (.list ts)).cps[i]? = some c → step ad c (ks i) = some (ks (i + 1))) ∧ ks (flatV (.list ts)).cps.size = ⟨.out, [[.list ds]], b⟩ := by
  obtain ⟨hi, h0⟩ := (run_den h).2 ts ds rfl rfl
  obtain ⟨b', hk⟩ := run_listS hi h0 [] [] []
  obtain ⟨ks, h0, hn, hs⟩ := run_places ad _ _ _ hk
  refine ⟨ks, b', h0, fun i c hc => hs i c (by rw [Array.getElem?_toList]; exact hc), ?_⟩
  rw [← Array.length_toList, hn]; rfl

end
end
section
local macro_rules | `(tactic| walk_at "ng") => `(tactic| with_reducible first | exact ngParserState | exact ngparsearray | exact ngarrayin | exact ngboolin | exact ngbytesin | exact ngintin | exact ngstringin | exact ngmakeparam | exact ngpytypes | exact ngarraystringescape | exact ngarrayout | exact ngcompositeout | exact ngbytesout | exact ngkindof | exact nglawtext | exact nglawshaped | exact nglawworth | exact nglawword | exact nglawjoined | exact ngintarrayin | exact ngstringarrayin | exact ngbytesarrayin | exact ngboolarrayin | exact nglawalike | exact nglawflat | exact nglawsizes | exact nglawlaid | exact nglawread)
local macro_rules | `(tactic| walk_at "nt") => `(tactic| with_reducible first | exact nbint | exact nbstr | exact nbbytes | exact nbbytearray | exact nblist | exact nbtuple | exact nbbool | exact nbrange | exact nbzip | exact bbint | exact bbstr | exact bbbytes | exact bbbytearray | exact bblist | exact bbtuple | exact bbbool | exact bbrange | exact bbzip)
local macro_rules | `(tactic| walk_at "nb") => `(tactic| with_reducible first | exact nbisinstance | exact nbany | exact nblen | exact nball | exact nbabs | exact bbisinstance | exact bbany | exact bblen | exact bball | exact bbabs)
local macro_rules | `(tactic| walk_at "nm") => `(tactic| first
  | (refine nmL (by assumption) rfl (by first | rfl | assumption) ?_ rfl (by rfl) (by decide))
  | (refine nmC (by assumption) (by rfl) (by rfl) (by first | rfl | assumption) ?_ rfl (by rfl) (by decide))
  | (refine nmFr (by assumption) (by rfl) (by rfl) (by first | rfl | assumption) ?_ rfl (by rfl) (by decide) (by decide))
  | (refine nmG (by assumption) (by walk_at "ng") ?_ rfl rfl (by rfl) (by decide))
  | (refine nmB (v := .builtin _) (by assumption) (by walk_at "nb") (by walk_at "nb") ?_ rfl rfl rfl (by rfl) (by decide) (by decide))
  | (refine nmB (v := .type _) (by assumption) (by walk_at "nt") (by walk_at "nt") ?_ rfl rfl rfl (by rfl) (by decide) (by decide))
  | (refine nmG (by assumption) (by rfl) ?_ rfl rfl (by rfl) (by decide))
  | (refine nmB (v := .type _) (by assumption) (by rfl) (by rfl) ?_ rfl rfl rfl (by rfl) (by decide) (by decide))
  | (refine nmB (v := .builtin _) (by assumption) (by rfl) (by rfl) ?_ rfl rfl rfl (by rfl) (by decide) (by decide)))
local macro_rules | `(tactic| walk_at "cw") => `(tactic| first
  | ((with_reducible show wpAny _ _ (callWith _ (Value.ref _) _ _ _) _ _ _); refine callWith_F (fnAt_of (by assumption) (by rfl)) ?_)
  | ((with_reducible show wpAny _ _ (callWith _ (Value.type _) _ _ _) _ _ _); refine Pv.callWith_type1 ?_)
  | ((with_reducible show wpAny _ _ (callWith _ (Value.builtin _) [] _ _) _ _ _); refine PyProof.Rows.callWith_builtin1 ?_)
  | ((with_reducible show wpAny _ _ (callWith _ (Value.builtin _) _ (backTo _ (starEach [] _)) _) _ _ _); refine callWith_method0 ?_)
  | ((with_reducible show wpAny _ _ (callWith _ (Value.builtin _) _ _ _) _ _ _); refine callWith_method1 ?_))
local macro_rules | `(tactic| walk_at "s") => `(tactic| first
  | with_reducible refine wpAny_execs_nil ?_
  | with_reducible refine wpAny_execs_cons ?_
  | with_reducible refine wpAny_Return_some ?_
  | ((with_reducible show wpAny _ _ (exec (Stmt.If _ _ _ _) _) _ _ _); refine wpAny_If ?_)
  | ((with_reducible show wpAny _ _ (eval (Expr.Compare _ [_] [_] _) _) _ _ _); refine wpAny_Compare1 ?_)
  | ((with_reducible show wpAny _ _ (PySem.isTrue (Expr.Compare _ [_] [_] _) _ _) _ _ _); refine wpAny_isTrue_Compare1 ?_)
  | with_reducible refine isTrue_and_nil ?_
  | with_reducible refine isTrue_or_nil ?_
  | with_reducible refine isTrue_and ?_
  | with_reducible refine isTrue_or ?_
  | with_reducible refine isTrue_not ?_
  | ((with_reducible show wpAny _ _ (PySem.isTrue (Expr.Call _ _ _ _) _ _) _ _ _); refine isTrue_plain ?_)
  | ((with_reducible show wpAny _ _ (PySem.isTrue (Expr.Name _ _) _ _) _ _ _); refine isTrue_plain ?_)
  | ((with_reducible show wpAny _ _ (eval (Expr.Name _ _) _) _ _ _); walk_at "nm")
  | ((with_reducible show wpAny _ _ (eval (Expr.Constant (Const.str _) _ _) _) _ _ _); first | (refine cStr (by assumption) ?_; intro _ _ _) | refine Constant_str ?_)
  | with_reducible refine Constant_bool ?_
  | with_reducible refine Constant_none ?_
  | ((with_reducible show wpAny _ _ (eval (Expr.Constant (Const.int _) _ _) _) _ _ _); first | (refine cInt (by assumption) ?_; intro _ _ _) | refine wpAny_Constant_int ?_)
  | with_reducible refine wpAny_BinOp ?_
  | with_reducible refine IfExp_ ?_
  | with_reducible refine List_ ?_
  | with_reducible refine wpAny_Pass ?_
  | ((with_reducible show wpAny _ _ (binaryOp Operator.FloorDiv (Value.int _ _) (Value.int _ _)) _ _ _); refine divS (by assumption) (by first | decide | omega) (by first | decide | omega) ?_; intro _ _ _)
  | ((with_reducible show wpAny _ _ (binaryOp Operator.Mod (Value.int _ _) (Value.int _ _)) _ _ _); refine modS (by assumption) (by first | decide | omega) ?_; intro _ _ _)
  | ((with_reducible show wpAny _ _ (exec (Stmt.Expr _ _) _) _ _ _); refine wpAny_Expr_any ?_)
  | ((with_reducible show wpAny _ _ (getMethod (Value.str _ _) (Str.ofString "join") _) _ _ _); refine GM.join ?_)
  | ((with_reducible show wpAny _ _ (getMethod (Value.str _ _) (Str.ofString "upper") _) _ _ _); refine GM.upper ?_)
  | ((with_reducible show wpAny _ _ (unaryOp UnaryOp.USub (Value.int _ _)) _ _ _); refine neg_int ?_)
  | with_reducible refine Tuple_ ?_
  | ((with_reducible show wpAny _ _ (exec (Stmt.Assign [Expr.Name _ _] _ _) _) _ _ _); refine wpAny_Assign_Name ?_)
  | with_reducible refine BoolOp_one ?_
  | with_reducible refine BoolOp_and ?_
  | with_reducible refine BoolOp_or ?_
  | with_reducible refine UnaryOp_ ?_
  | ((with_reducible show wpAny _ _ (eval (Expr.Call (Expr.Attribute _ _ _) _ [] _) _) _ _ _); refine MethodCall_ ?_)
  | ((with_reducible show wpAny _ _ (eval (Expr.Call _ _ [] _) _) _ _ _); refine Call_ ?_)
  | with_reducible refine Subscript_ ?_
  | with_reducible refine wpAny_Slice ?_
  | with_reducible refine evalPart_none_step ?_
  | with_reducible refine evalPart_some_step ?_
  | with_reducible refine spliced_none ?_
  | ((with_reducible show wpAny _ _ (spliced (backTo _ (starEach (_ :: _) _))) _ _ _); refine spliced_more ?_)
  | with_reducible refine wpAny_truthy_bool ?_
  | with_reducible refine eq_str ?_
  | with_reducible refine eq_int ?_
  | ((with_reducible show wpAny _ _ (compareOp CmpOp.Lt (Value.int _ _) (Value.int _ _)) _ _ _); refine lt_int ?_)
  | ((with_reducible show wpAny _ _ (binaryOp Operator.Add (Value.int _ _) (Value.int _ _)) _ _ _); refine addS (by assumption) ?_; intro _ _ _)
  | ((with_reducible show wpAny _ _ (binaryOp Operator.Sub (Value.int _ _) (Value.int _ _)) _ _ _); refine subS (by assumption) ?_; intro _ _ _)
  | with_reducible refine ite_t ?_
  | with_reducible refine ite_f ?_
  | ((with_reducible show wpAny _ _ (compareOp CmpOp.Is Value.none Value.none) _ _ _); refine is_none_none ?_)
  | ((with_reducible show wpAny _ _ (compareOp CmpOp.Is (Value.int _ _) Value.none) _ _ _); refine is_none_ne (fun e => nomatch e) ?_)
  | ((with_reducible show wpAny _ _ (compareOp CmpOp.Is (Value.str _ _) Value.none) _ _ _); refine is_none_ne (fun e => nomatch e) ?_)
  | ((with_reducible show wpAny _ _ (compareOp CmpOp.Is (Value.bytes _ _) Value.none) _ _ _); refine is_none_ne (fun e => nomatch e) ?_)
  | ((with_reducible show wpAny _ _ (compareOp CmpOp.Is (Value.ref _) Value.none) _ _ _); refine is_none_ne (fun e => nomatch e) ?_)
  | ((with_reducible show wpAny _ _ (compareOp CmpOp.Is (Value.bool _) Value.none) _ _ _); refine is_none_ne (fun e => nomatch e) ?_)
  | ((with_reducible show wpAny _ _ (call (Value.builtin "isinstance") [_, Value.type "list"]) _ _ _); refine isiList (by assumption) (by first | assumption | constructor) ?_; intro _ _)
  | ((with_reducible show wpAny _ _ (call (Value.builtin "isinstance") [_, Value.type "tuple"]) _ _ _); refine isiTup (by assumption) (by first | assumption | constructor) ?_; intro _ _)
  | ((with_reducible show wpAny _ _ (call (Value.builtin "isinstance") [_, Value.type "str"]) _ _ _); refine isiStr (by assumption) (by first | assumption | constructor) ?_; intro _ _)
  | ((with_reducible show wpAny _ _ (call (Value.builtin "isinstance") [_, Value.type "bool"]) _ _ _); refine isiBool (by assumption) (by first | assumption | constructor) ?_; intro _ _)
  | ((with_reducible show wpAny _ _ (call (Value.builtin "isinstance") [_, Value.type "int"]) _ _ _); refine isiInt (by assumption) (by first | assumption | constructor) ?_; intro _ _)
  | walk_at "cw")
section
theorem toNats {ys : List Value} : (∀ (i : Nat) (y : Value), ys[i]? = some y → ∃ (n : Nat) (u : Tok), y = .int (n : Int) u ∧ n < 1000000000) → ∃ ns : List Nat, (∀ n ∈ ns, n < 1000000000) ∧ ns.length = ys.length ∧ ∀ g, RepL g ys (natsV ns) := by
  induction ys with
  | nil => intro _; exact ⟨[], fun _ h => (nomatch h), rfl, fun _ => .nil⟩
  | cons y r ih =>
    intro h
    obtain ⟨n, u, rfl, hn⟩ := h 0 y rfl
    obtain ⟨ns, h1, h2, h3⟩ := ih fun i y e => h (i + 1) y (by simpa using e)
    exact ⟨n :: ns, fun m hm => (List.mem_cons.mp hm).elim (fun e => e ▸ hn) (h1 m), by simp [h2], fun g => .cons (.int _ _) (h3 g)⟩
theorem laid_list {g : Heap} : ∀ {ys : List Value} {ds : List V}, ys.length = ds.length → (∀ (i : Nat) (y : Value), ys[i]? = some y → ∃ x u, y = .str x u ∧ ∃ d, ds[i]? = some d ∧ Laid x d ∧ x.length ≤ 204) → ∃ ts, RepL g ys ts ∧ All2 (fun t d => ∃ x, t = .str x ∧ Laid x d ∧ x.length ≤ 204) ts ds
  | [], [], _, _ => ⟨[], .nil, .nil⟩
  | [], _ :: _, h, _ => by simp at h
  | _ :: _, [], h, _ => by simp at h
  | y :: r, d :: ds, hl, h => by
    obtain ⟨x, u, rfl, d', hd, hx, hz⟩ := h 0 y rfl
    obtain rfl : d = d' := by simpa using hd
    obtain ⟨ts, h1, h2⟩ := laid_list (g := g) (ys := r) (ds := ds) (by simpa using hl) fun i y e => by simpa using h (i + 1) y (by simpa using e)
    exact ⟨.str x :: ts, .cons (.str x u) h1, .cons ⟨x, rfl, hx, hz⟩ h2⟩
theorem All2.left {R : V → V → Prop} {P : V → Prop} (h : ∀ t d, R t d → P t) : ∀ {ts ds : List V}, All2 R ts ds → ∀ t ∈ ts, P t
  | _, _, .cons a r, t, hm => (List.mem_cons.mp hm).elim (fun e => e ▸ h _ _ a) (r.left h t)
theorem All2.imp {R S : V → V → Prop} {ds' : List V} (h : ∀ t d, d ∈ ds' → R t d → S t d) : ∀ {ts ds : List V}, (∀ d ∈ ds, d ∈ ds') → All2 R ts ds → All2 S ts ds
  | _, _, _, .nil => .nil
  | _, _, hs, .cons a r => .cons (h _ _ (hs _ (.head _)) a) (r.imp h fun d hd => hs d (.tail _ hd))
theorem abs_nat (a : Int) : (if a < 0 then -a else a) = ((a.natAbs : Nat) : Int) := by split <;> omega
section
variable {prog : Program} {w : World} {mg mb : Str → Option Value} {g : Heap}
section
variable {o : Shared} {g₀ : Heap} {L : Addr} {m cm : Str → Option Value} {cl : List (Str × Addr)} {own : List (Addr × Obj)} {A : Around} {E : Value → Shared → Prop} {s : Shared}
theorem absS {a : Int} {t : Tok} {Q : Value → Shared → Prop} (H : St w mg mb o g₀ g L m cl cm own s.heap s.gens s.os) (h : ∀ t s', St w mg mb o g₀ g L m cl cm own s'.heap s'.gens s'.os → Q (.int ((a.natAbs : Nat) : Int) t) s') : wpAny (model prog w) A (call (.builtin "abs") [.int a t]) Q E s :=
  call_abs_int fun u tk => abs_nat a ▸ h u { s with toks := tk } H
theorem powS {a n : Int} {t u : Tok} {Q : Value → Shared → Prop} (H : St w mg mb o g₀ g L m cl cm own s.heap s.gens s.os) (hn : 0 ≤ n) (hn2 : n ≤ 1000000) (ha : a.natAbs < 2 ^ 64) (h : ∀ t s', St w mg mb o g₀ g L m cl cm own s'.heap s'.gens s'.os → Q (.int (a ^ n.toNat) t) s') : wpAny (model prog w) A (binaryOp .Pow (.int a t) (.int n u)) Q E s :=
  pow_int_small hn hn2 ha (h _ { s with toks := _ } H)
theorem addL {l b : Addr} {vs ws : List Value} {Q : Value → Shared → Prop} (H : St w mg mb o g₀ g L m cl cm own s.heap s.gens s.os) (hl : s.heap.IsList l vs.toArray) (hb : s.heap.IsList b ws.toArray) (hz : vs.length + ws.length ≤ 100000)
    (h : ∀ a s', St w mg mb o g₀ g L m cl cm ((a, listOf (vs ++ ws).toArray 0) :: own) s'.heap s'.gens s'.os → Q (.ref a) s') : wpAny (model prog w) A (binaryOp .Add (.ref l) (.ref b)) Q E s := by
  obtain ⟨⟨cls, dd, data, sl⟩, ho, hc, n, hd⟩ := id hl
  obtain ⟨⟨cls2, dd2, data2, sl2⟩, ho2, hc2, n2, hd2⟩ := id hb
  simp only at hc hd hc2 hd2
  subst hc hd hc2 hd2
  have e : vs.toArray ++ ws.toArray = (vs ++ ws).toArray := by simp
  refine concat_meets ⟨_, ho, rfl⟩ ⟨_, ho2, rfl⟩ noFill_list_add seq_list_add PySem.F.slot_list_add PySem.F.entry_list_add (PySem.F.args_list_add_2 _ _) (list_addW l b vs.toArray ws.toArray n n2 dd dd2 sl sl2 (by rw [sizeLine_eq]; simp; omega)) ⟨ho, ho2, ?_⟩
  rw [e]
  exact h _ { s with heap := _ } (H.push _)
end
theorem cap3 {n : Nat} (h : n ≤ 3) : capN n ≤ 8000000 := by
  match n, h with
  | 0, _ => decide
  | 1, _ => decide
  | 2, _ => decide
  | 3, _ => decide
theorem shaped_list : ∀ (ns : List Nat) (l : List V), ∃ l', shapedV ns l = .list l'
  | [], l => ⟨l, rfl⟩
  | [_], l => ⟨l, rfl⟩
  | _ :: _ :: _, _ => ⟨_, rfl⟩
theorem fn_read {kind : Nat} (hk4 : kind < 4) {g : Heap} {tv dv : V} (hden : Den (adOf kind) tv dv) (ht : ∃ l, tv = .list l) (hd : ∃ l, dv = .list l) (hz : (flatV tv).length ≤ 8000000) (t u : Tok) : Fn prog w mg mb 856 [.int (kind : Int) u, .str (flatV tv) t] 5 g (fun g' v => Rep g' v dv) := by
  obtain ⟨tl, rfl⟩ := ht
  obtain ⟨dl, rfl⟩ := hd
  obtain ⟨ks, bf, h0, hs, hend⟩ := read_runs hden
  refine fn_law_read hk4 (r := 1) fun ad ho g'' he => ?_
  have ho' := ho
  rcases ho with ⟨_, rfl⟩ | ⟨_, rfl⟩ | ⟨_, rfl⟩ | ⟨_, rfl⟩
  all_goals exact fn_parse_array (by rfl) (fun g3 _ y t d h => fn_ad ho' g3 y t d h) h0 hs hend hz
theorem lastG {o : Shared} {g₀ : Heap} {L : Addr} {m cm : Str → Option Value} {cl : List (Str × Addr)} {own : List (Addr × Obj)} {A : Around} {E : Value → Shared → Prop} {s : Shared} {a : Addr} {value slice : Expr} {vs : List Value} {y : Value} {t : Tok} {Q : Value → Shared → Prop} (H : St w mg mb o g₀ g L m cl cm own s.heap s.gens s.os) (hl : g.IsList a (vs ++ [y]).toArray) (h : Q y s)
    (hs : subscripted slice false (.ref a) (.int (-1) t) = operate [.ref a, .int (-1) t] (getItem (.ref a) (.int (-1) t)) := by with_unfolding_all rfl) :
    wpAny (model prog w) A (subscriptTail value slice (.ref a) (.int (-1) t)) Q E s := lastI (IsList.keeps' hl H.inv.sub) h hs
theorem fn_law {a : Addr} {vs : List Value} (hva : g.IsList a vs.toArray) (hl : vs.length ≤ 63) (hi : ∀ (i : Nat) (v : Value), vs[i]? = some v → ∃ n t, v = .int n t) : Fn prog w mg mb 866 [.ref a] 20 g (fun _ v => v = .bool true) := by
  refine enter [(Str.ofString "script", .ref a)] rfl (by kernel_rfl) rfl rfl rfl rfl rfl ?_
  intro A s L s' hh hd hu I hLo hco H
  repeat walk_at "s"
  refine compR [] (by assumption) (by with_unfolding_all rfl) (by decide) rfl (by decide) rfl (by exact trivial) (by intro _; with_unfolding_all rfl) ?_
  repeat walk_at "s"
  refine sliceG (by assumption) hva (by rw [List.size_toArray]; omega) .none (.int _ _) ?_; intro b1 s1 H1
  rw [show (14 : Int) = ((14 : Nat) : Int) by rfl, slicePick_upto'] at H1
  obtain ⟨g1, hg1, hb1, H2⟩ := H1.frz
  have hbl : g1.IsList b1 (vs.take 14).toArray := ⟨_, hb1, rfl, _, rfl⟩
  refine iter_list hh H2 hbl fun I oI s3 W hS H3 => ⟨I, _, _, _, fun _ _ y => ∃ (n : Nat) (u : Tok), y = .int (n : Int) u ∧ n < 1000000000, g1, oI, rfl, W, by rw [sizeLine_eq, List.size_toArray, List.length_take]; omega, hS, H3, fun _ _ _ _ _ h => h, ?_, ?_⟩
  · rintro C i v g2 m3 s4 hi4 hP hg2 hm3 H4
    obtain ⟨n, t, rfl⟩ := hi i v (by
      have : (vs.take 14)[i]? = some v := by simpa using hP
      rw [List.getElem?_take] at this
      split at this
      · exact this
      · cases this)
    repeat walk_at "s"
    refine absS (by assumption) ?_; intro t5 s5 H5
    repeat walk_at "s"
    refine powS (by assumption) (by decide) (by decide) (by decide) ?_; intro t6 s6 H6
    refine modS (by assumption) (by decide) ?_; intro t7 s7 H7
    refine ⟨g2, H7.ret', _, _, rfl, ?_⟩
    exact Nat.lt_of_lt_of_le (Nat.mod_lt _ (by decide)) (by decide)
  · intro D g2 s4 ys hg2 hlD hlen hF H4
    repeat walk_at "s"
    refine newL (by assumption) ?_ (by rw [sizeLine_eq]; simp); intro c1 s5 H5
    repeat walk_at "s"
    refine lenG (n := vs.length) (by assumption) (IsList.keeps' hva fun b o e => hg2 b o (hg1 b o e)) (by rw [List.size_toArray]) (by omega) ?_; intro t6 s6 H6
    repeat walk_at "s"
    refine sliceOwn (by assumption) (by rw [sizeLine_eq]; simp) (.int _ _) .none ?_; intro c2 s7 H7
    rw [slicePick_from'] at H7
    obtain ⟨ns, hns, hnl, hrl⟩ := toNats hF
    refine addL H7 (IsList.keeps' hlD H7.inv.sub) (own_list H7 (.head _)) (by rw [hlen, List.size_toArray, List.length_take, List.length_drop]; simp; omega) ?_; intro nb s8 H8
    replace H8 := H8.drop (own' := [(nb, _)]) (.cons₂ _ (.cons _ (.cons _ (.refl _))))
    obtain ⟨g3, hg3, hnb, H9⟩ := H8.frz
    have hlc : ([13, 16, 40] : List Nat).drop vs.length = ([13, 16, 40] : List Nat).drop vs.length := rfl
    obtain ⟨nums, hnums, hnumr⟩ : ∃ nums : List Nat, (2 ≤ nums.length ∧ nums.length ≤ 20 ∧ ∀ n ∈ nums, n < 1000000000) ∧ Rep g3 (.ref nb) (.list (natsV nums)) := by
      refine ⟨ns ++ ([13, 16, 40] : List Nat).drop vs.length, ⟨?_, ?_, ?_⟩, .list ⟨_, hnb, rfl, _, rfl⟩ ?_⟩
      · rw [List.length_append, hnl, hlen, List.size_toArray, List.length_take, List.length_drop]; simp; omega
      · rw [List.length_append, hnl, hlen, List.size_toArray, List.length_take, List.length_drop]; simp; omega
      · intro n hn
        rcases List.mem_append.mp hn with hn | hn
        · exact hns n hn
        · have := List.mem_of_mem_drop hn
          simp at this; omega
      · unfold natsV
        rw [List.map_append, List.map_drop]
        refine RepL.append (RepL.drop ?_ _) (hrl g3)
        exact .cons (.int 13 _) (.cons (.int 16 _) (.cons (.int 40 _) .nil))
    clear hlc hnb H8 H7 H6 hF hrl
    obtain ⟨hn2, hn20, hnb⟩ := hnums
    refine stRC H9 (by rfl) (by rfl) (hco (Str.ofString "numbers") _ (by rfl)) ?_ rfl (by rfl); intro s9 H10
    cases hnumr with
    | @list _ nvs _ hnl2 hnr =>
    have hnvl := hnr.length
    rw [natsV, List.length_map] at hnvl
    obtain ⟨u0, hu0⟩ := hnr.nat (i := 0) (n := nums[0]) (by simp)
    have hb0 := hnb nums[0] (List.getElem_mem _)
    obtain ⟨nvi, nl, hnve⟩ : ∃ i l, nvs = i ++ [l] := ⟨nvs.dropLast, nvs.getLast (by intro e; rw [e] at hnvl; simp at hnvl; omega), (List.dropLast_concat_getLast _).symm⟩
    obtain ⟨nn, nt, hnle⟩ : ∃ (n : Nat) (t : Tok), nl = .int (n : Int) t := by
      obtain ⟨d, hd, hr⟩ := hnr.get (i := nvi.length) (v := nl) (by rw [hnve]; simp)
      unfold natsV at hd
      rw [List.getElem?_map] at hd
      obtain ⟨n, _, rfl⟩ := Option.map_eq_some_iff.mp hd
      cases hr with
      | int _ t => exact ⟨n, t, rfl⟩
    repeat walk_at "s"
    refine Assign_Tuple ?_
    repeat walk_at "s"
    refine itemG (by assumption) hnl2 (by rfl) hu0 (by omega) ?_
    repeat walk_at "s"
    refine itemG (by assumption) hnl2 (by rfl) hu0 (by omega) ?_
    repeat walk_at "s"
    refine ⟨fnAt_of (by assumption) (by rfl), ?_⟩
    refine call_fn (by assumption) (fn_law_sizes hb0) hh (by omega) (by omega) fun v g4 s11 H11 hg4 hp => ?_
    obtain ⟨sz, hsz, hok⟩ := hp
    generalize hkd : nums[0] % Int.toNat 4 = kind
    have hk4 : kind < 4 := by rw [← hkd]; exact Nat.mod_lt _ (by decide)
    repeat walk_at "s"
    refine newT (by assumption) ?_ (by rw [sizeLine_eq]; simp); intro tp s12 H12
    refine wpAny_assign_Tuple hh (own_tup H12 (.head _)) (by rfl) (by rfl) fun h13 hx13 => ?_
    have H13 := (H12.keepsL (h' := h13) (fun b ob e => hx13 b ob (Nat.ne_of_lt (Heap.lt_size e)) e) hLo).tail
    refine assignInOrder_cons (PyProof.Rows.assign_Name (stRC H13 (by rfl) (by rfl) (hco (Str.ofString "kind") _ (by rfl)) ?_ rfl (by rfl))); intro s14 H14
    refine assignInOrder_cons (PyProof.Rows.assign_Name (stR H14 hLo rfl ?_ rfl (by rfl))); intro s15 H15
    refine wpAny_pure ?_
    have hsl := hok.len
    cases hsz with
    | @list sa svs _ hsa hsr =>
    repeat walk_at "s"
    refine ⟨fnAt_of (by assumption) (by rfl), ?_⟩
    refine call_fn (by assumption) (fn_law_flat (kind := kind) hk4 hn2 hn20 hnb hok (Rep.keeps hg4 (.list hnl2 hnr)) (.list hsa hsr)) hh (by omega) (by omega) fun v g5 s16 H16 hg5 hp => ?_
    obtain ⟨ds, hds, hdl, hdw⟩ := hp
    have hdl27 : ds.length ≤ 27 := by
      rw [hdl]
      have := prod_small hsl.2.1 hsl.2.2 sz.length
      rwa [List.take_of_length_le (Nat.le_refl _)] at this
    cases hds with
    | @list fa fvs _ hfa hfr =>
    refine stRC (by assumption) (by rfl) (by rfl) (hco (Str.ofString "flat") _ (by rfl)) ?_ rfl (by rfl); intro s17 H17
    have hrsz : Rep g5 (.ref sa) (.list (natsV sz)) := Rep.keeps hg5 (.list hsa hsr)
    have hn3 : 2 ≤ sz.length → ∀ n ∈ sz, 1 ≤ n ∧ n ≤ 3 := fun h2 => by
      rcases hok with rfl | ⟨_, _, h⟩
      · exact absurd h2 (by decide)
      · exact h
    repeat walk_at "s"
    refine ⟨fnAt_of (by assumption) (by rfl), ?_⟩
    refine call_fn (by assumption) (fn_law_shaped sz g5 ds fa sa hsl.2.1 hn3 hdl27 (.list hfa hfr) hrsz) hh (by omega) (by omega) fun vv g6 s18 H18 hg6 hvv => ?_
    refine stR H18 hLo rfl ?_ rfl (by rfl); intro s19 H19
    have hshp := shp_shaped sz ds hsl.1 hdw hdl27 hsl.2.2
    repeat walk_at "s"
    refine forR (by assumption) hLo (by intro _; with_unfolding_all rfl) ?_
    repeat walk_at "s"
    refine range_make (by assumption) fun r g7 s20 H20 hg7 hr7 => ?_
    refine iter_range (n := 3) hh (by decide) H20 (by exact hr7) fun I oI Sx s21 W hS H21 => ⟨I, _, _, Sx, g7, oI, _, _, _, fun _ _ m c own => own = [] ∧ m (Str.ofString "value") = some vv ∧ m (Str.ofString "sizes") = some (.ref sa) ∧ c (Str.ofString "numbers") = some (.ref nb) ∧ (∃ t, c (Str.ofString "kind") = some (.int (kind : Int) t)) ∧ c (Str.ofString "flat") = some (.ref fa), rfl, W, hS, H21, ⟨rfl, rfl, rfl, rfl, ⟨_, rfl⟩, rfl⟩, ?_, ?_⟩
    · rintro way v g8 m' cm' own' oI' s22 hi ⟨u, rfl⟩ hg8 ⟨rfl, hm1, hm2, hc1, ⟨tk, hc2⟩, hc3⟩ H22
      have kg : ∀ b o, g5.get? b = some o → g8.get? b = some o := fun b o e => hg8 b o (hg7 b o (hg6 b o e))
      have hfa8 : g8.IsList fa fvs.toArray := IsList.keeps' hfa kg
      have hfr8 := hfr.keeps kg
      have hfvl := hfr.length
      refine PyProof.Rows.assign_Name (stRC H22 (by rfl) (by rfl) (hco (Str.ofString "way") _ (by rfl)) ?_ rfl (by rfl)); intro s23 H23
      repeat walk_at "s"
      refine compA [(Str.ofString "way", L + 4), (Str.ofString "numbers", L + 1), (Str.ofString "kind", L + 2), (Str.ofString "flat", L + 3)] (by assumption) (by with_unfolding_all rfl) (by with_unfolding_all rfl) (by decide) rfl (by decide) rfl (by exact ⟨rfl, rfl, rfl, rfl, trivial⟩) (by intro _; with_unfolding_all rfl) hLo rfl (by rfl) rfl ?_
      repeat walk_at "s"
      refine lenG (n := ds.length) (by assumption) hfa8 (by rw [List.size_toArray, hfvl]) (by omega) ?_; intro t24 s24 H24
      repeat walk_at "s"
      refine range_make (by assumption) fun r2 g9 s25 H25 hg9 hr9 => ?_
      refine iter_range (n := ds.length) hh (by omega) H25 hr9 fun I2 oI2 S2 s26 W2 hS2 H26 => ⟨I2, _, _, S2, fun i _ y => ∃ x u, y = .str x u ∧ ∃ d, ds[i]? = some d ∧ Laid x d ∧ x.length ≤ 204, g9, oI2, rfl, W2, by rw [sizeLine_eq]; omega, hS2, H26, fun _ _ _ _ _ h => h, ?_, ?_⟩
      · rintro C k v g10 m3 s27 hk ⟨u2, rfl⟩ hg10 hm3 H27
        have kg10 : ∀ b o, g8.get? b = some o → g10.get? b = some o := fun b o e => hg10 b o (hg9 b o e)
        obtain ⟨v1, hv1, hr1⟩ := hfr8.getD (i := k) (d := ds[k]) (by simp [hk])
        repeat walk_at "s"
        refine itemG (by assumption) (IsList.keeps' hfa8 kg10) rfl hv1 (by omega) ?_
        have hnl8 : g10.IsList nb nvs.toArray := IsList.keeps' hnl2 fun b o e => kg10 b o (kg b o (hg5 b o (hg4 b o e)))
        refine spliced_more ?_
        refine wpAny_mono (Q := fun v s' => ∃ b, v = .bool b ∧ St w mg mb s27 g10 g10 C m3 [(Str.ofString "way", L + 4), (Str.ofString "numbers", L + 1), (Str.ofString "kind", L + 2), (Str.ofString "flat", L + 3)] (fun y => if y = Str.ofString "way" then some (.int (way : Int) u) else cm' y) [] s'.heap s'.gens s'.os) (E := fun _ _ => False) ?_ (fun v s28 h28 => ?_) fun _ _ x => x
        · repeat walk_at "s"
          refine split_bool (fun hb => ⟨_, rfl, by assumption⟩) (fun hb => ?_)
          repeat walk_at "s"
          refine split_bool (fun hb2 => ?_) (fun hb2 => ⟨_, rfl, by assumption⟩)
          repeat walk_at "s"
          refine lastG (by assumption) (hnve ▸ hnl8) ?_
          rw [hnle]
          repeat walk_at "s"
          exact ⟨_, rfl, by assumption⟩
        · obtain ⟨q, rfl, H28⟩ := h28
          repeat walk_at "s"
          refine ⟨fnAt_of (by assumption) (by rfl), ?_⟩
          refine call_fn (by assumption) (fn_law_laid (hr1.keeps kg10) (hdw _ (List.getElem_mem hk))) hh (by omega) (by omega) fun v g11 s29 H29 hg11 hp => ?_
          obtain ⟨x, t, rfl, hx, hz⟩ := hp
          exact ⟨g11, H29.ret', x, t, rfl, ds[k], by simp [hk], hx, hz⟩
      · intro D g10 s27 ys hg10 hlD hlen hF H27
        obtain ⟨ts, hts, hal⟩ := laid_list (g := g10) hlen hF
        have hD : Rep g10 (.ref D) (.list ts) := .list hlD hts
        have hden : Den (adOf kind) (shapedV sz ts) (shapedV sz ds) := den_shaped sz ts ds (hal.imp (ds' := ds) (fun t d hd ⟨x, e, hx, _⟩ => e ▸ .leaf (lf_laid (hdw d hd) hx)) fun _ h => h)
        have htx : Texts sz.length (shapedV sz ts) := texts_of (shp_shaped sz ts hsl.1 (hal.left fun t d ⟨x, e, _, hz⟩ => ⟨x, e, hz⟩) (by rw [hal.len]; exact hdl27) hsl.2.2)
        repeat walk_at "s"
        have k510 : ∀ b o, g5.get? b = some o → g10.get? b = some o := fun b o e => hg10 b o (hg9 b o (kg b o e))
        refine ⟨fnAt_of (by assumption) (by rfl), ?_⟩
        refine call_fn (by assumption) (fn_law_shaped sz g10 ts D sa hsl.2.1 hn3 (by rw [hal.len]; exact hdl27) hD (hrsz.keeps k510)) hh (by omega) (by omega) fun v g11 s28 H28 hg11 hv => ?_
        repeat walk_at "s"
        refine ⟨fnAt_of (by assumption) (by rfl), ?_⟩
        refine call_fn (by assumption) (fn_law_joined sz.length g11 v (shapedV sz ts) hsl.2.1 hv htx) hh (by omega) (by omega) fun v g12 s29 H29 hg12 hp => ?_
        obtain ⟨t, rfl, hz⟩ := hp
        repeat walk_at "s"
        refine ⟨fnAt_of (by assumption) (by rfl), ?_⟩
        refine call_fn (by assumption) (fn_read hk4 hden (shaped_list _ _) (shaped_list _ _) (Nat.le_trans hz (cap3 hsl.2.1)) _ _) hh (by omega) (by omega) fun v g13 s30 H30 hg13 hv13 => ?_
        repeat walk_at "s"
        refine ⟨fnAt_of (by assumption) (by rfl), ?_⟩
        refine call_fn (by assumption) (fn_law_alike sz.length g13 v vv (shapedV sz ds) (Nat.le_trans hsl.2.1 (by decide)) hshp hv13 (hvv.keeps fun b o e => hg13 b o (hg12 b o (hg11 b o (hg10 b o (hg9 b o (hg8 b o (hg7 b o e)))))))) hh (by omega) (by omega) fun v g14 s31 H31 hg14 hv14 => ?_
        subst hv14
        repeat walk_at "s"
        rw [show (!true) = false from rfl]
        repeat walk_at "s"
        refine ⟨rfl, g14, _, _, [], fun b o e => hg14 b o (hg13 b o (hg12 b o (hg11 b o (hg10 b o (hg9 b o e))))), ?_, H31⟩
        exact ⟨rfl, hm1, hm2, hc1, ⟨tk, hc2⟩, hc3⟩
    · rintro g8 m' cm' own' s22 hg8 ⟨rfl, hm1, hm2, hc1, ⟨tk, hc2⟩, hc3⟩ H22
      repeat walk_at "s"
      refine split_bool (fun hb => ?_) (fun hb => ?_)
      · refine ⟨g8, St.ret' (by assumption), ?_⟩
        show Value.bool ((kind : Int) == 3) = .bool true
        rw [hb]
      · have hk3 : kind ≠ 3 := fun e => by subst e; cases hb
        have hv8 : Rep g8 vv (shapedV sz ds) := hvv.keeps fun b o e => hg8 b o (hg7 b o e)
        repeat walk_at "s"
        refine ⟨fnAt_of (by assumption) (by rfl), ?_⟩
        refine call_fn (by assumption) (fn_array_out hk3 sz.length g8 vv (shapedV sz ds) hsl.2.1 hshp hv8) hh (by omega) (by omega) fun v g9 s29 H29 hg9 hp => ?_
        obtain ⟨t, rfl, hz⟩ := hp
        have hll : ∃ l, layV outOf (shapedV sz ds) = .list l := by
          obtain ⟨l, e⟩ := shaped_list sz ds
          rw [e, layV]; exact ⟨_, rfl⟩
        repeat walk_at "s"
        refine ⟨fnAt_of (by assumption) (by rfl), ?_⟩
        refine call_fn (by assumption) (fn_read hk4 (den_lay hk3 hshp) hll (shaped_list _ _) (Nat.le_trans hz (cap3 hsl.2.1)) _ _) hh (by omega) (by omega) fun v g13 s30 H30 hg13 hv13 => ?_
        repeat walk_at "s"
        refine ⟨fnAt_of (by assumption) (by rfl), ?_⟩
        refine call_fn (by assumption) (fn_law_alike sz.length g13 v vv (shapedV sz ds) (Nat.le_trans hsl.2.1 (by decide)) hshp hv13 (hv8.keeps fun b o e => hg13 b o (hg9 b o e))) hh (by omega) (by omega) fun v g14 s31 H31 hg14 hv14 => ?_
        exact ⟨g14, H31.ret', hv14⟩
end

end
end
section
section
section
variable {w : World} {mg mb : Str → Option Value}
theorem intsAre_get {vs : List Value} {ns : List Int} (h : IntsAre vs ns) : ∀ (i : Nat) (v : Value), vs[i]? = some v → ∃ n t, v = .int n t := by
  induction h with
  | nil => intro i v e; simp at e
  | cons n t h ih =>
    intro i v e
    cases i with
    | zero => simp at e; exact ⟨n, t, e.symm⟩
    | succ i => exact ih i v (by simpa using e)
theorem intsAre_len {vs : List Value} {ns : List Int} (h : IntsAre vs ns) : vs.length = ns.length := by
  induction h with
  | nil => rfl
  | cons n t h ih => simp [ih]
abbrev tabs2 : List (Addr × Addr) := [(753, 749), (788, 784)]
theorem inv_of {p : Program} {loose : List Str} {mean : ExcName → Option Value} {h : Heap} (T : Top p loose mean mg mb h) (X : (KF w).In h) (hT : TabsAt tabs2 h) (hK : noTabs (KF w) = true) : Inv w mg mb (ghostOf h tabs2) h := by
  have T' := ghost_top hT T
  have C' := ghost_code hT
  refine ⟨⟨ghost_K hT X hK, T'.g, T'.b, T'.nolimit, T'.nodigits, T'.builtins, T'.bmain, C'.1, C'.2.1⟩, ⟨⟨#[], (hT _ (.head _)).2, trivial, .inl rfl⟩, ⟨#[], (hT _ (.tail _ (.head _))).2, trivial⟩⟩, fun b o e => of_hideAll _ e, hideAll_none _ (by decide), hideAll_none _ (by decide)⟩
theorem old_of {s s' : Shared} {g g' : Heap} (hT : TabsAt tabs2 s.heap) (R : Ret w mg mb g s g' s') : OldK s.heap s'.heap := by
  obtain ⟨p1, a1, _⟩ := R.inv.tabs.a
  obtain ⟨p2, a2, _⟩ := R.inv.tabs.b
  have t1 := hT _ (.head _)
  have t2 := hT _ (.tail _ (.head _))
  refine ⟨fun b o e => ?_, fun b o e => ?_⟩
  · by_cases h1 : b = 749
    · subst h1
      have : o = tabObj #[] := Option.some.inj (e.symm.trans t1.2)
      subst this
      exact .inr (.inl ⟨(t1.1.tab t1.2).isCodeTable, rfl, #[], p1, rfl, by rw [Array.empty_append]; exact a1⟩)
    · by_cases h2 : b = 784
      · subst h2
        have : o = tabObj #[] := Option.some.inj (e.symm.trans t2.2)
        subst this
        exact .inr (.inl ⟨(t2.1.tab t2.2).isCodeTable, rfl, #[], p2, rfl, by rw [Array.empty_append]; exact a2⟩)
      · exact .inl (R.keep b o h1 h2 e)
  · by_cases h1 : b = 749
    · subst h1; exact ⟨_, a1⟩
    · by_cases h2 : b = 784
      · subst h2; exact ⟨_, a2⟩
      · exact ⟨o, R.keep b o h1 h2 e⟩
end

end
end
end Mine
open Mine Mine.Hd
theorem PySem.Challenge.cw_ew0019_01_holds : PySem.Challenge.rw_ew0019_01.Holds := by
  w_on
  o_law
  refine holds_open (q := vw) (loose := lo) (Xt := xtK) (XP := XL vw []) (Yf := hkK.obs) (Ya := hkK.val) (YP := hkK.says) (N := 20000) hd_left hkK.of hkK.keeps (fun s e => xl_of s (Bool.and_eq_true_iff.mp e).1) XL.keeps (by rfl) (by rfl) (by rfl) (fun s e => recFacts_of (Bool.and_eq_true_iff.mp e).2) (by rfl) (by first | assumption | decide +kernel) (by decide +kernel) ⟨rfl, rfl, rfl, rfl, rfl, by decide +kernel⟩ ?hw ?hc
  case hw => w_witness2
  case hc =>
  intro w s₀ s₁ mg mb G Y fa o pm cd doc dV kV ho hd hcd hD hmg hg args vals as hpre hlay hrd hwl hlo
  have KX : (KF w).In s₁.heap := Y
  refine Ground.open G ?_
  intro T B D TE TW
  try (refine guard_noD D (by decide +kernel) ?_; clear D)
  wrow_args hpre hlay hrd hwl hlo
  all_goals (
    obtain ⟨d_t1, e_t1⟩ := Option.isSome_iff_exists.mp (show ((recsOf vw).find? fun e => e.name == PySem.Str.ofString "_array_in").isSome = true by kernel_rfl)
    have t1 := tab_of (c := 753) (P := 749) T KX e_t1 (by kernel_rfl)
    obtain ⟨d_t2, e_t2⟩ := Option.isSome_iff_exists.mp (show ((recsOf vw).find? fun e => e.name == PySem.Str.ofString "array_string_escape").isSome = true by kernel_rfl)
    have t2 := tab_of (c := 788) (P := 784) T KX e_t2 (by kernel_rfl)
    have hT : TabsAt tabs2 s₁.heap := fun q hq => by
      rcases List.mem_cons.mp hq with rfl | hq
      · exact t1
      · rw [List.mem_singleton.mp hq]; exact t2
    have I := inv_of T KX hT (by kernel_rfl)
    have hfa : fa = 866 := by
      have e := mg_of (n := PySem.Str.ofString "law") (v := .ref 866) KX T.g (by kernel_rfl)
      have e2 := hmg.symm.trans e
      exact Value.ref.inj (Option.some.inj e2)
    subst hfa
    rename IntsAre _ _ => hI
    rename Heap.IsList _ _ _ => hL
    refine fn_law (ghost_list hT hL) (by rw [intsAre_len hI]; omega) (intsAre_get hI) callerA s₁ _ _ rfl (by decide) (by decide) I fun v g' s' R hv => ?_
    subst hv
    refine ⟨.inl ⟨_, .bool true, [], rfl, fun _ => rfl, .bool true, ?_, fun _ => ⟨.nil, fun _ h => nomatch h⟩⟩, old_of hT R, R.os, R.gens (.of_eq hg)⟩
    first | kernel_rfl | (with_unfolding_all rfl) | (show (_ && _) = true; rw [Bool.and_eq_true]; exact ⟨by first | rfl | kernel_rfl | simp [WShape.has], by first | rfl | kernel_rfl | simp [PySem.Challenge.rw_ew0019_01, WTm.holds, WTm.eval, OpenLaw.row]⟩))
