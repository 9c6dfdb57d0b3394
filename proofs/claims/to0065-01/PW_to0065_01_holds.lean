import PyProof.Rows.All
import Wide.All
import OpenK.AllK
import Wide.FinOn
import Lean
import PySem.Challenge.RW_to0065_01
open PySem PySem.W PyProof.Rows
set_option Elab.async false
set_option maxRecDepth 100000
set_option maxHeartbeats 8000000
set_option linter.unusedVariables false
set_option compiler.extract_closed false
namespace Mine
section
open PySem.Challenge
/-- the program's statements, by their places -/
noncomputable def hd.topF (i : Nat) : Stmt := pw_to0065_01.main.body.getD i (.Pass ⟨0, 0, 0, 0⟩)
noncomputable def hd.inner : Stmt → List Stmt
  | .ClassDef _ _ _ b _ _ _ _ _ _ _ => b
  | _ => []
noncomputable def hd.topM (i j : Nat) : Stmt := (hd.inner (hd.topF i)).getD j (.Pass ⟨0, 0, 0, 0⟩)
/-- a def's function, its text taken from the statement -/
noncomputable def hd.fd {st : Stmt} {n : Str} {a : Arguments} {b : List Stmt} {d : List Expr} {r : Option Expr} {t : List TypeParam} {sc : Scope} {ts : Option Scope} {bd : Str} {ps : Pos} (_h : st = .FunctionDef n a b d r t sc ts bd ps)
    (nm qual : Str) (g : Addr) (cl : List (Str × Addr)) (de kw doc pm : Value) (an : Option Addr) (cd ct : Value) (bu : Addr) : FuncData := FuncData.mk nm qual a (FuncBody.stmts b) sc g cl de kw doc pm an cd ct bu
noncomputable def hd.o_41 (P : Params) : Obj := Obj.mk (Value.type "dict") none (Data.dict (List.toArray (DictEntry.mk (PyData.keyHash P ("__name__")) (Value.str ("__name__") 1) (Value.str ("builtins") 160) :: DictEntry.mk (PyData.keyHash P ("__doc__")) (Value.str ("__doc__") 2) (Value.builtin "builtins.__doc__:str#opaque") :: DictEntry.mk (PyData.keyHash P ("__package__")) (Value.str ("__package__") 3) (Value.builtin "builtins.__package__:str#opaque") :: DictEntry.mk (PyData.keyHash P ("__loader__")) (Value.str ("__loader__") 4) (Value.builtin "builtins.__loader__:shared#opaque") :: DictEntry.mk (PyData.keyHash P ("__spec__")) (Value.str ("__spec__") 5) (Value.builtin "builtins.__spec__#opaque") :: DictEntry.mk (PyData.keyHash P ("__build_class__")) (Value.str ("__build_class__") 6) (Value.builtin "__build_class__") :: DictEntry.mk (PyData.keyHash P ("__import__")) (Value.str ("__import__") 7) (Value.builtin "__import__") :: DictEntry.mk (PyData.keyHash P ("abs")) (Value.str ("abs") 8) (Value.builtin "abs") :: DictEntry.mk (PyData.keyHash P ("all")) (Value.str ("all") 9) (Value.builtin "all") :: DictEntry.mk (PyData.keyHash P ("any")) (Value.str ("any") 10) (Value.builtin "any") :: DictEntry.mk (PyData.keyHash P ("ascii")) (Value.str ("ascii") 11) (Value.builtin "ascii") :: DictEntry.mk (PyData.keyHash P ("bin")) (Value.str ("bin") 12) (Value.builtin "bin") :: DictEntry.mk (PyData.keyHash P ("breakpoint")) (Value.str ("breakpoint") 13) (Value.builtin "breakpoint") :: DictEntry.mk (PyData.keyHash P ("callable")) (Value.str ("callable") 14) (Value.builtin "callable") :: DictEntry.mk (PyData.keyHash P ("chr")) (Value.str ("chr") 15) (Value.builtin "chr") :: DictEntry.mk (PyData.keyHash P ("compile")) (Value.str ("compile") 16) (Value.builtin "compile") :: DictEntry.mk (PyData.keyHash P ("delattr")) (Value.str ("delattr") 17) (Value.builtin "delattr") :: DictEntry.mk (PyData.keyHash P ("dir")) (Value.str ("dir") 18) (Value.builtin "dir") :: DictEntry.mk (PyData.keyHash P ("divmod")) (Value.str ("divmod") 19) (Value.builtin "divmod") :: DictEntry.mk (PyData.keyHash P ("eval")) (Value.str ("eval") 20) (Value.builtin "eval") :: DictEntry.mk (PyData.keyHash P ("exec")) (Value.str ("exec") 21) (Value.builtin "exec") :: DictEntry.mk (PyData.keyHash P ("format")) (Value.str ("format") 22) (Value.builtin "format") :: DictEntry.mk (PyData.keyHash P ("getattr")) (Value.str ("getattr") 23) (Value.builtin "getattr") :: DictEntry.mk (PyData.keyHash P ("globals")) (Value.str ("globals") 24) (Value.builtin "globals") :: DictEntry.mk (PyData.keyHash P ("hasattr")) (Value.str ("hasattr") 25) (Value.builtin "hasattr") :: DictEntry.mk (PyData.keyHash P ("hash")) (Value.str ("hash") 26) (Value.builtin "hash") :: DictEntry.mk (PyData.keyHash P ("hex")) (Value.str ("hex") 27) (Value.builtin "hex") :: DictEntry.mk (PyData.keyHash P ("id")) (Value.str ("id") 28) (Value.builtin "id") :: DictEntry.mk (PyData.keyHash P ("input")) (Value.str ("input") 29) (Value.builtin "input") :: DictEntry.mk (PyData.keyHash P ("isinstance")) (Value.str ("isinstance") 30) (Value.builtin "isinstance") :: DictEntry.mk (PyData.keyHash P ("issubclass")) (Value.str ("issubclass") 31) (Value.builtin "issubclass") :: DictEntry.mk (PyData.keyHash P ("iter")) (Value.str ("iter") 32) (Value.builtin "iter") :: DictEntry.mk (PyData.keyHash P ("aiter")) (Value.str ("aiter") 33) (Value.builtin "aiter") :: DictEntry.mk (PyData.keyHash P ("len")) (Value.str ("len") 34) (Value.builtin "len") :: DictEntry.mk (PyData.keyHash P ("locals")) (Value.str ("locals") 35) (Value.builtin "locals") :: DictEntry.mk (PyData.keyHash P ("max")) (Value.str ("max") 36) (Value.builtin "max") :: DictEntry.mk (PyData.keyHash P ("min")) (Value.str ("min") 37) (Value.builtin "min") :: DictEntry.mk (PyData.keyHash P ("next")) (Value.str ("next") 38) (Value.builtin "next") :: DictEntry.mk (PyData.keyHash P ("anext")) (Value.str ("anext") 39) (Value.builtin "anext") :: DictEntry.mk (PyData.keyHash P ("oct")) (Value.str ("oct") 40) (Value.builtin "oct") :: DictEntry.mk (PyData.keyHash P ("ord")) (Value.str ("ord") 41) (Value.builtin "ord") :: DictEntry.mk (PyData.keyHash P ("pow")) (Value.str ("pow") 42) (Value.builtin "pow") :: DictEntry.mk (PyData.keyHash P ("print")) (Value.str ("print") 43) (Value.builtin "print") :: DictEntry.mk (PyData.keyHash P ("repr")) (Value.str ("repr") 44) (Value.builtin "repr") :: DictEntry.mk (PyData.keyHash P ("round")) (Value.str ("round") 45) (Value.builtin "round") :: DictEntry.mk (PyData.keyHash P ("setattr")) (Value.str ("setattr") 46) (Value.builtin "setattr") :: DictEntry.mk (PyData.keyHash P ("sorted")) (Value.str ("sorted") 47) (Value.builtin "sorted") :: DictEntry.mk (PyData.keyHash P ("sum")) (Value.str ("sum") 48) (Value.builtin "sum") :: DictEntry.mk (PyData.keyHash P ("vars")) (Value.str ("vars") 49) (Value.builtin "vars") :: DictEntry.mk (PyData.keyHash P ("None")) (Value.str ("None") 50) Value.none :: DictEntry.mk (PyData.keyHash P ("Ellipsis")) (Value.str ("Ellipsis") 51) Value.ellipsis :: DictEntry.mk (PyData.keyHash P ("NotImplemented")) (Value.str ("NotImplemented") 52) Value.notImplemented :: DictEntry.mk (PyData.keyHash P ("False")) (Value.str ("False") 53) (Value.bool false) :: DictEntry.mk (PyData.keyHash P ("True")) (Value.str ("True") 54) (Value.bool true) :: DictEntry.mk (PyData.keyHash P ("bool")) (Value.str ("bool") 55) (Value.type "bool") :: DictEntry.mk (PyData.keyHash P ("memoryview")) (Value.str ("memoryview") 56) (Value.type "memoryview") :: DictEntry.mk (PyData.keyHash P ("bytearray")) (Value.str ("bytearray") 57) (Value.type "bytearray") :: DictEntry.mk (PyData.keyHash P ("bytes")) (Value.str ("bytes") 58) (Value.type "bytes") :: DictEntry.mk (PyData.keyHash P ("classmethod")) (Value.str ("classmethod") 59) (Value.type "classmethod") :: DictEntry.mk (PyData.keyHash P ("complex")) (Value.str ("complex") 60) (Value.type "complex") :: DictEntry.mk (PyData.keyHash P ("dict")) (Value.str ("dict") 61) (Value.type "dict") :: DictEntry.mk (PyData.keyHash P ("enumerate")) (Value.str ("enumerate") 62) (Value.type "enumerate") :: DictEntry.mk (PyData.keyHash P ("filter")) (Value.str ("filter") 63) (Value.type "filter") :: DictEntry.mk (PyData.keyHash P ("float")) (Value.str ("float") 64) (Value.type "float") :: DictEntry.mk (PyData.keyHash P ("frozenset")) (Value.str ("frozenset") 65) (Value.type "frozenset") :: DictEntry.mk (PyData.keyHash P ("property")) (Value.str ("property") 66) (Value.type "property") :: DictEntry.mk (PyData.keyHash P ("int")) (Value.str ("int") 67) (Value.type "int") :: DictEntry.mk (PyData.keyHash P ("list")) (Value.str ("list") 68) (Value.type "list") :: DictEntry.mk (PyData.keyHash P ("map")) (Value.str ("map") 69) (Value.type "map") :: DictEntry.mk (PyData.keyHash P ("object")) (Value.str ("object") 70) (Value.type "object") :: DictEntry.mk (PyData.keyHash P ("range")) (Value.str ("range") 71) (Value.type "range") :: DictEntry.mk (PyData.keyHash P ("reversed")) (Value.str ("reversed") 72) (Value.type "reversed") :: DictEntry.mk (PyData.keyHash P ("set")) (Value.str ("set") 73) (Value.type "set") :: DictEntry.mk (PyData.keyHash P ("slice")) (Value.str ("slice") 74) (Value.type "slice") :: DictEntry.mk (PyData.keyHash P ("staticmethod")) (Value.str ("staticmethod") 75) (Value.type "staticmethod") :: DictEntry.mk (PyData.keyHash P ("str")) (Value.str ("str") 76) (Value.type "str") :: DictEntry.mk (PyData.keyHash P ("super")) (Value.str ("super") 77) (Value.type "super") :: DictEntry.mk (PyData.keyHash P ("tuple")) (Value.str ("tuple") 78) (Value.type "tuple") :: DictEntry.mk (PyData.keyHash P ("type")) (Value.str ("type") 79) (Value.type "type") :: DictEntry.mk (PyData.keyHash P ("zip")) (Value.str ("zip") 80) (Value.type "zip") :: DictEntry.mk (PyData.keyHash P ("__debug__")) (Value.str ("__debug__") 81) (Value.bool true) :: DictEntry.mk (PyData.keyHash P ("BaseException")) (Value.str ("BaseException") 82) (Value.type "BaseException") :: DictEntry.mk (PyData.keyHash P ("BaseExceptionGroup")) (Value.str ("BaseExceptionGroup") 83) (Value.type "BaseExceptionGroup") :: DictEntry.mk (PyData.keyHash P ("Exception")) (Value.str ("Exception") 84) (Value.type "Exception") :: DictEntry.mk (PyData.keyHash P ("GeneratorExit")) (Value.str ("GeneratorExit") 85) (Value.type "GeneratorExit") :: DictEntry.mk (PyData.keyHash P ("KeyboardInterrupt")) (Value.str ("KeyboardInterrupt") 86) (Value.type "KeyboardInterrupt") :: DictEntry.mk (PyData.keyHash P ("SystemExit")) (Value.str ("SystemExit") 87) (Value.type "SystemExit") :: DictEntry.mk (PyData.keyHash P ("ArithmeticError")) (Value.str ("ArithmeticError") 88) (Value.type "ArithmeticError") :: DictEntry.mk (PyData.keyHash P ("AssertionError")) (Value.str ("AssertionError") 89) (Value.type "AssertionError") :: DictEntry.mk (PyData.keyHash P ("AttributeError")) (Value.str ("AttributeError") 90) (Value.type "AttributeError") :: DictEntry.mk (PyData.keyHash P ("BufferError")) (Value.str ("BufferError") 91) (Value.type "BufferError") :: DictEntry.mk (PyData.keyHash P ("EOFError")) (Value.str ("EOFError") 92) (Value.type "EOFError") :: DictEntry.mk (PyData.keyHash P ("ImportError")) (Value.str ("ImportError") 93) (Value.type "ImportError") :: DictEntry.mk (PyData.keyHash P ("LookupError")) (Value.str ("LookupError") 94) (Value.type "LookupError") :: DictEntry.mk (PyData.keyHash P ("MemoryError")) (Value.str ("MemoryError") 95) (Value.type "MemoryError") :: DictEntry.mk (PyData.keyHash P ("NameError")) (Value.str ("NameError") 96) (Value.type "NameError") :: DictEntry.mk (PyData.keyHash P ("OSError")) (Value.str ("OSError") 97) (Value.type "OSError") :: DictEntry.mk (PyData.keyHash P ("ReferenceError")) (Value.str ("ReferenceError") 98) (Value.type "ReferenceError") :: DictEntry.mk (PyData.keyHash P ("RuntimeError")) (Value.str ("RuntimeError") 99) (Value.type "RuntimeError") :: DictEntry.mk (PyData.keyHash P ("StopAsyncIteration")) (Value.str ("StopAsyncIteration") 100) (Value.type "StopAsyncIteration") :: DictEntry.mk (PyData.keyHash P ("StopIteration")) (Value.str ("StopIteration") 101) (Value.type "StopIteration") :: DictEntry.mk (PyData.keyHash P ("SyntaxError")) (Value.str ("SyntaxError") 102) (Value.type "SyntaxError") :: DictEntry.mk (PyData.keyHash P ("SystemError")) (Value.str ("SystemError") 103) (Value.type "SystemError") :: DictEntry.mk (PyData.keyHash P ("TypeError")) (Value.str ("TypeError") 104) (Value.type "TypeError") :: DictEntry.mk (PyData.keyHash P ("ValueError")) (Value.str ("ValueError") 105) (Value.type "ValueError") :: DictEntry.mk (PyData.keyHash P ("Warning")) (Value.str ("Warning") 106) (Value.type "Warning") :: DictEntry.mk (PyData.keyHash P ("FloatingPointError")) (Value.str ("FloatingPointError") 107) (Value.type "FloatingPointError") :: DictEntry.mk (PyData.keyHash P ("OverflowError")) (Value.str ("OverflowError") 108) (Value.type "OverflowError") :: DictEntry.mk (PyData.keyHash P ("ZeroDivisionError")) (Value.str ("ZeroDivisionError") 109) (Value.type "ZeroDivisionError") :: DictEntry.mk (PyData.keyHash P ("BytesWarning")) (Value.str ("BytesWarning") 110) (Value.type "BytesWarning") :: DictEntry.mk (PyData.keyHash P ("DeprecationWarning")) (Value.str ("DeprecationWarning") 111) (Value.type "DeprecationWarning") :: DictEntry.mk (PyData.keyHash P ("EncodingWarning")) (Value.str ("EncodingWarning") 112) (Value.type "EncodingWarning") :: DictEntry.mk (PyData.keyHash P ("FutureWarning")) (Value.str ("FutureWarning") 113) (Value.type "FutureWarning") :: DictEntry.mk (PyData.keyHash P ("ImportWarning")) (Value.str ("ImportWarning") 114) (Value.type "ImportWarning") :: DictEntry.mk (PyData.keyHash P ("PendingDeprecationWarning")) (Value.str ("PendingDeprecationWarning") 115) (Value.type "PendingDeprecationWarning") :: DictEntry.mk (PyData.keyHash P ("ResourceWarning")) (Value.str ("ResourceWarning") 116) (Value.type "ResourceWarning") :: DictEntry.mk (PyData.keyHash P ("RuntimeWarning")) (Value.str ("RuntimeWarning") 117) (Value.type "RuntimeWarning") :: DictEntry.mk (PyData.keyHash P ("SyntaxWarning")) (Value.str ("SyntaxWarning") 118) (Value.type "SyntaxWarning") :: DictEntry.mk (PyData.keyHash P ("UnicodeWarning")) (Value.str ("UnicodeWarning") 119) (Value.type "UnicodeWarning") :: DictEntry.mk (PyData.keyHash P ("UserWarning")) (Value.str ("UserWarning") 120) (Value.type "UserWarning") :: DictEntry.mk (PyData.keyHash P ("BlockingIOError")) (Value.str ("BlockingIOError") 121) (Value.type "BlockingIOError") :: DictEntry.mk (PyData.keyHash P ("ChildProcessError")) (Value.str ("ChildProcessError") 122) (Value.type "ChildProcessError") :: DictEntry.mk (PyData.keyHash P ("ConnectionError")) (Value.str ("ConnectionError") 123) (Value.type "ConnectionError") :: DictEntry.mk (PyData.keyHash P ("FileExistsError")) (Value.str ("FileExistsError") 124) (Value.type "FileExistsError") :: DictEntry.mk (PyData.keyHash P ("FileNotFoundError")) (Value.str ("FileNotFoundError") 125) (Value.type "FileNotFoundError") :: DictEntry.mk (PyData.keyHash P ("InterruptedError")) (Value.str ("InterruptedError") 126) (Value.type "InterruptedError") :: DictEntry.mk (PyData.keyHash P ("IsADirectoryError")) (Value.str ("IsADirectoryError") 127) (Value.type "IsADirectoryError") :: DictEntry.mk (PyData.keyHash P ("NotADirectoryError")) (Value.str ("NotADirectoryError") 128) (Value.type "NotADirectoryError") :: DictEntry.mk (PyData.keyHash P ("PermissionError")) (Value.str ("PermissionError") 129) (Value.type "PermissionError") :: DictEntry.mk (PyData.keyHash P ("ProcessLookupError")) (Value.str ("ProcessLookupError") 130) (Value.type "ProcessLookupError") :: DictEntry.mk (PyData.keyHash P ("TimeoutError")) (Value.str ("TimeoutError") 131) (Value.type "TimeoutError") :: DictEntry.mk (PyData.keyHash P ("IndentationError")) (Value.str ("IndentationError") 132) (Value.type "IndentationError") :: DictEntry.mk (PyData.keyHash P ("_IncompleteInputError")) (Value.str ("_IncompleteInputError") 133) (Value.type "_IncompleteInputError") :: DictEntry.mk (PyData.keyHash P ("IndexError")) (Value.str ("IndexError") 134) (Value.type "IndexError") :: DictEntry.mk (PyData.keyHash P ("KeyError")) (Value.str ("KeyError") 135) (Value.type "KeyError") :: DictEntry.mk (PyData.keyHash P ("ModuleNotFoundError")) (Value.str ("ModuleNotFoundError") 136) (Value.type "ModuleNotFoundError") :: DictEntry.mk (PyData.keyHash P ("NotImplementedError")) (Value.str ("NotImplementedError") 137) (Value.type "NotImplementedError") :: DictEntry.mk (PyData.keyHash P ("PythonFinalizationError")) (Value.str ("PythonFinalizationError") 138) (Value.type "PythonFinalizationError") :: DictEntry.mk (PyData.keyHash P ("RecursionError")) (Value.str ("RecursionError") 139) (Value.type "RecursionError") :: DictEntry.mk (PyData.keyHash P ("UnboundLocalError")) (Value.str ("UnboundLocalError") 140) (Value.type "UnboundLocalError") :: DictEntry.mk (PyData.keyHash P ("UnicodeError")) (Value.str ("UnicodeError") 141) (Value.type "UnicodeError") :: DictEntry.mk (PyData.keyHash P ("BrokenPipeError")) (Value.str ("BrokenPipeError") 142) (Value.type "BrokenPipeError") :: DictEntry.mk (PyData.keyHash P ("ConnectionAbortedError")) (Value.str ("ConnectionAbortedError") 143) (Value.type "ConnectionAbortedError") :: DictEntry.mk (PyData.keyHash P ("ConnectionRefusedError")) (Value.str ("ConnectionRefusedError") 144) (Value.type "ConnectionRefusedError") :: DictEntry.mk (PyData.keyHash P ("ConnectionResetError")) (Value.str ("ConnectionResetError") 145) (Value.type "ConnectionResetError") :: DictEntry.mk (PyData.keyHash P ("TabError")) (Value.str ("TabError") 146) (Value.type "TabError") :: DictEntry.mk (PyData.keyHash P ("UnicodeDecodeError")) (Value.str ("UnicodeDecodeError") 147) (Value.type "UnicodeDecodeError") :: DictEntry.mk (PyData.keyHash P ("UnicodeEncodeError")) (Value.str ("UnicodeEncodeError") 148) (Value.type "UnicodeEncodeError") :: DictEntry.mk (PyData.keyHash P ("UnicodeTranslateError")) (Value.str ("UnicodeTranslateError") 149) (Value.type "UnicodeTranslateError") :: DictEntry.mk (PyData.keyHash P ("ExceptionGroup")) (Value.str ("ExceptionGroup") 150) (Value.type "ExceptionGroup") :: DictEntry.mk (PyData.keyHash P ("EnvironmentError")) (Value.str ("EnvironmentError") 151) (Value.type "OSError") :: DictEntry.mk (PyData.keyHash P ("IOError")) (Value.str ("IOError") 152) (Value.type "OSError") :: DictEntry.mk (PyData.keyHash P ("open")) (Value.str ("open") 153) (Value.builtin "open") :: DictEntry.mk (PyData.keyHash P ("quit")) (Value.str ("quit") 154) (Value.builtin "builtins.quit#opaque") :: DictEntry.mk (PyData.keyHash P ("exit")) (Value.str ("exit") 155) (Value.builtin "builtins.exit#opaque") :: DictEntry.mk (PyData.keyHash P ("copyright")) (Value.str ("copyright") 156) (Value.builtin "builtins.copyright#opaque") :: DictEntry.mk (PyData.keyHash P ("credits")) (Value.str ("credits") 157) (Value.builtin "builtins.credits#opaque") :: DictEntry.mk (PyData.keyHash P ("license")) (Value.str ("license") 158) (Value.builtin "builtins.license#opaque") :: DictEntry.mk (PyData.keyHash P ("help")) (Value.str ("help") 159) (Value.builtin "builtins.help#opaque") :: [])) 159) #[]
noncomputable def hd.o_42 (P : Params) : Obj := Obj.mk (Value.type "dict") none (Data.dict #[DictEntry.mk (PyData.keyHash P ("builtins")) (Value.str ("builtins") 162) (Value.ref 4), DictEntry.mk (PyData.keyHash P ("__main__")) (Value.str ("__main__") 163) (Value.ref 5), DictEntry.mk (PyData.keyHash P ("_sre")) (Value.str ("_sre") 244) (Value.ref 12)] 3) #[]
noncomputable def hd.o_43 (P : Params) : Obj := Obj.mk Value.none none (Data.dict #[DictEntry.mk (PyData.keyHash P ("\x69mport.loaded._sre")) (Value.str ("\x69mport.loaded._sre") 183) (Value.bool true), DictEntry.mk (PyData.keyHash P ("class._frozen_importlib.BuiltinImporter")) (Value.str ("class._frozen_importlib.BuiltinImporter") 185) (Value.ref 14), DictEntry.mk (PyData.keyHash P ("watched.\x69mport")) (Value.str ("watched.\x69mport") 206) (Value.ref 18), DictEntry.mk (PyData.keyHash P ("class._frozen_importlib.ModuleSpec")) (Value.str ("class._frozen_importlib.ModuleSpec") 216) (Value.ref 22), DictEntry.mk (PyData.keyHash P ("sys.modules.booked-epoch")) (Value.str ("sys.modules.booked-epoch") 245) (Value.int 3 0), DictEntry.mk (PyData.keyHash P ("\x69mport.later-laid._sre")) (Value.str ("\x69mport.later-laid._sre") 270) (Value.bool true), DictEntry.mk (PyData.keyHash P ("watched.library")) (Value.str ("watched.library") 272) (Value.ref 27), DictEntry.mk (PyData.keyHash P ("watched.library-objects")) (Value.str ("watched.library-objects") 0) (Value.str ("\x0c") 0), DictEntry.mk (PyData.keyHash P ("watched.library-deep._sre")) (Value.str ("watched.library-deep._sre") 273) (Value.str ("\x04\x00\x00\x0b\x04\x00\x00\x0b\x04\x00\x00\x03\x04\x00\x00\x0b\x08\x04dict\x02") 0)] 9) #[]
noncomputable def hd.o_420 (P : Params) : Obj := Obj.mk (Value.type "dict") none (Data.dict #[DictEntry.mk (PyData.keyHash P ("__name__")) (Value.str ("__name__") 165) (Value.str ("law_to0065_01") 687), DictEntry.mk (PyData.keyHash P ("__doc__")) (Value.str ("__doc__") 166) Value.none, DictEntry.mk (PyData.keyHash P ("__package__")) (Value.str ("__package__") 167) Value.none, DictEntry.mk (PyData.keyHash P ("__loader__")) (Value.str ("__loader__") 168) (Value.builtin "__main__.__loader__#opaque"), DictEntry.mk (PyData.keyHash P ("__spec__")) (Value.str ("__spec__") 169) Value.none, DictEntry.mk (PyData.keyHash P ("__annotations__")) (Value.str ("__annotations__") 170) (Value.ref 6), DictEntry.mk (PyData.keyHash P ("__builtins__")) (Value.str ("__builtins__") 171) (Value.ref 4), DictEntry.mk (PyData.keyHash P ("__file__")) (Value.str ("__file__") 173) (Value.str ("/claim/cut.py") 172), DictEntry.mk (PyData.keyHash P ("__cached__")) (Value.str ("__cached__") 174) Value.none, DictEntry.mk (PyData.keyHash P ("_sre")) (Value.str ("_sre") 275) (Value.ref 12), DictEntry.mk (PyData.keyHash P ("_wall")) (Value.str ("_wall") 288) (Value.ref 38), DictEntry.mk (PyData.keyHash P ("_netrclex")) (Value.str ("_netrclex") 348) (Value.ref 76), DictEntry.mk (PyData.keyHash P ("add")) (Value.str ("add") 358) (Value.ref 87), DictEntry.mk (PyData.keyHash P ("mul")) (Value.str ("mul") 366) (Value.ref 94), DictEntry.mk (PyData.keyHash P ("sub")) (Value.str ("sub") 374) (Value.ref 101), DictEntry.mk (PyData.keyHash P ("concat")) (Value.str ("concat") 383) (Value.ref 108), DictEntry.mk (PyData.keyHash P ("countOf")) (Value.str ("countOf") 393) (Value.ref 115), DictEntry.mk (PyData.keyHash P ("delitem")) (Value.str ("delitem") 401) (Value.ref 122), DictEntry.mk (PyData.keyHash P ("indexOf")) (Value.str ("indexOf") 411) (Value.ref 129), DictEntry.mk (PyData.keyHash P ("length_hint")) (Value.str ("length_hint") 423) (Value.ref 137), DictEntry.mk (PyData.keyHash P ("tspecials")) (Value.str ("tspecials") 459) (Value.ref 142), DictEntry.mk (PyData.keyHash P ("_name_disallowed_re")) (Value.str ("_name_disallowed_re") 485) (Value.ref 147), DictEntry.mk (PyData.keyHash P ("_value_disallowed_re")) (Value.str ("_value_disallowed_re") 519) (Value.ref 152), DictEntry.mk (PyData.keyHash P ("_formatparam")) (Value.str ("_formatparam") 529) (Value.ref 160), DictEntry.mk (PyData.keyHash P ("Headers")) (Value.str ("Headers") 686) (Value.ref 281), DictEntry.mk (PyData.keyHash P ("_law_lexer")) (Value.str ("_law_lexer") 698) (Value.ref 292), DictEntry.mk (PyData.keyHash P ("_law_words")) (Value.str ("_law_words") 712) (Value.ref 299), DictEntry.mk (PyData.keyHash P ("_law_other")) (Value.str ("_law_other") 719) (Value.ref 306), DictEntry.mk (PyData.keyHash P ("_law_undone")) (Value.str ("_law_undone") 738) (Value.ref 313), DictEntry.mk (PyData.keyHash P ("_law_matrix")) (Value.str ("_law_matrix") 750) (Value.ref 320), DictEntry.mk (PyData.keyHash P ("law")) (Value.str ("law") 756) (Value.ref 325)] 31) #[]
noncomputable def hd.o_45 (P : Params) : Obj := Obj.mk (Value.type "module") (some 0) Data.plain #[]
noncomputable def hd.o_46 (P : Params) : Obj := Obj.mk (Value.type "module") (some 3) Data.plain #[]
noncomputable def hd.o_47 (P : Params) : Obj := Obj.mk (Value.type "dict") none (Data.dict #[]) #[]
noncomputable def hd.o_48 (P : Params) : Obj := Obj.mk (Value.type "tuple") none (Data.seq #[]) #[]
noncomputable def hd.o_49 (P : Params) : Obj := Obj.mk Value.none none (Data.fields #[]) #[]
noncomputable def hd.o_50 (P : Params) : Obj := Obj.mk (Value.type "code") none (Data.fields #[Value.str ("<module>") 176, Value.str ("<module>") 177, Value.str ("/claim/cut.py") 178, Value.int 1 0, Value.int 0 0, Value.int 0 0, Value.int 0 0, Value.int 0 0, Value.ref 7, Value.bool false, Value.int 175 0, Value.ref 8, Value.none, Value.none, Value.none, Value.none, Value.int 179 0, Value.int 1 0, Value.str ("/claim/cut.py") 180]) #[]
noncomputable def hd.o_51 (P : Params) : Obj := Obj.mk (Value.type "frame") none Data.plain #[some (Value.ref 9), some (Value.ref 3), some (Value.ref 3), none, some (Value.str ("__main__") 164), none, some (Value.ref 0)]
noncomputable def hd.o_52 (P : Params) : Obj := Obj.mk (Value.type "dict") none (Data.dict #[DictEntry.mk (PyData.keyHash P ("__name__")) (Value.str ("__name__") 247) (Value.str ("_sre") 246), DictEntry.mk (PyData.keyHash P ("__doc__")) (Value.str ("__doc__") 248) Value.none, DictEntry.mk (PyData.keyHash P ("__package__")) (Value.str ("__package__") 250) (Value.str ("") 249), DictEntry.mk (PyData.keyHash P ("__loader__")) (Value.str ("__loader__") 251) (Value.builtin "off-the-table:_sre.__loader__:shared#opaque"), DictEntry.mk (PyData.keyHash P ("__spec__")) (Value.str ("__spec__") 252) (Value.builtin "off-the-table:_sre.__spec__:shared#opaque"), DictEntry.mk (PyData.keyHash P ("compile")) (Value.str ("compile") 253) (Value.builtin "_sre.compile"), DictEntry.mk (PyData.keyHash P ("template")) (Value.str ("template") 254) (Value.builtin "off-the-table:_sre.template:shared#opaque"), DictEntry.mk (PyData.keyHash P ("getcodesize")) (Value.str ("getcodesize") 255) (Value.builtin "off-the-table:_sre.getcodesize:shared#opaque"), DictEntry.mk (PyData.keyHash P ("ascii_iscased")) (Value.str ("ascii_iscased") 256) (Value.builtin "off-the-table:_sre.ascii_iscased:shared#opaque"), DictEntry.mk (PyData.keyHash P ("unicode_iscased")) (Value.str ("unicode_iscased") 257) (Value.builtin "off-the-table:_sre.unicode_iscased:shared#opaque"), DictEntry.mk (PyData.keyHash P ("ascii_tolower")) (Value.str ("ascii_tolower") 258) (Value.builtin "off-the-table:_sre.ascii_tolower:shared#opaque"), DictEntry.mk (PyData.keyHash P ("unicode_tolower")) (Value.str ("unicode_tolower") 259) (Value.builtin "off-the-table:_sre.unicode_tolower:shared#opaque"), DictEntry.mk (PyData.keyHash P ("MAGIC")) (Value.str ("MAGIC") 261) (Value.int 20230612 260), DictEntry.mk (PyData.keyHash P ("CODESIZE")) (Value.str ("CODESIZE") 263) (Value.int 4 262), DictEntry.mk (PyData.keyHash P ("MAXREPEAT")) (Value.str ("MAXREPEAT") 265) (Value.int 4294967295 264), DictEntry.mk (PyData.keyHash P ("MAXGROUPS")) (Value.str ("MAXGROUPS") 267) (Value.int 1073741823 266), DictEntry.mk (PyData.keyHash P ("copyright")) (Value.str ("copyright") 269) (Value.str (" SRE 2.2.2 Copyright (c) 1997-2002 by Secret Labs AB ") 268)] 17) #[]
noncomputable def hd.o_53 (P : Params) : Obj := Obj.mk (Value.type "module") (some 11) Data.plain #[]
noncomputable def hd.o_54 (P : Params) : Obj := Obj.mk (Value.type "dict") none (Data.dict #[DictEntry.mk (PyData.keyHash P ("__module__")) (Value.str ("__module__") 189) (Value.str ("_frozen_importlib") 186), DictEntry.mk (PyData.keyHash P ("__firstlineno__")) (Value.str ("__firstlineno__") 190) (Value.int 971 187), DictEntry.mk (PyData.keyHash P ("__doc__")) (Value.str ("__doc__") 191) (Value.builtin "_frozen_importlib.BuiltinImporter.__doc__:str#opaque"), DictEntry.mk (PyData.keyHash P ("_ORIGIN")) (Value.str ("_ORIGIN") 192) (Value.str ("built-in") 188), DictEntry.mk (PyData.keyHash P ("find_spec")) (Value.str ("find_spec") 193) (Value.builtin "_frozen_importlib.BuiltinImporter.find_spec#opaque"), DictEntry.mk (PyData.keyHash P ("create_module")) (Value.str ("create_module") 194) (Value.builtin "_frozen_importlib.BuiltinImporter.create_module#opaque"), DictEntry.mk (PyData.keyHash P ("exec_module")) (Value.str ("exec_module") 195) (Value.builtin "_frozen_importlib.BuiltinImporter.exec_module#opaque"), DictEntry.mk (PyData.keyHash P ("get_code")) (Value.str ("get_code") 196) (Value.builtin "_frozen_importlib.BuiltinImporter.get_code#opaque"), DictEntry.mk (PyData.keyHash P ("get_source")) (Value.str ("get_source") 197) (Value.builtin "_frozen_importlib.BuiltinImporter.get_source#opaque"), DictEntry.mk (PyData.keyHash P ("is_package")) (Value.str ("is_package") 198) (Value.builtin "_frozen_importlib.BuiltinImporter.is_package#opaque"), DictEntry.mk (PyData.keyHash P ("load_module")) (Value.str ("load_module") 199) (Value.builtin "_frozen_importlib.BuiltinImporter.load_module#opaque"), DictEntry.mk (PyData.keyHash P ("__static_attributes__")) (Value.str ("__static_attributes__") 200) (Value.ref 15), DictEntry.mk (PyData.keyHash P ("__dict__")) (Value.str ("__dict__") 202) (Value.ref 16), DictEntry.mk (PyData.keyHash P ("__weakref__")) (Value.str ("__weakref__") 204) (Value.ref 17)] 14) #[]
noncomputable def hd.o_55 (P : Params) : Obj := Obj.mk (Value.type "type") none (Data.cls (ClassData.mk ("BuiltinImporter") [Value.type "object"] [Value.ref 14, Value.type "object"] 13 ("BuiltinImporter") true [] [] false none false)) #[]
noncomputable def hd.o_56 (P : Params) : Obj := Obj.mk (Value.type "tuple") none (Data.seq #[]) #[]
noncomputable def hd.o_57 (P : Params) : Obj := Obj.mk (Value.type "getset_descriptor") none (Data.fields #[Value.str ("__dict__") 201, Value.ref 14, Value.builtin "function.__dict__", Value.builtin "function.__dict__#set"]) #[]
noncomputable def hd.o_58 (P : Params) : Obj := Obj.mk (Value.type "getset_descriptor") none (Data.fields #[Value.str ("__weakref__") 203, Value.ref 14, Value.builtin "ExceptionGroup.__weakref__", Value.none]) #[]
noncomputable def hd.o_59 (P : Params) : Obj := Obj.mk Value.none none (Data.seq #[Value.int 13 0, Value.str (Str.mk (Array.mk [6, 189, 10, 95, 95, 109, 111, 100, 117, 108, 101, 95, 95, 6, 186, 17, 95, 102, 114, 111, 122, 101, 110, 95, 105, 109, 112, 111, 114, 116, 108, 105, 98, 6, 190, 15, 95, 95, 102, 105, 114, 115, 116, 108, 105, 110, 101, 110, 111, 95, 95, 4, 187, 0, 971, 6, 191, 7, 95, 95, 100, 111, 99, 95, 95, 9, 52, 95, 102, 114, 111, 122, 101, 110, 95, 105, 109, 112, 111, 114, 116, 108, 105, 98, 46, 66, 117, 105, 108, 116, 105, 110, 73, 109, 112, 111, 114, 116, 101, 114, 46, 95, 95, 100, 111, 99, 95, 95, 58, 115, 116, 114, 35, 111, 112, 97, 113, 117, 101, 6, 192, 7, 95, 79, 82, 73, 71, 73, 78, 6, 188, 8, 98, 117, 105, 108, 116, 45, 105, 110, 6, 193, 9, 102, 105, 110, 100, 95, 115, 112, 101, 99, 9, 50, 95, 102, 114, 111, 122, 101, 110, 95, 105, 109, 112, 111, 114, 116, 108, 105, 98, 46, 66, 117, 105, 108, 116, 105, 110, 73, 109, 112, 111, 114, 116, 101, 114, 46, 102, 105, 110, 100, 95, 115, 112, 101, 99, 35, 111, 112, 97, 113, 117, 101, 6, 194, 13, 99, 114, 101, 97, 116, 101, 95, 109, 111, 100, 117, 108, 101, 9, 54, 95, 102, 114, 111, 122, 101, 110, 95, 105, 109, 112, 111, 114, 116, 108, 105, 98, 46, 66, 117, 105, 108, 116, 105, 110, 73, 109, 112, 111, 114, 116, 101, 114, 46, 99, 114, 101, 97, 116, 101, 95, 109, 111, 100, 117, 108, 101, 35, 111, 112, 97, 113, 117, 101, 6, 195, 11, 101, 120, 101, 99, 95, 109, 111, 100, 117, 108, 101, 9, 52, 95, 102, 114, 111, 122, 101, 110, 95, 105, 109, 112, 111, 114, 116, 108, 105, 98, 46, 66, 117, 105, 108, 116, 105, 110, 73, 109, 112, 111, 114, 116, 101, 114, 46, 101, 120, 101, 99, 95, 109, 111, 100, 117, 108, 101, 35, 111, 112, 97, 113, 117, 101, 6, 196, 8, 103, 101, 116, 95, 99, 111, 100, 101, 9, 49, 95, 102, 114, 111, 122, 101, 110, 95, 105, 109, 112, 111, 114, 116, 108, 105, 98, 46, 66, 117, 105, 108, 116, 105, 110, 73, 109, 112, 111, 114, 116, 101, 114, 46, 103, 101, 116, 95, 99, 111, 100, 101, 35, 111, 112, 97, 113, 117, 101, 6, 197, 10, 103, 101, 116, 95, 115, 111, 117, 114, 99, 101, 9, 51, 95, 102, 114, 111, 122, 101, 110, 95, 105, 109, 112, 111, 114, 116, 108, 105, 98, 46, 66, 117, 105, 108, 116, 105, 110, 73, 109, 112, 111, 114, 116, 101, 114, 46, 103, 101, 116, 95, 115, 111, 117, 114, 99, 101, 35, 111, 112, 97, 113, 117, 101, 6, 198, 10, 105, 115, 95, 112, 97, 99, 107, 97, 103, 101, 9, 51, 95, 102, 114, 111, 122, 101, 110, 95, 105, 109, 112, 111, 114, 116, 108, 105, 98, 46, 66, 117, 105, 108, 116, 105, 110, 73, 109, 112, 111, 114, 116, 101, 114, 46, 105, 115, 95, 112, 97, 99, 107, 97, 103, 101, 35, 111, 112, 97, 113, 117, 101, 6, 199, 11, 108, 111, 97, 100, 95, 109, 111, 100, 117, 108, 101, 9, 52, 95, 102, 114, 111, 122, 101, 110, 95, 105, 109, 112, 111, 114, 116, 108, 105, 98, 46, 66, 117, 105, 108, 116, 105, 110, 73, 109, 112, 111, 114, 116, 101, 114, 46, 108, 111, 97, 100, 95, 109, 111, 100, 117, 108, 101, 35, 111, 112, 97, 113, 117, 101, 6, 200, 21, 95, 95, 115, 116, 97, 116, 105, 99, 95, 97, 116, 116, 114, 105, 98, 117, 116, 101, 115, 95, 95, 4, 0, 0, 15, 6, 202, 8, 95, 95, 100, 105, 99, 116, 95, 95, 4, 0, 0, 16, 6, 204, 11, 95, 95, 119, 101, 97, 107, 114, 101, 102, 95, 95, 4, 0, 0, 17])) 0, Value.bool true, Value.bool true, Value.str ("") 205, Value.int 21 0, Value.str (Str.mk (Array.mk [6, 227, 10, 95, 95, 109, 111, 100, 117, 108, 101, 95, 95, 6, 217, 17, 95, 102, 114, 111, 122, 101, 110, 95, 105, 109, 112, 111, 114, 116, 108, 105, 98, 6, 228, 15, 95, 95, 102, 105, 114, 115, 116, 108, 105, 110, 101, 110, 111, 95, 95, 4, 218, 0, 562, 6, 229, 7, 95, 95, 100, 111, 99, 95, 95, 9, 47, 95, 102, 114, 111, 122, 101, 110, 95, 105, 109, 112, 111, 114, 116, 108, 105, 98, 46, 77, 111, 100, 117, 108, 101, 83, 112, 101, 99, 46, 95, 95, 100, 111, 99, 95, 95, 58, 115, 116, 114, 35, 111, 112, 97, 113, 117, 101, 6, 230, 8, 95, 95, 105, 110, 105, 116, 95, 95, 9, 44, 95, 102, 114, 111, 122, 101, 110, 95, 105, 109, 112, 111, 114, 116, 108, 105, 98, 46, 77, 111, 100, 117, 108, 101, 83, 112, 101, 99, 46, 95, 95, 105, 110, 105, 116, 95, 95, 35, 111, 112, 97, 113, 117, 101, 6, 231, 8, 95, 95, 114, 101, 112, 114, 95, 95, 9, 44, 95, 102, 114, 111, 122, 101, 110, 95, 105, 109, 112, 111, 114, 116, 108, 105, 98, 46, 77, 111, 100, 117, 108, 101, 83, 112, 101, 99, 46, 95, 95, 114, 101, 112, 114, 95, 95, 35, 111, 112, 97, 113, 117, 101, 6, 232, 6, 95, 95, 101, 113, 95, 95, 9, 42, 95, 102, 114, 111, 122, 101, 110, 95, 105, 109, 112, 111, 114, 116, 108, 105, 98, 46, 77, 111, 100, 117, 108, 101, 83, 112, 101, 99, 46, 95, 95, 101, 113, 95, 95, 35, 111, 112, 97, 113, 117, 101, 6, 233, 6, 99, 97, 99, 104, 101, 100, 9, 42, 95, 102, 114, 111, 122, 101, 110, 95, 105, 109, 112, 111, 114, 116, 108, 105, 98, 46, 77, 111, 100, 117, 108, 101, 83, 112, 101, 99, 46, 99, 97, 99, 104, 101, 100, 35, 111, 112, 97, 113, 117, 101, 6, 234, 6, 112, 97, 114, 101, 110, 116, 9, 42, 95, 102, 114, 111, 122, 101, 110, 95, 105, 109, 112, 111, 114, 116, 108, 105, 98, 46, 77, 111, 100, 117, 108, 101, 83, 112, 101, 99, 46, 112, 97, 114, 101, 110, 116, 35, 111, 112, 97, 113, 117, 101, 6, 235, 12, 104, 97, 115, 95, 108, 111, 99, 97, 116, 105, 111, 110, 9, 48, 95, 102, 114, 111, 122, 101, 110, 95, 105, 109, 112, 111, 114, 116, 108, 105, 98, 46, 77, 111, 100, 117, 108, 101, 83, 112, 101, 99, 46, 104, 97, 115, 95, 108, 111, 99, 97, 116, 105, 111, 110, 35, 111, 112, 97, 113, 117, 101, 6, 236, 21, 95, 95, 115, 116, 97, 116, 105, 99, 95, 97, 116, 116, 114, 105, 98, 117, 116, 101, 115, 95, 95, 4, 0, 0, 23, 6, 238, 8, 95, 95, 100, 105, 99, 116, 95, 95, 4, 0, 0, 24, 6, 240, 11, 95, 95, 119, 101, 97, 107, 114, 101, 102, 95, 95, 4, 0, 0, 25, 6, 241, 8, 95, 95, 104, 97, 115, 104, 95, 95, 0])) 0, Value.bool true, Value.bool true, Value.str ("") 242] 1) #[]
noncomputable def hd.o_60 (P : Params) : Obj := Obj.mk (Value.type "list") none (Data.seq #[]) #[]
noncomputable def hd.o_61 (P : Params) : Obj := Obj.mk (Value.type "dict") none (Data.dict #[DictEntry.mk (PyData.keyHash P ("name")) (Value.str ("name") 208) (Value.str ("_sre") 207), DictEntry.mk (PyData.keyHash P ("loader")) (Value.str ("loader") 209) (Value.ref 14), DictEntry.mk (PyData.keyHash P ("origin")) (Value.str ("origin") 210) (Value.str ("built-in") 184), DictEntry.mk (PyData.keyHash P ("loader_state")) (Value.str ("loader_state") 211) Value.none, DictEntry.mk (PyData.keyHash P ("submodule_search_locations")) (Value.str ("submodule_search_locations") 212) Value.none, DictEntry.mk (PyData.keyHash P ("_uninitialized_submodules")) (Value.str ("_uninitialized_submodules") 213) (Value.ref 19), DictEntry.mk (PyData.keyHash P ("_set_fileattr")) (Value.str ("_set_fileattr") 214) (Value.bool false), DictEntry.mk (PyData.keyHash P ("_cached")) (Value.str ("_cached") 215) Value.none, DictEntry.mk (PyData.keyHash P ("_initializing")) (Value.str ("_initializing") 243) (Value.bool false)] 9) #[]
noncomputable def hd.o_62 (P : Params) : Obj := Obj.mk (Value.type "dict") none (Data.dict #[DictEntry.mk (PyData.keyHash P ("__module__")) (Value.str ("__module__") 227) (Value.str ("_frozen_importlib") 217), DictEntry.mk (PyData.keyHash P ("__firstlineno__")) (Value.str ("__firstlineno__") 228) (Value.int 562 218), DictEntry.mk (PyData.keyHash P ("__doc__")) (Value.str ("__doc__") 229) (Value.builtin "_frozen_importlib.ModuleSpec.__doc__:str#opaque"), DictEntry.mk (PyData.keyHash P ("__init__")) (Value.str ("__init__") 230) (Value.builtin "_frozen_importlib.ModuleSpec.__init__#opaque"), DictEntry.mk (PyData.keyHash P ("__repr__")) (Value.str ("__repr__") 231) (Value.builtin "_frozen_importlib.ModuleSpec.__repr__#opaque"), DictEntry.mk (PyData.keyHash P ("__eq__")) (Value.str ("__eq__") 232) (Value.builtin "_frozen_importlib.ModuleSpec.__eq__#opaque"), DictEntry.mk (PyData.keyHash P ("cached")) (Value.str ("cached") 233) (Value.builtin "_frozen_importlib.ModuleSpec.cached#opaque"), DictEntry.mk (PyData.keyHash P ("parent")) (Value.str ("parent") 234) (Value.builtin "_frozen_importlib.ModuleSpec.parent#opaque"), DictEntry.mk (PyData.keyHash P ("has_location")) (Value.str ("has_location") 235) (Value.builtin "_frozen_importlib.ModuleSpec.has_location#opaque"), DictEntry.mk (PyData.keyHash P ("__static_attributes__")) (Value.str ("__static_attributes__") 236) (Value.ref 23), DictEntry.mk (PyData.keyHash P ("__dict__")) (Value.str ("__dict__") 238) (Value.ref 24), DictEntry.mk (PyData.keyHash P ("__weakref__")) (Value.str ("__weakref__") 240) (Value.ref 25), DictEntry.mk (PyData.keyHash P ("__hash__")) (Value.str ("__hash__") 241) Value.none] 13) #[]
noncomputable def hd.o_63 (P : Params) : Obj := Obj.mk (Value.type "type") none (Data.cls (ClassData.mk ("ModuleSpec") [Value.type "object"] [Value.ref 22, Value.type "object"] 21 ("ModuleSpec") true [] [] false none false)) #[]
noncomputable def hd.o_64 (P : Params) : Obj := Obj.mk (Value.type "tuple") none (Data.seq #[Value.str ("_cached") 219, Value.str ("_set_fileattr") 220, Value.str ("_uninitialized_submodules") 221, Value.str ("loader") 222, Value.str ("loader_state") 223, Value.str ("name") 224, Value.str ("origin") 225, Value.str ("submodule_search_locations") 226]) #[]
noncomputable def hd.o_65 (P : Params) : Obj := Obj.mk (Value.type "getset_descriptor") none (Data.fields #[Value.str ("__dict__") 237, Value.ref 22, Value.builtin "function.__dict__", Value.builtin "function.__dict__#set"]) #[]
noncomputable def hd.o_66 (P : Params) : Obj := Obj.mk (Value.type "getset_descriptor") none (Data.fields #[Value.str ("__weakref__") 239, Value.ref 22, Value.builtin "ExceptionGroup.__weakref__", Value.none]) #[]
noncomputable def hd.o_67 (P : Params) : Obj := Obj.mk (Value.ref 22) (some 20) Data.plain #[]
noncomputable def hd.o_68 (P : Params) : Obj := Obj.mk Value.none none (Data.seq #[Value.int 11 0, Value.str (Str.mk #[6, 247, 8, 95, 95, 110, 97, 109, 101, 95, 95, 6, 246, 4, 95, 115, 114, 101, 6, 248, 7, 95, 95, 100, 111, 99, 95, 95, 0, 6, 250, 11, 95, 95, 112, 97, 99, 107, 97, 103, 101, 95, 95, 6, 249, 0, 6, 251, 10, 95, 95, 108, 111, 97, 100, 101, 114, 95, 95, 4, 0, 0, 14, 6, 252, 8, 95, 95, 115, 112, 101, 99, 95, 95, 4, 0, 0, 26, 6, 253, 7, 99, 111, 109, 112, 105, 108, 101, 9, 12, 95, 115, 114, 101, 46, 99, 111, 109, 112, 105, 108, 101, 6, 254, 8, 116, 101, 109, 112, 108, 97, 116, 101, 9, 13, 95, 115, 114, 101, 46, 116, 101, 109, 112, 108, 97, 116, 101, 6, 255, 11, 103, 101, 116, 99, 111, 100, 101, 115, 105, 122, 101, 9, 16, 95, 115, 114, 101, 46, 103, 101, 116, 99, 111, 100, 101, 115, 105, 122, 101, 6, 256, 13, 97, 115, 99, 105, 105, 95, 105, 115, 99, 97, 115, 101, 100, 9, 18, 95, 115, 114, 101, 46, 97, 115, 99, 105, 105, 95, 105, 115, 99, 97, 115, 101, 100, 6, 257, 15, 117, 110, 105, 99, 111, 100, 101, 95, 105, 115, 99, 97, 115, 101, 100, 9, 20, 95, 115, 114, 101, 46, 117, 110, 105, 99, 111, 100, 101, 95, 105, 115, 99, 97, 115, 101, 100, 6, 258, 13, 97, 115, 99, 105, 105, 95, 116, 111, 108, 111, 119, 101, 114, 9, 18, 95, 115, 114, 101, 46, 97, 115, 99, 105, 105, 95, 116, 111, 108, 111, 119, 101, 114, 6, 259, 15, 117, 110, 105, 99, 111, 100, 101, 95, 116, 111, 108, 111, 119, 101, 114, 9, 20, 95, 115, 114, 101, 46, 117, 110, 105, 99, 111, 100, 101, 95, 116, 111, 108, 111, 119, 101, 114, 6, 261, 5, 77, 65, 71, 73, 67, 4, 260, 0, 20230612, 6, 263, 8, 67, 79, 68, 69, 83, 73, 90, 69, 4, 262, 0, 4, 6, 265, 9, 77, 65, 88, 82, 69, 80, 69, 65, 84, 4, 264, 0, 4294967295, 6, 267, 9, 77, 65, 88, 71, 82, 79, 85, 80, 83, 4, 266, 0, 1073741823, 6, 269, 9, 99, 111, 112, 121, 114, 105, 103, 104, 116, 6, 268, 53, 32, 83, 82, 69, 32, 50, 46, 50, 46, 50, 32, 67, 111, 112, 121, 114, 105, 103, 104, 116, 32, 40, 99, 41, 32, 49, 57, 57, 55, 45, 50, 48, 48, 50, 32, 98, 121, 32, 83, 101, 99, 114, 101, 116, 32, 76, 97, 98, 115, 32, 65, 66, 32]) 0, Value.bool true, Value.bool false, Value.str ("_sre") 271]) #[]
noncomputable def hd.o_69 (P : Params) : Obj := Obj.mk (Value.type "tuple") none (Data.seq #[]) #[]
noncomputable def hd.o_421 (P : Params) : Obj := Obj.mk Value.none none (Data.fields #[Value.int 2 0, Value.int 0 0, Value.ref 37, Value.int 6 0, Value.int 0 0, Value.ref 44, Value.int 50 0, Value.int 0 0, Value.ref 86, Value.int 52 0, Value.int 0 0, Value.ref 93, Value.int 54 0, Value.int 0 0, Value.ref 100, Value.int 56 0, Value.int 0 0, Value.ref 107, Value.int 61 0, Value.int 0 0, Value.ref 114, Value.int 67 0, Value.int 0 0, Value.ref 121, Value.int 69 0, Value.int 0 0, Value.ref 128, Value.int 75 0, Value.int 0 0, Value.ref 136, Value.int 104 0, Value.int 0 0, Value.ref 159, Value.int 113 0, Value.int 0 0, Value.ref 166, Value.int 196 0, Value.int 0 0, Value.ref 291, Value.int 207 0, Value.int 0 0, Value.ref 298, Value.int 219 0, Value.int 0 0, Value.ref 305, Value.int 221 0, Value.int 0 0, Value.ref 312, Value.int 248 0, Value.int 0 0, Value.ref 319, Value.int 260 0, Value.int 0 0, Value.ref 324]) #[]
noncomputable def hd.o_71 (P : Params) : Obj := Obj.mk (Value.type "code") none (Data.fields #[Value.str ("<module>") 277, Value.str ("<module>") 278, Value.str ("/claim/cut.py") 279, Value.int 1 0, Value.int 0 0, Value.int 0 0, Value.int 0 0, Value.int 0 0, Value.ref 28, Value.bool false, Value.int 276 0, Value.ref 29, Value.none, Value.none, Value.none, Value.none, Value.int 280 0, Value.int 1 0, Value.str ("/claim/cut.py") 281]) #[]
noncomputable def hd.o_72 (P : Params) : Obj := Obj.mk (Value.type "frame") none Data.plain #[some (Value.ref 30), some (Value.ref 3), some (Value.ref 3), none, some (Value.str ("__main__") 164), none, some (Value.ref 0)]
noncomputable def hd.o_77 (P : Params) : Obj := Obj.mk (Value.type "tuple") none (Data.seq #[]) #[]
noncomputable def hd.o_78 (P : Params) : Obj := Obj.mk Value.none none (Data.fields #[]) #[]
noncomputable def hd.o_79 (P : Params) : Obj := Obj.mk (Value.type "tuple") none (Data.seq #[Value.str ("k") 285]) #[]
noncomputable def hd.o_80 (P : Params) : Obj := Obj.mk (Value.type "tuple") none (Data.seq #[]) #[]
noncomputable def hd.o_81 (P : Params) : Obj := Obj.mk Value.none none (Data.func (hd.fd (st := hd.topF 1) rfl ("_wall") ("_wall") (0) ([]) (Value.none) (Value.none) (Value.none) (Value.none) (none) (Value.none) (Value.none) (0))) #[]
noncomputable def hd.o_82 (P : Params) : Obj := Obj.mk (Value.type "code") none (Data.fields #[Value.str ("_wall") 282, Value.str ("_wall") 283, Value.str ("/claim/cut.py") 284, Value.int 2 0, Value.int 1 0, Value.int 0 0, Value.int 0 0, Value.int 3 0, Value.ref 32, Value.bool true, Value.int 276 0, Value.ref 33, Value.none, Value.ref 34, Value.ref 35, Value.ref 36, Value.int 286 0, Value.int 2 0, Value.str ("/claim/cut.py") 287]) #[]
noncomputable def hd.o_83 (P : Params) : Obj := Obj.mk (Value.type "function") none (Data.func (hd.fd (st := hd.topF 1) rfl ("_wall") ("_wall") (3) ([]) (Value.none) (Value.none) (Value.none) (Value.str ("__main__") 164) (none) (Value.ref 37) (Value.none) (0))) #[]
noncomputable def hd.o_84 (P : Params) : Obj := Obj.mk (Value.type "tuple") none (Data.seq #[]) #[]
noncomputable def hd.o_85 (P : Params) : Obj := Obj.mk (Value.type "builtin_function_or_method") none (Data.fields #[Value.builtin "type.__prepare__", Value.type "type"]) #[]
noncomputable def hd.o_86 (P : Params) : Obj := Obj.mk (Value.type "dict") none (Data.dict #[DictEntry.mk (PyData.keyHash P ("__module__")) (Value.str ("__module__") 298) (Value.str ("cpy313.netrc") 289), DictEntry.mk (PyData.keyHash P ("__qualname__")) (Value.str ("__qualname__") 300) (Value.str ("_netrclex") 299), DictEntry.mk (PyData.keyHash P ("__firstlineno__")) (Value.str ("__firstlineno__") 302) (Value.int 6 301), DictEntry.mk (PyData.keyHash P ("__init__")) (Value.str ("__init__") 310) (Value.ref 52), DictEntry.mk (PyData.keyHash P ("_read_char")) (Value.str ("_read_char") 318) (Value.ref 59), DictEntry.mk (PyData.keyHash P ("get_token")) (Value.str ("get_token") 328) (Value.ref 66), DictEntry.mk (PyData.keyHash P ("push_token")) (Value.str ("push_token") 336) (Value.ref 73), DictEntry.mk (PyData.keyHash P ("__static_attributes__")) (Value.str ("__static_attributes__") 341) (Value.ref 74)] 8) #[]
noncomputable def hd.o_87 (P : Params) : Obj := Obj.mk (Value.type "tuple") none (Data.seq #[]) #[]
noncomputable def hd.o_88 (P : Params) : Obj := Obj.mk Value.none none (Data.fields #[Value.int 8 0, Value.int 4 0, Value.ref 51, Value.int 14 0, Value.int 4 0, Value.ref 58, Value.int 20 0, Value.int 4 0, Value.ref 65, Value.int 47 0, Value.int 4 0, Value.ref 72]) #[]
noncomputable def hd.o_89 (P : Params) : Obj := Obj.mk (Value.type "code") none (Data.fields #[Value.str ("_netrclex") 293, Value.str ("_netrclex") 294, Value.str ("/claim/cut.py") 295, Value.int 6 0, Value.int 0 0, Value.int 0 0, Value.int 0 0, Value.int 0 0, Value.ref 42, Value.bool false, Value.int 276 0, Value.ref 43, Value.none, Value.none, Value.none, Value.none, Value.int 296 0, Value.int 6 0, Value.str ("/claim/cut.py") 297]) #[]
noncomputable def hd.o_90 (P : Params) : Obj := Obj.mk (Value.type "frame") none Data.plain #[some (Value.ref 44), some (Value.ref 3), some (Value.ref 41), none, some (Value.str ("cpy313.netrc") 289), none, some (Value.ref 0)]
noncomputable def hd.o_91 (P : Params) : Obj := Obj.mk (Value.type "tuple") none (Data.seq #[]) #[]
noncomputable def hd.o_92 (P : Params) : Obj := Obj.mk Value.none none (Data.fields #[]) #[]
noncomputable def hd.o_93 (P : Params) : Obj := Obj.mk (Value.type "tuple") none (Data.seq #[Value.str ("self") 306, Value.str ("fp") 307]) #[]
noncomputable def hd.o_94 (P : Params) : Obj := Obj.mk (Value.type "tuple") none (Data.seq #[]) #[]
noncomputable def hd.o_95 (P : Params) : Obj := Obj.mk Value.none none (Data.func (hd.fd (st := hd.topM 3 0) rfl ("__init__") ("_netrclex.__init__") (0) ([]) (Value.none) (Value.none) (Value.none) (Value.none) (none) (Value.none) (Value.none) (0))) #[]
noncomputable def hd.o_96 (P : Params) : Obj := Obj.mk (Value.type "code") none (Data.fields #[Value.str ("__init__") 303, Value.str ("_netrclex.__init__") 304, Value.str ("/claim/cut.py") 305, Value.int 8 0, Value.int 2 0, Value.int 0 0, Value.int 0 0, Value.int 3 0, Value.ref 46, Value.bool true, Value.int 276 0, Value.ref 47, Value.none, Value.ref 48, Value.ref 49, Value.ref 50, Value.int 308 0, Value.int 8 0, Value.str ("/claim/cut.py") 309]) #[]
noncomputable def hd.o_97 (P : Params) : Obj := Obj.mk (Value.type "function") none (Data.func (hd.fd (st := hd.topM 3 0) rfl ("__init__") ("_netrclex.__init__") (3) ([]) (Value.none) (Value.none) (Value.none) (Value.str ("cpy313.netrc") 289) (none) (Value.ref 51) (Value.none) (0))) #[]
noncomputable def hd.o_98 (P : Params) : Obj := Obj.mk (Value.type "tuple") none (Data.seq #[]) #[]
noncomputable def hd.o_99 (P : Params) : Obj := Obj.mk Value.none none (Data.fields #[]) #[]
noncomputable def hd.o_100 (P : Params) : Obj := Obj.mk (Value.type "tuple") none (Data.seq #[Value.str ("self") 314, Value.str ("ch") 315]) #[]
noncomputable def hd.o_101 (P : Params) : Obj := Obj.mk (Value.type "tuple") none (Data.seq #[]) #[]
noncomputable def hd.o_102 (P : Params) : Obj := Obj.mk Value.none none (Data.func (hd.fd (st := hd.topM 3 1) rfl ("_read_char") ("_netrclex._read_char") (0) ([]) (Value.none) (Value.none) (Value.none) (Value.none) (none) (Value.none) (Value.none) (0))) #[]
noncomputable def hd.o_103 (P : Params) : Obj := Obj.mk (Value.type "code") none (Data.fields #[Value.str ("_read_char") 311, Value.str ("_netrclex._read_char") 312, Value.str ("/claim/cut.py") 313, Value.int 14 0, Value.int 1 0, Value.int 0 0, Value.int 0 0, Value.int 3 0, Value.ref 53, Value.bool true, Value.int 276 0, Value.ref 54, Value.none, Value.ref 55, Value.ref 56, Value.ref 57, Value.int 316 0, Value.int 14 0, Value.str ("/claim/cut.py") 317]) #[]
noncomputable def hd.o_104 (P : Params) : Obj := Obj.mk (Value.type "function") none (Data.func (hd.fd (st := hd.topM 3 1) rfl ("_read_char") ("_netrclex._read_char") (3) ([]) (Value.none) (Value.none) (Value.none) (Value.str ("cpy313.netrc") 289) (none) (Value.ref 58) (Value.none) (0))) #[]
noncomputable def hd.o_105 (P : Params) : Obj := Obj.mk (Value.type "tuple") none (Data.seq #[]) #[]
noncomputable def hd.o_106 (P : Params) : Obj := Obj.mk Value.none none (Data.fields #[]) #[]
noncomputable def hd.o_107 (P : Params) : Obj := Obj.mk (Value.type "tuple") none (Data.seq #[Value.str ("self") 322, Value.str ("token") 323, Value.str ("fiter") 324, Value.str ("ch") 325]) #[]
noncomputable def hd.o_108 (P : Params) : Obj := Obj.mk (Value.type "tuple") none (Data.seq #[]) #[]
noncomputable def hd.o_109 (P : Params) : Obj := Obj.mk Value.none none (Data.func (hd.fd (st := hd.topM 3 2) rfl ("get_token") ("_netrclex.get_token") (0) ([]) (Value.none) (Value.none) (Value.none) (Value.none) (none) (Value.none) (Value.none) (0))) #[]
noncomputable def hd.o_110 (P : Params) : Obj := Obj.mk (Value.type "code") none (Data.fields #[Value.str ("get_token") 319, Value.str ("_netrclex.get_token") 320, Value.str ("/claim/cut.py") 321, Value.int 20 0, Value.int 1 0, Value.int 0 0, Value.int 0 0, Value.int 3 0, Value.ref 60, Value.bool true, Value.int 276 0, Value.ref 61, Value.none, Value.ref 62, Value.ref 63, Value.ref 64, Value.int 326 0, Value.int 20 0, Value.str ("/claim/cut.py") 327]) #[]
noncomputable def hd.o_111 (P : Params) : Obj := Obj.mk (Value.type "function") none (Data.func (hd.fd (st := hd.topM 3 2) rfl ("get_token") ("_netrclex.get_token") (3) ([]) (Value.none) (Value.none) (Value.none) (Value.str ("cpy313.netrc") 289) (none) (Value.ref 65) (Value.none) (0))) #[]
noncomputable def hd.o_112 (P : Params) : Obj := Obj.mk (Value.type "tuple") none (Data.seq #[]) #[]
noncomputable def hd.o_113 (P : Params) : Obj := Obj.mk Value.none none (Data.fields #[]) #[]
noncomputable def hd.o_114 (P : Params) : Obj := Obj.mk (Value.type "tuple") none (Data.seq #[Value.str ("self") 332, Value.str ("token") 333]) #[]
noncomputable def hd.o_115 (P : Params) : Obj := Obj.mk (Value.type "tuple") none (Data.seq #[]) #[]
noncomputable def hd.o_116 (P : Params) : Obj := Obj.mk Value.none none (Data.func (hd.fd (st := hd.topM 3 3) rfl ("push_token") ("_netrclex.push_token") (0) ([]) (Value.none) (Value.none) (Value.none) (Value.none) (none) (Value.none) (Value.none) (0))) #[]
noncomputable def hd.o_117 (P : Params) : Obj := Obj.mk (Value.type "code") none (Data.fields #[Value.str ("push_token") 329, Value.str ("_netrclex.push_token") 330, Value.str ("/claim/cut.py") 331, Value.int 47 0, Value.int 2 0, Value.int 0 0, Value.int 0 0, Value.int 3 0, Value.ref 67, Value.bool true, Value.int 276 0, Value.ref 68, Value.none, Value.ref 69, Value.ref 70, Value.ref 71, Value.int 334 0, Value.int 47 0, Value.str ("/claim/cut.py") 335]) #[]
noncomputable def hd.o_118 (P : Params) : Obj := Obj.mk (Value.type "function") none (Data.func (hd.fd (st := hd.topM 3 3) rfl ("push_token") ("_netrclex.push_token") (3) ([]) (Value.none) (Value.none) (Value.none) (Value.str ("cpy313.netrc") 289) (none) (Value.ref 72) (Value.none) (0))) #[]
noncomputable def hd.o_119 (P : Params) : Obj := Obj.mk (Value.type "tuple") none (Data.seq #[Value.str ("instream") 337, Value.str ("lineno") 338, Value.str ("pushback") 339, Value.str ("whitespace") 340]) #[]
noncomputable def hd.o_120 (P : Params) : Obj := Obj.mk (Value.type "dict") none (Data.dict #[DictEntry.mk (PyData.keyHash P ("__module__")) (Value.str ("__module__") 298) (Value.str ("cpy313.netrc") 289), DictEntry.mk (PyData.keyHash P ("__firstlineno__")) (Value.str ("__firstlineno__") 302) (Value.int 6 301), DictEntry.mk (PyData.keyHash P ("__init__")) (Value.str ("__init__") 310) (Value.ref 52), DictEntry.mk (PyData.keyHash P ("_read_char")) (Value.str ("_read_char") 318) (Value.ref 59), DictEntry.mk (PyData.keyHash P ("get_token")) (Value.str ("get_token") 328) (Value.ref 66), DictEntry.mk (PyData.keyHash P ("push_token")) (Value.str ("push_token") 336) (Value.ref 73), DictEntry.mk (PyData.keyHash P ("__static_attributes__")) (Value.str ("__static_attributes__") 341) (Value.ref 74), DictEntry.mk (PyData.keyHash P ("__dict__")) (Value.str ("__dict__") 343) (Value.ref 77), DictEntry.mk (PyData.keyHash P ("__weakref__")) (Value.str ("__weakref__") 345) (Value.ref 78), DictEntry.mk (PyData.keyHash P ("__doc__")) (Value.str ("__doc__") 346) Value.none] 4) #[]
noncomputable def hd.o_121 (P : Params) : Obj := Obj.mk (Value.type "type") none (Data.cls (ClassData.mk ("_netrclex") [Value.type "object"] [Value.ref 76, Value.type "object"] 75 ("_netrclex") true [] [] false none false)) #[none, none, some (Value.str ("_netrclex") 291), some (Value.str ("_netrclex") 299), some (Value.builtin "object.__new__"), some (Value.bool true)]
noncomputable def hd.o_122 (P : Params) : Obj := Obj.mk (Value.type "getset_descriptor") none (Data.fields #[Value.str ("__dict__") 342, Value.ref 76, Value.builtin "function.__dict__", Value.builtin "function.__dict__#set"]) #[]
noncomputable def hd.o_123 (P : Params) : Obj := Obj.mk (Value.type "getset_descriptor") none (Data.fields #[Value.str ("__weakref__") 344, Value.ref 76, Value.builtin "ExceptionGroup.__weakref__", Value.none]) #[]
noncomputable def hd.o_124 (P : Params) : Obj := Obj.mk (Value.type "super") none (Data.fields #[Value.ref 76, Value.ref 76, Value.ref 76]) #[]
noncomputable def hd.o_125 (P : Params) : Obj := Obj.mk (Value.type "builtin_function_or_method") none (Data.fields #[Value.builtin "object.__init_subclass__", Value.ref 76]) #[]
noncomputable def hd.o_126 (P : Params) : Obj := Obj.mk (Value.type "tuple") none (Data.seq #[]) #[]
noncomputable def hd.o_127 (P : Params) : Obj := Obj.mk Value.none none (Data.fields #[]) #[]
noncomputable def hd.o_128 (P : Params) : Obj := Obj.mk (Value.type "tuple") none (Data.seq #[Value.str ("a") 354, Value.str ("b") 355]) #[]
noncomputable def hd.o_129 (P : Params) : Obj := Obj.mk (Value.type "tuple") none (Data.seq #[]) #[]
noncomputable def hd.o_130 (P : Params) : Obj := Obj.mk Value.none none (Data.func (hd.fd (st := hd.topF 5) rfl ("add") ("add") (0) ([]) (Value.none) (Value.none) (Value.none) (Value.none) (none) (Value.none) (Value.none) (0))) #[]
noncomputable def hd.o_131 (P : Params) : Obj := Obj.mk (Value.type "code") none (Data.fields #[Value.str ("add") 351, Value.str ("add") 352, Value.str ("/claim/cut.py") 353, Value.int 50 0, Value.int 2 0, Value.int 0 0, Value.int 0 0, Value.int 3 0, Value.ref 81, Value.bool true, Value.int 276 0, Value.ref 82, Value.none, Value.ref 83, Value.ref 84, Value.ref 85, Value.int 356 0, Value.int 50 0, Value.str ("/claim/cut.py") 357]) #[]
noncomputable def hd.o_132 (P : Params) : Obj := Obj.mk (Value.type "function") none (Data.func (hd.fd (st := hd.topF 5) rfl ("add") ("add") (3) ([]) (Value.none) (Value.none) (Value.none) (Value.str ("cpy313.operator") 349) (none) (Value.ref 86) (Value.none) (0))) #[]
noncomputable def hd.o_135 (P : Params) : Obj := Obj.mk (Value.type "tuple") none (Data.seq #[]) #[]
noncomputable def hd.o_136 (P : Params) : Obj := Obj.mk Value.none none (Data.fields #[]) #[]
noncomputable def hd.o_137 (P : Params) : Obj := Obj.mk (Value.type "tuple") none (Data.seq #[Value.str ("a") 362, Value.str ("b") 363]) #[]
noncomputable def hd.o_138 (P : Params) : Obj := Obj.mk (Value.type "tuple") none (Data.seq #[]) #[]
noncomputable def hd.o_139 (P : Params) : Obj := Obj.mk Value.none none (Data.func (hd.fd (st := hd.topF 6) rfl ("mul") ("mul") (0) ([]) (Value.none) (Value.none) (Value.none) (Value.none) (none) (Value.none) (Value.none) (0))) #[]
noncomputable def hd.o_140 (P : Params) : Obj := Obj.mk (Value.type "code") none (Data.fields #[Value.str ("mul") 359, Value.str ("mul") 360, Value.str ("/claim/cut.py") 361, Value.int 52 0, Value.int 2 0, Value.int 0 0, Value.int 0 0, Value.int 3 0, Value.ref 88, Value.bool true, Value.int 276 0, Value.ref 89, Value.none, Value.ref 90, Value.ref 91, Value.ref 92, Value.int 364 0, Value.int 52 0, Value.str ("/claim/cut.py") 365]) #[]
noncomputable def hd.o_141 (P : Params) : Obj := Obj.mk (Value.type "function") none (Data.func (hd.fd (st := hd.topF 6) rfl ("mul") ("mul") (3) ([]) (Value.none) (Value.none) (Value.none) (Value.str ("cpy313.operator") 349) (none) (Value.ref 93) (Value.none) (0))) #[]
noncomputable def hd.o_142 (P : Params) : Obj := Obj.mk (Value.type "tuple") none (Data.seq #[]) #[]
noncomputable def hd.o_143 (P : Params) : Obj := Obj.mk Value.none none (Data.fields #[]) #[]
noncomputable def hd.o_144 (P : Params) : Obj := Obj.mk (Value.type "tuple") none (Data.seq #[Value.str ("a") 370, Value.str ("b") 371]) #[]
noncomputable def hd.o_145 (P : Params) : Obj := Obj.mk (Value.type "tuple") none (Data.seq #[]) #[]
noncomputable def hd.o_146 (P : Params) : Obj := Obj.mk Value.none none (Data.func (hd.fd (st := hd.topF 7) rfl ("sub") ("sub") (0) ([]) (Value.none) (Value.none) (Value.none) (Value.none) (none) (Value.none) (Value.none) (0))) #[]
noncomputable def hd.o_147 (P : Params) : Obj := Obj.mk (Value.type "code") none (Data.fields #[Value.str ("sub") 367, Value.str ("sub") 368, Value.str ("/claim/cut.py") 369, Value.int 54 0, Value.int 2 0, Value.int 0 0, Value.int 0 0, Value.int 3 0, Value.ref 95, Value.bool true, Value.int 276 0, Value.ref 96, Value.none, Value.ref 97, Value.ref 98, Value.ref 99, Value.int 372 0, Value.int 54 0, Value.str ("/claim/cut.py") 373]) #[]
noncomputable def hd.o_148 (P : Params) : Obj := Obj.mk (Value.type "function") none (Data.func (hd.fd (st := hd.topF 7) rfl ("sub") ("sub") (3) ([]) (Value.none) (Value.none) (Value.none) (Value.str ("cpy313.operator") 349) (none) (Value.ref 100) (Value.none) (0))) #[]
noncomputable def hd.o_149 (P : Params) : Obj := Obj.mk (Value.type "tuple") none (Data.seq #[]) #[]
noncomputable def hd.o_150 (P : Params) : Obj := Obj.mk Value.none none (Data.fields #[]) #[]
noncomputable def hd.o_151 (P : Params) : Obj := Obj.mk (Value.type "tuple") none (Data.seq #[Value.str ("a") 378, Value.str ("b") 379, Value.str ("msg") 380]) #[]
noncomputable def hd.o_152 (P : Params) : Obj := Obj.mk (Value.type "tuple") none (Data.seq #[]) #[]
noncomputable def hd.o_153 (P : Params) : Obj := Obj.mk Value.none none (Data.func (hd.fd (st := hd.topF 8) rfl ("concat") ("concat") (0) ([]) (Value.none) (Value.none) (Value.none) (Value.none) (none) (Value.none) (Value.none) (0))) #[]
noncomputable def hd.o_154 (P : Params) : Obj := Obj.mk (Value.type "code") none (Data.fields #[Value.str ("concat") 375, Value.str ("concat") 376, Value.str ("/claim/cut.py") 377, Value.int 56 0, Value.int 2 0, Value.int 0 0, Value.int 0 0, Value.int 3 0, Value.ref 102, Value.bool true, Value.int 276 0, Value.ref 103, Value.none, Value.ref 104, Value.ref 105, Value.ref 106, Value.int 381 0, Value.int 56 0, Value.str ("/claim/cut.py") 382]) #[]
noncomputable def hd.o_155 (P : Params) : Obj := Obj.mk (Value.type "function") none (Data.func (hd.fd (st := hd.topF 8) rfl ("concat") ("concat") (3) ([]) (Value.none) (Value.none) (Value.none) (Value.str ("cpy313.operator") 349) (none) (Value.ref 107) (Value.none) (0))) #[]
noncomputable def hd.o_156 (P : Params) : Obj := Obj.mk (Value.type "tuple") none (Data.seq #[]) #[]
noncomputable def hd.o_157 (P : Params) : Obj := Obj.mk Value.none none (Data.fields #[]) #[]
noncomputable def hd.o_158 (P : Params) : Obj := Obj.mk (Value.type "tuple") none (Data.seq #[Value.str ("a") 387, Value.str ("b") 388, Value.str ("count") 389, Value.str ("i") 390]) #[]
noncomputable def hd.o_159 (P : Params) : Obj := Obj.mk (Value.type "tuple") none (Data.seq #[]) #[]
noncomputable def hd.o_160 (P : Params) : Obj := Obj.mk Value.none none (Data.func (hd.fd (st := hd.topF 9) rfl ("countOf") ("countOf") (0) ([]) (Value.none) (Value.none) (Value.none) (Value.none) (none) (Value.none) (Value.none) (0))) #[]
noncomputable def hd.o_161 (P : Params) : Obj := Obj.mk (Value.type "code") none (Data.fields #[Value.str ("countOf") 384, Value.str ("countOf") 385, Value.str ("/claim/cut.py") 386, Value.int 61 0, Value.int 2 0, Value.int 0 0, Value.int 0 0, Value.int 3 0, Value.ref 109, Value.bool true, Value.int 276 0, Value.ref 110, Value.none, Value.ref 111, Value.ref 112, Value.ref 113, Value.int 391 0, Value.int 61 0, Value.str ("/claim/cut.py") 392]) #[]
noncomputable def hd.o_162 (P : Params) : Obj := Obj.mk (Value.type "function") none (Data.func (hd.fd (st := hd.topF 9) rfl ("countOf") ("countOf") (3) ([]) (Value.none) (Value.none) (Value.none) (Value.str ("cpy313.operator") 349) (none) (Value.ref 114) (Value.none) (0))) #[]
noncomputable def hd.o_163 (P : Params) : Obj := Obj.mk (Value.type "tuple") none (Data.seq #[]) #[]
noncomputable def hd.o_164 (P : Params) : Obj := Obj.mk Value.none none (Data.fields #[]) #[]
noncomputable def hd.o_165 (P : Params) : Obj := Obj.mk (Value.type "tuple") none (Data.seq #[Value.str ("a") 397, Value.str ("b") 398]) #[]
noncomputable def hd.o_166 (P : Params) : Obj := Obj.mk (Value.type "tuple") none (Data.seq #[]) #[]
noncomputable def hd.o_167 (P : Params) : Obj := Obj.mk Value.none none (Data.func (hd.fd (st := hd.topF 10) rfl ("delitem") ("delitem") (0) ([]) (Value.none) (Value.none) (Value.none) (Value.none) (none) (Value.none) (Value.none) (0))) #[]
noncomputable def hd.o_168 (P : Params) : Obj := Obj.mk (Value.type "code") none (Data.fields #[Value.str ("delitem") 394, Value.str ("delitem") 395, Value.str ("/claim/cut.py") 396, Value.int 67 0, Value.int 2 0, Value.int 0 0, Value.int 0 0, Value.int 3 0, Value.ref 116, Value.bool true, Value.int 276 0, Value.ref 117, Value.none, Value.ref 118, Value.ref 119, Value.ref 120, Value.int 399 0, Value.int 67 0, Value.str ("/claim/cut.py") 400]) #[]
noncomputable def hd.o_169 (P : Params) : Obj := Obj.mk (Value.type "function") none (Data.func (hd.fd (st := hd.topF 10) rfl ("delitem") ("delitem") (3) ([]) (Value.none) (Value.none) (Value.none) (Value.str ("cpy313.operator") 349) (none) (Value.ref 121) (Value.none) (0))) #[]
noncomputable def hd.o_170 (P : Params) : Obj := Obj.mk (Value.type "tuple") none (Data.seq #[]) #[]
noncomputable def hd.o_171 (P : Params) : Obj := Obj.mk Value.none none (Data.fields #[]) #[]
noncomputable def hd.o_172 (P : Params) : Obj := Obj.mk (Value.type "tuple") none (Data.seq #[Value.str ("a") 405, Value.str ("b") 406, Value.str ("i") 407, Value.str ("j") 408]) #[]
noncomputable def hd.o_173 (P : Params) : Obj := Obj.mk (Value.type "tuple") none (Data.seq #[]) #[]
noncomputable def hd.o_174 (P : Params) : Obj := Obj.mk Value.none none (Data.func (hd.fd (st := hd.topF 11) rfl ("indexOf") ("indexOf") (0) ([]) (Value.none) (Value.none) (Value.none) (Value.none) (none) (Value.none) (Value.none) (0))) #[]
noncomputable def hd.o_175 (P : Params) : Obj := Obj.mk (Value.type "code") none (Data.fields #[Value.str ("indexOf") 402, Value.str ("indexOf") 403, Value.str ("/claim/cut.py") 404, Value.int 69 0, Value.int 2 0, Value.int 0 0, Value.int 0 0, Value.int 3 0, Value.ref 123, Value.bool true, Value.int 276 0, Value.ref 124, Value.none, Value.ref 125, Value.ref 126, Value.ref 127, Value.int 409 0, Value.int 69 0, Value.str ("/claim/cut.py") 410]) #[]
noncomputable def hd.o_176 (P : Params) : Obj := Obj.mk (Value.type "function") none (Data.func (hd.fd (st := hd.topF 11) rfl ("indexOf") ("indexOf") (3) ([]) (Value.none) (Value.none) (Value.none) (Value.str ("cpy313.operator") 349) (none) (Value.ref 128) (Value.none) (0))) #[]
noncomputable def hd.o_177 (P : Params) : Obj := Obj.mk (Value.type "tuple") none (Data.seq #[Value.int 0 412]) #[]
noncomputable def hd.o_178 (P : Params) : Obj := Obj.mk (Value.type "tuple") none (Data.seq #[]) #[]
noncomputable def hd.o_179 (P : Params) : Obj := Obj.mk Value.none none (Data.fields #[]) #[]
noncomputable def hd.o_180 (P : Params) : Obj := Obj.mk (Value.type "tuple") none (Data.seq #[Value.str ("obj") 416, Value.str ("default") 417, Value.str ("msg") 418, Value.str ("hint") 419, Value.str ("val") 420]) #[]
noncomputable def hd.o_181 (P : Params) : Obj := Obj.mk (Value.type "tuple") none (Data.seq #[]) #[]
noncomputable def hd.o_182 (P : Params) : Obj := Obj.mk Value.none none (Data.func (hd.fd (st := hd.topF 12) rfl ("length_hint") ("length_hint") (0) ([]) (Value.none) (Value.none) (Value.none) (Value.none) (none) (Value.none) (Value.none) (0))) #[]
noncomputable def hd.o_183 (P : Params) : Obj := Obj.mk (Value.type "code") none (Data.fields #[Value.str ("length_hint") 413, Value.str ("length_hint") 414, Value.str ("/claim/cut.py") 415, Value.int 75 0, Value.int 2 0, Value.int 0 0, Value.int 0 0, Value.int 3 0, Value.ref 131, Value.bool true, Value.int 276 0, Value.ref 132, Value.none, Value.ref 133, Value.ref 134, Value.ref 135, Value.int 421 0, Value.int 75 0, Value.str ("/claim/cut.py") 422]) #[]
noncomputable def hd.o_184 (P : Params) : Obj := Obj.mk (Value.type "function") none (Data.func (hd.fd (st := hd.topF 12) rfl ("length_hint") ("length_hint") (3) ([]) (Value.ref 130) (Value.none) (Value.none) (Value.str ("cpy313.operator") 349) (none) (Value.ref 136) (Value.none) (0))) #[]
noncomputable def hd.o_185 (P : Params) : Obj := Obj.mk (Value.type "list") none (Data.seq #[Value.int 14 429, Value.int 14 430, Value.int 4 431, Value.int 1 432, Value.int 1 433, Value.int 9 434, Value.int 0 435, Value.int 4227896069 436, Value.int 939524097 437, Value.int 0 438, Value.int 0 439, Value.int 0 440, Value.int 0 441, Value.int 0 442, Value.int 0 443, Value.int 13 444, Value.int 11 445, Value.int 9 446, Value.int 0 447, Value.int 4227896069 448, Value.int 939524097 449, Value.int 0 450, Value.int 0 451, Value.int 0 452, Value.int 0 453, Value.int 0 454, Value.int 0 455, Value.int 1 456]) #[]
noncomputable def hd.o_186 (P : Params) : Obj := Obj.mk (Value.type "dict") none (Data.dict #[]) #[]
noncomputable def hd.o_187 (P : Params) : Obj := Obj.mk (Value.type "tuple") none (Data.seq #[Value.none]) #[]
noncomputable def hd.o_188 (P : Params) : Obj := Obj.mk (Value.type "tuple") none (Data.seq #[Value.int 14 0, Value.int 14 0, Value.int 4 0, Value.int 1 0, Value.int 1 0, Value.int 9 0, Value.int 0 0, Value.int 4227896069 0, Value.int 939524097 0, Value.int 0 0, Value.int 0 0, Value.int 0 0, Value.int 0 0, Value.int 0 0, Value.int 0 0, Value.int 13 0, Value.int 11 0, Value.int 9 0, Value.int 0 0, Value.int 4227896069 0, Value.int 939524097 0, Value.int 0 0, Value.int 0 0, Value.int 0 0, Value.int 0 0, Value.int 0 0, Value.int 0 0, Value.int 1 0]) #[]
noncomputable def hd.o_189 (P : Params) : Obj := Obj.mk (Value.type "re.Pattern") none (Data.fields #[Value.str ("[ \\(\\)<>@,;:\\\\\"/\\[\\]\\?=]") 427, Value.int 32 458, Value.int 0 0, Value.none, Value.none, Value.ref 141, Value.int 0 0]) #[]
noncomputable def hd.o_190 (P : Params) : Obj := Obj.mk (Value.type "list") none (Data.seq #[Value.int 14 463, Value.int 10 464, Value.int 4 465, Value.int 1 466, Value.int 1 467, Value.int 22 468, Value.int 0 469, Value.int 31 470, Value.int 16 471, Value.int 127 472, Value.int 0 473, Value.int 13 474, Value.int 7 475, Value.int 22 476, Value.int 0 477, Value.int 31 478, Value.int 16 479, Value.int 127 480, Value.int 0 481, Value.int 1 482]) #[]
noncomputable def hd.o_191 (P : Params) : Obj := Obj.mk (Value.type "dict") none (Data.dict #[]) #[]
noncomputable def hd.o_192 (P : Params) : Obj := Obj.mk (Value.type "tuple") none (Data.seq #[Value.none]) #[]
noncomputable def hd.o_193 (P : Params) : Obj := Obj.mk (Value.type "tuple") none (Data.seq #[Value.int 14 0, Value.int 10 0, Value.int 4 0, Value.int 1 0, Value.int 1 0, Value.int 22 0, Value.int 0 0, Value.int 31 0, Value.int 16 0, Value.int 127 0, Value.int 0 0, Value.int 13 0, Value.int 7 0, Value.int 22 0, Value.int 0 0, Value.int 31 0, Value.int 16 0, Value.int 127 0, Value.int 0 0, Value.int 1 0]) #[]
noncomputable def hd.o_194 (P : Params) : Obj := Obj.mk (Value.type "re.Pattern") none (Data.fields #[Value.str ("[\\x00-\\x1F\\x7F]") 461, Value.int 32 484, Value.int 0 0, Value.none, Value.none, Value.ref 146, Value.int 0 0]) #[]
noncomputable def hd.o_197 (P : Params) : Obj := Obj.mk (Value.type "list") none (Data.seq #[Value.int 14 489, Value.int 14 490, Value.int 4 491, Value.int 1 492, Value.int 1 493, Value.int 9 494, Value.int 4294966783 495, Value.int 0 496, Value.int 0 497, Value.int 2147483648 498, Value.int 0 499, Value.int 0 500, Value.int 0 501, Value.int 0 502, Value.int 0 503, Value.int 13 504, Value.int 11 505, Value.int 9 506, Value.int 4294966783 507, Value.int 0 508, Value.int 0 509, Value.int 2147483648 510, Value.int 0 511, Value.int 0 512, Value.int 0 513, Value.int 0 514, Value.int 0 515, Value.int 1 516]) #[]
noncomputable def hd.o_198 (P : Params) : Obj := Obj.mk (Value.type "dict") none (Data.dict #[]) #[]
noncomputable def hd.o_199 (P : Params) : Obj := Obj.mk (Value.type "tuple") none (Data.seq #[Value.none]) #[]
noncomputable def hd.o_200 (P : Params) : Obj := Obj.mk (Value.type "tuple") none (Data.seq #[Value.int 14 0, Value.int 14 0, Value.int 4 0, Value.int 1 0, Value.int 1 0, Value.int 9 0, Value.int 4294966783 0, Value.int 0 0, Value.int 0 0, Value.int 2147483648 0, Value.int 0 0, Value.int 0 0, Value.int 0 0, Value.int 0 0, Value.int 0 0, Value.int 13 0, Value.int 11 0, Value.int 9 0, Value.int 4294966783 0, Value.int 0 0, Value.int 0 0, Value.int 2147483648 0, Value.int 0 0, Value.int 0 0, Value.int 0 0, Value.int 0 0, Value.int 0 0, Value.int 1 0]) #[]
noncomputable def hd.o_201 (P : Params) : Obj := Obj.mk (Value.type "re.Pattern") none (Data.fields #[Value.str ("[\\x00-\\x08\\x0A-\\x1F\\x7F]") 487, Value.int 32 518, Value.int 0 0, Value.none, Value.none, Value.ref 151, Value.int 0 0]) #[]
noncomputable def hd.o_202 (P : Params) : Obj := Obj.mk (Value.type "tuple") none (Data.seq #[Value.none, Value.int 1 520]) #[]
noncomputable def hd.o_203 (P : Params) : Obj := Obj.mk (Value.type "tuple") none (Data.seq #[]) #[]
noncomputable def hd.o_204 (P : Params) : Obj := Obj.mk Value.none none (Data.fields #[]) #[]
noncomputable def hd.o_205 (P : Params) : Obj := Obj.mk (Value.type "tuple") none (Data.seq #[Value.str ("param") 524, Value.str ("value") 525, Value.str ("quote") 526]) #[]
noncomputable def hd.o_206 (P : Params) : Obj := Obj.mk (Value.type "tuple") none (Data.seq #[]) #[]
noncomputable def hd.o_207 (P : Params) : Obj := Obj.mk Value.none none (Data.func (hd.fd (st := hd.topF 17) rfl ("_formatparam") ("_formatparam") (0) ([]) (Value.none) (Value.none) (Value.none) (Value.none) (none) (Value.none) (Value.none) (0))) #[]
noncomputable def hd.o_208 (P : Params) : Obj := Obj.mk (Value.type "code") none (Data.fields #[Value.str ("_formatparam") 521, Value.str ("_formatparam") 522, Value.str ("/claim/cut.py") 523, Value.int 104 0, Value.int 3 0, Value.int 0 0, Value.int 0 0, Value.int 3 0, Value.ref 154, Value.bool true, Value.int 276 0, Value.ref 155, Value.none, Value.ref 156, Value.ref 157, Value.ref 158, Value.int 527 0, Value.int 104 0, Value.str ("/claim/cut.py") 528]) #[]
noncomputable def hd.o_209 (P : Params) : Obj := Obj.mk (Value.type "function") none (Data.func (hd.fd (st := hd.topF 17) rfl ("_formatparam") ("_formatparam") (3) ([]) (Value.ref 153) (Value.none) (Value.none) (Value.str ("cpy313.wsgiref.headers") 424) (none) (Value.ref 159) (Value.none) (0))) #[]
noncomputable def hd.o_212 (P : Params) : Obj := Obj.mk (Value.type "tuple") none (Data.seq #[]) #[]
noncomputable def hd.o_213 (P : Params) : Obj := Obj.mk (Value.type "builtin_function_or_method") none (Data.fields #[Value.builtin "type.__prepare__", Value.type "type"]) #[]
noncomputable def hd.o_214 (P : Params) : Obj := Obj.mk (Value.type "dict") none (Data.dict #[DictEntry.mk (PyData.keyHash P ("__module__")) (Value.str ("__module__") 537) (Value.str ("cpy313.wsgiref.headers") 424), DictEntry.mk (PyData.keyHash P ("__qualname__")) (Value.str ("__qualname__") 539) (Value.str ("Headers") 538), DictEntry.mk (PyData.keyHash P ("__firstlineno__")) (Value.str ("__firstlineno__") 541) (Value.int 113 540), DictEntry.mk (PyData.keyHash P ("__init__")) (Value.str ("__init__") 551) (Value.ref 175), DictEntry.mk (PyData.keyHash P ("_convert_string_type")) (Value.str ("_convert_string_type") 561) (Value.ref 182), DictEntry.mk (PyData.keyHash P ("__len__")) (Value.str ("__len__") 568) (Value.ref 189), DictEntry.mk (PyData.keyHash P ("__setitem__")) (Value.str ("__setitem__") 577) (Value.ref 196), DictEntry.mk (PyData.keyHash P ("__delitem__")) (Value.str ("__delitem__") 583) (Value.ref 201), DictEntry.mk (PyData.keyHash P ("__getitem__")) (Value.str ("__getitem__") 591) (Value.ref 208), DictEntry.mk (PyData.keyHash P ("__contains__")) (Value.str ("__contains__") 599) (Value.ref 215), DictEntry.mk (PyData.keyHash P ("get_all")) (Value.str ("get_all") 605) (Value.ref 220), DictEntry.mk (PyData.keyHash P ("get")) (Value.str ("get") 616) (Value.ref 228), DictEntry.mk (PyData.keyHash P ("keys")) (Value.str ("keys") 622) (Value.ref 233), DictEntry.mk (PyData.keyHash P ("values")) (Value.str ("values") 628) (Value.ref 238), DictEntry.mk (PyData.keyHash P ("items")) (Value.str ("items") 635) (Value.ref 245), DictEntry.mk (PyData.keyHash P ("__repr__")) (Value.str ("__repr__") 642) (Value.ref 252), DictEntry.mk (PyData.keyHash P ("__str__")) (Value.str ("__str__") 648) (Value.ref 257), DictEntry.mk (PyData.keyHash P ("__bytes__")) (Value.str ("__bytes__") 655) (Value.ref 264), DictEntry.mk (PyData.keyHash P ("setdefault")) (Value.str ("setdefault") 664) (Value.ref 271), DictEntry.mk (PyData.keyHash P ("add_header")) (Value.str ("add_header") 677) (Value.ref 278), DictEntry.mk (PyData.keyHash P ("__static_attributes__")) (Value.str ("__static_attributes__") 679) (Value.ref 279)] 21) #[]
noncomputable def hd.o_215 (P : Params) : Obj := Obj.mk (Value.type "tuple") none (Data.seq #[]) #[]
noncomputable def hd.o_216 (P : Params) : Obj := Obj.mk Value.none none (Data.fields #[Value.int 115 0, Value.int 4 0, Value.ref 174, Value.int 125 0, Value.int 4 0, Value.ref 181, Value.int 133 0, Value.int 4 0, Value.ref 188, Value.int 136 0, Value.int 4 0, Value.ref 195, Value.int 140 0, Value.int 4 0, Value.ref 200, Value.int 144 0, Value.int 4 0, Value.ref 207, Value.int 147 0, Value.int 4 0, Value.ref 214, Value.int 150 0, Value.int 4 0, Value.ref 219, Value.int 154 0, Value.int 4 0, Value.ref 227, Value.int 161 0, Value.int 4 0, Value.ref 232, Value.int 164 0, Value.int 4 0, Value.ref 237, Value.int 167 0, Value.int 4 0, Value.ref 244, Value.int 170 0, Value.int 4 0, Value.ref 251, Value.int 173 0, Value.int 4 0, Value.ref 256, Value.int 176 0, Value.int 4 0, Value.ref 263, Value.int 179 0, Value.int 4 0, Value.ref 270, Value.int 182 0, Value.int 4 0, Value.ref 277]) #[]
noncomputable def hd.o_217 (P : Params) : Obj := Obj.mk (Value.type "code") none (Data.fields #[Value.str ("Headers") 532, Value.str ("Headers") 533, Value.str ("/claim/cut.py") 534, Value.int 113 0, Value.int 0 0, Value.int 0 0, Value.int 0 0, Value.int 0 0, Value.ref 164, Value.bool false, Value.int 276 0, Value.ref 165, Value.none, Value.none, Value.none, Value.none, Value.int 535 0, Value.int 113 0, Value.str ("/claim/cut.py") 536]) #[]
noncomputable def hd.o_218 (P : Params) : Obj := Obj.mk (Value.type "frame") none Data.plain #[some (Value.ref 166), some (Value.ref 3), some (Value.ref 163), none, some (Value.str ("cpy313.wsgiref.headers") 424), none, some (Value.ref 0)]
noncomputable def hd.o_219 (P : Params) : Obj := Obj.mk (Value.type "tuple") none (Data.seq #[Value.none]) #[]
noncomputable def hd.o_220 (P : Params) : Obj := Obj.mk (Value.type "tuple") none (Data.seq #[]) #[]
noncomputable def hd.o_221 (P : Params) : Obj := Obj.mk Value.none none (Data.fields #[]) #[]
noncomputable def hd.o_222 (P : Params) : Obj := Obj.mk (Value.type "tuple") none (Data.seq #[Value.str ("self") 545, Value.str ("headers") 546, Value.str ("k") 547, Value.str ("v") 548]) #[]
noncomputable def hd.o_223 (P : Params) : Obj := Obj.mk (Value.type "tuple") none (Data.seq #[]) #[]
noncomputable def hd.o_224 (P : Params) : Obj := Obj.mk Value.none none (Data.func (hd.fd (st := hd.topM 18 0) rfl ("__init__") ("Headers.__init__") (0) ([]) (Value.none) (Value.none) (Value.none) (Value.none) (none) (Value.none) (Value.none) (0))) #[]
noncomputable def hd.o_225 (P : Params) : Obj := Obj.mk (Value.type "code") none (Data.fields #[Value.str ("__init__") 542, Value.str ("Headers.__init__") 543, Value.str ("/claim/cut.py") 544, Value.int 115 0, Value.int 2 0, Value.int 0 0, Value.int 0 0, Value.int 3 0, Value.ref 169, Value.bool true, Value.int 276 0, Value.ref 170, Value.none, Value.ref 171, Value.ref 172, Value.ref 173, Value.int 549 0, Value.int 115 0, Value.str ("/claim/cut.py") 550]) #[]
noncomputable def hd.o_226 (P : Params) : Obj := Obj.mk (Value.type "function") none (Data.func (hd.fd (st := hd.topM 18 0) rfl ("__init__") ("Headers.__init__") (3) ([]) (Value.ref 168) (Value.none) (Value.none) (Value.str ("cpy313.wsgiref.headers") 424) (none) (Value.ref 174) (Value.none) (0))) #[]
noncomputable def hd.o_227 (P : Params) : Obj := Obj.mk (Value.type "tuple") none (Data.seq #[]) #[]
noncomputable def hd.o_228 (P : Params) : Obj := Obj.mk Value.none none (Data.fields #[]) #[]
noncomputable def hd.o_229 (P : Params) : Obj := Obj.mk (Value.type "tuple") none (Data.seq #[Value.str ("self") 555, Value.str ("value") 556, Value.str ("name") 557, Value.str ("regex") 558]) #[]
noncomputable def hd.o_230 (P : Params) : Obj := Obj.mk (Value.type "tuple") none (Data.seq #[]) #[]
noncomputable def hd.o_231 (P : Params) : Obj := Obj.mk Value.none none (Data.func (hd.fd (st := hd.topM 18 1) rfl ("_convert_string_type") ("Headers._convert_string_type") (0) ([]) (Value.none) (Value.none) (Value.none) (Value.none) (none) (Value.none) (Value.none) (0))) #[]
noncomputable def hd.o_232 (P : Params) : Obj := Obj.mk (Value.type "code") none (Data.fields #[Value.str ("_convert_string_type") 552, Value.str ("Headers._convert_string_type") 553, Value.str ("/claim/cut.py") 554, Value.int 125 0, Value.int 2 0, Value.int 0 0, Value.int 1 0, Value.int 3 0, Value.ref 176, Value.bool true, Value.int 276 0, Value.ref 177, Value.none, Value.ref 178, Value.ref 179, Value.ref 180, Value.int 559 0, Value.int 125 0, Value.str ("/claim/cut.py") 560]) #[]
noncomputable def hd.o_233 (P : Params) : Obj := Obj.mk (Value.type "function") none (Data.func (hd.fd (st := hd.topM 18 1) rfl ("_convert_string_type") ("Headers._convert_string_type") (3) ([]) (Value.none) (Value.none) (Value.none) (Value.str ("cpy313.wsgiref.headers") 424) (none) (Value.ref 181) (Value.none) (0))) #[]
noncomputable def hd.o_234 (P : Params) : Obj := Obj.mk (Value.type "tuple") none (Data.seq #[]) #[]
noncomputable def hd.o_235 (P : Params) : Obj := Obj.mk Value.none none (Data.fields #[]) #[]
noncomputable def hd.o_236 (P : Params) : Obj := Obj.mk (Value.type "tuple") none (Data.seq #[Value.str ("self") 565]) #[]
noncomputable def hd.o_237 (P : Params) : Obj := Obj.mk (Value.type "tuple") none (Data.seq #[]) #[]
noncomputable def hd.o_238 (P : Params) : Obj := Obj.mk Value.none none (Data.func (hd.fd (st := hd.topM 18 2) rfl ("__len__") ("Headers.__len__") (0) ([]) (Value.none) (Value.none) (Value.none) (Value.none) (none) (Value.none) (Value.none) (0))) #[]
noncomputable def hd.o_239 (P : Params) : Obj := Obj.mk (Value.type "code") none (Data.fields #[Value.str ("__len__") 562, Value.str ("Headers.__len__") 563, Value.str ("/claim/cut.py") 564, Value.int 133 0, Value.int 1 0, Value.int 0 0, Value.int 0 0, Value.int 3 0, Value.ref 183, Value.bool true, Value.int 276 0, Value.ref 184, Value.none, Value.ref 185, Value.ref 186, Value.ref 187, Value.int 566 0, Value.int 133 0, Value.str ("/claim/cut.py") 567]) #[]
noncomputable def hd.o_240 (P : Params) : Obj := Obj.mk (Value.type "function") none (Data.func (hd.fd (st := hd.topM 18 2) rfl ("__len__") ("Headers.__len__") (3) ([]) (Value.none) (Value.none) (Value.none) (Value.str ("cpy313.wsgiref.headers") 424) (none) (Value.ref 188) (Value.none) (0))) #[]
noncomputable def hd.o_241 (P : Params) : Obj := Obj.mk (Value.type "tuple") none (Data.seq #[]) #[]
noncomputable def hd.o_242 (P : Params) : Obj := Obj.mk Value.none none (Data.fields #[]) #[]
noncomputable def hd.o_243 (P : Params) : Obj := Obj.mk (Value.type "tuple") none (Data.seq #[Value.str ("self") 572, Value.str ("name") 573, Value.str ("val") 574]) #[]
noncomputable def hd.o_244 (P : Params) : Obj := Obj.mk (Value.type "tuple") none (Data.seq #[]) #[]
noncomputable def hd.o_245 (P : Params) : Obj := Obj.mk Value.none none (Data.func (hd.fd (st := hd.topM 18 3) rfl ("__setitem__") ("Headers.__setitem__") (0) ([]) (Value.none) (Value.none) (Value.none) (Value.none) (none) (Value.none) (Value.none) (0))) #[]
noncomputable def hd.o_246 (P : Params) : Obj := Obj.mk (Value.type "code") none (Data.fields #[Value.str ("__setitem__") 569, Value.str ("Headers.__setitem__") 570, Value.str ("/claim/cut.py") 571, Value.int 136 0, Value.int 3 0, Value.int 0 0, Value.int 0 0, Value.int 3 0, Value.ref 190, Value.bool true, Value.int 276 0, Value.ref 191, Value.none, Value.ref 192, Value.ref 193, Value.ref 194, Value.int 575 0, Value.int 136 0, Value.str ("/claim/cut.py") 576]) #[]
noncomputable def hd.o_247 (P : Params) : Obj := Obj.mk (Value.type "function") none (Data.func (hd.fd (st := hd.topM 18 3) rfl ("__setitem__") ("Headers.__setitem__") (3) ([]) (Value.none) (Value.none) (Value.none) (Value.str ("cpy313.wsgiref.headers") 424) (none) (Value.ref 195) (Value.none) (0))) #[]
noncomputable def hd.o_248 (P : Params) : Obj := Obj.mk (Value.type "tuple") none (Data.seq #[]) #[]
noncomputable def hd.o_249 (P : Params) : Obj := Obj.mk Value.none none (Data.fields #[]) #[]
noncomputable def hd.o_250 (P : Params) : Obj := Obj.mk Value.none none (Data.func (hd.fd (st := hd.topM 18 4) rfl ("__delitem__") ("Headers.__delitem__") (0) ([]) (Value.none) (Value.none) (Value.none) (Value.none) (none) (Value.none) (Value.none) (0))) #[]
noncomputable def hd.o_251 (P : Params) : Obj := Obj.mk (Value.type "code") none (Data.fields #[Value.str ("__delitem__") 578, Value.str ("Headers.__delitem__") 579, Value.str ("/claim/cut.py") 580, Value.int 140 0, Value.int 2 0, Value.int 0 0, Value.int 0 0, Value.int 3 0, Value.ref 197, Value.bool true, Value.int 276 0, Value.ref 198, Value.none, Value.none, Value.none, Value.ref 199, Value.int 581 0, Value.int 140 0, Value.str ("/claim/cut.py") 582]) #[]
noncomputable def hd.o_252 (P : Params) : Obj := Obj.mk (Value.type "function") none (Data.func (hd.fd (st := hd.topM 18 4) rfl ("__delitem__") ("Headers.__delitem__") (3) ([]) (Value.none) (Value.none) (Value.none) (Value.str ("cpy313.wsgiref.headers") 424) (none) (Value.ref 200) (Value.none) (0))) #[]
noncomputable def hd.o_253 (P : Params) : Obj := Obj.mk (Value.type "tuple") none (Data.seq #[]) #[]
noncomputable def hd.o_254 (P : Params) : Obj := Obj.mk Value.none none (Data.fields #[]) #[]
noncomputable def hd.o_255 (P : Params) : Obj := Obj.mk (Value.type "tuple") none (Data.seq #[Value.str ("self") 587, Value.str ("name") 588]) #[]
noncomputable def hd.o_256 (P : Params) : Obj := Obj.mk (Value.type "tuple") none (Data.seq #[]) #[]
noncomputable def hd.o_257 (P : Params) : Obj := Obj.mk Value.none none (Data.func (hd.fd (st := hd.topM 18 5) rfl ("__getitem__") ("Headers.__getitem__") (0) ([]) (Value.none) (Value.none) (Value.none) (Value.none) (none) (Value.none) (Value.none) (0))) #[]
noncomputable def hd.o_258 (P : Params) : Obj := Obj.mk (Value.type "code") none (Data.fields #[Value.str ("__getitem__") 584, Value.str ("Headers.__getitem__") 585, Value.str ("/claim/cut.py") 586, Value.int 144 0, Value.int 2 0, Value.int 0 0, Value.int 0 0, Value.int 3 0, Value.ref 202, Value.bool true, Value.int 276 0, Value.ref 203, Value.none, Value.ref 204, Value.ref 205, Value.ref 206, Value.int 589 0, Value.int 144 0, Value.str ("/claim/cut.py") 590]) #[]
noncomputable def hd.o_259 (P : Params) : Obj := Obj.mk (Value.type "function") none (Data.func (hd.fd (st := hd.topM 18 5) rfl ("__getitem__") ("Headers.__getitem__") (3) ([]) (Value.none) (Value.none) (Value.none) (Value.str ("cpy313.wsgiref.headers") 424) (none) (Value.ref 207) (Value.none) (0))) #[]
noncomputable def hd.o_260 (P : Params) : Obj := Obj.mk (Value.type "tuple") none (Data.seq #[]) #[]
noncomputable def hd.o_261 (P : Params) : Obj := Obj.mk Value.none none (Data.fields #[]) #[]
noncomputable def hd.o_262 (P : Params) : Obj := Obj.mk (Value.type "tuple") none (Data.seq #[Value.str ("self") 595, Value.str ("name") 596]) #[]
noncomputable def hd.o_263 (P : Params) : Obj := Obj.mk (Value.type "tuple") none (Data.seq #[]) #[]
noncomputable def hd.o_264 (P : Params) : Obj := Obj.mk Value.none none (Data.func (hd.fd (st := hd.topM 18 6) rfl ("__contains__") ("Headers.__contains__") (0) ([]) (Value.none) (Value.none) (Value.none) (Value.none) (none) (Value.none) (Value.none) (0))) #[]
noncomputable def hd.o_265 (P : Params) : Obj := Obj.mk (Value.type "code") none (Data.fields #[Value.str ("__contains__") 592, Value.str ("Headers.__contains__") 593, Value.str ("/claim/cut.py") 594, Value.int 147 0, Value.int 2 0, Value.int 0 0, Value.int 0 0, Value.int 3 0, Value.ref 209, Value.bool true, Value.int 276 0, Value.ref 210, Value.none, Value.ref 211, Value.ref 212, Value.ref 213, Value.int 597 0, Value.int 147 0, Value.str ("/claim/cut.py") 598]) #[]
noncomputable def hd.o_266 (P : Params) : Obj := Obj.mk (Value.type "function") none (Data.func (hd.fd (st := hd.topM 18 6) rfl ("__contains__") ("Headers.__contains__") (3) ([]) (Value.none) (Value.none) (Value.none) (Value.str ("cpy313.wsgiref.headers") 424) (none) (Value.ref 214) (Value.none) (0))) #[]
noncomputable def hd.o_267 (P : Params) : Obj := Obj.mk (Value.type "tuple") none (Data.seq #[]) #[]
noncomputable def hd.o_268 (P : Params) : Obj := Obj.mk Value.none none (Data.fields #[]) #[]
noncomputable def hd.o_269 (P : Params) : Obj := Obj.mk Value.none none (Data.func (hd.fd (st := hd.topM 18 7) rfl ("get_all") ("Headers.get_all") (0) ([]) (Value.none) (Value.none) (Value.none) (Value.none) (none) (Value.none) (Value.none) (0))) #[]
noncomputable def hd.o_270 (P : Params) : Obj := Obj.mk (Value.type "code") none (Data.fields #[Value.str ("get_all") 600, Value.str ("Headers.get_all") 601, Value.str ("/claim/cut.py") 602, Value.int 150 0, Value.int 2 0, Value.int 0 0, Value.int 0 0, Value.int 3 0, Value.ref 216, Value.bool true, Value.int 276 0, Value.ref 217, Value.none, Value.none, Value.none, Value.ref 218, Value.int 603 0, Value.int 150 0, Value.str ("/claim/cut.py") 604]) #[]
noncomputable def hd.o_271 (P : Params) : Obj := Obj.mk (Value.type "function") none (Data.func (hd.fd (st := hd.topM 18 7) rfl ("get_all") ("Headers.get_all") (3) ([]) (Value.none) (Value.none) (Value.none) (Value.str ("cpy313.wsgiref.headers") 424) (none) (Value.ref 219) (Value.none) (0))) #[]
noncomputable def hd.o_272 (P : Params) : Obj := Obj.mk (Value.type "tuple") none (Data.seq #[Value.none]) #[]
noncomputable def hd.o_273 (P : Params) : Obj := Obj.mk (Value.type "tuple") none (Data.seq #[]) #[]
noncomputable def hd.o_274 (P : Params) : Obj := Obj.mk Value.none none (Data.fields #[]) #[]
noncomputable def hd.o_275 (P : Params) : Obj := Obj.mk (Value.type "tuple") none (Data.seq #[Value.str ("self") 609, Value.str ("name") 610, Value.str ("default") 611, Value.str ("k") 612, Value.str ("v") 613]) #[]
noncomputable def hd.o_276 (P : Params) : Obj := Obj.mk (Value.type "tuple") none (Data.seq #[]) #[]
noncomputable def hd.o_277 (P : Params) : Obj := Obj.mk Value.none none (Data.func (hd.fd (st := hd.topM 18 8) rfl ("get") ("Headers.get") (0) ([]) (Value.none) (Value.none) (Value.none) (Value.none) (none) (Value.none) (Value.none) (0))) #[]
noncomputable def hd.o_278 (P : Params) : Obj := Obj.mk (Value.type "code") none (Data.fields #[Value.str ("get") 606, Value.str ("Headers.get") 607, Value.str ("/claim/cut.py") 608, Value.int 154 0, Value.int 3 0, Value.int 0 0, Value.int 0 0, Value.int 3 0, Value.ref 222, Value.bool true, Value.int 276 0, Value.ref 223, Value.none, Value.ref 224, Value.ref 225, Value.ref 226, Value.int 614 0, Value.int 154 0, Value.str ("/claim/cut.py") 615]) #[]
noncomputable def hd.o_279 (P : Params) : Obj := Obj.mk (Value.type "function") none (Data.func (hd.fd (st := hd.topM 18 8) rfl ("get") ("Headers.get") (3) ([]) (Value.ref 221) (Value.none) (Value.none) (Value.str ("cpy313.wsgiref.headers") 424) (none) (Value.ref 227) (Value.none) (0))) #[]
noncomputable def hd.o_280 (P : Params) : Obj := Obj.mk (Value.type "tuple") none (Data.seq #[]) #[]
noncomputable def hd.o_281 (P : Params) : Obj := Obj.mk Value.none none (Data.fields #[]) #[]
noncomputable def hd.o_282 (P : Params) : Obj := Obj.mk Value.none none (Data.func (hd.fd (st := hd.topM 18 9) rfl ("keys") ("Headers.keys") (0) ([]) (Value.none) (Value.none) (Value.none) (Value.none) (none) (Value.none) (Value.none) (0))) #[]
noncomputable def hd.o_283 (P : Params) : Obj := Obj.mk (Value.type "code") none (Data.fields #[Value.str ("keys") 617, Value.str ("Headers.keys") 618, Value.str ("/claim/cut.py") 619, Value.int 161 0, Value.int 1 0, Value.int 0 0, Value.int 0 0, Value.int 3 0, Value.ref 229, Value.bool true, Value.int 276 0, Value.ref 230, Value.none, Value.none, Value.none, Value.ref 231, Value.int 620 0, Value.int 161 0, Value.str ("/claim/cut.py") 621]) #[]
noncomputable def hd.o_284 (P : Params) : Obj := Obj.mk (Value.type "function") none (Data.func (hd.fd (st := hd.topM 18 9) rfl ("keys") ("Headers.keys") (3) ([]) (Value.none) (Value.none) (Value.none) (Value.str ("cpy313.wsgiref.headers") 424) (none) (Value.ref 232) (Value.none) (0))) #[]
noncomputable def hd.o_285 (P : Params) : Obj := Obj.mk (Value.type "tuple") none (Data.seq #[]) #[]
noncomputable def hd.o_286 (P : Params) : Obj := Obj.mk Value.none none (Data.fields #[]) #[]
noncomputable def hd.o_287 (P : Params) : Obj := Obj.mk Value.none none (Data.func (hd.fd (st := hd.topM 18 10) rfl ("values") ("Headers.values") (0) ([]) (Value.none) (Value.none) (Value.none) (Value.none) (none) (Value.none) (Value.none) (0))) #[]
noncomputable def hd.o_288 (P : Params) : Obj := Obj.mk (Value.type "code") none (Data.fields #[Value.str ("values") 623, Value.str ("Headers.values") 624, Value.str ("/claim/cut.py") 625, Value.int 164 0, Value.int 1 0, Value.int 0 0, Value.int 0 0, Value.int 3 0, Value.ref 234, Value.bool true, Value.int 276 0, Value.ref 235, Value.none, Value.none, Value.none, Value.ref 236, Value.int 626 0, Value.int 164 0, Value.str ("/claim/cut.py") 627]) #[]
noncomputable def hd.o_289 (P : Params) : Obj := Obj.mk (Value.type "function") none (Data.func (hd.fd (st := hd.topM 18 10) rfl ("values") ("Headers.values") (3) ([]) (Value.none) (Value.none) (Value.none) (Value.str ("cpy313.wsgiref.headers") 424) (none) (Value.ref 237) (Value.none) (0))) #[]
noncomputable def hd.o_290 (P : Params) : Obj := Obj.mk (Value.type "tuple") none (Data.seq #[]) #[]
noncomputable def hd.o_291 (P : Params) : Obj := Obj.mk Value.none none (Data.fields #[]) #[]
noncomputable def hd.o_292 (P : Params) : Obj := Obj.mk (Value.type "tuple") none (Data.seq #[Value.str ("self") 632]) #[]
noncomputable def hd.o_293 (P : Params) : Obj := Obj.mk (Value.type "tuple") none (Data.seq #[]) #[]
noncomputable def hd.o_294 (P : Params) : Obj := Obj.mk Value.none none (Data.func (hd.fd (st := hd.topM 18 11) rfl ("items") ("Headers.items") (0) ([]) (Value.none) (Value.none) (Value.none) (Value.none) (none) (Value.none) (Value.none) (0))) #[]
noncomputable def hd.o_295 (P : Params) : Obj := Obj.mk (Value.type "code") none (Data.fields #[Value.str ("items") 629, Value.str ("Headers.items") 630, Value.str ("/claim/cut.py") 631, Value.int 167 0, Value.int 1 0, Value.int 0 0, Value.int 0 0, Value.int 3 0, Value.ref 239, Value.bool true, Value.int 276 0, Value.ref 240, Value.none, Value.ref 241, Value.ref 242, Value.ref 243, Value.int 633 0, Value.int 167 0, Value.str ("/claim/cut.py") 634]) #[]
noncomputable def hd.o_296 (P : Params) : Obj := Obj.mk (Value.type "function") none (Data.func (hd.fd (st := hd.topM 18 11) rfl ("items") ("Headers.items") (3) ([]) (Value.none) (Value.none) (Value.none) (Value.str ("cpy313.wsgiref.headers") 424) (none) (Value.ref 244) (Value.none) (0))) #[]
noncomputable def hd.o_297 (P : Params) : Obj := Obj.mk (Value.type "tuple") none (Data.seq #[]) #[]
noncomputable def hd.o_298 (P : Params) : Obj := Obj.mk Value.none none (Data.fields #[]) #[]
noncomputable def hd.o_299 (P : Params) : Obj := Obj.mk (Value.type "tuple") none (Data.seq #[Value.str ("self") 639]) #[]
noncomputable def hd.o_300 (P : Params) : Obj := Obj.mk (Value.type "tuple") none (Data.seq #[]) #[]
noncomputable def hd.o_301 (P : Params) : Obj := Obj.mk Value.none none (Data.func (hd.fd (st := hd.topM 18 12) rfl ("__repr__") ("Headers.__repr__") (0) ([]) (Value.none) (Value.none) (Value.none) (Value.none) (none) (Value.none) (Value.none) (0))) #[]
noncomputable def hd.o_302 (P : Params) : Obj := Obj.mk (Value.type "code") none (Data.fields #[Value.str ("__repr__") 636, Value.str ("Headers.__repr__") 637, Value.str ("/claim/cut.py") 638, Value.int 170 0, Value.int 1 0, Value.int 0 0, Value.int 0 0, Value.int 3 0, Value.ref 246, Value.bool true, Value.int 276 0, Value.ref 247, Value.none, Value.ref 248, Value.ref 249, Value.ref 250, Value.int 640 0, Value.int 170 0, Value.str ("/claim/cut.py") 641]) #[]
noncomputable def hd.o_303 (P : Params) : Obj := Obj.mk (Value.type "function") none (Data.func (hd.fd (st := hd.topM 18 12) rfl ("__repr__") ("Headers.__repr__") (3) ([]) (Value.none) (Value.none) (Value.none) (Value.str ("cpy313.wsgiref.headers") 424) (none) (Value.ref 251) (Value.none) (0))) #[]
noncomputable def hd.o_304 (P : Params) : Obj := Obj.mk (Value.type "tuple") none (Data.seq #[]) #[]
noncomputable def hd.o_305 (P : Params) : Obj := Obj.mk Value.none none (Data.fields #[]) #[]
noncomputable def hd.o_306 (P : Params) : Obj := Obj.mk Value.none none (Data.func (hd.fd (st := hd.topM 18 13) rfl ("__str__") ("Headers.__str__") (0) ([]) (Value.none) (Value.none) (Value.none) (Value.none) (none) (Value.none) (Value.none) (0))) #[]
noncomputable def hd.o_307 (P : Params) : Obj := Obj.mk (Value.type "code") none (Data.fields #[Value.str ("__str__") 643, Value.str ("Headers.__str__") 644, Value.str ("/claim/cut.py") 645, Value.int 173 0, Value.int 1 0, Value.int 0 0, Value.int 0 0, Value.int 3 0, Value.ref 253, Value.bool true, Value.int 276 0, Value.ref 254, Value.none, Value.none, Value.none, Value.ref 255, Value.int 646 0, Value.int 173 0, Value.str ("/claim/cut.py") 647]) #[]
noncomputable def hd.o_308 (P : Params) : Obj := Obj.mk (Value.type "function") none (Data.func (hd.fd (st := hd.topM 18 13) rfl ("__str__") ("Headers.__str__") (3) ([]) (Value.none) (Value.none) (Value.none) (Value.str ("cpy313.wsgiref.headers") 424) (none) (Value.ref 256) (Value.none) (0))) #[]
noncomputable def hd.o_309 (P : Params) : Obj := Obj.mk (Value.type "tuple") none (Data.seq #[]) #[]
noncomputable def hd.o_310 (P : Params) : Obj := Obj.mk Value.none none (Data.fields #[]) #[]
noncomputable def hd.o_311 (P : Params) : Obj := Obj.mk (Value.type "tuple") none (Data.seq #[Value.str ("self") 652]) #[]
noncomputable def hd.o_312 (P : Params) : Obj := Obj.mk (Value.type "tuple") none (Data.seq #[]) #[]
noncomputable def hd.o_313 (P : Params) : Obj := Obj.mk Value.none none (Data.func (hd.fd (st := hd.topM 18 14) rfl ("__bytes__") ("Headers.__bytes__") (0) ([]) (Value.none) (Value.none) (Value.none) (Value.none) (none) (Value.none) (Value.none) (0))) #[]
noncomputable def hd.o_314 (P : Params) : Obj := Obj.mk (Value.type "code") none (Data.fields #[Value.str ("__bytes__") 649, Value.str ("Headers.__bytes__") 650, Value.str ("/claim/cut.py") 651, Value.int 176 0, Value.int 1 0, Value.int 0 0, Value.int 0 0, Value.int 3 0, Value.ref 258, Value.bool true, Value.int 276 0, Value.ref 259, Value.none, Value.ref 260, Value.ref 261, Value.ref 262, Value.int 653 0, Value.int 176 0, Value.str ("/claim/cut.py") 654]) #[]
noncomputable def hd.o_315 (P : Params) : Obj := Obj.mk (Value.type "function") none (Data.func (hd.fd (st := hd.topM 18 14) rfl ("__bytes__") ("Headers.__bytes__") (3) ([]) (Value.none) (Value.none) (Value.none) (Value.str ("cpy313.wsgiref.headers") 424) (none) (Value.ref 263) (Value.none) (0))) #[]
noncomputable def hd.o_316 (P : Params) : Obj := Obj.mk (Value.type "tuple") none (Data.seq #[]) #[]
noncomputable def hd.o_317 (P : Params) : Obj := Obj.mk Value.none none (Data.fields #[]) #[]
noncomputable def hd.o_318 (P : Params) : Obj := Obj.mk (Value.type "tuple") none (Data.seq #[Value.str ("self") 659, Value.str ("name") 660, Value.str ("value") 661]) #[]
noncomputable def hd.o_319 (P : Params) : Obj := Obj.mk (Value.type "tuple") none (Data.seq #[]) #[]
noncomputable def hd.o_320 (P : Params) : Obj := Obj.mk Value.none none (Data.func (hd.fd (st := hd.topM 18 15) rfl ("setdefault") ("Headers.setdefault") (0) ([]) (Value.none) (Value.none) (Value.none) (Value.none) (none) (Value.none) (Value.none) (0))) #[]
noncomputable def hd.o_321 (P : Params) : Obj := Obj.mk (Value.type "code") none (Data.fields #[Value.str ("setdefault") 656, Value.str ("Headers.setdefault") 657, Value.str ("/claim/cut.py") 658, Value.int 179 0, Value.int 3 0, Value.int 0 0, Value.int 0 0, Value.int 3 0, Value.ref 265, Value.bool true, Value.int 276 0, Value.ref 266, Value.none, Value.ref 267, Value.ref 268, Value.ref 269, Value.int 662 0, Value.int 179 0, Value.str ("/claim/cut.py") 663]) #[]
noncomputable def hd.o_322 (P : Params) : Obj := Obj.mk (Value.type "function") none (Data.func (hd.fd (st := hd.topM 18 15) rfl ("setdefault") ("Headers.setdefault") (3) ([]) (Value.none) (Value.none) (Value.none) (Value.str ("cpy313.wsgiref.headers") 424) (none) (Value.ref 270) (Value.none) (0))) #[]
noncomputable def hd.o_323 (P : Params) : Obj := Obj.mk (Value.type "tuple") none (Data.seq #[]) #[]
noncomputable def hd.o_324 (P : Params) : Obj := Obj.mk Value.none none (Data.fields #[]) #[]
noncomputable def hd.o_325 (P : Params) : Obj := Obj.mk (Value.type "tuple") none (Data.seq #[Value.str ("self") 668, Value.str ("_name") 669, Value.str ("_value") 670, Value.str ("_params") 671, Value.str ("parts") 672, Value.str ("k") 673, Value.str ("v") 674]) #[]
noncomputable def hd.o_326 (P : Params) : Obj := Obj.mk (Value.type "tuple") none (Data.seq #[]) #[]
noncomputable def hd.o_327 (P : Params) : Obj := Obj.mk Value.none none (Data.func (hd.fd (st := hd.topM 18 16) rfl ("add_header") ("Headers.add_header") (0) ([]) (Value.none) (Value.none) (Value.none) (Value.none) (none) (Value.none) (Value.none) (0))) #[]
noncomputable def hd.o_328 (P : Params) : Obj := Obj.mk (Value.type "code") none (Data.fields #[Value.str ("add_header") 665, Value.str ("Headers.add_header") 666, Value.str ("/claim/cut.py") 667, Value.int 182 0, Value.int 3 0, Value.int 0 0, Value.int 0 0, Value.int 11 0, Value.ref 272, Value.bool true, Value.int 276 0, Value.ref 273, Value.none, Value.ref 274, Value.ref 275, Value.ref 276, Value.int 675 0, Value.int 182 0, Value.str ("/claim/cut.py") 676]) #[]
noncomputable def hd.o_329 (P : Params) : Obj := Obj.mk (Value.type "function") none (Data.func (hd.fd (st := hd.topM 18 16) rfl ("add_header") ("Headers.add_header") (3) ([]) (Value.none) (Value.none) (Value.none) (Value.str ("cpy313.wsgiref.headers") 424) (none) (Value.ref 277) (Value.none) (0))) #[]
noncomputable def hd.o_330 (P : Params) : Obj := Obj.mk (Value.type "tuple") none (Data.seq #[Value.str ("_headers") 678]) #[]
noncomputable def hd.o_331 (P : Params) : Obj := Obj.mk (Value.type "dict") none (Data.dict #[DictEntry.mk (PyData.keyHash P ("__module__")) (Value.str ("__module__") 537) (Value.str ("cpy313.wsgiref.headers") 424), DictEntry.mk (PyData.keyHash P ("__firstlineno__")) (Value.str ("__firstlineno__") 541) (Value.int 113 540), DictEntry.mk (PyData.keyHash P ("__init__")) (Value.str ("__init__") 551) (Value.ref 175), DictEntry.mk (PyData.keyHash P ("_convert_string_type")) (Value.str ("_convert_string_type") 561) (Value.ref 182), DictEntry.mk (PyData.keyHash P ("__len__")) (Value.str ("__len__") 568) (Value.ref 189), DictEntry.mk (PyData.keyHash P ("__setitem__")) (Value.str ("__setitem__") 577) (Value.ref 196), DictEntry.mk (PyData.keyHash P ("__delitem__")) (Value.str ("__delitem__") 583) (Value.ref 201), DictEntry.mk (PyData.keyHash P ("__getitem__")) (Value.str ("__getitem__") 591) (Value.ref 208), DictEntry.mk (PyData.keyHash P ("__contains__")) (Value.str ("__contains__") 599) (Value.ref 215), DictEntry.mk (PyData.keyHash P ("get_all")) (Value.str ("get_all") 605) (Value.ref 220), DictEntry.mk (PyData.keyHash P ("get")) (Value.str ("get") 616) (Value.ref 228), DictEntry.mk (PyData.keyHash P ("keys")) (Value.str ("keys") 622) (Value.ref 233), DictEntry.mk (PyData.keyHash P ("values")) (Value.str ("values") 628) (Value.ref 238), DictEntry.mk (PyData.keyHash P ("items")) (Value.str ("items") 635) (Value.ref 245), DictEntry.mk (PyData.keyHash P ("__repr__")) (Value.str ("__repr__") 642) (Value.ref 252), DictEntry.mk (PyData.keyHash P ("__str__")) (Value.str ("__str__") 648) (Value.ref 257), DictEntry.mk (PyData.keyHash P ("__bytes__")) (Value.str ("__bytes__") 655) (Value.ref 264), DictEntry.mk (PyData.keyHash P ("setdefault")) (Value.str ("setdefault") 664) (Value.ref 271), DictEntry.mk (PyData.keyHash P ("add_header")) (Value.str ("add_header") 677) (Value.ref 278), DictEntry.mk (PyData.keyHash P ("__static_attributes__")) (Value.str ("__static_attributes__") 679) (Value.ref 279), DictEntry.mk (PyData.keyHash P ("__dict__")) (Value.str ("__dict__") 681) (Value.ref 282), DictEntry.mk (PyData.keyHash P ("__weakref__")) (Value.str ("__weakref__") 683) (Value.ref 283), DictEntry.mk (PyData.keyHash P ("__doc__")) (Value.str ("__doc__") 684) Value.none] 4) #[]
noncomputable def hd.o_332 (P : Params) : Obj := Obj.mk (Value.type "type") none (Data.cls (ClassData.mk ("Headers") [Value.type "object"] [Value.ref 281, Value.type "object"] 280 ("Headers") true [] [] false none false)) #[none, none, some (Value.str ("Headers") 530), some (Value.str ("Headers") 538), some (Value.builtin "object.__new__"), some (Value.bool true)]
noncomputable def hd.o_333 (P : Params) : Obj := Obj.mk (Value.type "getset_descriptor") none (Data.fields #[Value.str ("__dict__") 680, Value.ref 281, Value.builtin "function.__dict__", Value.builtin "function.__dict__#set"]) #[]
noncomputable def hd.o_334 (P : Params) : Obj := Obj.mk (Value.type "getset_descriptor") none (Data.fields #[Value.str ("__weakref__") 682, Value.ref 281, Value.builtin "ExceptionGroup.__weakref__", Value.none]) #[]
noncomputable def hd.o_335 (P : Params) : Obj := Obj.mk (Value.type "super") none (Data.fields #[Value.ref 281, Value.ref 281, Value.ref 281]) #[]
noncomputable def hd.o_336 (P : Params) : Obj := Obj.mk (Value.type "builtin_function_or_method") none (Data.fields #[Value.builtin "object.__init_subclass__", Value.ref 281]) #[]
noncomputable def hd.o_422 (P : Params) : Obj := Obj.mk (Value.type "tuple") none (Data.seq #[]) #[]
noncomputable def hd.o_423 (P : Params) : Obj := Obj.mk Value.none none (Data.fields #[]) #[]
noncomputable def hd.o_424 (P : Params) : Obj := Obj.mk (Value.type "tuple") none (Data.seq #[Value.str ("text") 692, Value.str ("_law_read") 693, Value.str ("stream") 694]) #[]
noncomputable def hd.o_425 (P : Params) : Obj := Obj.mk (Value.type "tuple") none (Data.seq #[Value.str ("left") 695]) #[]
noncomputable def hd.o_426 (P : Params) : Obj := Obj.mk Value.none none (Data.func (hd.fd (st := hd.topF 20) rfl ("_law_lexer") ("_law_lexer") (0) ([]) (Value.none) (Value.none) (Value.none) (Value.none) (none) (Value.none) (Value.none) (0))) #[]
noncomputable def hd.o_427 (P : Params) : Obj := Obj.mk (Value.type "code") none (Data.fields #[Value.str ("_law_lexer") 689, Value.str ("_law_lexer") 690, Value.str ("/claim/cut.py") 691, Value.int 196 0, Value.int 1 0, Value.int 0 0, Value.int 0 0, Value.int 3 0, Value.ref 286, Value.bool true, Value.int 276 0, Value.ref 287, Value.none, Value.ref 288, Value.ref 289, Value.ref 290, Value.int 696 0, Value.int 196 0, Value.str ("/claim/cut.py") 697]) #[]
noncomputable def hd.o_428 (P : Params) : Obj := Obj.mk (Value.type "function") none (Data.func (hd.fd (st := hd.topF 20) rfl ("_law_lexer") ("_law_lexer") (3) ([]) (Value.none) (Value.none) (Value.none) (Value.str ("law_to0065_01") 687) (none) (Value.ref 291) (Value.none) (0))) #[]
noncomputable def hd.o_429 (P : Params) : Obj := Obj.mk (Value.type "tuple") none (Data.seq #[]) #[]
noncomputable def hd.o_430 (P : Params) : Obj := Obj.mk Value.none none (Data.fields #[]) #[]
noncomputable def hd.o_431 (P : Params) : Obj := Obj.mk (Value.type "tuple") none (Data.seq #[Value.str ("cells") 702, Value.str ("word") 703, Value.str ("number") 704, Value.str ("k") 705, Value.str ("pieces") 706, Value.str ("later") 707, Value.str ("cell") 708, Value.str ("place") 709]) #[]
noncomputable def hd.o_432 (P : Params) : Obj := Obj.mk (Value.type "tuple") none (Data.seq #[]) #[]
noncomputable def hd.o_433 (P : Params) : Obj := Obj.mk Value.none none (Data.func (hd.fd (st := hd.topF 21) rfl ("_law_words") ("_law_words") (0) ([]) (Value.none) (Value.none) (Value.none) (Value.none) (none) (Value.none) (Value.none) (0))) #[]
noncomputable def hd.o_434 (P : Params) : Obj := Obj.mk (Value.type "code") none (Data.fields #[Value.str ("_law_words") 699, Value.str ("_law_words") 700, Value.str ("/claim/cut.py") 701, Value.int 207 0, Value.int 1 0, Value.int 0 0, Value.int 0 0, Value.int 3 0, Value.ref 293, Value.bool true, Value.int 276 0, Value.ref 294, Value.none, Value.ref 295, Value.ref 296, Value.ref 297, Value.int 710 0, Value.int 207 0, Value.str ("/claim/cut.py") 711]) #[]
noncomputable def hd.o_435 (P : Params) : Obj := Obj.mk (Value.type "function") none (Data.func (hd.fd (st := hd.topF 21) rfl ("_law_words") ("_law_words") (3) ([]) (Value.none) (Value.none) (Value.none) (Value.str ("law_to0065_01") 687) (none) (Value.ref 298) (Value.none) (0))) #[]
noncomputable def hd.o_436 (P : Params) : Obj := Obj.mk (Value.type "tuple") none (Data.seq #[]) #[]
noncomputable def hd.o_437 (P : Params) : Obj := Obj.mk Value.none none (Data.fields #[]) #[]
noncomputable def hd.o_438 (P : Params) : Obj := Obj.mk (Value.type "tuple") none (Data.seq #[Value.str ("letter") 716]) #[]
noncomputable def hd.o_439 (P : Params) : Obj := Obj.mk (Value.type "tuple") none (Data.seq #[]) #[]
noncomputable def hd.o_440 (P : Params) : Obj := Obj.mk Value.none none (Data.func (hd.fd (st := hd.topF 22) rfl ("_law_other") ("_law_other") (0) ([]) (Value.none) (Value.none) (Value.none) (Value.none) (none) (Value.none) (Value.none) (0))) #[]
noncomputable def hd.o_441 (P : Params) : Obj := Obj.mk (Value.type "code") none (Data.fields #[Value.str ("_law_other") 713, Value.str ("_law_other") 714, Value.str ("/claim/cut.py") 715, Value.int 219 0, Value.int 1 0, Value.int 0 0, Value.int 0 0, Value.int 3 0, Value.ref 300, Value.bool true, Value.int 276 0, Value.ref 301, Value.none, Value.ref 302, Value.ref 303, Value.ref 304, Value.int 717 0, Value.int 219 0, Value.str ("/claim/cut.py") 718]) #[]
noncomputable def hd.o_442 (P : Params) : Obj := Obj.mk (Value.type "function") none (Data.func (hd.fd (st := hd.topF 22) rfl ("_law_other") ("_law_other") (3) ([]) (Value.none) (Value.none) (Value.none) (Value.str ("law_to0065_01") 687) (none) (Value.ref 305) (Value.none) (0))) #[]
noncomputable def hd.o_443 (P : Params) : Obj := Obj.mk (Value.type "tuple") none (Data.seq #[]) #[]
noncomputable def hd.o_444 (P : Params) : Obj := Obj.mk Value.none none (Data.fields #[]) #[]
noncomputable def hd.o_445 (P : Params) : Obj := Obj.mk (Value.type "tuple") none (Data.seq #[Value.str ("lexer") 723, Value.str ("waits") 724, Value.str ("rows") 725, Value.str ("table") 726, Value.str ("letter") 727, Value.str ("begin") 728, Value.str ("names") 729, Value.str ("places") 730, Value.str ("behind") 731, Value.str ("k") 732, Value.str ("ends") 733, Value.str ("middle") 734, Value.str ("sign") 735]) #[]
noncomputable def hd.o_446 (P : Params) : Obj := Obj.mk (Value.type "tuple") none (Data.seq #[]) #[]
noncomputable def hd.o_447 (P : Params) : Obj := Obj.mk Value.none none (Data.func (hd.fd (st := hd.topF 23) rfl ("_law_undone") ("_law_undone") (0) ([]) (Value.none) (Value.none) (Value.none) (Value.none) (none) (Value.none) (Value.none) (0))) #[]
noncomputable def hd.o_448 (P : Params) : Obj := Obj.mk (Value.type "code") none (Data.fields #[Value.str ("_law_undone") 720, Value.str ("_law_undone") 721, Value.str ("/claim/cut.py") 722, Value.int 221 0, Value.int 2 0, Value.int 0 0, Value.int 0 0, Value.int 3 0, Value.ref 307, Value.bool true, Value.int 276 0, Value.ref 308, Value.none, Value.ref 309, Value.ref 310, Value.ref 311, Value.int 736 0, Value.int 221 0, Value.str ("/claim/cut.py") 737]) #[]
noncomputable def hd.o_449 (P : Params) : Obj := Obj.mk (Value.type "function") none (Data.func (hd.fd (st := hd.topF 23) rfl ("_law_undone") ("_law_undone") (3) ([]) (Value.none) (Value.none) (Value.none) (Value.str ("law_to0065_01") 687) (none) (Value.ref 312) (Value.none) (0))) #[]
noncomputable def hd.o_450 (P : Params) : Obj := Obj.mk (Value.type "tuple") none (Data.seq #[]) #[]
noncomputable def hd.o_451 (P : Params) : Obj := Obj.mk Value.none none (Data.fields #[]) #[]
noncomputable def hd.o_452 (P : Params) : Obj := Obj.mk (Value.type "tuple") none (Data.seq #[Value.str ("letters") 742, Value.str ("p") 743, Value.str ("q") 744, Value.str ("r") 745, Value.str ("s") 746, Value.str ("letter") 747]) #[]
noncomputable def hd.o_453 (P : Params) : Obj := Obj.mk (Value.type "tuple") none (Data.seq #[]) #[]
noncomputable def hd.o_454 (P : Params) : Obj := Obj.mk Value.none none (Data.func (hd.fd (st := hd.topF 24) rfl ("_law_matrix") ("_law_matrix") (0) ([]) (Value.none) (Value.none) (Value.none) (Value.none) (none) (Value.none) (Value.none) (0))) #[]
noncomputable def hd.o_455 (P : Params) : Obj := Obj.mk (Value.type "code") none (Data.fields #[Value.str ("_law_matrix") 739, Value.str ("_law_matrix") 740, Value.str ("/claim/cut.py") 741, Value.int 248 0, Value.int 1 0, Value.int 0 0, Value.int 0 0, Value.int 3 0, Value.ref 314, Value.bool true, Value.int 276 0, Value.ref 315, Value.none, Value.ref 316, Value.ref 317, Value.ref 318, Value.int 748 0, Value.int 248 0, Value.str ("/claim/cut.py") 749]) #[]
noncomputable def hd.o_456 (P : Params) : Obj := Obj.mk (Value.type "function") none (Data.func (hd.fd (st := hd.topF 24) rfl ("_law_matrix") ("_law_matrix") (3) ([]) (Value.none) (Value.none) (Value.none) (Value.str ("law_to0065_01") 687) (none) (Value.ref 319) (Value.none) (0))) #[]
noncomputable def hd.o_457 (P : Params) : Obj := Obj.mk (Value.type "tuple") none (Data.seq #[]) #[]
noncomputable def hd.o_458 (P : Params) : Obj := Obj.mk Value.none none (Data.fields #[]) #[]
noncomputable def hd.o_459 (P : Params) : Obj := Obj.mk Value.none none (Data.func (hd.fd (st := hd.topF 25) rfl ("law") ("law") (0) ([]) (Value.none) (Value.none) (Value.none) (Value.none) (none) (Value.none) (Value.none) (0))) #[]
noncomputable def hd.o_460 (P : Params) : Obj := Obj.mk (Value.type "code") none (Data.fields #[Value.str ("law") 751, Value.str ("law") 752, Value.str ("/claim/cut.py") 753, Value.int 260 0, Value.int 1 0, Value.int 0 0, Value.int 0 0, Value.int 3 0, Value.ref 321, Value.bool true, Value.int 276 0, Value.ref 322, Value.none, Value.none, Value.none, Value.ref 323, Value.int 754 0, Value.int 260 0, Value.str ("/claim/cut.py") 755]) #[]
noncomputable def hd.o_461 (P : Params) : Obj := Obj.mk (Value.type "function") none (Data.func (hd.fd (st := hd.topF 25) rfl ("law") ("law") (3) ([]) (Value.none) (Value.none) (Value.none) (Value.str ("law_to0065_01") 687) (none) (Value.ref 324) (Value.none) (0))) #[]
noncomputable def hd.o_44 (P : Params) : Obj := Obj.mk (Value.type "dict") none (Data.dict #[DictEntry.mk (PyData.keyHash P ("__name__")) (Value.str ("__name__") 165) (Value.str ("__main__") 164), DictEntry.mk (PyData.keyHash P ("__doc__")) (Value.str ("__doc__") 166) Value.none, DictEntry.mk (PyData.keyHash P ("__package__")) (Value.str ("__package__") 167) Value.none, DictEntry.mk (PyData.keyHash P ("__loader__")) (Value.str ("__loader__") 168) (Value.builtin "__main__.__loader__#opaque"), DictEntry.mk (PyData.keyHash P ("__spec__")) (Value.str ("__spec__") 169) Value.none, DictEntry.mk (PyData.keyHash P ("__annotations__")) (Value.str ("__annotations__") 170) (Value.ref 6), DictEntry.mk (PyData.keyHash P ("__builtins__")) (Value.str ("__builtins__") 171) (Value.ref 4), DictEntry.mk (PyData.keyHash P ("__file__")) (Value.str ("__file__") 173) (Value.str ("/claim/cut.py") 172), DictEntry.mk (PyData.keyHash P ("__cached__")) (Value.str ("__cached__") 174) Value.none, DictEntry.mk (PyData.keyHash P ("_sre")) (Value.str ("_sre") 275) (Value.ref 12)] 10) #[]
noncomputable def hd.heap_68 (P : Params) : Heap := Heap.mk (Array.mk (hd.o_41 P :: hd.o_42 P :: hd.o_43 P :: hd.o_44 P :: hd.o_45 P :: hd.o_46 P :: hd.o_47 P :: hd.o_48 P :: hd.o_49 P :: hd.o_50 P :: hd.o_51 P :: hd.o_52 P :: hd.o_53 P :: hd.o_54 P :: hd.o_55 P :: hd.o_56 P :: hd.o_57 P :: hd.o_58 P :: hd.o_59 P :: hd.o_60 P :: hd.o_61 P :: hd.o_62 P :: hd.o_63 P :: hd.o_64 P :: hd.o_65 P :: hd.o_66 P :: hd.o_67 P :: hd.o_68 P :: [])) (Life.mk [] [] [] 0 [] [] false #[] [] 0 false false false 0 [2000, 10, 10] false 0 true [] [] 0 false)
noncomputable def hd.heap_462 (P : Params) : Heap := Heap.mk (Array.mk (hd.o_41 P :: hd.o_42 P :: hd.o_43 P :: hd.o_420 P :: hd.o_45 P :: hd.o_46 P :: hd.o_47 P :: hd.o_48 P :: hd.o_49 P :: hd.o_50 P :: hd.o_51 P :: hd.o_52 P :: hd.o_53 P :: hd.o_54 P :: hd.o_55 P :: hd.o_56 P :: hd.o_57 P :: hd.o_58 P :: hd.o_59 P :: hd.o_60 P :: hd.o_61 P :: hd.o_62 P :: hd.o_63 P :: hd.o_64 P :: hd.o_65 P :: hd.o_66 P :: hd.o_67 P :: hd.o_68 P :: hd.o_69 P :: hd.o_421 P :: hd.o_71 P :: hd.o_72 P :: hd.o_77 P :: hd.o_78 P :: hd.o_79 P :: hd.o_80 P :: hd.o_81 P :: hd.o_82 P :: hd.o_83 P :: hd.o_84 P :: hd.o_85 P :: hd.o_86 P :: hd.o_87 P :: hd.o_88 P :: hd.o_89 P :: hd.o_90 P :: hd.o_91 P :: hd.o_92 P :: hd.o_93 P :: hd.o_94 P :: hd.o_95 P :: hd.o_96 P :: hd.o_97 P :: hd.o_98 P :: hd.o_99 P :: hd.o_100 P :: hd.o_101 P :: hd.o_102 P :: hd.o_103 P :: hd.o_104 P :: hd.o_105 P :: hd.o_106 P :: hd.o_107 P :: hd.o_108 P :: hd.o_109 P :: hd.o_110 P :: hd.o_111 P :: hd.o_112 P :: hd.o_113 P :: hd.o_114 P :: hd.o_115 P :: hd.o_116 P :: hd.o_117 P :: hd.o_118 P :: hd.o_119 P :: hd.o_120 P :: hd.o_121 P :: hd.o_122 P :: hd.o_123 P :: hd.o_124 P :: hd.o_125 P :: hd.o_126 P :: hd.o_127 P :: hd.o_128 P :: hd.o_129 P :: hd.o_130 P :: hd.o_131 P :: hd.o_132 P :: hd.o_135 P :: hd.o_136 P :: hd.o_137 P :: hd.o_138 P :: hd.o_139 P :: hd.o_140 P :: hd.o_141 P :: hd.o_142 P :: hd.o_143 P :: hd.o_144 P :: hd.o_145 P :: hd.o_146 P :: hd.o_147 P :: hd.o_148 P :: hd.o_149 P :: hd.o_150 P :: hd.o_151 P :: hd.o_152 P :: hd.o_153 P :: hd.o_154 P :: hd.o_155 P :: hd.o_156 P :: hd.o_157 P :: hd.o_158 P :: hd.o_159 P :: hd.o_160 P :: hd.o_161 P :: hd.o_162 P :: hd.o_163 P :: hd.o_164 P :: hd.o_165 P :: hd.o_166 P :: hd.o_167 P :: hd.o_168 P :: hd.o_169 P :: hd.o_170 P :: hd.o_171 P :: hd.o_172 P :: hd.o_173 P :: hd.o_174 P :: hd.o_175 P :: hd.o_176 P :: hd.o_177 P :: hd.o_178 P :: hd.o_179 P :: hd.o_180 P :: hd.o_181 P :: hd.o_182 P :: hd.o_183 P :: hd.o_184 P :: hd.o_185 P :: hd.o_186 P :: hd.o_187 P :: hd.o_188 P :: hd.o_189 P :: hd.o_190 P :: hd.o_191 P :: hd.o_192 P :: hd.o_193 P :: hd.o_194 P :: hd.o_197 P :: hd.o_198 P :: hd.o_199 P :: hd.o_200 P :: hd.o_201 P :: hd.o_202 P :: hd.o_203 P :: hd.o_204 P :: hd.o_205 P :: hd.o_206 P :: hd.o_207 P :: hd.o_208 P :: hd.o_209 P :: hd.o_212 P :: hd.o_213 P :: hd.o_214 P :: hd.o_215 P :: hd.o_216 P :: hd.o_217 P :: hd.o_218 P :: hd.o_219 P :: hd.o_220 P :: hd.o_221 P :: hd.o_222 P :: hd.o_223 P :: hd.o_224 P :: hd.o_225 P :: hd.o_226 P :: hd.o_227 P :: hd.o_228 P :: hd.o_229 P :: hd.o_230 P :: hd.o_231 P :: hd.o_232 P :: hd.o_233 P :: hd.o_234 P :: hd.o_235 P :: hd.o_236 P :: hd.o_237 P :: hd.o_238 P :: hd.o_239 P :: hd.o_240 P :: hd.o_241 P :: hd.o_242 P :: hd.o_243 P :: hd.o_244 P :: hd.o_245 P :: hd.o_246 P :: hd.o_247 P :: hd.o_248 P :: hd.o_249 P :: hd.o_250 P :: hd.o_251 P :: hd.o_252 P :: hd.o_253 P :: hd.o_254 P :: hd.o_255 P :: hd.o_256 P :: hd.o_257 P :: hd.o_258 P :: hd.o_259 P :: hd.o_260 P :: hd.o_261 P :: hd.o_262 P :: hd.o_263 P :: hd.o_264 P :: hd.o_265 P :: hd.o_266 P :: hd.o_267 P :: hd.o_268 P :: hd.o_269 P :: hd.o_270 P :: hd.o_271 P :: hd.o_272 P :: hd.o_273 P :: hd.o_274 P :: hd.o_275 P :: hd.o_276 P :: hd.o_277 P :: hd.o_278 P :: hd.o_279 P :: hd.o_280 P :: hd.o_281 P :: hd.o_282 P :: hd.o_283 P :: hd.o_284 P :: hd.o_285 P :: hd.o_286 P :: hd.o_287 P :: hd.o_288 P :: hd.o_289 P :: hd.o_290 P :: hd.o_291 P :: hd.o_292 P :: hd.o_293 P :: hd.o_294 P :: hd.o_295 P :: hd.o_296 P :: hd.o_297 P :: hd.o_298 P :: hd.o_299 P :: hd.o_300 P :: hd.o_301 P :: hd.o_302 P :: hd.o_303 P :: hd.o_304 P :: hd.o_305 P :: hd.o_306 P :: hd.o_307 P :: hd.o_308 P :: hd.o_309 P :: hd.o_310 P :: hd.o_311 P :: hd.o_312 P :: hd.o_313 P :: hd.o_314 P :: hd.o_315 P :: hd.o_316 P :: hd.o_317 P :: hd.o_318 P :: hd.o_319 P :: hd.o_320 P :: hd.o_321 P :: hd.o_322 P :: hd.o_323 P :: hd.o_324 P :: hd.o_325 P :: hd.o_326 P :: hd.o_327 P :: hd.o_328 P :: hd.o_329 P :: hd.o_330 P :: hd.o_331 P :: hd.o_332 P :: hd.o_333 P :: hd.o_334 P :: hd.o_335 P :: hd.o_336 P :: hd.o_422 P :: hd.o_423 P :: hd.o_424 P :: hd.o_425 P :: hd.o_426 P :: hd.o_427 P :: hd.o_428 P :: hd.o_429 P :: hd.o_430 P :: hd.o_431 P :: hd.o_432 P :: hd.o_433 P :: hd.o_434 P :: hd.o_435 P :: hd.o_436 P :: hd.o_437 P :: hd.o_438 P :: hd.o_439 P :: hd.o_440 P :: hd.o_441 P :: hd.o_442 P :: hd.o_443 P :: hd.o_444 P :: hd.o_445 P :: hd.o_446 P :: hd.o_447 P :: hd.o_448 P :: hd.o_449 P :: hd.o_450 P :: hd.o_451 P :: hd.o_452 P :: hd.o_453 P :: hd.o_454 P :: hd.o_455 P :: hd.o_456 P :: hd.o_457 P :: hd.o_458 P :: hd.o_459 P :: hd.o_460 P :: hd.o_461 P :: [])) (Life.mk [] [] [] 0 [] [] false #[] [] 0 false false false 0 [2000, 10, 10] false 0 true [] [] 0 false)
noncomputable def hd.kc (P : Params) : Frag := (nat_lit 2, hd.o_43 P) :: (nat_lit 3, hd.o_420 P) :: (nat_lit 32, hd.o_77 P) :: (nat_lit 34, hd.o_79 P) :: (nat_lit 35, hd.o_80 P) :: (nat_lit 37, hd.o_82 P) :: (nat_lit 38, hd.o_83 P) :: (nat_lit 46, hd.o_91 P) :: (nat_lit 48, hd.o_93 P) :: (nat_lit 49, hd.o_94 P) :: (nat_lit 51, hd.o_96 P) :: (nat_lit 52, hd.o_97 P) :: (nat_lit 53, hd.o_98 P) :: (nat_lit 55, hd.o_100 P) :: (nat_lit 56, hd.o_101 P) :: (nat_lit 58, hd.o_103 P) :: (nat_lit 59, hd.o_104 P) :: (nat_lit 60, hd.o_105 P) :: (nat_lit 62, hd.o_107 P) :: (nat_lit 63, hd.o_108 P) :: (nat_lit 65, hd.o_110 P) :: (nat_lit 66, hd.o_111 P) :: (nat_lit 67, hd.o_112 P) :: (nat_lit 69, hd.o_114 P) :: (nat_lit 70, hd.o_115 P) :: (nat_lit 72, hd.o_117 P) :: (nat_lit 73, hd.o_118 P) :: (nat_lit 74, hd.o_119 P) :: (nat_lit 75, hd.o_120 P) :: (nat_lit 76, hd.o_121 P) :: (nat_lit 77, hd.o_122 P) :: (nat_lit 78, hd.o_123 P) :: (nat_lit 81, hd.o_126 P) :: (nat_lit 83, hd.o_128 P) :: (nat_lit 84, hd.o_129 P) :: (nat_lit 86, hd.o_131 P) :: (nat_lit 87, hd.o_132 P) :: (nat_lit 88, hd.o_135 P) :: (nat_lit 90, hd.o_137 P) :: (nat_lit 91, hd.o_138 P) :: (nat_lit 93, hd.o_140 P) :: (nat_lit 94, hd.o_141 P) :: (nat_lit 95, hd.o_142 P) :: (nat_lit 97, hd.o_144 P) :: (nat_lit 98, hd.o_145 P) :: (nat_lit 100, hd.o_147 P) :: (nat_lit 101, hd.o_148 P) :: (nat_lit 102, hd.o_149 P) :: (nat_lit 104, hd.o_151 P) :: (nat_lit 105, hd.o_152 P) :: (nat_lit 107, hd.o_154 P) :: (nat_lit 108, hd.o_155 P) :: (nat_lit 109, hd.o_156 P) :: (nat_lit 111, hd.o_158 P) :: (nat_lit 112, hd.o_159 P) :: (nat_lit 114, hd.o_161 P) :: (nat_lit 115, hd.o_162 P) :: (nat_lit 116, hd.o_163 P) :: (nat_lit 118, hd.o_165 P) :: (nat_lit 119, hd.o_166 P) :: (nat_lit 121, hd.o_168 P) :: (nat_lit 122, hd.o_169 P) :: (nat_lit 123, hd.o_170 P) :: (nat_lit 125, hd.o_172 P) :: (nat_lit 126, hd.o_173 P) :: (nat_lit 128, hd.o_175 P) :: (nat_lit 129, hd.o_176 P) :: (nat_lit 130, hd.o_177 P) :: (nat_lit 131, hd.o_178 P) :: (nat_lit 133, hd.o_180 P) :: (nat_lit 134, hd.o_181 P) :: (nat_lit 136, hd.o_183 P) :: (nat_lit 137, hd.o_184 P) :: (nat_lit 141, hd.o_188 P) :: (nat_lit 142, hd.o_189 P) :: (nat_lit 146, hd.o_193 P) :: (nat_lit 147, hd.o_194 P) :: (nat_lit 151, hd.o_200 P) :: (nat_lit 152, hd.o_201 P) :: (nat_lit 153, hd.o_202 P) :: (nat_lit 154, hd.o_203 P) :: (nat_lit 156, hd.o_205 P) :: (nat_lit 157, hd.o_206 P) :: (nat_lit 159, hd.o_208 P) :: (nat_lit 160, hd.o_209 P) :: (nat_lit 168, hd.o_219 P) :: (nat_lit 169, hd.o_220 P) :: (nat_lit 171, hd.o_222 P) :: (nat_lit 172, hd.o_223 P) :: (nat_lit 174, hd.o_225 P) :: (nat_lit 175, hd.o_226 P) :: (nat_lit 176, hd.o_227 P) :: (nat_lit 178, hd.o_229 P) :: (nat_lit 179, hd.o_230 P) :: (nat_lit 181, hd.o_232 P) :: (nat_lit 182, hd.o_233 P) :: (nat_lit 183, hd.o_234 P) :: (nat_lit 185, hd.o_236 P) :: (nat_lit 186, hd.o_237 P) :: (nat_lit 188, hd.o_239 P) :: (nat_lit 189, hd.o_240 P) :: (nat_lit 190, hd.o_241 P) :: (nat_lit 192, hd.o_243 P) :: (nat_lit 193, hd.o_244 P) :: (nat_lit 195, hd.o_246 P) :: (nat_lit 196, hd.o_247 P) :: (nat_lit 197, hd.o_248 P) :: (nat_lit 200, hd.o_251 P) :: (nat_lit 201, hd.o_252 P) :: (nat_lit 202, hd.o_253 P) :: (nat_lit 204, hd.o_255 P) :: (nat_lit 205, hd.o_256 P) :: (nat_lit 207, hd.o_258 P) :: (nat_lit 208, hd.o_259 P) :: (nat_lit 209, hd.o_260 P) :: (nat_lit 211, hd.o_262 P) :: (nat_lit 212, hd.o_263 P) :: (nat_lit 214, hd.o_265 P) :: (nat_lit 215, hd.o_266 P) :: (nat_lit 216, hd.o_267 P) :: (nat_lit 219, hd.o_270 P) :: (nat_lit 220, hd.o_271 P) :: (nat_lit 221, hd.o_272 P) :: (nat_lit 222, hd.o_273 P) :: (nat_lit 224, hd.o_275 P) :: (nat_lit 225, hd.o_276 P) :: (nat_lit 227, hd.o_278 P) :: (nat_lit 228, hd.o_279 P) :: (nat_lit 229, hd.o_280 P) :: (nat_lit 232, hd.o_283 P) :: (nat_lit 233, hd.o_284 P) :: (nat_lit 234, hd.o_285 P) :: (nat_lit 237, hd.o_288 P) :: (nat_lit 238, hd.o_289 P) :: (nat_lit 239, hd.o_290 P) :: (nat_lit 241, hd.o_292 P) :: (nat_lit 242, hd.o_293 P) :: (nat_lit 244, hd.o_295 P) :: (nat_lit 245, hd.o_296 P) :: (nat_lit 246, hd.o_297 P) :: (nat_lit 248, hd.o_299 P) :: (nat_lit 249, hd.o_300 P) :: (nat_lit 251, hd.o_302 P) :: (nat_lit 252, hd.o_303 P) :: (nat_lit 253, hd.o_304 P) :: (nat_lit 256, hd.o_307 P) :: (nat_lit 257, hd.o_308 P) :: (nat_lit 258, hd.o_309 P) :: (nat_lit 260, hd.o_311 P) :: (nat_lit 261, hd.o_312 P) :: (nat_lit 263, hd.o_314 P) :: (nat_lit 264, hd.o_315 P) :: (nat_lit 265, hd.o_316 P) :: (nat_lit 267, hd.o_318 P) :: (nat_lit 268, hd.o_319 P) :: (nat_lit 270, hd.o_321 P) :: (nat_lit 271, hd.o_322 P) :: (nat_lit 272, hd.o_323 P) :: (nat_lit 274, hd.o_325 P) :: (nat_lit 275, hd.o_326 P) :: (nat_lit 277, hd.o_328 P) :: (nat_lit 278, hd.o_329 P) :: (nat_lit 279, hd.o_330 P) :: (nat_lit 280, hd.o_331 P) :: (nat_lit 281, hd.o_332 P) :: (nat_lit 282, hd.o_333 P) :: (nat_lit 283, hd.o_334 P) :: (nat_lit 286, hd.o_422 P) :: (nat_lit 288, hd.o_424 P) :: (nat_lit 289, hd.o_425 P) :: (nat_lit 291, hd.o_427 P) :: (nat_lit 292, hd.o_428 P) :: (nat_lit 293, hd.o_429 P) :: (nat_lit 295, hd.o_431 P) :: (nat_lit 296, hd.o_432 P) :: (nat_lit 298, hd.o_434 P) :: (nat_lit 299, hd.o_435 P) :: (nat_lit 300, hd.o_436 P) :: (nat_lit 302, hd.o_438 P) :: (nat_lit 303, hd.o_439 P) :: (nat_lit 305, hd.o_441 P) :: (nat_lit 306, hd.o_442 P) :: (nat_lit 307, hd.o_443 P) :: (nat_lit 309, hd.o_445 P) :: (nat_lit 310, hd.o_446 P) :: (nat_lit 312, hd.o_448 P) :: (nat_lit 313, hd.o_449 P) :: (nat_lit 314, hd.o_450 P) :: (nat_lit 316, hd.o_452 P) :: (nat_lit 317, hd.o_453 P) :: (nat_lit 319, hd.o_455 P) :: (nat_lit 320, hd.o_456 P) :: (nat_lit 321, hd.o_457 P) :: (nat_lit 324, hd.o_460 P) :: (nat_lit 325, hd.o_461 P) :: []
noncomputable def hd.heap_39 : Params → Frag := by
  refine (?f : (K : Params → Frag) → hd.kc = K → Params → Frag) ?K ?h
  case f => exact fun K _ => K
  case h =>
    delta hd.kc hd.o_43 hd.o_420 hd.o_77 hd.o_79 hd.o_80 hd.o_82 hd.o_83 hd.o_91 hd.o_93 hd.o_94 hd.o_96 hd.o_97 hd.o_98 hd.o_100 hd.o_101 hd.o_103 hd.o_104 hd.o_105 hd.o_107 hd.o_108 hd.o_110 hd.o_111 hd.o_112 hd.o_114 hd.o_115 hd.o_117 hd.o_118 hd.o_119 hd.o_120 hd.o_121 hd.o_122 hd.o_123 hd.o_126 hd.o_128 hd.o_129 hd.o_131 hd.o_132 hd.o_135 hd.o_137 hd.o_138 hd.o_140 hd.o_141 hd.o_142 hd.o_144 hd.o_145 hd.o_147 hd.o_148 hd.o_149 hd.o_151 hd.o_152 hd.o_154 hd.o_155 hd.o_156 hd.o_158 hd.o_159 hd.o_161 hd.o_162 hd.o_163 hd.o_165 hd.o_166 hd.o_168 hd.o_169 hd.o_170 hd.o_172 hd.o_173 hd.o_175 hd.o_176 hd.o_177 hd.o_178 hd.o_180 hd.o_181 hd.o_183 hd.o_184 hd.o_188 hd.o_189 hd.o_193 hd.o_194 hd.o_200 hd.o_201 hd.o_202 hd.o_203 hd.o_205 hd.o_206 hd.o_208 hd.o_209 hd.o_219 hd.o_220 hd.o_222 hd.o_223 hd.o_225 hd.o_226 hd.o_227 hd.o_229 hd.o_230 hd.o_232 hd.o_233 hd.o_234 hd.o_236 hd.o_237 hd.o_239 hd.o_240 hd.o_241 hd.o_243 hd.o_244 hd.o_246 hd.o_247 hd.o_248 hd.o_251 hd.o_252 hd.o_253 hd.o_255 hd.o_256 hd.o_258 hd.o_259 hd.o_260 hd.o_262 hd.o_263 hd.o_265 hd.o_266 hd.o_267 hd.o_270 hd.o_271 hd.o_272 hd.o_273 hd.o_275 hd.o_276 hd.o_278 hd.o_279 hd.o_280 hd.o_283 hd.o_284 hd.o_285 hd.o_288 hd.o_289 hd.o_290 hd.o_292 hd.o_293 hd.o_295 hd.o_296 hd.o_297 hd.o_299 hd.o_300 hd.o_302 hd.o_303 hd.o_304 hd.o_307 hd.o_308 hd.o_309 hd.o_311 hd.o_312 hd.o_314 hd.o_315 hd.o_316 hd.o_318 hd.o_319 hd.o_321 hd.o_322 hd.o_323 hd.o_325 hd.o_326 hd.o_328 hd.o_329 hd.o_330 hd.o_331 hd.o_332 hd.o_333 hd.o_334 hd.o_422 hd.o_424 hd.o_425 hd.o_427 hd.o_428 hd.o_429 hd.o_431 hd.o_432 hd.o_434 hd.o_435 hd.o_436 hd.o_438 hd.o_439 hd.o_441 hd.o_442 hd.o_443 hd.o_445 hd.o_446 hd.o_448 hd.o_449 hd.o_450 hd.o_452 hd.o_453 hd.o_455 hd.o_456 hd.o_457 hd.o_460 hd.o_461 hd.fd PySem.Addr PySem.Tok
    exact rfl
noncomputable def hd.view_39 : Program := by
  refine (?f : (x0 x1 x2 x3 x4 x5 x6 x7 x8 x9 x10 x11 x12 x13 x14 x15 x16 x17 x18 x19 x20 x21 x22 x23 x24 x25 : Stmt) → pw_to0065_01.main.body = [x0, x1, x2, x3, x4, x5, x6, x7, x8, x9, x10, x11, x12, x13, x14, x15, x16, x17, x18, x19, x20, x21, x22, x23, x24, x25] → Program) ?y0 ?y1 ?y2 ?y3 ?y4 ?y5 ?y6 ?y7 ?y8 ?y9 ?y10 ?y11 ?y12 ?y13 ?y14 ?y15 ?y16 ?y17 ?y18 ?y19 ?y20 ?y21 ?y22 ?y23 ?y24 ?y25 ?h
  case f => exact fun x0 x1 x2 x3 x4 x5 x6 x7 x8 x9 x10 x11 x12 x13 x14 x15 x16 x17 x18 x19 x20 x21 x22 x23 x24 x25 _ => Program.mk (Module.mk [x0, x1, x3, x5, x6, x7, x8, x9, x10, x11, x14, x15, x16, x18, x20, x21, x22, x23, x24, x25] pw_to0065_01.main.scope pw_to0065_01.main.futureAnnotations pw_to0065_01.main.file pw_to0065_01.main.more) pw_to0065_01.modules pw_to0065_01.parses pw_to0065_01.absent pw_to0065_01.harvested pw_to0065_01.given
  case h =>
    delta pw_to0065_01
    exact rfl
noncomputable abbrev hd.addrs : List Addr := [2, 3, 32, 34, 35, 37, 38, 46, 48, 49, 51, 52, 53, 55, 56, 58, 59, 60, 62, 63, 65, 66, 67, 69, 70, 72, 73, 74, 75, 76, 77, 78, 81, 83, 84, 86, 87, 88, 90, 91, 93, 94, 95, 97, 98, 100, 101, 102, 104, 105, 107, 108, 109, 111, 112, 114, 115, 116, 118, 119, 121, 122, 123, 125, 126, 128, 129, 130, 131, 133, 134, 136, 137, 141, 142, 146, 147, 151, 152, 153, 154, 156, 157, 159, 160, 168, 169, 171, 172, 174, 175, 176, 178, 179, 181, 182, 183, 185, 186, 188, 189, 190, 192, 193, 195, 196, 197, 200, 201, 202, 204, 205, 207, 208, 209, 211, 212, 214, 215, 216, 219, 220, 221, 222, 224, 225, 227, 228, 229, 232, 233, 234, 237, 238, 239, 241, 242, 244, 245, 246, 248, 249, 251, 252, 253, 256, 257, 258, 260, 261, 263, 264, 265, 267, 268, 270, 271, 272, 274, 275, 277, 278, 279, 280, 281, 282, 283, 286, 288, 289, 291, 292, 293, 295, 296, 298, 299, 300, 302, 303, 305, 306, 307, 309, 310, 312, 313, 314, 316, 317, 319, 320, 321, 324, 325]
end
section PartHdEnd
section
open PySem.Challenge
noncomputable abbrev hd.loose : List Str := ["length_hint", "tspecials", "_name_disallowed_re", "_value_disallowed_re", "_formatparam"]
theorem hd.addrs_eq : ∀ P, hd.addrs = (hd.heap_39 P).map (·.1) := fun _ => by kernel_rfl
noncomputable abbrev hd.hook : Hook := kmHook hd.heap_39 hd.addrs hd.addrs_eq [287]
noncomputable abbrev hd.xt (s : Shared) : Bool := xlAt hd.view_39 [] s && recOk rw_to0065_01.row.toRowW.records s
-- the library's own quick twins (te..: a word of the model is its twin) stand for importEnds, fenceModules?, start, treeTable, topRun, openSeen, importedModules and wellSaid
theorem hd.opens : ∀ w : World, (fencedOpening treeTable pw_to0065_01 w 3762).map (fun s => (s.heap, s.gens, s.drawn, s.toks)) = some (hd.heap_68 w.params, #[], {}, 276) := by
  intro w
  delta fencedOpening
  rw [PySem.W.Fast.te10274390034422433532, PySem.W.Fast.te14289696077712309145, PySem.W.Fast.te1435165496053646825, PySem.W.Fast.te14364793385576792824]
  kernel_rfl
theorem hd.size : ∀ w : World, ((hd.heap_68 w.params).isNs mainGlobals && (#[] : Array GenState).size == 0, (hd.heap_68 w.params).objs.size, (hd.heap_68 w.params).nsMap mainGlobals "__annotations__") = (true, 28, some (.ref 6)) := by intro w; kernel_rfl
theorem hd.runs : ∀ (w : World) (os : OsState), topRun treeTable pw_to0065_01 w 28 (some (.ref 6)) 1838 ⟨hd.heap_68 w.params, #[], {}, 276, os⟩ (topStub pw_to0065_01) = some ⟨hd.heap_462 w.params, #[], {}, 757, os⟩ := by
  intro w os
  rw [PySem.W.Fast.te14082659384304107361, PySem.W.Fast.te14364793385576792824]
  kernel_rfl
theorem hd.looks : ∀ w : World, (fun os => ((staticsOk (importedModules pw_to0065_01.main.body) (hd.heap_68 w.params) (hd.heap_462 w.params) && namesBound pw_to0065_01 (hd.heap_462 w.params) && gensDone ⟨hd.heap_462 w.params, #[], {}, 757, os⟩ && laidKept (hd.heap_68 w.params) (hd.heap_462 w.params)),
    openSeen hd.view_39 hd.loose (importedModules pw_to0065_01.main.body) hd.xt true ⟨hd.heap_462 w.params, #[], {}, 757, os⟩, hd.hook.obs ⟨hd.heap_462 w.params, #[], {}, 757, os⟩)) = fun _ => (true, openGood hd.view_39 hd.loose, hd.hook.val w) := by
  intro w
  rw [PySem.W.Fast.te4187177175401517315, PySem.W.Fast.te5923862056798008813]
  kernel_rfl
theorem hd.left : LeftO pw_to0065_01 hd.view_39 hd.loose hd.xt hd.hook.obs hd.hook.val 3762 := LeftO.of_pieces hd.opens hd.size hd.runs rfl hd.looks
theorem hd.said : rw_to0065_01.wellSaid = true := by
  rw [PySem.W.Fast.te9446332074065402090]
  delta PySem.W.Fast.tw9446332074065402090 PySem.W.Fast.tw17960256430627541270 PySem.W.Fast.tw2436336058641802641 PySem.W.Fast.tw12908688711261696721
  dsimp only
  repeat' (with_reducible refine look_both ?_ ?_)
  all_goals (as_aux_lemma => kernel_rfl)
theorem hd.okay : (chainsOk hd.view_39 && opensWell rw_to0065_01.row.prog && (frees rw_to0065_01.row.toRowW && rw_to0065_01.row.within.isEmpty)) = true := by kernel_rfl
theorem hd {d : DefRec} {kwd : List (Str × Expr)} (hdef : defOf hd.view_39 rw_to0065_01.row.name = some (d, kwd)) (hp : rw_to0065_01.row.prog.theDef rw_to0065_01.row.name = some (d.params, d.body, d.scope)) (hk : kwWritten? d.params.kwonlyargs d.params.kw_defaults = some kwd)
    (call : WalkO hd.view_39 hd.loose (XL hd.view_39 []) (kmHook hd.heap_39 hd.addrs hd.addrs_eq [287]).says rw_to0065_01.row.toRowW d kwd fun f vs => PySem.call f vs) : rw_to0065_01.Holds := by
  refine holds_law hd.said fun said => ?_
  refine holds_open (q := hd.view_39) (loose := hd.loose) (Xt := hd.xt) (XP := XL hd.view_39 []) (Yf := hd.hook.obs) (Ya := hd.hook.val) (YP := hd.hook.says) (N := 3762) hd.left hd.hook.of hd.hook.keeps (fun s e => xl_of s (Bool.and_eq_true_iff.mp e).1) XL.keeps hdef hp hk
    (fun s e => recFacts_of (Bool.and_eq_true_iff.mp e).2) (by rfl) said hd.okay ⟨rfl, rfl, rfl, rfl, rfl, by decide +kernel⟩ ?hw call
  case hw => w_witness2
end
end PartHdEnd
section PartBase
/-- the dict of a lexer -/
noncomputable abbrev lexD (w : World) (ln : Int) (ins : Value) (P : Addr) (t1 t2 t3 t4 t5 t6 : Tok) : List DictEntry :=
  [⟨PyData.keyHash w.params "lineno", .str "lineno" t1, .int ln t5⟩, ⟨PyData.keyHash w.params "instream", .str "instream" t2, ins⟩,
   ⟨PyData.keyHash w.params "whitespace", .str "whitespace" t3, .str "\n\t\r " t6⟩, ⟨PyData.keyHash w.params "pushback", .str "pushback" t4, .ref P⟩]
/-- what stands around a call: the frame at hand and what is known of the top -/
structure Cx (n : Nat) (w : World) (A₀ A : Around) (base h₀ : Heap) (env : Env) (outer : List Env) (L : Addr) (m mg mb : Str → Option Value) (mean : ExcName → Option Value) (loose : List Str) (p : Program) (h : Heap) : Prop where
  B : Below A₀ base outer h₀
  F : Fr h₀ L h m
  X : (hd.heap_39 w.params).In h₀
  T : Top p loose mean mg mb h₀
  hA : A.frames = some (env :: outer)
  hf : env.frame = some L
  hke : env.scope.kind = .function
  hd : A.depth < n
  hu : A.units < n
  hh : A.handled = none
section
variable {n : Nat} {w : World} {A₀ A : Around} {base h₀ : Heap} {env : Env} {outer : List Env} {L : Addr} {m mg mb : Str → Option Value} {mean : ExcName → Option Value} {loose : List Str} {p : Program} {h : Heap} {s : Shared}
theorem Cx.upd {h' : Heap} {m' : Str → Option Value} (C : Cx n w A₀ A base h₀ env outer L m mg mb mean loose p h) (F : Fr h₀ L h' m') : Cx n w A₀ A base h₀ env outer L m' mg mb mean loose p h' :=
  ⟨C.B, F, C.X, C.T, C.hA, C.hf, C.hke, C.hd, C.hu, C.hh⟩
theorem Cx.up {n' : Nat} {h' : Heap} {m' : Str → Option Value} (C : Cx n w A₀ A base h₀ env outer L m mg mb mean loose p h) (F : Fr h₀ L h' m') (hn : n ≤ n') : Cx n' w A₀ A base h₀ env outer L m' mg mb mean loose p h' :=
  ⟨C.B, F, C.X, C.T, C.hA, C.hf, C.hke, Nat.lt_of_lt_of_le C.hd hn, Nat.lt_of_lt_of_le C.hu hn, C.hh⟩
theorem Cx.in1 (C : Cx n w A₀ A base h₀ env outer L m mg mb mean loose p h) : Cx (n + 1) w A₀ A.in1 base h₀ env outer L m mg mb mean loose p h :=
  ⟨C.B, C.F, C.X, C.T, C.hA, C.hf, C.hke, Nat.lt_succ_of_lt C.hd, Nat.succ_lt_succ C.hu, C.hh⟩
theorem Cx.code {R : Result → Shared → Prop} {news : List (Addr × Obj)} {name qual : Str} {params : Arguments} {body : List Stmt} {scope : Scope} {dV kV doc pm cdv ct oc : Value} {an od : Option Addr} {osl : Array (Option Value)} {f : Addr} {args : Args} {binds : List (Str × Value)}
    (C : Cx n w A₀ A base h₀ env outer L m mg mb mean loose p s.heap) (N : News h₀ L s.heap news)
    (ho : (hd.heap_39 w.params).lookup f = some ⟨oc, od, .func (fnOf name qual params body scope dV kV doc pm an cdv ct), osl⟩) (hcd : codeIn (hd.heap_39 w.params) cdv qual = true) (hn : n ≤ 900)
    (hbind : BindsTo s (fnOf name qual params body scope dV kV doc pm an cdv ct) args binds) (hloc : ∀ y ∈ binds, scope.names.lookup y.1 = some .local)
    (k : ∀ g L' h₁ tk, Fr h₀ L g m → News g L' h₁ news → Cx (n + 3) w A (A.deeper (envOf qual scope L' f cdv)) base g (envOf qual scope L' f cdv) (env :: outer) L' (fun y => binds.reverse.lookup y) mg mb mean loose p h₁ →
      wpAny (model PySem.Challenge.rw_to0065_01.row.prog w) (A.deeper (envOf qual scope L' f cdv)) (execs body (envOf qual scope L' f cdv))
        (fun fl s' => LeaveK h₀ L m g R (match fl with | .ret v => v | _ => .none) s')
        (fun e s' => wpAny (model PySem.Challenge.rw_to0065_01.row.prog w) (A.deeper (envOf qual scope L' f cdv)) (leaving (envOf qual scope L' f cdv) e) (fun _ s'' => R (.error e) s'') (fun e' s'' => R (.error e') s'') s')
        { s with heap := h₁, toks := tk })
    (hco : scope.isCoroutine = false) (hgen : scope.isGenerator = false) (hk : scope.kind = .function)
    (hcell : ∀ x ∈ scope.names, x.2 ≠ .cell) : codeAny (model PySem.Challenge.rw_to0065_01.row.prog w) A (.call (.ref f) args) R s :=
  code_def C.B C.F C.X N C.T C.hA C.hf C.hke ho hcd (Nat.lt_trans C.hd (by show n < 1000; omega)) hbind hloc
    (fun g L' h₁ FG F' N' B' X' T' => k g L' h₁ _ FG N' ⟨B', F', X', T', Around.frames_deeper (Below.stack B'), rfl, hk, by show A.depth + 1 < n + 3; have := C.hd; omega, by show A.units + 3 < n + 3; have := C.hu; omega, C.hh⟩) hco hgen hk hcell
theorem Cx.codeC {R : Result → Shared → Prop} {news : List (Addr × Obj)} {name qual : Str} {params : Arguments} {body : List Stmt} {scope : Scope} {dV kV doc pm cdv ct oc : Value} {an od : Option Addr} {osl : Array (Option Value)} {f : Addr} {args : Args} {binds : List (Str × Value)}
    (C : Cx n w A₀ A base h₀ env outer L m mg mb mean loose p s.heap) (N : News h₀ L s.heap news)
    (ho : (hd.heap_39 w.params).lookup f = some ⟨oc, od, .func (fnOf name qual params body scope dV kV doc pm an cdv ct), osl⟩) (hcd : codeIn (hd.heap_39 w.params) cdv qual = true) (hn : n ≤ 900)
    (hbind : BindsTo s (fnOf name qual params body scope dV kV doc pm an cdv ct) args binds) (hkind : (binds.all fun y => scope.names.lookup y.1 == some .local || scope.names.lookup y.1 == some .cell) = true)
    (hnd : ((cellsFrom 0 scope.names []).map (·.1)).Nodup)
    (k : ∀ g L' h₁ tk cells, Fr h₀ L g m → News g L' h₁ (cells ++ news) →
      CellsAre (bindC (envOfC qual scope L' f cdv).kindOf binds fun _ => none) (cellsFrom (L' + 1) scope.names []) cells → (∀ p ∈ news, p.1 < L') →
      Cx (n + 3) w A (A.deeper (envOfC qual scope L' f cdv)) base g (envOfC qual scope L' f cdv) (env :: outer) L' (bindL (envOfC qual scope L' f cdv).kindOf binds fun _ => none) mg mb mean loose p h₁ →
      wpAny (model PySem.Challenge.rw_to0065_01.row.prog w) (A.deeper (envOfC qual scope L' f cdv)) (execs body (envOfC qual scope L' f cdv))
        (fun fl s' => LeaveK h₀ L m g R (match fl with | .ret v => v | _ => .none) s')
        (fun e s' => wpAny (model PySem.Challenge.rw_to0065_01.row.prog w) (A.deeper (envOfC qual scope L' f cdv)) (leaving (envOfC qual scope L' f cdv) e) (fun _ s'' => R (.error e) s'') (fun e' s'' => R (.error e') s'') s')
        { s with heap := h₁, toks := tk })
    (hco : scope.isCoroutine = false) (hgen : scope.isGenerator = false) (hk : scope.kind = .function) : codeAny (model PySem.Challenge.rw_to0065_01.row.prog w) A (.call (.ref f) args) R s :=
  code_defC C.B C.F C.X N C.T C.hA C.hf C.hke ho hcd (Nat.lt_trans C.hd (by show n < 1000; omega)) hbind hkind hnd
    (fun g L' h₁ tk cells FG F' N' Y B' X' T' l => k g L' h₁ tk cells FG N' Y l ⟨B', F', X', T', Around.frames_deeper (Below.stack B'), rfl, hk, by show A.depth + 1 < n + 3; have := C.hd; omega, by show A.units + 3 < n + 3; have := C.hu; omega, C.hh⟩) hco hgen hk
end
theorem tail_of {α : Type} {P : α → Prop} {x : α} {l : List α} (h : ∀ q ∈ x :: l, P q) : ∀ q ∈ l, P q := fun q hq => h q (List.mem_cons_of_mem _ hq)
theorem tail_app {α : Type} {P : α → Prop} {k l : List α} (h : ∀ q ∈ k ++ l, P q) : ∀ q ∈ l, P q := fun q hq => h q (List.mem_append_right _ hq)
theorem ne_of_lt_all {rest : List (Addr × Obj)} {d x : Addr} (h : ∀ q ∈ rest, q.1 < d) (hx : (d : Nat) ≤ x) : ∀ q ∈ rest, q.1 ≠ x :=
  fun q hq e => Nat.ne_of_lt (Nat.lt_of_lt_of_le (h q hq) hx) e
theorem news_tl {h₀ h : Heap} {L : Addr} {x : Addr × Obj} {l : List (Addr × Obj)} (N : News h₀ L h (x :: l)) : News h₀ L h l := fun q hq => N q (List.mem_cons_of_mem _ hq)
theorem news_tail {h₀ h : Heap} {L : Addr} {k l : List (Addr × Obj)} (N : News h₀ L h (k ++ l)) : News h₀ L h l := fun q hq => N q (List.mem_append_right _ hq)
theorem news_sub {h₀ h : Heap} {L : Addr} {k l : List (Addr × Obj)} (N : News h₀ L h k) (hs : ∀ q ∈ l, q ∈ k) : News h₀ L h l := fun q hq => N q (hs q hq)
/-- pop(0) of a list of the ledger -/
theorem pop0 {prog : Program} {w : World} {A : Around} {E : Value → Shared → Prop} {s : Shared} {h₀ : Heap} {L D : Addr} {m : Str → Option Value} {news news' : List (Addr × Obj)} {v : Value} {vs : List Value} {n : Nat} {u : Tok} {Q : Value → Shared → Prop}
    (F : Fr h₀ L s.heap m) (N : News h₀ L s.heap news) (U : Upd D (listOf (v :: vs).toArray n) (listOf vs.toArray (n + 1)) news news') (hz : vs.length ≤ 1000)
    (h : ∀ h', Fr h₀ L h' m → News h₀ L h' news' → Q v { s with heap := h' }) : wpAny (model prog w) A (call (.builtin "list.pop") [.ref D, .int 0 u]) Q E s := by
  refine kl_popAt (k := 0) (p := []) (q := vs) (y := v) F N rfl ?_ rfl U ?_ h
  · show seqIndex? 0 (v :: vs).toArray.size = some 0
    simp [seqIndex?]
  · show (v :: vs).length ≤ sizeLine
    rw [List.length_cons]
    exact Nat.le_trans (Nat.succ_le_succ hz) (by decide)
theorem an1 {x1 x2 : Prop} (h : x1 ∧ x2) : x1 := h.1
theorem an2 {x1 x2 x3 : Prop} (h : x1 ∧ x2 ∧ x3) : x2 := h.2.1
theorem an3 {x1 x2 x3 x4 : Prop} (h : x1 ∧ x2 ∧ x3 ∧ x4) : x3 := h.2.2.1
theorem an4 {x1 x2 x3 x4 x5 : Prop} (h : x1 ∧ x2 ∧ x3 ∧ x4 ∧ x5) : x4 := h.2.2.2.1
theorem an5 {x1 x2 x3 x4 x5 x6 : Prop} (h : x1 ∧ x2 ∧ x3 ∧ x4 ∧ x5 ∧ x6) : x5 := h.2.2.2.2.1
theorem an6 {x1 x2 x3 x4 x5 x6 x7 : Prop} (h : x1 ∧ x2 ∧ x3 ∧ x4 ∧ x5 ∧ x6 ∧ x7) : x6 := h.2.2.2.2.2.1
theorem an7 {x1 x2 x3 x4 x5 x6 x7 x8 : Prop} (h : x1 ∧ x2 ∧ x3 ∧ x4 ∧ x5 ∧ x6 ∧ x7 ∧ x8) : x7 := h.2.2.2.2.2.2.1
theorem an8 {x1 x2 x3 x4 x5 x6 x7 x8 x9 : Prop} (h : x1 ∧ x2 ∧ x3 ∧ x4 ∧ x5 ∧ x6 ∧ x7 ∧ x8 ∧ x9) : x8 := h.2.2.2.2.2.2.2.1
theorem an9 {x1 x2 x3 x4 x5 x6 x7 x8 x9 x10 : Prop} (h : x1 ∧ x2 ∧ x3 ∧ x4 ∧ x5 ∧ x6 ∧ x7 ∧ x8 ∧ x9 ∧ x10) : x9 := h.2.2.2.2.2.2.2.2.1
theorem al1 {x1 x2 : Prop} (h : x1 ∧ x2) : x2 := h.2
theorem al2 {x1 x2 x3 : Prop} (h : x1 ∧ x2 ∧ x3) : x3 := h.2.2
theorem al3 {x1 x2 x3 x4 : Prop} (h : x1 ∧ x2 ∧ x3 ∧ x4) : x4 := h.2.2.2
theorem le_lt {a b c : Nat} (h : a ≤ b) (e : b < c) : a ≤ c := Nat.le_of_lt (Nat.lt_of_le_of_lt h e)
theorem le_pl {a b k : Nat} (h : a ≤ b) : a ≤ b + k := Nat.le_trans h (Nat.le_add_right b k)
theorem lt_pl {a b k : Nat} (h : a < b) : a < b + k := Nat.lt_of_lt_of_le h (Nat.le_add_right b k)
theorem le_plus {a b c k : Nat} (h : a ≤ b) (e : b + k ≤ c) : a + k ≤ c := Nat.le_trans (Nat.add_le_add_right h k) e
end PartBase
/-- a letter of the plait -/
inductive Lt where
  | a | A | b | B
deriving DecidableEq
noncomputable abbrev Lt.str : Lt → Str
  | .a => "a" | .A => "A" | .b => "b" | .B => "B"
noncomputable abbrev Lt.other : Lt → Lt
  | .a => .A | .A => .a | .b => .B | .B => .b
noncomputable abbrev Lt.low : Lt → Lt
  | .a => .a | .A => .a | .b => .b | .B => .b
local macro_rules | `(tactic| walk_at $s:str) => `(tactic| k_extra $(Lean.Syntax.mkStrLit ("z " ++ s.getString)))
local macro_rules | `(tactic| k_all) => `(tactic| k_extra "z k_all")
local macro_rules | `(tactic| k_ne) => `(tactic| k_extra "z k_ne")
local macro_rules | `(tactic| k_enter) => `(tactic| k_extra "z k_enter")
theorem lay1 : True := by
  k_with "z k_all" => first | assumption | exact ne_of_lt_all (by assumption) (by first | omega | exact Nat.le_add_right _ _ | exact Nat.le_refl _)
  k_with "cx_fill" => ((have x9X := Cx.X (by assumption)); revert x9X; k_fill; intro x9X; (have x9F := Cx.F (by assumption)))
  k_with "go1" => (first | (k_unfold; (try dsimp only)) | walk1 | (dsimp only; walk1) | (leave1; walk_say "STEP leave1"; try dsimp only))
  k_with "z call builtin:list.pop" => (k_here; (refine' pop0 ?x9F ?x9N ?x9U ?x9z ?_; (case x9F => k_asm); (case x9N => k_asm); (case x9U => k_upd); (case x9z => first | assumption | omega); intro _ _ _))
  k_with "k_ledger" => first | assumption | exact news_tl (by assumption) | exact news_tl (news_tl (by assumption)) | exact news_tl (news_tl (news_tl (by assumption))) | exact news_tl (news_tl (news_tl (news_tl (by assumption))))
  k_with "z k_enter" => (
    (refine' Cx.code (Cx.upd ?x9a ?x9b) ?x9c ?x9d ?x9e ?x9f ?x9g ?x9h ?_ ?x9i ?x9j ?x9k ?x9l)
    case x9a => first | assumption | exact Cx.in1 (by assumption) | exact Cx.in1 (Cx.in1 (by assumption))
    case x9b => k_asm
    case x9c => k_asm
    case x9f => omega
    case x9d => k_is
    case x9e => k_is
    case x9g => first | exact binds_K (by k_in) rfl (by k_is) rfl rfl rfl | exact BindsTo.of_eq rfl
    case x9l => decide
    case x9h => exact locs rfl
    case x9i => exact rfl
    case x9j => exact rfl
    case x9k => exact rfl
    k_whole
    intro _ _ _ _ _ _ x9C
    have x9F := Cx.F x9C
    have x9B := Cx.B x9C
    have x9X := Cx.X x9C
    have x9T := Cx.T x9C
    (try dsimp only)
    (try k_lift x9B)
    (try k_fold))
  k_with "z assign Tuple" => (k_here; (with_reducible show wpAny _ _ (assign (Expr.Tuple _ _ _) _ (Value.ref _)) _ _ _); k_dflt (refine' unpackN_ ?x9F ?x9N ?x9T ?x9i ?x9j ?x9k ?_; (case x9F => k_asm); (case x9N => k_asm); (case x9T => first | with_reducible assumption | (refine News.isTup (by k_asm) (by k_mem))); (case x9i => exact Cx.hh (by assumption)); (case x9j => exact rfl); (case x9k => exact rfl)); intro _ _ _)
  k_with "pr" => with_reducible (first | assumption | exact an1 (by assumption) | exact an2 (by assumption) | exact an3 (by assumption) | exact an4 (by assumption) | exact an5 (by assumption) | exact an6 (by assumption) | exact an7 (by assumption) | exact an8 (by assumption) | exact an9 (by assumption) | exact al1 (by assumption) | exact al2 (by assumption) | exact al3 (by assumption))
  k_with "lts" => with_reducible (first | walk_at "pr" | exact Nat.lt_add_one _ | (refine Nat.lt_trans ?_ (by assumption); walk_at "pr") | (refine lt_pl ?_; walk_at "lts"))
  k_with "nes" => first | walk_at "pr" | (refine Ne.symm ?_; walk_at "pr") | (refine Nat.ne_of_lt ?_; walk_at "lts") | (refine Nat.ne_of_gt ?_; walk_at "lts")
  k_with "z k_ne" => first | walk_at "nes" | (dsimp only; walk_at "nes")
  k_with "lec" => with_reducible (first | exact Nat.le_refl _ | assumption | exact Nat.le_add_right _ _ | exact Nat.succ_le_succ (Nat.zero_le _) | exact Nat.succ_le_of_lt (by assumption) | (refine Nat.le_trans ?_ (by assumption); walk_at "lec") | (refine le_lt ?_ (by assumption); walk_at "lec") | (refine le_pl ?_; walk_at "lec"))
  k_with "ltc" => with_reducible (refine Nat.lt_of_succ_le ?_; walk_at "lec")
  k_with "om" => first | exact Nat.le_of_ble_eq_true rfl | exact le_plus (by with_reducible assumption) (Nat.le_of_ble_eq_true rfl) | exact Nat.le_trans (by with_reducible assumption) (Nat.le_of_ble_eq_true rfl) | walk_at "lec" | walk_at "ltc" | omega
  exact True.intro
section PartLex0
section
variable {n₀ : Nat} {w : World} {A₀ A : Around} {base h₀ : Heap} {env : Env} {outer : List Env} {L : Addr} {m : Str → Option Value} {mg mb : Str → Option Value} {mean : ExcName → Option Value} {loose : List Str} {p : Program} {s : Shared}
    {Q : Value → Shared → Prop} {E : Value → Shared → Prop} {lx dx P : Addr} {ln : Int} {ins v : Value} {t1 t2 t3 t4 t5 t6 : Tok} {n k : Nat} {its : Array Value} {rest : List (Addr × Obj)}
theorem push_tok (C : Cx n₀ w A₀ A base h₀ env outer L m mg mb mean loose p s.heap) (hn₀ : n₀ ≤ 800)
    (N : News h₀ L s.heap ((P, listOf its k) :: (dx, dictOf (lexD w ln ins P t1 t2 t3 t4 t5 t6) n) :: (lx, instObj 76 dx) :: rest))
    (hr : ∀ q ∈ rest, q.1 ≠ P) (h1 : dx ≠ P) (h2 : lx ≠ P) (hz : its.size ≤ 1000)
    (h : ∀ h' tk, Fr h₀ L h' m → News h₀ L h' ((P, listOf (its.push v) (k+1)) :: (dx, dictOf (lexD w ln ins P t1 t2 t3 t4 t5 t6) n) :: (lx, instObj 76 dx) :: rest) → Q .none { s with heap := h', toks := tk }) :
    wpAny (model PySem.Challenge.rw_to0065_01.row.prog w) A (call (.ref 73) [.ref lx, v]) Q E s := by
  walk_at "cx_fill"
  w_strict (
    refine wpAny_call ?_
    (refine' Cx.code (by assumption) (by assumption) ?k6 ?k7 (by walk_at "om") ?k9 ?kB ?_ ?c2 ?c3 ?c4 ?c5)
    case k6 => k_is
    case k7 => k_is
    case k9 => first | exact BindsTo.of_eq rfl | exact binds_K (by k_in) rfl (by k_is) rfl rfl rfl
    case c5 => decide
    case kB => exact locs rfl
    case c2 => exact rfl
    case c3 => exact rfl
    case c4 => exact rfl
    k_whole
    intro g' L' h' tk' FG' N' C'
    have F' := Cx.F C'
    have B' := Cx.B C'
    have X' := Cx.X C'
    have T' := Cx.T C'
    (try dsimp only)
    (try k_lift B')
    (try k_fold)
    k_steps
    exact h _ _ (by assumption) (by assumption))
theorem get_pop {vs : List Value} (C : Cx n₀ w A₀ A base h₀ env outer L m mg mb mean loose p s.heap) (hn₀ : n₀ ≤ 800)
    (N : News h₀ L s.heap ((P, listOf (v :: vs).toArray k) :: (dx, dictOf (lexD w ln ins P t1 t2 t3 t4 t5 t6) n) :: (lx, instObj 76 dx) :: rest))
    (hr : ∀ q ∈ rest, q.1 ≠ P) (h1 : dx ≠ P) (h2 : lx ≠ P) (hz : vs.length ≤ 1000)
    (h : ∀ h' tk, Fr h₀ L h' m → News h₀ L h' ((P, listOf vs.toArray (k + 1)) :: (dx, dictOf (lexD w ln ins P t1 t2 t3 t4 t5 t6) n) :: (lx, instObj 76 dx) :: rest) → Q v { s with heap := h', toks := tk }) :
    wpAny (model PySem.Challenge.rw_to0065_01.row.prog w) A (call (.ref 66) [.ref lx]) Q E s := by
  walk_at "cx_fill"
  w_strict (
    refine wpAny_call ?_
    (refine' Cx.code (by assumption) (by assumption) ?k6 ?k7 (by walk_at "om") ?k9 ?kB ?_ ?c2 ?c3 ?c4 ?c5)
    case k6 => k_is
    case k7 => k_is
    case k9 => first | exact BindsTo.of_eq rfl | exact binds_K (by k_in) rfl (by k_is) rfl rfl rfl
    case c5 => decide
    case kB => exact locs rfl
    case c2 => exact rfl
    case c3 => exact rfl
    case c4 => exact rfl
    k_whole
    intro g' L' h' tk' FG' N' C'
    have F' := Cx.F C'
    have B' := Cx.B C'
    have X' := Cx.X C'
    have T' := Cx.T C'
    (try dsimp only)
    (try k_lift B')
    (try k_fold)
    k_steps
    exact h _ _ (by assumption) (by assumption))
end
end PartLex0
section PartRows
/-- a row of the table: a tuple (letter, place) -/
structure Rw where
  ad : Addr
  l : Lt
  t : Tok
  u : Tok
noncomputable abbrev numS (i : Nat) : Str := Str.ofString (toString i)
noncomputable abbrev Rw.obj (i : Nat) (r : Rw) : Obj := { cls := .type "tuple", data := .seq #[.str r.l.str r.t, .str (numS i) r.u] }
noncomputable def rowL : Nat → List Rw → List (Addr × Obj)
  | _, [] => []
  | i, r :: rs => (r.ad, r.obj i) :: rowL (i + 1) rs
noncomputable abbrev rowV (rs : List Rw) : List Value := rs.map fun r => .ref r.ad
noncomputable abbrev keyV (rs : List Rw) : List Value := rs.map fun r => .str r.l.str r.t
noncomputable def valV : Nat → List Rw → List Value
  | _, [] => []
  | i, r :: rs => .str (numS i) r.u :: valV (i + 1) rs
theorem rowL_mem : ∀ {rs : List Rw} {k i : Nat} {r : Rw}, rs[i]? = some r → (r.ad, r.obj (k + i)) ∈ rowL k rs
  | [], _, _, _, h => by simp at h
  | x :: rs, k, 0, r, h => by
    simp at h
    subst h
    exact List.mem_cons_self
  | x :: rs, k, i + 1, r, h => by
    have h' : rs[i]? = some r := by simpa using h
    have z := rowL_mem (k := k + 1) h'
    rw [show k + 1 + i = k + (i + 1) by omega] at z
    exact List.mem_cons_of_mem _ z
theorem valV_len : ∀ (rs : List Rw) (k : Nat), (valV k rs).length = rs.length
  | [], _ => rfl
  | _ :: rs, k => by show (valV (k + 1) rs).length + 1 = _; rw [valV_len rs (k + 1)]; rfl
noncomputable abbrev hdrD (w : World) (th : Tok) (R : Addr) : List DictEntry := [⟨PyData.keyHash w.params "_headers", .str "_headers" th, .ref R⟩]
section
variable {prog : Program} {w : World} {A : Around} {E : Value → Shared → Prop} {s : Shared} {h₀ : Heap} {L : Addr} {m : Str → Option Value} {env : Env}
/-- a comprehension over pairs whose element is the pair's first name -/
theorem comp_first {x x₂ : Str} {px : Pos} {scope : Scope} {cl : List (Str × Addr)} {S : List (Addr × Obj) → Prop} {P : Nat → Value → Prop} {Fin : List Value → List (Addr × Obj) → Prop} {news : List (Addr × Obj)} (f : Nat → Value)
    (hP : ∀ i v, P i v → ∃ (t : Addr) (ot : Obj) (v₂ : Value) (nt : Nat), v = .ref t ∧ (t, ot) ∈ news ∧ ot.cls = .type "tuple" ∧ ot.data = .seq #[f i, v₂] nt)
    (hS : S news) (hk : scope.kind = .function) (hl : ∀ C, (compEnvC scope cl C env).kindOf x = some .local) (hd : (x == ("__debug__" : Str)) = false) :
    ∀ (j i : Nat) (ys : List Value), Fin (ys ++ (List.range' i j).map f) news → LCp.CompRestP prog w A h₀ L m env (.Name x px) x x₂ scope cl s S P Fin j i ys news
  | 0, i, ys, h => LCp.CompRestP.zero (by simpa using h)
  | j + 1, i, ys, h => by
    refine LCp.CompRestP.succ fun v hv => ?_
    obtain ⟨t, ot, v₂, nt, rfl, hm, hc, hdt⟩ := hP i v hv
    refine ⟨t, ot, f i, v₂, nt, rfl, hm, hc, hdt, fun I oI C oC D m₂ h' tk E' hoC h1 h2 F N off ne => ?_⟩
    refine LCgL.ld_own N (List.mem_cons_of_mem _ List.mem_cons_self) hoC h1 ?_ hk (hl C) hd
    refine ⟨h', tk, news, rfl, F, N, off, hS, ?_⟩
    refine comp_first f hP hS hk hl hd j (i + 1) (ys ++ [f i]) ?_
    rw [List.append_assoc]
    exact h
/-- a comprehension over pairs whose element is the pair's second name -/
theorem comp_second {x x₂ : Str} {px : Pos} {scope : Scope} {cl : List (Str × Addr)} {S : List (Addr × Obj) → Prop} {P : Nat → Value → Prop} {Fin : List Value → List (Addr × Obj) → Prop} {news : List (Addr × Obj)} (f : Nat → Value)
    (hP : ∀ i v, P i v → ∃ (t : Addr) (ot : Obj) (v₁ : Value) (nt : Nat), v = .ref t ∧ (t, ot) ∈ news ∧ ot.cls = .type "tuple" ∧ ot.data = .seq #[v₁, f i] nt)
    (hS : S news) (hk : scope.kind = .function) (hl : ∀ C, (compEnvC scope cl C env).kindOf x₂ = some .local) (hd : (x₂ == ("__debug__" : Str)) = false) :
    ∀ (j i : Nat) (ys : List Value), Fin (ys ++ (List.range' i j).map f) news → LCp.CompRestP prog w A h₀ L m env (.Name x₂ px) x x₂ scope cl s S P Fin j i ys news
  | 0, i, ys, h => LCp.CompRestP.zero (by simpa using h)
  | j + 1, i, ys, h => by
    refine LCp.CompRestP.succ fun v hv => ?_
    obtain ⟨t, ot, v₁, nt, rfl, hm, hc, hdt⟩ := hP i v hv
    refine ⟨t, ot, v₁, f i, nt, rfl, hm, hc, hdt, fun I oI C oC D m₂ h' tk E' hoC h1 h2 F N off ne => ?_⟩
    refine LCgL.ld_own N (List.mem_cons_of_mem _ List.mem_cons_self) hoC h2 ?_ hk (hl C) hd
    refine ⟨h', tk, news, rfl, F, N, off, hS, ?_⟩
    refine comp_second f hP hS hk hl hd j (i + 1) (ys ++ [f i]) ?_
    rw [List.append_assoc]
    exact h
end
end PartRows
section PartKeys
section
variable {n₀ : Nat} {w : World} {A₀ A : Around} {base h₀ : Heap} {env : Env} {outer : List Env} {L : Addr} {m : Str → Option Value} {mg mb : Str → Option Value} {mean : ExcName → Option Value} {loose : List Str} {p : Program} {s : Shared}
    {Q : Value → Shared → Prop} {E : Value → Shared → Prop} {R tb dtb : Addr} {th : Tok} {n k : Nat} {rs : List Rw} {rest : List (Addr × Obj)}
theorem rowV_get {i : Nat} {v : Value} (h : (rowV rs).toArray[i]? = some v) : ∃ r, rs[i]? = some r ∧ v = .ref r.ad := by
  have h' : (rs.map fun r => Value.ref r.ad)[i]? = some v := by simpa using h
  rw [List.getElem?_map] at h'
  cases e : rs[i]? with
  | none => rw [e] at h'; cases h'
  | some r => rw [e] at h'; exact ⟨r, rfl, (Option.some.inj h').symm⟩
theorem keyV_range : ∀ (rs : List Rw), (List.range' 0 rs.length).map (fun i => ((keyV rs)[i]?).getD .none) = keyV rs := by
  intro rs
  refine List.ext_getElem? fun i => ?_
  rw [List.getElem?_map]
  by_cases h : i < rs.length
  · rw [List.getElem?_range' h]
    simp [h]
  · rw [List.getElem?_eq_none (by simp; omega), List.getElem?_eq_none (by simp; omega)]
    rfl
theorem valV_get : ∀ {rs : List Rw} {k i : Nat} {r : Rw}, rs[i]? = some r → (valV k rs)[i]? = some (.str (numS (k + i)) r.u)
  | [], _, _, _, h => by simp at h
  | x :: rs, k, 0, r, h => by simp at h; subst h; rfl
  | x :: rs, k, i + 1, r, h => by
    have h' : rs[i]? = some r := by simpa using h
    have z := valV_get (k := k + 1) h'
    rw [show k + 1 + i = k + (i + 1) by omega] at z
    simpa [valV] using z
theorem valV_range (rs : List Rw) : (List.range' 0 rs.length).map (fun i => ((valV 0 rs)[i]?).getD .none) = valV 0 rs := by
  refine List.ext_getElem? fun i => ?_
  rw [List.getElem?_map]
  by_cases h : i < rs.length
  · rw [List.getElem?_range' h]
    have : i < (valV 0 rs).length := by rw [valV_len]; exact h
    simp [this]
  · rw [List.getElem?_eq_none (by simp; omega), List.getElem?_eq_none (by rw [valV_len]; omega)]
    rfl
theorem keys_c (C : Cx n₀ w A₀ A base h₀ env outer L m mg mb mean loose p s.heap) (hn₀ : n₀ ≤ 800)
    (N : News h₀ L s.heap ((R, listOf (rowV rs).toArray k) :: (dtb, dictOf (hdrD w th R) n) :: (tb, instObj 281 dtb) :: (rowL 0 rs ++ rest)))
    (hz : rs.length ≤ 1000)
    (h : ∀ D h' tk, Fr h₀ L h' m → News h₀ L h' ((D, LCg.lst (keyV rs)) :: (R, listOf (rowV rs).toArray k) :: (dtb, dictOf (hdrD w th R) n) :: (tb, instObj 281 dtb) :: (rowL 0 rs ++ rest)) →
      LCg.Off1 D ((R, listOf (rowV rs).toArray k) :: (dtb, dictOf (hdrD w th R) n) :: (tb, instObj 281 dtb) :: (rowL 0 rs ++ rest)) → Q (.ref D) { s with heap := h', toks := tk }) :
    wpAny (model PySem.Challenge.rw_to0065_01.row.prog w) A (call (.ref 233) [.ref tb]) Q E s := by
  walk_at "cx_fill"
  w_strict (
    refine wpAny_call ?_
    (refine' Cx.code (by assumption) (by assumption) ?k6 ?k7 (by walk_at "om") ?k9 ?kB ?_ ?c2 ?c3 ?c4 ?c5)
    case k6 => k_is
    case k7 => k_is
    case k9 => first | exact BindsTo.of_eq rfl | exact binds_K (by k_in) rfl (by k_is) rfl rfl rfl
    case c5 => decide
    case kB => exact locs rfl
    case c2 => exact rfl
    case c3 => exact rfl
    case c4 => exact rfl
    k_whole
    intro g' L' h' tk' FG' N' C'
    have F' := Cx.F C'
    have B' := Cx.B C'
    have X' := Cx.X C'
    have T' := Cx.T C'
    (try dsimp only)
    (try k_lift B')
    (try k_fold)
    iterate 2 (walk_at "go1")
    k_dflt (refine LCp.ListComp_P (by k_asm) (by with_unfolding_all rfl) (by decide) (by rfl) (by decide) (by rfl) (by rfl) (by decide) ?_)
    iterate 3 (walk_at "go1")
    refine LCp.SrcLP.ledger (Cx.hh (by assumption)) (by k_asm) (by k_asm) (by k_mem) (by rw [List.size_toArray, List.length_map]; exact Nat.le_trans hz (by decide)) ?_
    intro g
    refine comp_first (fun i => ((keyV rs)[i]?).getD .none) ?_ (.inr ⟨_, by k_mem, rfl, _, rfl⟩) rfl (fun _ => rfl) (by decide) _ 0 [] ?_
    · intro i v hv
      obtain ⟨r, hr, rfl⟩ := rowV_get hv
      refine ⟨r.ad, r.obj i, .str (numS i) r.u, 0, rfl, ?_, rfl, ?_⟩
      · have z := rowL_mem (k := 0) hr
        rw [Nat.zero_add] at z
        exact List.mem_cons_of_mem _ (List.mem_cons_of_mem _ (List.mem_cons_of_mem _ (List.mem_append_left _ z)))
      · simp [hr]
    · rw [List.size_toArray, List.length_map, keyV_range, List.nil_append]
      intro D h' tk F' N' o1'
      k_steps
      exact h _ _ _ (by assumption) (by assumption) (by assumption))
theorem values_c (C : Cx n₀ w A₀ A base h₀ env outer L m mg mb mean loose p s.heap) (hn₀ : n₀ ≤ 800)
    (N : News h₀ L s.heap ((R, listOf (rowV rs).toArray k) :: (dtb, dictOf (hdrD w th R) n) :: (tb, instObj 281 dtb) :: (rowL 0 rs ++ rest)))
    (hz : rs.length ≤ 1000)
    (h : ∀ D h' tk, Fr h₀ L h' m → News h₀ L h' ((D, LCg.lst (valV 0 rs)) :: (R, listOf (rowV rs).toArray k) :: (dtb, dictOf (hdrD w th R) n) :: (tb, instObj 281 dtb) :: (rowL 0 rs ++ rest)) →
      LCg.Off1 D ((R, listOf (rowV rs).toArray k) :: (dtb, dictOf (hdrD w th R) n) :: (tb, instObj 281 dtb) :: (rowL 0 rs ++ rest)) → Q (.ref D) { s with heap := h', toks := tk }) :
    wpAny (model PySem.Challenge.rw_to0065_01.row.prog w) A (call (.ref 238) [.ref tb]) Q E s := by
  walk_at "cx_fill"
  w_strict (
    refine wpAny_call ?_
    (refine' Cx.code (by assumption) (by assumption) ?k6 ?k7 (by walk_at "om") ?k9 ?kB ?_ ?c2 ?c3 ?c4 ?c5)
    case k6 => k_is
    case k7 => k_is
    case k9 => first | exact BindsTo.of_eq rfl | exact binds_K (by k_in) rfl (by k_is) rfl rfl rfl
    case c5 => decide
    case kB => exact locs rfl
    case c2 => exact rfl
    case c3 => exact rfl
    case c4 => exact rfl
    k_whole
    intro g' L' h' tk' FG' N' C'
    have F' := Cx.F C'
    have B' := Cx.B C'
    have X' := Cx.X C'
    have T' := Cx.T C'
    (try dsimp only)
    (try k_lift B')
    (try k_fold)
    iterate 2 (walk_at "go1")
    k_dflt (refine LCp.ListComp_P (by k_asm) (by with_unfolding_all rfl) (by decide) (by rfl) (by decide) (by rfl) (by rfl) (by decide) ?_)
    iterate 3 (walk_at "go1")
    refine LCp.SrcLP.ledger (Cx.hh (by assumption)) (by k_asm) (by k_asm) (by k_mem) (by rw [List.size_toArray, List.length_map]; exact Nat.le_trans hz (by decide)) ?_
    intro g
    refine comp_second (fun i => ((valV 0 rs)[i]?).getD .none) ?_ (.inr ⟨_, by k_mem, rfl, _, rfl⟩) rfl (fun _ => rfl) (by decide) _ 0 [] ?_
    · intro i v hv
      obtain ⟨r, hr, rfl⟩ := rowV_get hv
      refine ⟨r.ad, r.obj i, .str r.l.str r.t, 0, rfl, ?_, rfl, ?_⟩
      · have z := rowL_mem (k := 0) hr
        rw [Nat.zero_add] at z
        exact List.mem_cons_of_mem _ (List.mem_cons_of_mem _ (List.mem_cons_of_mem _ (List.mem_append_left _ z)))
      · rw [valV_get hr, Nat.zero_add]; rfl
    · rw [List.size_toArray, List.length_map, valV_range, List.nil_append]
      intro D h' tk F' N' o1'
      k_steps
      exact h _ _ _ (by assumption) (by assumption) (by assumption))
end
end PartKeys
theorem slot_search : Slot "re.Pattern" "search" "re.Pattern.search" :=
  .of (owner := "re.Pattern") (n := "search") (by rw [typeLookup_type, builtinLookup_eq_fast]; kernel_rfl) (by decide +kernel) (by decide +kernel) (by decide +kernel)
    (by first | exact .inl (by decide +kernel) | exact .inr (by decide +kernel)) (by rw [isSubtype_type]; kernel_rfl)
theorem type_search : typeOf (.builtin "re.Pattern.search") = pure (.type "method_descriptor") := by show builtinType _ = _; rw [builtinType_eq_fast]; kernel_rfl
theorem entry_search : entryFor table "re.Pattern.search" = some Builtin.«re.Pattern.search» := entryFor_of_tree (by kernel_rfl)
theorem plainAttrs_pattern : PlainAttrs "re.Pattern" :=
  ⟨⟨"object.__getattribute__", by rw [typeLookup_type, builtinLookup_eq_fast]; kernel_rfl, by decide +kernel⟩, by rw [typeLookup_type, builtinLookup_eq_fast]; kernel_rfl⟩
theorem owner_pattern : Manifest.owners.lookup (String.ofList ['n', 'r', 'e', 't', 't', 'a', 'P', '.', 'e', 'r'].reverse) = some Manifest.sig_re_Pattern := by kernel_rfl
theorem args_search (a b : Value) : argsOk "re.Pattern.search" ⟨[a, b], []⟩ := by
  unfold argsOk; rw [signature?_of (id := "re.Pattern.search") (n := ['h', 'c', 'r', 'a', 'e', 's']) (o := ['n', 'r', 'e', 't', 't', 'a', 'P', '.', 'e', 'r']) (by kernel_rfl) owner_pattern]; kernel_rfl
noncomputable def codeN : Array Nat := #[14, 10, 4, 1, 1, 22, 0, 31, 16, 127, 0, 13, 7, 22, 0, 31, 16, 127, 0, 1]
noncomputable def codeV : Array Nat := #[14, 14, 4, 1, 1, 9, 4294966783, 0, 0, 2147483648, 0, 0, 0, 0, 0, 13, 11, 9, 4294966783, 0, 0, 2147483648, 0, 0, 0, 0, 0, 1]
noncomputable def PlainC (c : Nat) : Prop := 32 ≤ c ∧ c < 127
/-- no sign of the set is plain -/
noncomputable def SetNo (code : Array Nat) : Prop := ∀ c seen, PlainC c → ∃ seen', Sre.inSet code c code.size 5 true seen = .ok (false, seen')
theorem setNo_N : SetNo codeN := fun c seen h => by
  obtain ⟨h1, h2⟩ := h
  have a : ¬ (c ≤ 31) := by omega
  have b : ¬ (c = 127) := by omega
  refine ⟨((seen.add 22).add 16).add 0, ?_⟩
  show Sre.inSet codeN c (17 + 1 + 1 + 1) 5 true seen = _
  unfold Sre.inSet
  simp only [show codeN.getD (5 + 0) 0 = 22 from rfl, show codeN.getD (5 + 1) 0 = 0 from rfl, show codeN.getD (5 + 2) 0 = 31 from rfl, show Sre.ops[22]? = some .RANGE from rfl]
  rw [if_neg (by simp [a])]
  unfold Sre.inSet
  simp only [show codeN.getD (5 + 3 + 0) 0 = 16 from rfl, show codeN.getD (5 + 3 + 1) 0 = 127 from rfl, show Sre.ops[16]? = some .LITERAL from rfl]
  rw [if_neg (by simp [b])]
  unfold Sre.inSet
  simp only [show codeN.getD (5 + 3 + 2 + 0) 0 = 0 from rfl, show Sre.ops[0]? = some .FAILURE from rfl]
  rfl
theorem charset_no : ∀ c, c < 127 → 32 ≤ c → (codeV.getD (5 + (1 + c / 32)) 0).testBit (c % 32) = false := by decide +kernel
theorem setNo_V : SetNo codeV := fun c seen h => by
  obtain ⟨h1, h2⟩ := h
  have a := charset_no c h2 h1
  refine ⟨(seen.add 9).add 0, ?_⟩
  show Sre.inSet codeV c (26 + 1 + 1) 5 true seen = _
  unfold Sre.inSet
  simp only [show codeV.getD (5 + 0) 0 = 9 from rfl, show Sre.ops[9]? = some .CHARSET from rfl, a, Bool.and_false, Bool.false_eq_true, if_false]
  unfold Sre.inSet
  simp only [show codeV.getD (5 + 9 + 0) 0 = 0 from rfl, show Sre.ops[0]? = some .FAILURE from rfl]
  rfl
theorem admitted_no {m : Sre.M} (hs : SetNo m.code) (ht : ∀ i, i < m.lim → PlainC (m.text.getD i 0)) : ∀ (fuel s : Nat) (seen : Sre.Seen), ∃ seen', Sre.M.admitted m fuel s seen = .ok (none, seen')
  | 0, _, seen => ⟨seen, rfl⟩
  | fuel + 1, s, seen => by
    unfold Sre.M.admitted
    by_cases h : s ≥ m.lim
    · rw [if_pos h]; exact ⟨seen, rfl⟩
    · rw [if_neg h]
      obtain ⟨seen', e⟩ := hs _ seen (ht s (Nat.lt_of_not_le h))
      rw [e]
      exact admitted_no hs ht fuel (s + 1) seen'
theorem attempt_no {m : Sre.M} (hf : m.hasFirstSet = true) (hs : SetNo m.code) (ht : ∀ i, i < m.lim → PlainC (m.text.getD i 0)) (s : Nat) (first : Bool) :
    ∃ seen', Sre.M.attemptFrom m s first = ({ m with seen := seen' } : Sre.M).say false := by
  unfold Sre.M.attemptFrom
  rw [hf]
  obtain ⟨seen', e⟩ := admitted_no hs ht (m.lim + 1 - s) s m.seen
  refine ⟨seen', ?_⟩
  simp only [Bool.not_true, Bool.false_eq_true, if_false, e]
theorem run_no {m : Sre.M} (h1 : m.answer = some false) (h2 : m.frames = []) (h3 : m.outcome = none) : (m.runFor 4).outcome = some .failed := by
  have e : m.step = { m with outcome := some .failed } := by
    unfold Sre.M.step
    rw [h3, h1, h2]
    rfl
  unfold Sre.M.runFor
  rw [h3]
  simp only [Option.isSome_none, Bool.false_eq_true, if_false]
  rw [e]
  unfold Sre.M.runFor
  rfl
/-- the search of a plain text ends with none -/
theorem search_no {code : Array Nat} {text : Array Nat} (hc : code = codeN ∨ code = codeV) (ht : ∀ i, i < text.size → PlainC (text.getD i 0)) : ((Sre.forSearch code text 0 0 text.size false).runFor 4).outcome = some .failed := by
  have hs : SetNo code := by rcases hc with rfl | rfl; exact setNo_N; exact setNo_V
  have hh : (Sre.header code).1 = 1 ∧ code.getD 2 0 = 4 ∧ (Sre.ops[code.getD 0 0]?) = some .INFO := by rcases hc with rfl | rfl <;> exact ⟨rfl, rfl, rfl⟩
  unfold Sre.forSearch
  dsimp only
  split
  · exact run_no rfl rfl rfl
  · generalize hm : ({ code := _, text := _, lim := _, start := _, lastStart := _, wholeText := _, mustAdvance := _, pc := _, pos := _, handed := _, outermost := _, marks := _, lastmark := _, lastindex := _, loops := _, inner := _, frames := _, weight := _, answer := _, seen := _, outcome := _ } : Sre.M) = m
    have e1 : m.code = code := by rw [← hm]; rfl
    have e2 : m.text = text := by rw [← hm]; rfl
    have e3 : m.lim = text.size := by rw [← hm]; rfl
    have e4 : m.frames = [] := by rw [← hm]; rfl
    have e5 : m.outcome = none := by rw [← hm]; rfl
    obtain ⟨seen', e⟩ := attempt_no (m := m) (by unfold Sre.M.hasFirstSet; rw [e1, hh.2.2, hh.2.1]; rfl) (e1 ▸ hs) (by rw [e2, e3]; exact ht) 0 true
    rw [e]
    exact run_no rfl e4 e5
theorem drive_no {M : Model} {A : Around} {E : Value → Shared → Prop} {s : Shared} {m : Sre.M} {Q : Sre.M → Shared → Prop} (h : (m.runFor 4).outcome = some .failed) (k : Q (m.runFor 4) s) (n : Nat) : wpAny M A (Builtin.Re.reDrive (n + 1) m) Q E s := by
  unfold Builtin.Re.reDrive
  dsimp only
  rw [if_pos (show (m.runFor Builtin.Re.reTurnSteps).outcome.isSome = true by show (m.runFor 4).outcome.isSome = true; rw [h]; rfl)]
  exact wpAny_pure k
theorem named_one (v : Value) : Builtin.Re.reNamed "re.Pattern.search" "search" ["string", "pos", "endpos"] 1 [v] [] = pure [some v, none, none] := by
  first | rfl | kernel_rfl
theorem runToEnd_no {M : Model} {A : Around} {E : Value → Shared → Prop} {s : Shared} {m : Sre.M} {Q : Option Sre.M → Shared → Prop} (h : (m.runFor 4).outcome = some .failed) (k : Q none s) : wpAny M A (Builtin.Re.reRunToEnd m) Q E s := by
  unfold Builtin.Re.reRunToEnd
  refine wpAny_bind ?_
  rw [show (2 : Nat) ^ 64 = (2 ^ 64 - 1) + 1 by decide]
  refine drive_no h ?_ _
  refine wpAny_bind ?_
  refine wpAny_forIn_list _ (fun _ _ s' => s' = s) _ ?_ ?_ _ _ rfl
  · rintro x rest b s' rfl
    split
    · exact wpAny_bind (wpAny_rule (wpAny_pure rfl))
    · exact wpAny_pure rfl
  · rintro b s' rfl
    rw [h]
    exact wpAny_pure k
noncomputable abbrev patObj (s0 : Str) (t0 t1 : Tok) (ca : Addr) : Obj := { cls := .type "re.Pattern", data := .fields #[.str s0 t0, .int 32 t1, .int 0 0, .none, .none, .ref ca, .int 0 0] }
theorem meets_search {x : Str} {t : Tok} {pat ca : Addr} {s0 : Str} {t0 t1 : Tok} {cs : Array Value} {n : Nat} (hcs : (cs.map Builtin.Re.reRawOf).map (·.toNat) = codeN ∨ (cs.map Builtin.Re.reRawOf).map (·.toNat) = codeV)
    (hx : ∀ i, i < x.cps.size → PlainC (x.cps.getD i 0)) (hz : x.cps.size < 2 ^ 63) :
    Meets (Builtin.«re.Pattern.search» ⟨[.ref pat, .str x t], []⟩)
      (fun _ R s => s.heap.get? pat = some (patObj s0 t0 t1 ca) ∧ (∃ o, s.heap.get? ca = some o ∧ o.data = .seq cs n) ∧ R (.ok (.ret .none)) s) :=
  .of_wp fun prog w A R s h => by
    obtain ⟨hp, ⟨oc, hc, hd⟩, h⟩ := h
    unfold Builtin.«re.Pattern.search»
    refine wpAny_bind ?_
    unfold Builtin.Re.reTarget
    dsimp only
    rw [named_one]
    refine wpAny_bind (wpAny_pure ?_)
    dsimp only
    refine wpAny_bind (wpAny_pure (wpAny_bind (wpAny_pure (wpAny_bind (wpAny_fieldsOf hp rfl ?_)))))
    unfold Builtin.Re.reTextOf
    refine wpAny_bind (wpAny_bind (m := asStr? (.str x t)) (wpAny_pure ?_))
    dsimp only
    refine wpAny_pure ?_
    dsimp only
    rw [if_neg (by exact Bool.false_ne_true), if_neg (by exact Bool.false_ne_true)]
    refine wpAny_bind (m := Builtin.Re.reNoCollectionInside _ 0) (wpAny_pure (M := model prog w) ?_)
    refine wpAny_bind ?_
    show wpAny _ _ (Builtin.Re.reRawItems (.ref ca)) _ _ _
    unfold Builtin.Re.reRawItems
    refine wpAny_bind (wpAny_seqItems hc hd ?_)
    refine wpAny_pure (wpAny_pure ?_)
    unfold Builtin.Re.reAnswer
    refine wpAny_bind (runToEnd_no ?_ ?_)
    · show Sre.M.outcome (Sre.M.runFor 4 (Sre.forSearch _ _ _ _ _ _)) = _
      dsimp only [Option.getD_some]
      have e1 : min (Int.toNat 0) x.cps.size = 0 := by simp
      have e2 : min (2 ^ 63 - 1 : Int).toNat x.cps.size = x.cps.size := by
        have : (2 ^ 63 - 1 : Int).toNat = 9223372036854775807 := by decide
        omega
      rw [e1, e2]
      exact search_no hcs hx
    · exact wpAny_pure ⟨_, rfl, h⟩
theorem wp_search {prog : Program} {w : World} {A : Around} {E : Value → Shared → Prop} {s : Shared} {Q : Value → Shared → Prop} {x : Str} {t : Tok} {pat ca : Addr} {s0 : Str} {t0 t1 : Tok} {oc : Obj} {cs : Array Value} {n : Nat}
    (hp : s.heap.get? pat = some (patObj s0 t0 t1 ca)) (hc : s.heap.get? ca = some oc) (hd : oc.data = .seq cs n) (hcs : (cs.map Builtin.Re.reRawOf).map (·.toNat) = codeN ∨ (cs.map Builtin.Re.reRawOf).map (·.toNat) = codeV)
    (hx : ∀ i, i < x.cps.size → PlainC (x.cps.getD i 0)) (hz : x.cps.size < 2 ^ 63) (h : Q .none s) :
    wpAny (model prog w) A (call (.builtin "re.Pattern.search") [.ref pat, .str x t]) Q E s :=
  call_meets slot_search ⟨_, hp, rfl⟩ entry_search (args_search _ _) (meets_search hcs hx hz) ⟨hp, ⟨oc, hc, hd⟩, h⟩
theorem search_method {prog : Program} {w : World} {A : Around} {E : Value → Shared → Prop} {s : Shared} {pat ca : Addr} {s0 : Str} {t0 t1 : Tok} {name : Str} {pl : Sem Bool} {Q : Value × List Value → Shared → Prop}
    (hp : s.heap.get? pat = some (patObj s0 t0 t1 ca)) (hn : name = "search") (h : Q (.builtin "re.Pattern.search", [.ref pat]) s) : wpAny (model prog w) A (getMethod (.ref pat) name pl) Q E s := by
  subst hn
  exact getMethod_builtin ⟨_, hp, rfl⟩ plainAttrs_pattern slot_search type_search (fun a e => by cases e; exact ⟨_, hp, rfl⟩) h
/-- a text of plain signs alone -/
noncomputable def PlainS (x : Str) : Prop := (∀ i, i < x.cps.size → PlainC (x.cps.getD i 0)) ∧ x.cps.size < 2 ^ 63
section PartConv
section
variable {n₀ : Nat} {w : World} {A₀ A : Around} {base h₀ : Heap} {env : Env} {outer : List Env} {L : Addr} {m : Str → Option Value} {mg mb : Str → Option Value} {mean : ExcName → Option Value} {loose : List Str} {p : Program} {s : Shared}
    {Q : Value → Shared → Prop} {E : Value → Shared → Prop} {R tb dtb : Addr} {th : Tok} {n k : Nat} {rs : List Rw} {rest : List (Addr × Obj)}
theorem conv_name {x : Str} {t : Tok} (C : Cx n₀ w A₀ A base h₀ env outer L m mg mb mean loose p s.heap) (hn₀ : n₀ ≤ 800)
    (N : News h₀ L s.heap rest) (hx : PlainS x)
    (h : ∀ h' tk, Fr h₀ L h' m → News h₀ L h' rest → Q (.str x t) { s with heap := h', toks := tk }) :
    wpAny (model PySem.Challenge.rw_to0065_01.row.prog w) A (call (.ref 182) [.ref tb, .str x t] [("name", .bool true)]) Q E s := by
  walk_at "cx_fill"
  w_strict (
    refine wpAny_call ?_
    refine' Cx.code (binds := [("self", .ref tb), ("value", .str x t), ("name", .bool true)]) (by assumption) (by assumption) ?k6 ?k7 (by walk_at "om") ?k9 ?kB ?_ ?c2 ?c3 ?c4 ?c5
    case k6 => k_is
    case k7 => k_is
    case k9 => first | exact binds_K (by k_in) rfl (by k_is) rfl rfl rfl | exact BindsTo.of_eq (by kernel_rfl)
    case c5 => decide
    case kB => exact locs rfl
    case c2 => exact rfl
    case c3 => exact rfl
    case c4 => exact rfl
    k_whole
    intro g' L' h' tk' FG' N' C'
    have F' := Cx.F C'
    have B' := Cx.B C'
    have X' := Cx.X C'
    have T' := Cx.T C'
    (try dsimp only)
    (try k_lift B')
    (try k_fold)
    iterate 28 (walk_at "go1")
    k_dflt (refine' search_method ?zq1 rfl ?_; (case zq1 => exact Frag.In.keeps (by k_asm) (Fr.keep (by k_asm)) _ _ (by k_is)))
    iterate 4 (walk_at "go1")
    k_dflt (refine' wp_search ?zq1 ?zq2 ?zq6 ?zq3 ?zq4 ?zq5 ?_)
    case zq1 => exact Frag.In.keeps (by k_asm) (Fr.keep (by k_asm)) _ _ (by k_is)
    case zq2 => exact Frag.In.keeps (by k_asm) (Fr.keep (by k_asm)) _ _ (by k_is)
    case zq6 => exact rfl
    case zq3 => first | exact .inl (by decide +kernel) | exact .inr (by decide +kernel)
    case zq4 => exact And.left (by assumption : PlainS _)
    case zq5 => exact And.right (by assumption : PlainS _)
    k_steps
    exact h _ _ (by assumption) (by assumption))
theorem conv_value {x : Str} {t : Tok} (C : Cx n₀ w A₀ A base h₀ env outer L m mg mb mean loose p s.heap) (hn₀ : n₀ ≤ 800)
    (N : News h₀ L s.heap rest) (hx : PlainS x)
    (h : ∀ h' tk, Fr h₀ L h' m → News h₀ L h' rest → Q (.str x t) { s with heap := h', toks := tk }) :
    wpAny (model PySem.Challenge.rw_to0065_01.row.prog w) A (call (.ref 182) [.ref tb, .str x t] [("name", .bool false)]) Q E s := by
  walk_at "cx_fill"
  w_strict (
    refine wpAny_call ?_
    refine' Cx.code (binds := [("self", .ref tb), ("value", .str x t), ("name", .bool false)]) (by assumption) (by assumption) ?k6 ?k7 (by walk_at "om") ?k9 ?kB ?_ ?c2 ?c3 ?c4 ?c5
    case k6 => k_is
    case k7 => k_is
    case k9 => first | exact binds_K (by k_in) rfl (by k_is) rfl rfl rfl | exact BindsTo.of_eq (by kernel_rfl)
    case c5 => decide
    case kB => exact locs rfl
    case c2 => exact rfl
    case c3 => exact rfl
    case c4 => exact rfl
    k_whole
    intro g' L' h' tk' FG' N' C'
    have F' := Cx.F C'
    have B' := Cx.B C'
    have X' := Cx.X C'
    have T' := Cx.T C'
    (try dsimp only)
    (try k_lift B')
    (try k_fold)
    iterate 28 (walk_at "go1")
    k_dflt (refine' search_method ?zq1 rfl ?_; (case zq1 => exact Frag.In.keeps (by k_asm) (Fr.keep (by k_asm)) _ _ (by k_is)))
    iterate 4 (walk_at "go1")
    k_dflt (refine' wp_search ?zq1 ?zq2 ?zq6 ?zq3 ?zq4 ?zq5 ?_)
    case zq1 => exact Frag.In.keeps (by k_asm) (Fr.keep (by k_asm)) _ _ (by k_is)
    case zq2 => exact Frag.In.keeps (by k_asm) (Fr.keep (by k_asm)) _ _ (by k_is)
    case zq6 => exact rfl
    case zq3 => first | exact .inl (by decide +kernel) | exact .inr (by decide +kernel)
    case zq4 => exact And.left (by assumption : PlainS _)
    case zq5 => exact And.right (by assumption : PlainS _)
    k_steps
    exact h _ _ (by assumption) (by assumption))
end
end PartConv
section PartOps
theorem item_strD {prog : Program} {w : World} {A : Around} {E : Value → Shared → Prop} {s : Shared} {Q : Value → Shared → Prop} {h₀ : Heap} {L d : Addr} {news : List (Addr × Obj)} {o : Obj} {kvs : List (Str × Value)} {x : Str} {t : Tok} {v : Value}
    (N : News h₀ L s.heap news) (hp : (d, o) ∈ news) (hd : o.IsDictOf (strKind prog w) kvs) (hl : PySem.valueAt kvs x = some v) (h : Q v { s with toks := s.toks + 1 }) : wpAny (model prog w) A (getItem (.ref d) (.str x t)) Q E s :=
  wpAny_getItem_of (strKind_is prog w x t) (kda_dict N hp hd).mapOf hl h
theorem other_at {l : Lt} {k1 k2 k3 k4 t1 t2 t3 t4 : Tok} : PySem.valueAt (strPairs [(.str "a" k1, .str "A" t1), (.str "A" k2, .str "a" t2), (.str "b" k3, .str "B" t3), (.str "B" k4, .str "b" t4)]) l.str =
    some (.str l.other.str (match l with | .a => t1 | .A => t2 | .b => t3 | .B => t4)) := by cases l <;> rfl
section
variable {n₀ : Nat} {w : World} {A₀ A : Around} {base h₀ : Heap} {env : Env} {outer : List Env} {L : Addr} {m : Str → Option Value} {mg mb : Str → Option Value} {mean : ExcName → Option Value} {loose : List Str} {p : Program} {s : Shared}
    {Q : Value → Shared → Prop} {E : Value → Shared → Prop} {R tb dtb : Addr} {th : Tok} {n k : Nat} {rs : List Rw} {rest : List (Addr × Obj)}
theorem other_c {l : Lt} {t : Tok} (C : Cx n₀ w A₀ A base h₀ env outer L m mg mb mean loose p s.heap) (hn₀ : n₀ ≤ 800)
    (N : News h₀ L s.heap rest)
    (h : ∀ h' tk u, Fr h₀ L h' m → News h₀ L h' rest → Q (.str l.other.str u) { s with heap := h', toks := tk }) :
    wpAny (model PySem.Challenge.rw_to0065_01.row.prog w) A (call (.ref 306) [.str l.str t]) Q E s := by
  walk_at "cx_fill"
  w_strict (
    refine wpAny_call ?_
    refine' Cx.code (binds := [("letter", .str l.str t)]) (by assumption) (by assumption) ?k6 ?k7 (by walk_at "om") ?k9 ?kB ?_ ?c2 ?c3 ?c4 ?c5
    case k6 => k_is
    case k7 => k_is
    case k9 => first | exact binds_K (by k_in) rfl (by k_is) rfl rfl rfl | exact BindsTo.of_eq (by kernel_rfl)
    case c5 => decide
    case kB => exact locs rfl
    case c2 => exact rfl
    case c3 => exact rfl
    case c4 => exact rfl
    k_whole
    intro g' L' h' tk' FG' N' C'
    have F' := Cx.F C'
    have B' := Cx.B C'
    have X' := Cx.X C'
    have T' := Cx.T C'
    (try dsimp only)
    (try k_lift B')
    (try k_fold)
    iterate 20 (walk_at "go1")
    k_dflt (refine' item_strD ?zq1 ?zq2 ?zq3 ?zq4 ?_; (case zq1 => k_asm); (case zq2 => k_mem); (case zq3 => assumption); (case zq4 => exact other_at))
    k_steps
    exact h _ _ _ (by assumption) (by walk_at "k_ledger"))
end
end PartOps
section PartOps2
/-- what an end asks whose heap has only grown -/
structure QClose (Q : Value → Shared → Prop) (v : Value) (s : Shared) : Prop where
  go : ∀ h' tk, (∀ b o, s.heap.get? b = some o → h'.get? b = some o) → Q v { s with heap := h', toks := tk }
theorem QClose.use {Q : Value → Shared → Prop} {v : Value} {s : Shared} {h' : Heap} {tk : Nat} (c : QClose Q v s) (k : ∀ b o, s.heap.get? b = some o → h'.get? b = some o) : Q v ⟨h', s.gens, s.drawn, tk, s.os⟩ := c.go h' tk k
theorem keepAll {h₀ h : Heap} {news : List (Addr × Obj)} (D : X.Mem h₀ h [] news) : ∀ b o, h₀.get? b = some o → h.get? b = some o := fun b o e =>
  D.keep b o e (by rw [show X.away [] b = true from rfl, Bool.or_true])
theorem seqIndex_last (n : Nat) : seqIndex? (-1) (n + 1) = some n := by
  unfold seqIndex?
  simp
  omega
section
variable {n₀ : Nat} {w : World} {A₀ A : Around} {base h₀ : Heap} {env : Env} {outer : List Env} {L : Addr} {m : Str → Option Value} {mg mb : Str → Option Value} {mean : ExcName → Option Value} {loose : List Str} {p : Program} {s : Shared}
    {Q : Value → Shared → Prop} {E : Value → Shared → Prop} {R tb dtb D : Addr} {th : Tok} {n k : Nat} {rs : List Rw} {rest : List (Addr × Obj)}
theorem del_last {prog : Program} {vs : List Value} {v : Value} {u : Tok} {Q : Unit → Shared → Prop}
    (F : Fr h₀ L s.heap m) (N : News h₀ L s.heap ((D, listOf (vs ++ [v]).toArray n) :: rest)) (hap : ∀ p ∈ rest, p.1 ≠ D) (hz : vs.length ≤ 1000)
    (h : ∀ h', Fr h₀ L h' m → News h₀ L h' ((D, listOf vs.toArray (n + 1)) :: rest) → Q () { s with heap := h' }) :
    wpAny (model prog w) A (delItem (.ref D) (.int (-1) u)) Q E s := by
  refine delItem_head (k := vs.length) F N hap (by rfl) ?_ (fun h' F' N' => h h' F' ?_) ?_
  · rw [List.size_toArray, List.length_append]; exact seqIndex_last _
  · have e : ((vs ++ [v]).toArray.toList.eraseIdx vs.length) = vs := (kl_eraseL vs [] v).trans (List.append_nil _)
    rw [e] at N'
    exact N'
  · rw [List.size_toArray, List.length_append]
    exact Nat.le_trans (Nat.succ_le_succ hz) (by decide)
theorem delit {vs : List Value} {v : Value} {u : Tok} (C : Cx n₀ w A₀ A base h₀ env outer L m mg mb mean loose p s.heap) (hn₀ : n₀ ≤ 800)
    (N : News h₀ L s.heap ((D, listOf (vs ++ [v]).toArray n) :: rest)) (hap : ∀ p ∈ rest, p.1 ≠ D) (hz : vs.length ≤ 1000)
    (h : ∀ h' tk, Fr h₀ L h' m → News h₀ L h' ((D, listOf vs.toArray (n + 1)) :: rest) → Q .none { s with heap := h', toks := tk }) :
    wpAny (model PySem.Challenge.rw_to0065_01.row.prog w) A (call (.ref 122) [.ref D, .int (-1) u]) Q E s := by
  walk_at "cx_fill"
  w_strict (
    refine wpAny_call ?_
    refine' Cx.code (binds := [("a", .ref D), ("b", .int (-1) u)]) (by assumption) (by assumption) ?k6 ?k7 (by walk_at "om") ?k9 ?kB ?_ ?c2 ?c3 ?c4 ?c5
    case k6 => k_is
    case k7 => k_is
    case k9 => first | exact binds_K (by k_in) rfl (by k_is) rfl rfl rfl | exact BindsTo.of_eq (by kernel_rfl)
    case c5 => decide
    case kB => exact locs rfl
    case c2 => exact rfl
    case c3 => exact rfl
    case c4 => exact rfl
    k_whole
    intro g' L' h' tk' FG' N' C'
    have F' := Cx.F C'
    have B' := Cx.B C'
    have X' := Cx.X C'
    have T' := Cx.T C'
    (try dsimp only)
    (try k_lift B')
    (try k_fold)
    iterate 6 (walk_at "go1")
    refine del_last (by k_asm) (by k_asm) (by assumption) (by assumption) ?_
    intro h' F' N'
    k_steps
    exact h _ _ (by assumption) (by walk_at "k_ledger"))
theorem mul_c {l : Lt} {j : Nat} {t u : Tok} (C : Cx n₀ w A₀ A base h₀ env outer L m mg mb mean loose p s.heap) (hn₀ : n₀ ≤ 800)
    (N : News h₀ L s.heap rest) (hj : j ≤ 1000)
    (h : ∀ h' tk u, Fr h₀ L h' m → News h₀ L h' rest → Q (.str (Txt.mul l.str j) u) { s with heap := h', toks := tk }) :
    wpAny (model PySem.Challenge.rw_to0065_01.row.prog w) A (call (.ref 94) [.str l.str t, .int j u]) Q E s := by
  walk_at "cx_fill"
  w_strict (
    refine wpAny_call ?_
    refine' Cx.code (binds := [("a", .str l.str t), ("b", .int j u)]) (by assumption) (by assumption) ?k6 ?k7 (by walk_at "om") ?k9 ?kB ?_ ?c2 ?c3 ?c4 ?c5
    case k6 => k_is
    case k7 => k_is
    case k9 => first | exact binds_K (by k_in) rfl (by k_is) rfl rfl rfl | exact BindsTo.of_eq (by kernel_rfl)
    case c5 => decide
    case kB => exact locs rfl
    case c2 => exact rfl
    case c3 => exact rfl
    case c4 => exact rfl
    k_whole
    intro g' L' h' tk' FG' N' C'
    have F' := Cx.F C'
    have B' := Cx.B C'
    have X' := Cx.X C'
    have T' := Cx.T C'
    (try dsimp only)
    (try k_lift B')
    (try k_fold)
    iterate 5 (walk_at "go1")
    refine SB.mul (mulOk_of 1 1000 (by cases l <;> decide) (by walk_at "om") (by walk_at "om") (by decide) (by decide)) ?_
    intro t' k'
    k_steps
    exact h _ _ _ (by assumption) (by walk_at "k_ledger"))
local macro_rules | `(tactic| x_close) => `(tactic| k_extra "z x_close")
theorem lay2 : True := by
  k_with "z x_close" => (refine QClose.use (by assumption) ?_; exact keepAll (by assumption))
  exact True.intro
theorem hasattr_str {prog : Program} {x : Str} {t u : Tok}
    (h : QClose Q (.bool true) s) :
    wpAny (model prog w) A (call (.builtin "hasattr") [.str x t, .str "__getitem__" u]) Q E s := by
  x_run
end
end PartOps2
theorem lay3 : True := by
  k_with_none
  exact True.intro
theorem lay4 : True := by
  k_with "z k_all" => first | assumption | exact ne_of_lt_all (by assumption) (by first | omega | exact Nat.le_add_right _ _ | exact Nat.le_refl _)
  k_with "cx_fill" => ((have x9X := Cx.X (by assumption)); revert x9X; k_fill; intro x9X; (have x9F := Cx.F (by assumption)))
  k_with "go1" => (first | (k_unfold; (try dsimp only)) | walk1 | (dsimp only; walk1) | (leave1; walk_say "STEP leave1"; try dsimp only))
  k_with "z call builtin:list.pop" => (k_here; (refine' pop0 ?x9F ?x9N ?x9U ?x9z ?_; (case x9F => k_asm); (case x9N => k_asm); (case x9U => k_upd); (case x9z => first | assumption | omega); intro _ _ _))
  k_with "k_ledger" => first | assumption | exact news_tl (by assumption) | exact news_tl (news_tl (by assumption)) | exact news_tl (news_tl (news_tl (by assumption))) | exact news_tl (news_tl (news_tl (news_tl (by assumption))))
  k_with "z k_enter" => (
    (refine' Cx.code (Cx.upd ?x9a ?x9b) ?x9c ?x9d ?x9e ?x9f ?x9g ?x9h ?_ ?x9i ?x9j ?x9k ?x9l)
    case x9a => first | assumption | exact Cx.in1 (by assumption) | exact Cx.in1 (Cx.in1 (by assumption))
    case x9b => k_asm
    case x9c => k_asm
    case x9f => omega
    case x9d => k_is
    case x9e => k_is
    case x9g => first | exact binds_K (by k_in) rfl (by k_is) rfl rfl rfl | exact BindsTo.of_eq rfl
    case x9l => decide
    case x9h => exact locs rfl
    case x9i => exact rfl
    case x9j => exact rfl
    case x9k => exact rfl
    k_whole
    intro _ _ _ _ _ _ x9C
    have x9F := Cx.F x9C
    have x9B := Cx.B x9C
    have x9X := Cx.X x9C
    have x9T := Cx.T x9C
    (try dsimp only)
    (try k_lift x9B)
    (try k_fold))
  k_with "z assign Tuple" => (k_here; (with_reducible show wpAny _ _ (assign (Expr.Tuple _ _ _) _ (Value.ref _)) _ _ _); k_dflt (refine' unpackN_ ?x9F ?x9N ?x9T ?x9i ?x9j ?x9k ?_; (case x9F => k_asm); (case x9N => k_asm); (case x9T => first | with_reducible assumption | (refine News.isTup (by k_asm) (by k_mem))); (case x9i => exact Cx.hh (by assumption)); (case x9j => exact rfl); (case x9k => exact rfl)); intro _ _ _)
  k_with "pr" => with_reducible (first | assumption | exact an1 (by assumption) | exact an2 (by assumption) | exact an3 (by assumption) | exact an4 (by assumption) | exact an5 (by assumption) | exact an6 (by assumption) | exact an7 (by assumption) | exact an8 (by assumption) | exact an9 (by assumption) | exact al1 (by assumption) | exact al2 (by assumption) | exact al3 (by assumption))
  k_with "lts" => with_reducible (first | walk_at "pr" | exact Nat.lt_add_one _ | (refine Nat.lt_trans ?_ (by assumption); walk_at "pr") | (refine lt_pl ?_; walk_at "lts"))
  k_with "nes" => first | walk_at "pr" | (refine Ne.symm ?_; walk_at "pr") | (refine Nat.ne_of_lt ?_; walk_at "lts") | (refine Nat.ne_of_gt ?_; walk_at "lts")
  k_with "z k_ne" => first | walk_at "nes" | (dsimp only; walk_at "nes")
  k_with "lec" => with_reducible (first | exact Nat.le_refl _ | assumption | exact Nat.le_add_right _ _ | exact Nat.succ_le_succ (Nat.zero_le _) | exact Nat.succ_le_of_lt (by assumption) | (refine Nat.le_trans ?_ (by assumption); walk_at "lec") | (refine le_lt ?_ (by assumption); walk_at "lec") | (refine le_pl ?_; walk_at "lec"))
  k_with "ltc" => with_reducible (refine Nat.lt_of_succ_le ?_; walk_at "lec")
  k_with "om" => first | exact Nat.le_of_ble_eq_true rfl | exact le_plus (by with_reducible assumption) (Nat.le_of_ble_eq_true rfl) | exact Nat.le_trans (by with_reducible assumption) (Nat.le_of_ble_eq_true rfl) | walk_at "lec" | walk_at "ltc" | omega
  exact True.intro
section PartOps3
theorem QClose.of {Q : Value → Shared → Prop} {v : Value} {s : Shared} {h₀ : Heap} {L : Addr} {m : Str → Option Value} {news : List (Addr × Obj)} (F : Fr h₀ L s.heap m) (N : News h₀ L s.heap news)
    (k : ∀ h' tk, Fr h₀ L h' m → News h₀ L h' news → Q v { s with heap := h', toks := tk }) : QClose Q v s :=
  ⟨fun h' tk kp => k h' tk (F.keeps kp) (fun q hq => ⟨kp _ _ (N q hq).1, (N q hq).2⟩)⟩
theorem len_led {prog : Program} {w : World} {A : Around} {E : Value → Shared → Prop} {s : Shared} {Q : Value → Shared → Prop} {h₀ : Heap} {L D : Addr} {news : List (Addr × Obj)} {vs : List Value} {n j : Nat} (N : News h₀ L s.heap news) (hm : (D, listOf vs.toArray n) ∈ news) (hj : vs.length = j) (hz : j ≤ 1000)
    (h : Q (.int j (s.toks + 1)) { s with toks := s.toks + 1 + 1 }) : wpAny (model prog w) A (call (.builtin "len") [.ref D]) Q E s := by
  subst hj
  exact Calls.call_len_list ⟨_, (N _ hm).1, rfl, n, rfl⟩ (by rw [List.size_toArray]; omega) h
section
variable {n₀ : Nat} {w : World} {A₀ A : Around} {base h₀ : Heap} {env : Env} {outer : List Env} {L : Addr} {m : Str → Option Value} {mg mb : Str → Option Value} {mean : ExcName → Option Value} {loose : List Str} {p : Program} {s : Shared}
    {Q : Value → Shared → Prop} {E : Value → Shared → Prop} {R tb dtb D : Addr} {th : Tok} {n k : Nat} {rs : List Rw} {rest : List (Addr × Obj)}
theorem lay5 : True := by
  k_with "z call builtin:len" => (k_here; (with_reducible show wpAny _ _ (call (Value.builtin _) [Value.ref _]) _ _ _); k_dflt (refine' len_led ?x9i ?x9j ?x9k ?x9l ?_; (case x9i => k_asm); (case x9j => k_mem); (case x9k => first | exact List.length_map _ | exact rfl); (case x9l => assumption)))
  exact True.intro
theorem concat_c {x y : Str} {t u : Tok} (C : Cx n₀ w A₀ A base h₀ env outer L m mg mb mean loose p s.heap) (hn₀ : n₀ ≤ 800)
    (N : News h₀ L s.heap rest) (hz : x.length + y.length ≤ sizeLine)
    (h : ∀ h' tk u, Fr h₀ L h' m → News h₀ L h' rest → Q (.str (x ++ y) u) { s with heap := h', toks := tk }) :
    wpAny (model PySem.Challenge.rw_to0065_01.row.prog w) A (call (.ref 108) [.str x t, .str y u]) Q E s := by
  walk_at "cx_fill"
  w_strict (
    refine wpAny_call ?_
    refine' Cx.code (binds := [("a", .str x t), ("b", .str y u)]) (by assumption) (by assumption) ?k6 ?k7 (by walk_at "om") ?k9 ?kB ?_ ?c2 ?c3 ?c4 ?c5
    case k6 => k_is
    case k7 => k_is
    case k9 => first | exact binds_K (by k_in) rfl (by k_is) rfl rfl rfl | exact BindsTo.of_eq (by kernel_rfl)
    case c5 => decide
    case kB => exact locs rfl
    case c2 => exact rfl
    case c3 => exact rfl
    case c4 => exact rfl
    k_whole
    intro g' L' h' tk' FG' N' C'
    have F' := Cx.F C'
    have B' := Cx.B C'
    have X' := Cx.X C'
    have T' := Cx.T C'
    (try dsimp only)
    (try k_lift B')
    (try k_fold)
    iterate 12 (walk_at "go1")
    refine' hasattr_str (QClose.of ?zq1 ?zq2 ?_)
    case zq1 => k_asm
    case zq2 => k_asm
    intro h' tk' F' N'
    iterate 8 (walk_at "go1")
    refine add_str ?_ (by assumption)
    intro t' k'
    k_steps
    exact h _ _ _ (by assumption) (by walk_at "k_ledger"))
theorem hint_c (C : Cx n₀ w A₀ A base h₀ env outer L m mg mb mean loose p s.heap) (hn₀ : n₀ ≤ 800)
    (N : News h₀ L s.heap ((R, listOf (rowV rs).toArray k) :: (dtb, dictOf (hdrD w th R) n) :: (tb, instObj 281 dtb) :: rest))
    (hz : rs.length ≤ 1000)
    (h : ∀ h' tk u, Fr h₀ L h' m → News h₀ L h' ((R, listOf (rowV rs).toArray k) :: (dtb, dictOf (hdrD w th R) n) :: (tb, instObj 281 dtb) :: rest) → Q (.int rs.length u) { s with heap := h', toks := tk }) :
    wpAny (model PySem.Challenge.rw_to0065_01.row.prog w) A (call (.ref 137) [.ref tb]) Q E s := by
  walk_at "cx_fill"
  w_strict (
    refine wpAny_call ?_
    refine' Cx.code (binds := [("obj", .ref tb), ("default", .int 0 412)]) (by assumption) (by assumption) ?k6 ?k7 (by walk_at "om") ?k9 ?kB ?_ ?c2 ?c3 ?c4 ?c5
    case k6 => k_is
    case k7 => k_is
    case k9 => first | exact binds_K (by k_in) rfl (by k_is) rfl rfl rfl | exact BindsTo.of_eq (by kernel_rfl)
    case c5 => decide
    case kB => exact locs rfl
    case c2 => exact rfl
    case c3 => exact rfl
    case c4 => exact rfl
    k_whole
    intro g' L' h' tk' FG' N' C'
    have F' := Cx.F C'
    have B' := Cx.B C'
    have X' := Cx.X C'
    have T' := Cx.T C'
    (try dsimp only)
    (try k_lift B')
    (try k_fold)
    k_steps
    exact h _ _ _ (by assumption) (by walk_at "k_ledger"))
end
end PartOps3
theorem lay6 : True := by
  k_with_none
  exact True.intro
theorem lay7 : True := by
  k_with "z k_all" => first | assumption | exact ne_of_lt_all (by assumption) (by first | omega | exact Nat.le_add_right _ _ | exact Nat.le_refl _)
  k_with "cx_fill" => ((have x9X := Cx.X (by assumption)); revert x9X; k_fill; intro x9X; (have x9F := Cx.F (by assumption)))
  k_with "go1" => (first | (k_unfold; (try dsimp only)) | walk1 | (dsimp only; walk1) | (leave1; walk_say "STEP leave1"; try dsimp only))
  k_with "z call builtin:list.pop" => (k_here; (refine' pop0 ?x9F ?x9N ?x9U ?x9z ?_; (case x9F => k_asm); (case x9N => k_asm); (case x9U => k_upd); (case x9z => first | assumption | omega); intro _ _ _))
  k_with "k_ledger" => first | assumption | exact news_tl (by assumption) | exact news_tl (news_tl (by assumption)) | exact news_tl (news_tl (news_tl (by assumption))) | exact news_tl (news_tl (news_tl (news_tl (by assumption))))
  k_with "z k_enter" => (
    (refine' Cx.code (Cx.upd ?x9a ?x9b) ?x9c ?x9d ?x9e ?x9f ?x9g ?x9h ?_ ?x9i ?x9j ?x9k ?x9l)
    case x9a => first | assumption | exact Cx.in1 (by assumption) | exact Cx.in1 (Cx.in1 (by assumption))
    case x9b => k_asm
    case x9c => k_asm
    case x9f => omega
    case x9d => k_is
    case x9e => k_is
    case x9g => first | exact binds_K (by k_in) rfl (by k_is) rfl rfl rfl | exact BindsTo.of_eq rfl
    case x9l => decide
    case x9h => exact locs rfl
    case x9i => exact rfl
    case x9j => exact rfl
    case x9k => exact rfl
    k_whole
    intro _ _ _ _ _ _ x9C
    have x9F := Cx.F x9C
    have x9B := Cx.B x9C
    have x9X := Cx.X x9C
    have x9T := Cx.T x9C
    (try dsimp only)
    (try k_lift x9B)
    (try k_fold))
  k_with "z assign Tuple" => (k_here; (with_reducible show wpAny _ _ (assign (Expr.Tuple _ _ _) _ (Value.ref _)) _ _ _); k_dflt (refine' unpackN_ ?x9F ?x9N ?x9T ?x9i ?x9j ?x9k ?_; (case x9F => k_asm); (case x9N => k_asm); (case x9T => first | with_reducible assumption | (refine News.isTup (by k_asm) (by k_mem))); (case x9i => exact Cx.hh (by assumption)); (case x9j => exact rfl); (case x9k => exact rfl)); intro _ _ _)
  k_with "pr" => with_reducible (first | assumption | exact an1 (by assumption) | exact an2 (by assumption) | exact an3 (by assumption) | exact an4 (by assumption) | exact an5 (by assumption) | exact an6 (by assumption) | exact an7 (by assumption) | exact an8 (by assumption) | exact an9 (by assumption) | exact al1 (by assumption) | exact al2 (by assumption) | exact al3 (by assumption))
  k_with "lts" => with_reducible (first | walk_at "pr" | exact Nat.lt_add_one _ | (refine Nat.lt_trans ?_ (by assumption); walk_at "pr") | (refine lt_pl ?_; walk_at "lts"))
  k_with "nes" => first | walk_at "pr" | (refine Ne.symm ?_; walk_at "pr") | (refine Nat.ne_of_lt ?_; walk_at "lts") | (refine Nat.ne_of_gt ?_; walk_at "lts")
  k_with "z k_ne" => first | walk_at "nes" | (dsimp only; walk_at "nes")
  k_with "lec" => with_reducible (first | exact Nat.le_refl _ | assumption | exact Nat.le_add_right _ _ | exact Nat.succ_le_succ (Nat.zero_le _) | exact Nat.succ_le_of_lt (by assumption) | (refine Nat.le_trans ?_ (by assumption); walk_at "lec") | (refine le_lt ?_ (by assumption); walk_at "lec") | (refine le_pl ?_; walk_at "lec"))
  k_with "ltc" => with_reducible (refine Nat.lt_of_succ_le ?_; walk_at "lec")
  k_with "om" => first | exact Nat.le_of_ble_eq_true rfl | exact le_plus (by with_reducible assumption) (Nat.le_of_ble_eq_true rfl) | exact Nat.le_trans (by with_reducible assumption) (Nat.le_of_ble_eq_true rfl) | walk_at "lec" | walk_at "ltc" | omega
  exact True.intro
section PartGetAll
theorem lower_lt (l : Lt) : Txt.lower l.str = l.low.str := by cases l <;> decide +kernel
theorem lower_c {prog : Program} {w : World} {A : Around} {E : Value → Shared → Prop} {s : Shared} {Q : Value → Shared → Prop} {l : Lt} {t : Tok} (h : Q (.str l.low.str s.toks) { s with toks := s.toks + 1 }) :
    wpAny (model prog w) A (call (.builtin "str.lower") [.str l.str t]) Q E s := SCL.lower (by cases l <;> decide) fun _ => by rw [lower_lt]; exact h
theorem plain_lt (l : Lt) : PlainS l.str := by
  have e : l.str.cps.size = 1 := by cases l <;> decide +kernel
  refine ⟨fun i hi => ?_, by rw [e]; decide⟩
  rw [e] at hi
  have : i = 0 := by omega
  subst this
  unfold PlainC
  cases l <;> decide +kernel
section
variable {prog : Program} {w : World} {A : Around} {E : Value → Shared → Prop} {s : Shared} {h₀ : Heap} {L : Addr} {m : Str → Option Value} {env : Env}
/-- a comprehension with a test, turn by turn -/
theorem comp_test {x : Str} {ct elt : Expr} {scope : Scope} {cl : List (Str × Addr)} {S : List (Addr × Obj) → Prop} {P : Nat → Value → Prop} {Fin : List Value → List (Addr × Obj) → Prop} {news : List (Addr × Obj)} (b : Nat → Bool) (f : Nat → Value) (hS : S news)
    (hct : ∀ i v I oI C oC D oD m₂ h tk (E' : Value → Shared → Prop) (Q' : Bool → Shared → Prop), P i v → LCg.NsObj oC m₂ → m₂ x = some v → Fr h₀ L h m → News h₀ L h ((I, oI) :: (C, oC) :: (D, oD) :: news) →
      (∀ h' tk', Fr h₀ L h' m → News h₀ L h' ((I, oI) :: (C, oC) :: (D, oD) :: news) → Q' (b i) { s with heap := h', toks := tk' }) →
      wpAny (model prog w) A (isTrue ct (compEnvC scope cl C env) (eval ct (compEnvC scope cl C env))) Q' E' { s with heap := h, toks := tk })
    (helt : ∀ i v I oI C oC D oD m₂ h tk (E' : Value → Shared → Prop) (Q' : Value → Shared → Prop), P i v → LCg.NsObj oC m₂ → m₂ x = some v → Fr h₀ L h m → News h₀ L h ((I, oI) :: (C, oC) :: (D, oD) :: news) →
      (∀ h' tk', Fr h₀ L h' m → News h₀ L h' ((I, oI) :: (C, oC) :: (D, oD) :: news) → Q' (f i) { s with heap := h', toks := tk' }) →
      wpAny (model prog w) A (eval elt (compEnvC scope cl C env)) Q' E' { s with heap := h, toks := tk }) :
    ∀ (j i : Nat) (ys : List Value), Fin (ys ++ ((List.range' i j).filter b).map f) news → LCt.CompRestT prog w A h₀ L m env ct elt x scope cl s S P Fin j i ys news
  | 0, i, ys, h => LCt.CompRestT.zero (by simpa using h)
  | j + 1, i, ys, h => by
    refine LCt.CompRestT.succ fun v I oI C oC D m₂ h' tk E' hv hC hx F N off ne => ?_
    refine hct i v I oI C oC D _ m₂ h' tk _ _ hv hC hx F N fun h1 tk1 F1 N1 => ?_
    cases hb : b i with
    | true =>
      rw [if_pos rfl]
      refine helt i v I oI C oC D _ m₂ h1 tk1 _ _ hv hC hx F1 N1 fun h2 tk2 F2 N2 => ?_
      refine ⟨h2, tk2, news, rfl, F2, N2, off, hS, ?_⟩
      refine comp_test b f hS hct helt j (i + 1) (ys ++ [f i]) ?_
      rw [List.range'_succ, List.filter_cons, hb] at h
      simpa using h
    | false =>
      rw [if_neg (by exact Bool.false_ne_true)]
      refine ⟨h1, tk1, news, rfl, F1, N1, off, hS, ?_⟩
      refine comp_test b f hS hct helt j (i + 1) ys ?_
      rw [List.range'_succ, List.filter_cons, hb] at h
      simpa using h
end
theorem lay8 : True := by
  k_with "z call builtin:str.lower" => (k_here; refine lower_c ?_)
  exact True.intro
theorem low_eq (x l : Lt) : (x.low.str == l.low.str) = decide (x.low = l.low) := by cases x <;> cases l <;> decide +kernel
theorem news_2nd {h₀ h : Heap} {L : Addr} {x y : Addr × Obj} {l : List (Addr × Obj)} (N : News h₀ L h (x :: y :: l)) : News h₀ L h (x :: l) :=
  news_sub N fun q hq => (List.mem_cons.mp hq).elim (fun e => e ▸ List.mem_cons_self) fun e => List.mem_cons_of_mem _ (List.mem_cons_of_mem _ e)
noncomputable abbrev rowB (l : Lt) (rs : List Rw) (i : Nat) : Bool := (rs[i]?).any fun r => decide (r.l.low = l.low)
/-- the places that get_all tells -/
noncomputable abbrev plV (l : Lt) (rs : List Rw) : List Value := ((List.range' 0 rs.length).filter fun i => rowB l rs i).map fun i => ((valV 0 rs)[i]?).getD .none
section
variable {n₀ : Nat} {w : World} {A₀ A : Around} {base h₀ : Heap} {env : Env} {outer : List Env} {L : Addr} {m : Str → Option Value} {mg mb : Str → Option Value} {mean : ExcName → Option Value} {loose : List Str} {p : Program} {s : Shared}
    {Q : Value → Shared → Prop} {E : Value → Shared → Prop} {R tb dtb : Addr} {th : Tok} {n k : Nat} {rs : List Rw} {rest : List (Addr × Obj)}
theorem get_all_c {l : Lt} {t : Tok} (C : Cx n₀ w A₀ A base h₀ env outer L m mg mb mean loose p s.heap) (hn₀ : n₀ ≤ 700)
    (N : News h₀ L s.heap ((R, listOf (rowV rs).toArray k) :: (dtb, dictOf (hdrD w th R) n) :: (tb, instObj 281 dtb) :: (rowL 0 rs ++ rest)))
    (hz : rs.length ≤ 1000)
    (h : ∀ D h' tk, Fr h₀ L h' m → News h₀ L h' ((D, LCg.lst (plV l rs)) :: (R, listOf (rowV rs).toArray k) :: (dtb, dictOf (hdrD w th R) n) :: (tb, instObj 281 dtb) :: (rowL 0 rs ++ rest)) →
      LCg.Off1 D ((R, listOf (rowV rs).toArray k) :: (dtb, dictOf (hdrD w th R) n) :: (tb, instObj 281 dtb) :: (rowL 0 rs ++ rest)) → Q (.ref D) { s with heap := h', toks := tk }) :
    wpAny (model PySem.Challenge.rw_to0065_01.row.prog w) A (call (.ref 220) [.ref tb, .str l.str t]) Q E s := by
  walk_at "cx_fill"
  w_strict (
    refine wpAny_call ?_
    refine' Cx.codeC (binds := [("self", .ref tb), ("name", .str l.str t)]) (by assumption) (by assumption) ?k6 ?k7 (by walk_at "om") ?k9 ?kB ?kD ?_ ?c2 ?c3 ?c4
    case k6 => k_is
    case k7 => k_is
    case k9 => first | exact binds_K (by k_in) rfl (by k_is) rfl rfl rfl | exact BindsTo.of_eq (by kernel_rfl)
    case kB => exact rfl
    case kD => decide +kernel
    case c2 => exact rfl
    case c3 => exact rfl
    case c4 => exact rfl
    k_whole
    intro g' L' h' tk' cells' FG' N' Y' l1 C'
    have F' := Cx.F C'
    have B' := Cx.B C'
    have X' := Cx.X C'
    have T' := Cx.T C'
    have l1r := l1
    (repeat (replace l1r := tail_of l1r))
    (try k_lt l1)
    k_cells Y'
    (try simp only [List.cons_append, List.nil_append] at N')
    (try dsimp only)
    (try k_lift B')
    (try k_fold)
    iterate 17 (walk_at "go1")
    k_dflt (refine' conv_name (Cx.upd ?zc1 ?zc2) ?zc3 ?zc4 ?zc5 ?_)
    case zc1 => assumption
    case zc2 => k_asm
    case zc3 => omega
    case zc4 => k_asm
    case zc5 => first | assumption | exact plain_lt _
    intro h' tk' F' N'
    iterate 4 (walk_at "go1")
    k_dflt (refine LCt.ListComp_T (F₀ := by k_asm) (by with_unfolding_all rfl) (by decide) (by rfl) (by decide) (by rfl) ?_)
    iterate 3 (walk_at "go1")
    refine LCt.CompSrcT.ledger (Cx.hh (by assumption)) (by k_asm) (by k_asm) (by k_mem) (by rw [List.size_toArray, List.length_map]; exact Nat.le_trans hz (by decide)) ?_
    intro g
    refine comp_test (fun i => rowB l rs i) (fun i => ((valV 0 rs)[i]?).getD .none) (.inr ⟨_, by k_mem, rfl, _, rfl⟩) ?_ ?_ _ 0 [] ?_
    · intro i v I oI C oC D oD m₂ h tk E' Q' hv hoC hx F N kk
      obtain ⟨r, hr, rfl⟩ := rowV_get hv
      dsimp only
      have hT : IsTup h r.ad [Value.str r.l.str r.t, Value.str (numS i) r.u].toArray := ⟨_, (N _ (List.mem_cons_of_mem _ (List.mem_cons_of_mem _ (List.mem_cons_of_mem _ (List.mem_cons_of_mem _ (List.mem_cons_of_mem _ (List.mem_cons_of_mem _ (List.mem_cons_of_mem _ (List.mem_append_left _ (Nat.zero_add i ▸ rowL_mem (k := 0) hr)))))))))).1, rfl, _, rfl⟩
      k_steps
      have e : (r.l.low.str == l.low.str) = rowB l rs i := by
        unfold rowB
        rw [hr, Option.any_some]
        exact low_eq _ _
      rw [e]
      exact kk _ _ (by assumption) (by assumption)
    · intro i v I oI C oC D oD m₂ h tk E' Q' hv hoC hx F N kk
      obtain ⟨r, hr, rfl⟩ := rowV_get hv
      dsimp only
      have hT : IsTup h r.ad [Value.str r.l.str r.t, Value.str (numS i) r.u].toArray := ⟨_, (N _ (List.mem_cons_of_mem _ (List.mem_cons_of_mem _ (List.mem_cons_of_mem _ (List.mem_cons_of_mem _ (List.mem_cons_of_mem _ (List.mem_cons_of_mem _ (List.mem_cons_of_mem _ (List.mem_append_left _ (Nat.zero_add i ▸ rowL_mem (k := 0) hr)))))))))).1, rfl, _, rfl⟩
      k_steps
      have e : ((valV 0 rs)[i]?).getD .none = .str (numS i) r.u := by rw [valV_get hr, Nat.zero_add]; rfl
      rw [e] at kk
      exact kk _ _ (by assumption) (by assumption)
    · rw [List.size_toArray, List.length_map, List.nil_append]
      intro D h' tk F' N' o1'
      k_steps
      exact h _ _ _ (by assumption) (news_2nd (by assumption)) (show LCg.Off1 D (_ :: _) from o1').2)
end
end PartGetAll
theorem lay9 : True := by
  k_with_none
  exact True.intro
theorem lay10 : True := by
  k_with "z k_all" => first | assumption | exact ne_of_lt_all (by assumption) (by first | omega | exact Nat.le_add_right _ _ | exact Nat.le_refl _)
  k_with "cx_fill" => ((have x9X := Cx.X (by assumption)); revert x9X; k_fill; intro x9X; (have x9F := Cx.F (by assumption)))
  k_with "go1" => (first | (k_unfold; (try dsimp only)) | walk1 | (dsimp only; walk1) | (leave1; walk_say "STEP leave1"; try dsimp only))
  k_with "z call builtin:list.pop" => (k_here; (refine' pop0 ?x9F ?x9N ?x9U ?x9z ?_; (case x9F => k_asm); (case x9N => k_asm); (case x9U => k_upd); (case x9z => first | assumption | omega); intro _ _ _))
  k_with "k_ledger" => first | assumption | exact news_tl (by assumption) | exact news_tl (news_tl (by assumption)) | exact news_tl (news_tl (news_tl (by assumption))) | exact news_tl (news_tl (news_tl (news_tl (by assumption))))
  k_with "z k_enter" => (
    (refine' Cx.code (Cx.upd ?x9a ?x9b) ?x9c ?x9d ?x9e ?x9f ?x9g ?x9h ?_ ?x9i ?x9j ?x9k ?x9l)
    case x9a => first | assumption | exact Cx.in1 (by assumption) | exact Cx.in1 (Cx.in1 (by assumption))
    case x9b => k_asm
    case x9c => k_asm
    case x9f => omega
    case x9d => k_is
    case x9e => k_is
    case x9g => first | exact binds_K (by k_in) rfl (by k_is) rfl rfl rfl | exact BindsTo.of_eq rfl
    case x9l => decide
    case x9h => exact locs rfl
    case x9i => exact rfl
    case x9j => exact rfl
    case x9k => exact rfl
    k_whole
    intro _ _ _ _ _ _ x9C
    have x9F := Cx.F x9C
    have x9B := Cx.B x9C
    have x9X := Cx.X x9C
    have x9T := Cx.T x9C
    (try dsimp only)
    (try k_lift x9B)
    (try k_fold))
  k_with "z assign Tuple" => (k_here; (with_reducible show wpAny _ _ (assign (Expr.Tuple _ _ _) _ (Value.ref _)) _ _ _); k_dflt (refine' unpackN_ ?x9F ?x9N ?x9T ?x9i ?x9j ?x9k ?_; (case x9F => k_asm); (case x9N => k_asm); (case x9T => first | with_reducible assumption | (refine News.isTup (by k_asm) (by k_mem))); (case x9i => exact Cx.hh (by assumption)); (case x9j => exact rfl); (case x9k => exact rfl)); intro _ _ _)
  k_with "pr" => with_reducible (first | assumption | exact an1 (by assumption) | exact an2 (by assumption) | exact an3 (by assumption) | exact an4 (by assumption) | exact an5 (by assumption) | exact an6 (by assumption) | exact an7 (by assumption) | exact an8 (by assumption) | exact an9 (by assumption) | exact al1 (by assumption) | exact al2 (by assumption) | exact al3 (by assumption))
  k_with "lts" => with_reducible (first | walk_at "pr" | exact Nat.lt_add_one _ | (refine Nat.lt_trans ?_ (by assumption); walk_at "pr") | (refine lt_pl ?_; walk_at "lts"))
  k_with "nes" => first | walk_at "pr" | (refine Ne.symm ?_; walk_at "pr") | (refine Nat.ne_of_lt ?_; walk_at "lts") | (refine Nat.ne_of_gt ?_; walk_at "lts")
  k_with "z k_ne" => first | walk_at "nes" | (dsimp only; walk_at "nes")
  k_with "lec" => with_reducible (first | exact Nat.le_refl _ | assumption | exact Nat.le_add_right _ _ | exact Nat.succ_le_succ (Nat.zero_le _) | exact Nat.succ_le_of_lt (by assumption) | (refine Nat.le_trans ?_ (by assumption); walk_at "lec") | (refine le_lt ?_ (by assumption); walk_at "lec") | (refine le_pl ?_; walk_at "lec"))
  k_with "ltc" => with_reducible (refine Nat.lt_of_succ_le ?_; walk_at "lec")
  k_with "om" => first | exact Nat.le_of_ble_eq_true rfl | exact le_plus (by with_reducible assumption) (Nat.le_of_ble_eq_true rfl) | exact Nat.le_trans (by with_reducible assumption) (Nat.le_of_ble_eq_true rfl) | walk_at "lec" | walk_at "ltc" | omega
  exact True.intro
section PartLoops
section
variable {prog : Program} {w : World} {A : Around} {E : Value → Shared → Prop} {s : Shared} {env : Env} {h₀ : Heap} {x : Str} {body : List Stmt} {Q : Flow → Shared → Prop}
/-- behind a turn of a loop with one iterator object -/
noncomputable def TurnI (h₀ : Heap) (L : Addr) (I : Addr) (o : Obj) (J : (Str → Option Value) → List (Addr × Obj) → Prop) (s₁ : Shared) (Q : Flow → Shared → Prop) (f : Flow) (s₂ : Shared) : Prop :=
  match f with
  | .ret v => Q (.ret v) s₂
  | .brk => Q .next s₂
  | _ => ∃ h' tk m' nx, s₂ = { s₁ with heap := h', toks := tk } ∧ Fr h₀ L h' m' ∧ News h₀ L h' ((I, o) :: nx) ∧ (∀ p ∈ nx, p.1 ≠ I) ∧ J m' nx
theorem iter_I {I : Addr} {n : Nat} {P : Nat → Value → Prop} {St : Nat → Heap → Prop} {m₀ : Str → Option Value} {news : List (Addr × Obj)} (J : Nat → (Str → Option Value) → List (Addr × Obj) → Prop)
    (W : Walks prog w A I [I] [I] n P St) (hI : h₀.get? I = none) (hL : env.locals ≠ I) (hob : ∀ i h, St i h → ∃ o, h.get? I = some o) (off : ∀ p ∈ news, p.1 ≠ I) (st : St 0 s.heap)
    (F : Fr h₀ env.locals s.heap m₀) (N : News h₀ env.locals s.heap news) (hj : J 0 m₀ news)
    (turn : ∀ i v m₁ news₁ h tk o, i < n → P i v → J i m₁ news₁ → (∀ p ∈ news₁, p.1 ≠ I) → Fr h₀ env.locals h (fun y => if y = x then some v else m₁ y) → News h₀ env.locals h ((I, o) :: news₁) →
      wpAny (model prog w) A (execs body env) (TurnI h₀ env.locals I o (J (i + 1)) { s with heap := h, toks := tk } Q) E { s with heap := h, toks := tk })
    (done : ∀ m₁ news₁ h tk, J n m₁ news₁ → Fr h₀ env.locals h m₁ → News h₀ env.locals h news₁ → Q .next { s with heap := h, toks := tk }) :
    LoopAtV prog w A h₀ env x body Q E (.ref I) s := by
  refine ⟨I, [I], [I], n, P, St, m₀, news, J, rfl, W, ?_, ?_, ?_, st, F, N, hj, ?_, ?_⟩
  · intro hm
    exact hL (List.mem_singleton.mp hm)
  · intro b hb
    rw [List.mem_singleton.mp hb]
    exact hI
  · intro p hp hm
    exact off p hp (List.mem_singleton.mp hm)
  · rintro i v m₁ news₁ s₁ own ⟨h, tk, rfl⟩ hin hP hJ hoff hown hget hall st₁ F₁ N₁
    obtain ⟨o, ho⟩ := hob _ _ st₁
    have hio : (I, o) ∈ own := hall I (List.mem_singleton.mpr rfl) hI o ho
    have N₂ : News h₀ env.locals h ((I, o) :: news₁) := fun p hp => N₁ p ((List.mem_cons.mp hp).elim (fun e => List.mem_append_left _ (e ▸ hio)) fun e => List.mem_append_right _ e)
    refine wpAny_mono (turn i v m₁ news₁ h tk o hin hP hJ (fun p hp e => hoff p hp (List.mem_singleton.mpr e)) F₁ N₂) (fun f s₂ p => ?_) fun _ _ e => e
    have fin : (∃ h' tk' m' nx, s₂ = { s with heap := h', toks := tk' } ∧ Fr h₀ env.locals h' m' ∧ News h₀ env.locals h' ((I, o) :: nx) ∧ (∀ p ∈ nx, p.1 ≠ I) ∧ J (i + 1) m' nx) →
        LoopStepU h₀ env.locals [I] own (J (i + 1)) { s with heap := h, toks := tk } .next s₂ := by
      rintro ⟨h', tk', m', nx, e, F', N', ho', hJ'⟩
      refine ⟨rfl, h', tk', m', nx, e, F', fun p hp => ?_, fun p hp hq => ho' p hp (List.mem_singleton.mp hq), hJ'⟩
      rcases List.mem_append.mp hp with h1 | h1
      · have h2 : p.1 = I := List.mem_singleton.mp (hown p h1)
        have h3 := hget p h1
        rw [h2] at h3
        have h4 : o = p.2 := Option.some.inj (ho.symm.trans h3)
        have h5 : p = (I, o) := Prod.ext h2 h4.symm
        exact N' p (h5 ▸ List.mem_cons_self)
      · exact N' p (List.mem_cons_of_mem _ h1)
    cases f with
    | ret v => exact .ret p
    | brk => exact .brk p
    | next => exact .next (fin p)
    | cont => exact .cont (fin p)
  · intro h' tk m' news' F' N' _ hJ
    exact done m' news' h' tk hJ F' N'
/-- for x in range(n) -/
theorem iter_range {r : Addr} {n : Nat} {t₀ u₀ v₀ : Tok} {m₀ : Str → Option Value} {news : List (Addr × Obj)} (J : Nat → (Str → Option Value) → List (Addr × Obj) → Prop)
    (hh : A.handled = none) (hr : IsRange s.heap r 0 n 1 t₀ u₀ v₀) (hn : n ≤ 100000) (F : Fr h₀ env.locals s.heap m₀) (N : News h₀ env.locals s.heap news) (hj : J 0 m₀ news)
    (turn : ∀ I i t m₁ news₁ h tk o, i < n → J i m₁ news₁ → (∀ p ∈ news₁, p.1 ≠ I) → Fr h₀ env.locals h (fun y => if y = x then some (.int i t) else m₁ y) → News h₀ env.locals h ((I, o) :: news₁) →
      wpAny (model prog w) A (execs body env) (TurnI h₀ env.locals I o (J (i + 1)) { s with heap := h, toks := tk } Q) E { s with heap := h, toks := tk })
    (done : ∀ m₁ news₁ h tk, J n m₁ news₁ → Fr h₀ env.locals h m₁ → News h₀ env.locals h news₁ → Q .next { s with heap := h, toks := tk }) :
    wpAny (model prog w) A (pyIter (.ref r)) (fun it s₂ => LoopAtV prog w A h₀ env x body Q E it s₂) E s := by
  have hs : Builtin.Range.rangeSize 0 (n : Int) 1 = (n : Int) := by
    rw [Builtin.Range.rangeSize, if_pos (by omega)]
    split <;> omega
  refine wpAny_pyIter_range hr ?_ ?_
  · unfold Builtin.Range.small
    rw [hs]
    have f : ∀ i : Int, 0 ≤ i → i ≤ 200000 → Builtin.Range.rangeFitsLong i = true := fun i h1 h2 => by
      unfold Builtin.Range.rangeFitsLong
      rw [Bool.and_eq_true, decide_eq_true_eq, decide_eq_true_eq]
      constructor <;> omega
    rw [f 0 (by omega) (by omega), f 1 (by omega) (by omega), f (n : Int) (by omega) (by omega), if_pos (by omega), f ((n : Int) + (1 - 1)) (by omega) (by omega)]
    simp
  refine iter_I J (Walks.range hh _ 0 1 n) (next_is_new F) (Nat.ne_of_lt F.ns.lt) (fun i h hs => ⟨_, hs⟩) (fun p hp => Nat.ne_of_lt (Heap.lt_size (N p hp).1)) (by show IsRangeIter _ _ _ _ _; rw [hs]; simpa using Heap.get?_push_size _ rfl) (F.push _) (fun p hp => ⟨Heap.get?_push_of_some _ (N p hp).1, (N p hp).2⟩) hj ?_ done
  rintro i v m₁ news₁ h tk o hi ⟨t, rfl⟩ hJ off F₁ N₁
  have e : (0 : Int) + (i : Int) * 1 = (i : Int) := by omega
  rw [e] at F₁
  exact turn _ i t m₁ news₁ h tk o hi hJ off F₁ N₁
/-- for x in a string -/
theorem iter_str {z : Str} {t : Tok} {m₀ : Str → Option Value} {news : List (Addr × Obj)} (J : Nat → (Str → Option Value) → List (Addr × Obj) → Prop)
    (hh : A.handled = none) (ha : z.cps.all (· < 128) = true) (F : Fr h₀ env.locals s.heap m₀) (N : News h₀ env.locals s.heap news) (hj : J 0 m₀ news)
    (turn : ∀ I i c u m₁ news₁ h tk o, z.cps[i]? = some c → J i m₁ news₁ → (∀ p ∈ news₁, p.1 ≠ I) → Fr h₀ env.locals h (fun y => if y = x then some (.str ⟨#[c]⟩ u) else m₁ y) → News h₀ env.locals h ((I, o) :: news₁) →
      wpAny (model prog w) A (execs body env) (TurnI h₀ env.locals I o (J (i + 1)) { s with heap := h, toks := tk } Q) E { s with heap := h, toks := tk })
    (done : ∀ m₁ news₁ h tk, J z.cps.size m₁ news₁ → Fr h₀ env.locals h m₁ → News h₀ env.locals h news₁ → Q .next { s with heap := h, toks := tk }) :
    wpAny (model prog w) A (pyIter (.str z t)) (fun it s₂ => LoopAtV prog w A h₀ env x body Q E it s₂) E s := by
  refine wpAny_pyIter_ascii ha ?_
  refine iter_I J (Walks.strAscii hh _ z t) (next_is_new F) (Nat.ne_of_lt F.ns.lt) (fun i h hs => let ⟨o, ho, _⟩ := hs; ⟨o, ho⟩) (fun p hp => Nat.ne_of_lt (Heap.lt_size (N p hp).1)) ⟨_, Heap.get?_push_size _ rfl, rfl, rfl⟩ (F.push _) (fun p hp => ⟨Heap.get?_push_of_some _ (N p hp).1, (N p hp).2⟩) hj ?_ done
  rintro i v m₁ news₁ h tk o hi ⟨c, u, hc, rfl⟩ hJ off F₁ N₁
  exact turn _ i c u m₁ news₁ h tk o hc hJ off F₁ N₁
end
section
variable {prog : Program} {w : World} {A : Around} {E : Value → Shared → Prop} {s : Shared} {env : Env} {h₀ : Heap} {target : Expr} {body : List Stmt} {Q : Flow → Shared → Prop}
/-- turns over a list of items, the ledger kept -/
theorem items_inv {ws : List (Addr × String)} {keep news : List (Addr × Obj)} (J : Nat → (Str → Option Value) → Prop) :
    ∀ (is : List Itm) (i : Nat) (m₀ : Str → Option Value), J i m₀ → SubL keep news →
    (∀ j a v m₁ h tk, is[j]? = some a → a.Is v h → J (i + j) m₁ → Fr h₀ env.locals h m₁ → AllObj ws fun its => News h₀ env.locals h (its ++ news) →
      wpAny (model prog w) A (assign target env v) (fun _ s₂ => wpAny (model prog w) A (execs body env) (UnrPostW h₀ env.locals { s with heap := h, toks := tk } its (fun m' n' => n' = news ∧ J (i + j + 1) m') Q) E s₂) E { s with heap := h, toks := tk }) →
    (∀ m₁ h tk, J (i + is.length) m₁ → Fr h₀ env.locals h m₁ → News h₀ env.locals h news → Q .next { s with heap := h, toks := tk }) →
    ItemsRest prog w A E h₀ env target body Q s ws keep is m₀ news
  | [], i, m₀, hj, _, _, done => ItemsRest.zero fun h tk F N => done m₀ h tk hj F N
  | a :: r, i, m₀, hj, hs, turn, done => by
    intro v h tk ha F
    have q := turn 0 a v m₀ h tk rfl ha hj F
    have more : ∀ m', J (i + 1) m' → ItemsRest prog w A E h₀ env target body Q s ws keep r m' news := fun m' hj' =>
      items_inv J r (i + 1) m' hj' hs (fun j a v m₁ h tk e1 e2 e3 e4 => by
        have z := turn (j + 1) a v m₁ h tk (by simpa using e1) e2 (by rw [show i + (j + 1) = i + 1 + j by omega]; exact e3) e4
        rw [show i + (j + 1) = i + 1 + j by omega] at z
        exact z) fun m₁ h tk e1 e2 e3 => done m₁ h tk (by rw [List.length_cons, show i + (r.length + 1) = i + 1 + r.length by omega]; exact e1) e2 e3
    refine allObj_mono (fun its z N => ?_) q
    refine wpAny_mono (z N) (fun _ s₂ z₂ => wpAny_mono z₂ (fun f s₃ p => ?_) fun _ _ e => e) fun _ _ e => e
    have fin : UnrEndW h₀ env.locals { s with heap := h, toks := tk } its (fun m' n' => n' = news ∧ J (i + 0 + 1) m') s₃ →
        UnrEndW h₀ env.locals { s with heap := h, toks := tk } its (fun m' n' => SubL keep n' ∧ ItemsRest prog w A E h₀ env target body Q s ws keep r m' n') s₃ := by
      rintro ⟨h', tk', m', n', e, F', N', off, rfl, hj'⟩
      exact ⟨h', tk', m', _, e, F', N', off, hs, more m' hj'⟩
    cases f with
    | ret v => exact p
    | brk => exact p
    | next => exact fin p
    | cont => exact fin p
where
  allObj_mono : ∀ {ws : List (Addr × String)} {k k' : List (Addr × Obj) → Prop}, (∀ its, k its → k' its) → AllObj ws k → AllObj ws k'
  | [], _, _, hk, h => hk _ h
  | _ :: _, _, _, hk, h => fun o ho => allObj_mono (fun its => hk _) (h o ho)
end
theorem off_hd {news : List (Addr × Obj)} {I : Addr} {o : Obj} (l : ∀ p ∈ news, p.1 < I) : ∀ p ∈ news, ∀ q ∈ [(I, o)], p.1 ≠ q.1 := fun p hp q hq => by
  rw [List.mem_singleton.mp hq]
  exact Nat.ne_of_lt (l p hp)
theorem countP_succ {α : Type} {l : List α} {j : Nat} {r : α} {f : α → Bool} (h : l[j]? = some r) : (l.take (j + 1)).countP f = (l.take j).countP f + if f r = true then 1 else 0 := by
  rw [List.take_add_one, h, List.countP_append]
  simp [List.countP_cons]
end PartLoops
section PartToks
/-- behind a tree that is shown right, its tokens are no fewer -/
theorem wpAny_toksQ {α : Type} {M : Model} {A : Around} {t : Sem α} {Q : α → Shared → Prop} {E : Value → Shared → Prop} {s : Shared} (h : wpAny M A t (fun a s' => s.toks ≤ s'.toks → Q a s') E s) : wpAny M A t Q E s :=
  wpAny_with_toks (Nat.le_refl _) (wpAny_mono h (fun _ _ x => x) fun _ _ e _ => e)
section
variable {M : Model} {A : Around} {E : Value → Shared → Prop} {s : Shared} {env : Env} {h₀ h h' : Heap} {L : Addr} {m : Str → Option Value} {news : List (Addr × Obj)}
/-- a ledger stays where no address of it is touched -/
theorem led_but {as : List Addr} (F : Fr h₀ L h m) (N : News h₀ L h news) (own : ∀ a ∈ as, a ≠ L ∧ h₀.get? a = none) (off : ∀ p ∈ news, p.1 ∉ as) (hk : ∀ b o, b ∉ as → h.get? b = some o → h'.get? b = some o) : Fr h₀ L h' m ∧ News h₀ L h' news :=
  ⟨⟨F.ns.at' fun o => hk L o fun q => (own L q).1 rfl, fun b o e => hk b o (fun q => nomatch (own b q).2.symm.trans e) (F.keep b o e), F.above⟩, fun p hp => ⟨hk _ _ (off p hp) (N p hp).1, (N p hp).2⟩⟩
/-- a local name is bound, the tokens told -/
theorem store_t {x : Str} {v : Value} {Q : Unit → Shared → Prop} (F : Fr h₀ L s.heap m) (N : News h₀ L s.heap news) (hL : env.locals = L) (hl : env.kindOf x = some .local)
    (hp : (env.scope.kind == .class || (env.scope.kind == .module && env.locals != env.globals)) = false)
    (h : ∀ h', Fr h₀ L h' (fun y => if y = x then some v else m y) → News h₀ L h' news → Q () { s with heap := h', toks := s.toks + 1 }) : wpAny M A (storeName env x v) Q E s := by
  subst hL
  exact wpAny_storeName_local hl F.ns (fun g n but => h g (F.set n but) fun p hp => ⟨but.extBut _ _ (N p hp).2.1 (N p hp).1, (N p hp).2⟩) hp
end
end PartToks
theorem noneBooked {P : Params} {h : Heap} {p : Program} {loose : List Str} {mean : ExcName → Option Value} {mg mb : Str → Option Value} (X : (hd.heap_39 P).In h) (T : Top p loose mean mg mb h) : NoneBooked h := by
  obtain ⟨mc, hn, _⟩ := T.nolimit
  exact ⟨mc, hn, ns_none_of X hn (by rfl)⟩
theorem NoneBooked.keeps {h h' : Heap} (x : NoneBooked h) (hk : ∀ b o, h.get? b = some o → h'.get? b = some o) : NoneBooked h' :=
  let ⟨mc, a, b⟩ := x; ⟨mc, a.keeps hk, b⟩
theorem is_str {M : Model} {A : Around} {E : Value → Shared → Prop} {s : Shared} {y z : Str} {u v : Tok} {Q : Value → Shared → Prop} (h0 : u ≠ 0) (h1 : v ≠ 0) (he : u = v → y = z) (hb : NoneBooked s.heap) (hq : ∀ b : Bool, (b = true → y = z) → Q (.bool b) s) :
    wpAny M A (compareOp .Is (.str y u) (.str z v)) Q E s := by
  unfold compareOp
  refine wpAny_bind ?_
  show wpAny M A (isSame.created (y == z) u v) _ E s
  unfold isSame.created
  refine wpAny_ite ?_
  split
  · rename_i h
    rcases Bool.or_eq_true_iff.mp h with h | h
    · exact absurd (by simpa using h) h0
    · exact absurd (by simpa using h) h1
  refine wpAny_ite ?_
  split
  · rename_i h
    exact wpAny_pure (wpAny_pure (hq true fun _ => he (by simpa using h)))
  refine wpAny_ite ?_
  split
  · exact wpAny_pure (wpAny_pure (hq false fun h => by cases h))
  rename_i hyz
  have hyz' : y = z := by simpa using hyz
  refine wpAny_bind (wpAny_sharingNotTold_none hb ?_)
  simp only [Bool.false_eq_true, if_false]
  refine wpAny_bind (wpAny_sharingNotTold_none hb ?_)
  simp only [Bool.false_eq_true, if_false]
  exact wpAny_bind (wpAny_rule (wpAny_bind (wpAny_askSetting (wpAny_pure (wpAny_pure (hq _ fun _ => hyz'))))))
section PartCount
theorem lt_str_inj {x y : Lt} (h : x.str = y.str) : x = y := by revert h; cases x <;> cases y <;> decide
theorem lt_str_ne {x y : Lt} (h : (x.str == y.str) = false) : x ≠ y := fun e => by
  rw [e, beq_self_eq_true] at h
  cases h
theorem cnt_yes {rs : List Rw} {j : Nat} {r : Rw} {l : Lt} {t t₁ : Tok} {u v : Option Value} {M : Str → Option Value} (hr : rs[j]? = some r) (e : r.l = l) :
    (fun y : Str => if y = "count" then some (Value.int (((rs.take (0 + j)).countP fun r => decide (r.l = l) : Nat) + 1 : Int) t) else if y = "i" then v else if y = "i" then u else if y = "count" then some (Value.int (((rs.take (0 + j)).countP fun r => decide (r.l = l) : Nat) : Int) t₁) else M y) =
    fun y : Str => if y = "i" then v else if y = "count" then some (Value.int (((rs.take (0 + j + 1)).countP fun r => decide (r.l = l) : Nat) : Int) t) else M y := by
  funext y
  have c : (if decide (r.l = l) = true then 1 else 0) = 1 := if_pos (by simpa using e)
  rw [Nat.zero_add, countP_succ hr, c]
  by_cases h1 : y = "i"
  · subst h1
    rfl
  · by_cases h2 : y = "count"
    · subst h2
      rfl
    · simp [h1, h2]
theorem cnt_no {rs : List Rw} {j : Nat} {r : Rw} {l : Lt} {t₁ : Tok} {u v : Option Value} {M : Str → Option Value} (hr : rs[j]? = some r) (e : r.l ≠ l) :
    (fun y : Str => if y = "i" then v else if y = "i" then u else if y = "count" then some (Value.int (((rs.take (0 + j)).countP fun r => decide (r.l = l) : Nat) : Int) t₁) else M y) =
    fun y : Str => if y = "i" then v else if y = "count" then some (Value.int (((rs.take (0 + j + 1)).countP fun r => decide (r.l = l) : Nat) : Int) t₁) else M y := by
  funext y
  have c : (if decide (r.l = l) = true then 1 else 0) = 0 := if_neg (by simpa using e)
  rw [Nat.zero_add, countP_succ hr, c, Nat.add_zero]
  by_cases h1 : y = "i"
  · subst h1
    rfl
  · by_cases h2 : y = "count"
    · subst h2
      rfl
    · simp [h1, h2]
/-- the letters' tokens: none is nought, and a like token tells a like letter -/
structure TokOk (rs : List Rw) (l : Lt) (t : Tok) : Prop where
  ne : t ≠ 0
  row : ∀ r ∈ rs, r.t ≠ 0
  same : ∀ r ∈ rs, r.t = t → r.l.str = l.str
section
variable {n₀ : Nat} {w : World} {A₀ A : Around} {base h₀ : Heap} {env : Env} {outer : List Env} {L : Addr} {m : Str → Option Value} {mg mb : Str → Option Value} {mean : ExcName → Option Value} {loose : List Str} {p : Program} {s : Shared}
    {Q : Value → Shared → Prop} {E : Value → Shared → Prop} {R tb dtb D : Addr} {th : Tok} {n k : Nat} {rs : List Rw} {rest : List (Addr × Obj)}
theorem add_c {x y : Int} {t u : Tok} (C : Cx n₀ w A₀ A base h₀ env outer L m mg mb mean loose p s.heap) (hn₀ : n₀ ≤ 800)
    (N : News h₀ L s.heap rest) (hx : -10000 ≤ x ∧ x ≤ 10000) (hy : -10000 ≤ y ∧ y ≤ 10000)
    (h : ∀ h' tk u, Fr h₀ L h' m → News h₀ L h' rest → Q (.int (x + y) u) { s with heap := h', toks := tk }) :
    wpAny (model PySem.Challenge.rw_to0065_01.row.prog w) A (call (.ref 87) [.int x t, .int y u]) Q E s := by
  walk_at "cx_fill"
  w_strict (
    refine wpAny_call ?_
    refine' Cx.code (binds := [("a", .int x t), ("b", .int y u)]) (by assumption) (by assumption) ?k6 ?k7 (by walk_at "om") ?k9 ?kB ?_ ?c2 ?c3 ?c4 ?c5
    case k6 => k_is
    case k7 => k_is
    case k9 => first | exact binds_K (by k_in) rfl (by k_is) rfl rfl rfl | exact BindsTo.of_eq (by kernel_rfl)
    case c5 => decide
    case kB => exact locs rfl
    case c2 => exact rfl
    case c3 => exact rfl
    case c4 => exact rfl
    k_whole
    intro g' L' h' tk' FG' N' C'
    have F' := Cx.F C'
    have B' := Cx.B C'
    have X' := Cx.X C'
    have T' := Cx.T C'
    (try dsimp only)
    (try k_lift B')
    (try k_fold)
    k_steps
    exact h _ _ _ (by assumption) (by walk_at "k_ledger"))
theorem sub_c {x y : Int} {t u : Tok} (C : Cx n₀ w A₀ A base h₀ env outer L m mg mb mean loose p s.heap) (hn₀ : n₀ ≤ 800)
    (N : News h₀ L s.heap rest) (hx : -10000 ≤ x ∧ x ≤ 10000) (hy : -10000 ≤ y ∧ y ≤ 10000)
    (h : ∀ h' tk u, Fr h₀ L h' m → News h₀ L h' rest → Q (.int (x - y) u) { s with heap := h', toks := tk }) :
    wpAny (model PySem.Challenge.rw_to0065_01.row.prog w) A (call (.ref 101) [.int x t, .int y u]) Q E s := by
  walk_at "cx_fill"
  w_strict (
    refine wpAny_call ?_
    refine' Cx.code (binds := [("a", .int x t), ("b", .int y u)]) (by assumption) (by assumption) ?k6 ?k7 (by walk_at "om") ?k9 ?kB ?_ ?c2 ?c3 ?c4 ?c5
    case k6 => k_is
    case k7 => k_is
    case k9 => first | exact binds_K (by k_in) rfl (by k_is) rfl rfl rfl | exact BindsTo.of_eq (by kernel_rfl)
    case c5 => decide
    case kB => exact locs rfl
    case c2 => exact rfl
    case c3 => exact rfl
    case c4 => exact rfl
    k_whole
    intro g' L' h' tk' FG' N' C'
    have F' := Cx.F C'
    have B' := Cx.B C'
    have X' := Cx.X C'
    have T' := Cx.T C'
    (try dsimp only)
    (try k_lift B')
    (try k_fold)
    k_steps
    exact h _ _ _ (by assumption) (by walk_at "k_ledger"))
theorem countOf_c {l : Lt} {t : Tok} (C : Cx n₀ w A₀ A base h₀ env outer L m mg mb mean loose p s.heap) (hn₀ : n₀ ≤ 800)
    (N : News h₀ L s.heap ((D, listOf (keyV rs).toArray k) :: rest)) (hz : rs.length ≤ 1000) (ht : TokOk rs l t)
    (h : ∀ h' tk u, Fr h₀ L h' m → News h₀ L h' ((D, listOf (keyV rs).toArray k) :: rest) → Q (.int (rs.countP fun r => decide (r.l = l)) u) { s with heap := h', toks := tk }) :
    wpAny (model PySem.Challenge.rw_to0065_01.row.prog w) A (call (.ref 115) [.ref D, .str l.str t]) Q E s := by
  walk_at "cx_fill"
  w_strict (
    refine wpAny_call ?_
    refine' Cx.code (binds := [("a", .ref D), ("b", .str l.str t)]) (by assumption) (by assumption) ?k6 ?k7 (by walk_at "om") ?k9 ?kB ?_ ?c2 ?c3 ?c4 ?c5
    case k6 => k_is
    case k7 => k_is
    case k9 => first | exact binds_K (by k_in) rfl (by k_is) rfl rfl rfl | exact BindsTo.of_eq (by kernel_rfl)
    case c5 => decide
    case kB => exact locs rfl
    case c2 => exact rfl
    case c3 => exact rfl
    case c4 => exact rfl
    k_whole
    intro g' L' h' tk' FG' N' C'
    have F' := Cx.F C'
    have B' := Cx.B C'
    have X' := Cx.X C'
    have T' := Cx.T C'
    (try dsimp only)
    (try k_lift B')
    (try k_fold)
    iterate 5 (walk_at "go1")
    rename Fr _ _ _ _ => lF'
    with_unfolding_all refine' For_turns lF' ?_
    k_whole
    walk_at "go1"
    refine iter_listTurns (lo := listOf (keyV rs).toArray k) (Cx.hh (by assumption)) (by assumption) (by assumption) (by k_mem) rfl rfl ?_
    intro I l1
    refine items_inv (fun i m₁ => ∃ u t₁, m₁ = (fun y : Str => if y = "i" then u else if y = "count" then some (.int (((rs.take i).countP fun r => decide (r.l = l) : Nat) : Int) t₁) else List.lookup y (List.reverse (α := Str × Value) [("a", Value.ref D), ("b", Value.str l.str t)]))) _ 0 _ ?_ (by k_subL) ?_ ?_
    · refine ⟨none, ?tt, ?ee⟩
      case ee =>
        funext y
        by_cases h1 : y = "i"
        · subst h1
          rfl
        · by_cases h2 : y = "count"
          · subst h2
            exact rfl
          · simp [h1, h2]
    · rintro j a v m₁ h₂ tk₂ ha hv ⟨u, t₁, rfl⟩ F₂
      obtain ⟨r, hr, rfl⟩ : ∃ r, rs[j]? = some r ∧ v = .str r.l.str r.t := by
        have h1 : ((keyV rs).map Itm.val)[j]? = some a := ha
        rw [List.getElem?_map, List.getElem?_map] at h1
        cases e : rs[j]? with
        | none => rw [e] at h1; cases h1
        | some r => rw [e] at h1; cases h1; exact ⟨r, rfl, hv⟩
      have hrm : r ∈ rs := List.mem_of_getElem? hr
      have z1 := ht.ne
      have z2 := ht.row r hrm
      have z3 := ht.same r hrm
      have nb := noneBooked (Cx.X (by assumption)) (Cx.T (by assumption))
      ktu_objs
      iterate 9 (walk_at "go1")
      refine' is_str ?zq1 ?zq2 ?zq3 ?zq4 ?_
      case zq1 => assumption
      case zq2 => assumption
      case zq3 => assumption
      case zq4 => exact NoneBooked.keeps (by assumption) (Fr.keep (by k_asm))
      intro bb hbb
      k_steps
      · exact ⟨_, _, _, _, rfl, by assumption, by assumption, off_hd l1, rfl, _, _, cnt_yes hr (lt_str_inj (‹_ → r.l.str = l.str› (by assumption)))⟩
      · exact ⟨_, _, _, _, rfl, by assumption, by assumption, off_hd l1, rfl, _, _, cnt_yes hr (lt_str_inj (eq_of_beq (by assumption)))⟩
      · exact ⟨_, _, _, _, rfl, by assumption, by assumption, off_hd l1, rfl, _, _, cnt_no hr (lt_str_ne (by assumption))⟩
    · rintro m₁ h₂ tk₂ ⟨u, t₁, rfl⟩ F₂ N₂
      have e : (rs.take (0 + ((keyV rs).map Itm.val).length)) = rs := by
        rw [Nat.zero_add, List.length_map, List.length_map, List.take_length]
      rw [e] at F₂
      k_steps
      exact h _ _ _ (by assumption) (by walk_at "k_ledger"))
end
end PartCount
section PartForElse
section
variable {prog : Program} {w : World} {A : Around} {E : Value → Shared → Prop} {s : Shared} {env : Env} {h₀ : Heap} {target : Expr} {body orelse : List Stmt} {Q : Flow → Shared → Prop}
/-- only a return leaves the loop -/
noncomputable def RetOnly (Q : Flow → Shared → Prop) : Flow → Shared → Prop
  | .ret v, s => Q (.ret v) s
  | _, _ => False
/-- what holds ahead of each turn -/
inductive RetInv (h₀ : Heap) (L : Addr) (wr : List Addr) (St : Nat → Heap → Prop) (J : Nat → (Str → Option Value) → List (Addr × Obj) → Prop) (n : Nat) (g : Array GenState) (d : Drawn) (o : OsState) : Nat → Shared → Prop
  | mk (h : Heap) (tk : Nat) (m : Str → Option Value) (news : List (Addr × Obj)) (i : Nat) (hst : St i h) (F : Fr h₀ L h m) (N : News h₀ L h news) (ha : ∀ p ∈ news, p.1 ∉ wr) (hJ : J i m news) (hi : i ≤ n) : RetInv h₀ L wr St J n g d o (n + 1 - i) ⟨h, g, d, tk, o⟩
/-- behind a turn that goes on, the next one's ground -/
theorem ret_more {fp wr : List Addr} {n i tk₁ : Nat} {P Md : Nat → Value → Heap → Prop} {St : Nat → Heap → Prop} {J : Nat → (Str → Option Value) → List (Addr × Obj) → Prop} {I : Addr} {m₁ : Str → Option Value} {g₁ : Heap} {s₁ s₂ : Shared} (W : KTurns prog w A target I fp wr n P Md St) (lt : i < n)
    (st : St (i + 1) g₁) (F : Fr h₀ env.locals g₁ m₁) : LoopStepU h₀ env.locals wr (PyProof.Rows.ownOf h₀ fp g₁) (J (i + 1)) { s₁ with heap := g₁, toks := tk₁ } .next s₂ → ∃ k, k < n + 1 - i ∧ RetInv h₀ env.locals wr St J n s₁.gens s₁.drawn s₁.os k s₂ := by
  rintro ⟨-, g, tk, m₂, nx, rfl, F₂, N₂, off, hJ⟩
  refine ⟨n + 1 - (i + 1), Nat.sub_lt_sub_left (Nat.lt_succ_of_lt lt) (Nat.lt_succ_self i), .mk g tk m₂ nx (i + 1) (W.frame _ _ _ st fun b hb o e => ?_) F₂ N₂.right off hJ lt⟩
  rcases Option.eq_none_or_eq_some (h₀.get? b) with z | ⟨q, z⟩
  · exact (N₂ (b, o) (List.mem_append_left _ (mem_ownOf hb z e))).1
  · obtain rfl : q = o := Option.some.inj ((F.keep b q z).symm.trans e)
    exact F₂.keep b q z
theorem For_ret {iter : Expr} {pos : Pos} {m : Str → Option Value} (_F : Fr h₀ env.locals s.heap m)
    (h : wpAny (model prog w) A (eval iter env) (fun xv s₁ => wpAny (model prog w) A (pyIter xv) (fun it s₂ => TurnsAt prog w A h₀ env target body (RetOnly Q) E it s₂) E s₁) E s)
    (hs : ∀ x, foldedSetIterable iter env x = pure x := by intro _; rfl)
    (hE : PassesOwn (model prog w) A env E := by passes_own) :
    wpAny (model prog w) A (exec (.For target iter body orelse pos) env) Q E s := by
  refine wpAny_For (wpAny_mono h (fun xv s₁ h₁ => wpAny_mono h₁ (fun it s₂ src => ?_) fun _ _ e => e) fun _ _ e => e) hs
  obtain ⟨I, fp, wr, n, P, Md, St, m, news, J, rfl, W, nL, nw, off₀, st₀, F₀, N₀, j₀, step, last⟩ := src
  have own : ∀ a ∈ wr, a ≠ env.locals ∧ h₀.get? a = none := fun a ha => ⟨fun e => nL (W.sub _ (e ▸ ha)), nw a ha⟩
  refine codeAny_forLoop_any (RetInv h₀ env.locals wr St J n s₂.gens s₂.drawn s₂.os) ?_ (n + 1) (.mk s₂.heap s₂.toks m news 0 st₀ F₀ N₀ off₀ j₀ (Nat.zero_le n))
  rintro _ _ ⟨g, tk, m₁, nx, i, st, F, N, off, hJ, hi⟩
  rcases Nat.lt_or_eq_of_le hi with lt | rfl
  · refine W.item i _ _ _ lt st fun v g₁ tk₁ mid k₁ => W.go i v _ _ _ mid fun g₂ hP st₂ k₂ => ?_
    obtain ⟨F₂, N₂⟩ := led_but F N own off fun b o q e => k₂ b o q (k₁ b o q e)
    have mine : News h₀ env.locals g₂ (PyProof.Rows.ownOf h₀ fp g₂) := news_ownOf nL
    refine wpAny_mono (step i v m₁ nx g₂ tk₁ _ lt hP hJ off ownOf_sub (fun p hp => (mine p hp).1) (fun _ a b _ c => mem_ownOf a b c) st₂ F₂ (mine.append N₂)) (fun _ _ q => wpAny_mono q (fun f _ r => ?_) fun _ _ => hE _ _) fun _ _ => hE _ _
    match f, r with
    | .ret _, r => exact r
    | .next, r => exact ret_more W lt st₂ F₂ r
    | .cont, r => exact ret_more W lt st₂ F₂ r
  · refine W.done _ _ _ st fun g₁ tk₁ k₁ => ?_
    obtain ⟨F₁, N₁⟩ := led_but F N own off k₁
    cases last g₁ tk₁ m₁ nx F₁ N₁ off hJ
end
end PartForElse
section PartIndex
theorem itm_key {rs : List Rw} {j : Nat} {a : Itm} (ha : (enumItems 0 (keyV rs))[j]? = some a) : ∃ r, rs[j]? = some r ∧ a = .pair (fun t => .int (j : Int) t) (.str r.l.str r.t) := by
  cases e : rs[j]? with
  | none =>
    have h1 : (enumItems 0 (keyV rs)).length ≤ j := by
      rw [enumItems_length, List.length_map]
      exact List.getElem?_eq_none_iff.mp e
    rw [List.getElem?_eq_none h1] at ha
    cases ha
  | some r =>
    have h1 : (keyV rs)[j]? = some (.str r.l.str r.t) := by
      show (rs.map _)[j]? = _
      rw [List.getElem?_map, e]
      rfl
    have h2 := enumItems_get (keyV rs) 0 j h1
    rw [ha] at h2
    refine ⟨r, rfl, ?_⟩
    rw [Option.some.inj h2, Nat.zero_add]
theorem idx_at {rs : List Rw} {q j : Nat} {rq r : Rw} {l : Lt} (hq : rs[q]? = some rq) (hl : rq.l = l) (hb : ∀ j r, j < q → rs[j]? = some r → r.l ≠ l) (hr : rs[j]? = some r) (hj : 0 + j ≤ q) (e : r.l = l) : j = q := by
  rcases Nat.lt_or_ge j q with h | h
  · exact absurd e (hb j r h hr)
  · omega
theorem idx_lt {rs : List Rw} {q j : Nat} {rq r : Rw} {l : Lt} (hq : rs[q]? = some rq) (hl : rq.l = l) (hr : rs[j]? = some r) (hj : 0 + j ≤ q) (e : r.l ≠ l) : 0 + j + 1 ≤ q := by
  rcases Nat.lt_or_ge j q with h | h
  · omega
  · obtain rfl : j = q := by omega
    rw [hr] at hq
    rw [← Option.some.inj hq] at hl
    exact absurd hl e
theorem idx_env {a b : Value} {u v : Option Value} {M : Str → Option Value} :
    (fun y : Str => if y = "j" then some b else if y = "i" then some a else if y = "i" then u else if y = "j" then v else M y) = fun y : Str => if y = "i" then some a else if y = "j" then some b else M y := by
  funext y
  by_cases h1 : y = "i"
  · subst h1
    rfl
  · by_cases h2 : y = "j"
    · subst h2
      rfl
    · simp [h1, h2]
theorem off_hd2 {news : List (Addr × Obj)} {I : Addr} {o o' : Obj} (l : ∀ p ∈ news, p.1 < I) : ∀ p ∈ news, ∀ q ∈ [((I + 1 : Nat), o), (I, o')], p.1 ≠ q.1 := fun p hp q hq => by
  have := l p hp
  rcases List.mem_cons.mp hq with rfl | hq
  · exact Nat.ne_of_lt (Nat.lt_succ_of_lt this)
  · rw [List.mem_singleton.mp hq]
    exact Nat.ne_of_lt this
section
variable {n₀ : Nat} {w : World} {A₀ A : Around} {base h₀ : Heap} {env : Env} {outer : List Env} {L : Addr} {m : Str → Option Value} {mg mb : Str → Option Value} {mean : ExcName → Option Value} {loose : List Str} {p : Program} {s : Shared}
    {Q : Value → Shared → Prop} {E : Value → Shared → Prop} {R tb dtb D : Addr} {th : Tok} {n k : Nat} {rs : List Rw} {rest : List (Addr × Obj)}
theorem indexOf_c {l : Lt} {t : Tok} {q : Nat} {rq : Rw} (C : Cx n₀ w A₀ A base h₀ env outer L m mg mb mean loose p s.heap) (hn₀ : n₀ ≤ 800)
    (N : News h₀ L s.heap ((D, listOf (keyV rs).toArray k) :: rest)) (hz : rs.length ≤ 1000) (ht : TokOk rs l t)
    (hq : rs[q]? = some rq) (hl : rq.l = l) (hb : ∀ j r, j < q → rs[j]? = some r → r.l ≠ l)
    (h : ∀ h' tk u, Fr h₀ L h' m → News h₀ L h' ((D, listOf (keyV rs).toArray k) :: rest) → Q (.int q u) { s with heap := h', toks := tk }) :
    wpAny (model PySem.Challenge.rw_to0065_01.row.prog w) A (call (.ref 129) [.ref D, .str l.str t]) Q E s := by
  walk_at "cx_fill"
  w_strict (
    refine wpAny_call ?_
    refine' Cx.code (binds := [("a", .ref D), ("b", .str l.str t)]) (by assumption) (by assumption) ?k6 ?k7 (by walk_at "om") ?k9 ?kB ?_ ?c2 ?c3 ?c4 ?c5
    case k6 => k_is
    case k7 => k_is
    case k9 => first | exact binds_K (by k_in) rfl (by k_is) rfl rfl rfl | exact BindsTo.of_eq (by kernel_rfl)
    case c5 => decide
    case kB => exact locs rfl
    case c2 => exact rfl
    case c3 => exact rfl
    case c4 => exact rfl
    k_whole
    intro g' L' h' tk' FG' N' C'
    have F' := Cx.F C'
    have B' := Cx.B C'
    have X' := Cx.X C'
    have T' := Cx.T C'
    (try dsimp only)
    (try k_lift B')
    (try k_fold)
    walk_at "go1"
    rename Fr _ _ _ _ => lF'
    with_unfolding_all refine' For_ret lF' ?_
    k_whole
    iterate 6 (walk_at "go1")
    k_dflt (refine' ktu_enum ?zq1 ?zq2 ?zq3 ?zq4 ?zq5 ?zq6 ?zq7 ?_)
    case zq1 => exact Cx.hh (by assumption)
    case zq2 => k_asm
    case zq3 => k_asm
    case zq4 => exact List.mem_cons_self
    case zq5 => rfl
    case zq6 => exact rfl
    case zq7 => rfl
    intro I l1
    refine items_inv (fun i m₁ => i ≤ q ∧ ∃ u v, m₁ = (fun y : Str => if y = "i" then u else if y = "j" then v else List.lookup y (List.reverse (α := Str × Value) [("a", Value.ref D), ("b", Value.str l.str t)]))) _ 0 _ ?_ (by k_subL) ?_ ?_
    · refine ⟨Nat.zero_le _, none, none, funext fun y => ?_⟩
      by_cases h1 : y = "i"
      · subst h1
        rfl
      · by_cases h2 : y = "j"
        · subst h2
          rfl
        · simp [h1, h2]
    · rintro j a v m₁ h₂ tk₂ ha hv ⟨hjq, u, v₁, rfl⟩ F₂
      obtain ⟨r, hr, rfl⟩ := itm_key ha
      have hrm : r ∈ rs := List.mem_of_getElem? hr
      have z1 := ht.ne
      have z2 := ht.row r hrm
      have z3 := ht.same r hrm
      have nb := noneBooked (Cx.X (by assumption)) (Cx.T (by assumption))
      obtain ⟨T, t', rfl, hT⟩ := hv
      dsimp only at hT
      ktu_objs
      iterate 15 (walk_at "go1")
      refine' is_str ?zq1 ?zq2 ?zq3 ?zq4 ?_
      case zq1 => assumption
      case zq2 => assumption
      case zq3 => assumption
      case zq4 => exact NoneBooked.keeps (by assumption) (Fr.keep (by k_asm))
      intro bb hbb
      k_steps
      · obtain rfl : j = q := idx_at hq hl hb hr hjq (lt_str_inj (‹_ → r.l.str = l.str› (by assumption)))
        dsimp only [RetOnly]
        k_steps
        exact h _ _ _ (by assumption) (by walk_at "k_ledger")
      · obtain rfl : j = q := idx_at hq hl hb hr hjq (lt_str_inj (eq_of_beq (by assumption)))
        dsimp only [RetOnly]
        k_steps
        exact h _ _ _ (by assumption) (by walk_at "k_ledger")
      · exact ⟨_, _, _, _, rfl, by assumption, by assumption, off_hd2 (by assumption), rfl, idx_lt hq hl hr hjq (lt_str_ne (by assumption)), _, _, idx_env⟩
    · rintro m₁ h₂ tk₂ ⟨hjq, _⟩
      exact absurd hjq (by rw [enumItems_length, List.length_map]; exact Nat.not_le.mpr (by have := (List.getElem?_eq_some_iff.mp hq).1; omega)))
end
end PartIndex
section PartAddH
section
variable {n : Nat} {w : World} {A₀ A : Around} {base h₀ : Heap} {env : Env} {outer : List Env} {L : Addr} {m mg mb : Str → Option Value} {mean : ExcName → Option Value} {loose : List Str} {p : Program} {h : Heap} {s : Shared}
/-- entering a function with **more, none more given -/
theorem Cx.codeM {R : Result → Shared → Prop} {news : List (Addr × Obj)} {name qual : Str} {params : Arguments} {body : List Stmt} {scope : Scope} {dV kV doc pm cdv ct oc : Value} {an od : Option Addr} {osl : Array (Option Value)} {f : Addr} {args : Args} {nm : Str} {front : List (Str × Value)} {g₁ : Addr → Sem (List (Str × Value))}
    (C : Cx n w A₀ A base h₀ env outer L m mg mb mean loose p s.heap) (N : News h₀ L s.heap news)
    (ho : (hd.heap_39 w.params).lookup f = some ⟨oc, od, .func (fnOf name qual params body scope dV kV doc pm an cdv ct), osl⟩) (hcd : codeIn (hd.heap_39 w.params) cdv qual = true) (hn : n ≤ 900)
    (hx : args.kw.filter (fun x => !ownKw params x.1) = []) (hnm : params.kwarg.map (·.arg) = some nm)
    (hfr : peek (hd.heap_39 w.params) ⟨PySem.Challenge.rw_to0065_01.row.prog, w.params⟩ (bindArgs (fnCut (fnOf name qual params body scope dV kV doc pm an cdv ct)) (argsCut params args)) = some front)
    (hp : peekA (hd.heap_39 w.params) ⟨PySem.Challenge.rw_to0065_01.row.prog, w.params⟩ (bindArgs (fnOf name qual params body scope dV kV doc pm an cdv ct) args) = some (dictOf [] 0, g₁))
    (hk₁ : ∀ D, g₁ D = (forIn ([] : List (Str × Value)) PUnit.unit (fun x _ => (nsSet D x.1 x.2 >>= fun _ => pure (ForInStep.yield PUnit.unit))) >>= fun _ => pure (front ++ [(nm, Value.ref D)])))
    (hloc : ∀ D, ∀ y ∈ front ++ [(nm, Value.ref D)], scope.names.lookup y.1 = some .local)
    (k : ∀ D o g L' h₁ tk, (∀ p ∈ news, p.1 < D) → (D == sysModules) = false → PyProof.V.FlatPairs PyData.str ([] : List (Str × Value)) [] → o.IsDictOf (strKind PySem.Challenge.rw_to0065_01.row.prog w) ([] : List (Str × Value)) → Fr h₀ L g m → News g L' h₁ ((D, o) :: news) → Cx (n + 3) w A (A.deeper (envOf qual scope L' f cdv)) base g (envOf qual scope L' f cdv) (env :: outer) L' (fun y => (front ++ [(nm, Value.ref D)]).reverse.lookup y) mg mb mean loose p h₁ →
      wpAny (model PySem.Challenge.rw_to0065_01.row.prog w) (A.deeper (envOf qual scope L' f cdv)) (execs body (envOf qual scope L' f cdv))
        (fun fl s' => LeaveK h₀ L m g R (match fl with | .ret v => v | _ => .none) s')
        (fun e s' => wpAny (model PySem.Challenge.rw_to0065_01.row.prog w) (A.deeper (envOf qual scope L' f cdv)) (leaving (envOf qual scope L' f cdv) e) (fun _ s'' => R (.error e) s'') (fun e' s'' => R (.error e') s'') s')
        { s with heap := h₁, toks := tk })
    (hco : scope.isCoroutine = false) (hgen : scope.isGenerator = false) (hk : scope.kind = .function)
    (hcell : ∀ x ∈ scope.names, x.2 ≠ .cell) : codeAny (model PySem.Challenge.rw_to0065_01.row.prog w) A (.call (.ref f) args) R s :=
  kp_more C.B C.F C.X N C.T C.hA C.hf C.hke ho hcd (Nat.lt_trans C.hd (by show n < 1000; omega)) hx hnm (by rfl) PyProof.V.FlatPairs.nil hfr hp hk₁ hloc
    (fun D o g L' h₁ tk lo lo' hs fs FG F' N' B' X' T' => k D o g L' h₁ tk lo lo' fs hs FG N' ⟨B', F', X', T', Around.frames_deeper (Below.stack B'), rfl, hk, by show A.depth + 1 < n + 3; have := C.hd; omega, by show A.units + 3 < n + 3; have := C.hu; omega, C.hh⟩) hco hgen hk hcell
end
theorem join_one {prog : Program} {w : World} {A : Around} {E : Value → Shared → Prop} {s : Shared} {Q : Value → Shared → Prop} {h₀ : Heap} {L D : Addr} {news : List (Addr × Obj)} {x y : Str} {t u : Tok} {k : Nat} (N : News h₀ L s.heap news) (hm : (D, listOf #[.str y u] k) ∈ news) (hy : y.length ≤ 1000) (hx : x.length ≤ 10)
    (h : ∀ t' k, Q (.str y t') { s with toks := k }) : wpAny (model prog w) A (call (.builtin "str.join") [.str x t, .ref D]) Q E s := by
  refine join_list (ys := [y]) ⟨_, (N _ hm).1, rfl, k, rfl⟩ (StrsAre.cons _ _ .nil) ?_ h
  simp
  omega
theorem rowL_snoc (r : Rw) : ∀ (rs : List Rw) (k : Nat), rowL k (rs ++ [r]) = rowL k rs ++ [(r.ad, r.obj (k + rs.length))]
  | [], k => rfl
  | x :: rs, k => by
    show (x.ad, x.obj k) :: rowL (k + 1) (rs ++ [r]) = (x.ad, x.obj k) :: (rowL (k + 1) rs ++ [(r.ad, r.obj (k + (rs.length + 1)))])
    rw [rowL_snoc r rs (k + 1), show k + 1 + rs.length = k + (rs.length + 1) by omega]
theorem allLt_at {L : Addr} : ∀ {l : List (Addr × Obj)}, AllLt L l → ∀ p ∈ l, p.1 < L
  | [], _, _, h => nomatch h
  | q :: r, x, p, h => by
    rcases List.mem_cons.mp h with rfl | h
    · exact x.1
    · exact allLt_at x.2 p h
theorem add_off {ad a b R c d : Addr} {rs : List Rw} {rest : List (Addr × Obj)} (l : a < ad ∧ b < ad ∧ R < ad ∧ c < ad ∧ d < ad ∧ AllLt ad (rowL 0 rs ++ rest)) : (∀ q ∈ rowL 0 rs ++ rest, q.1 ≠ ad) ∧ ad ≠ R :=
  ⟨fun q hq => Nat.ne_of_lt (allLt_at l.2.2.2.2.2 q hq), Nat.ne_of_gt l.2.2.1⟩
theorem add_done {h₀ h : Heap} {L ad R : Addr} {rs : List Rw} {k : Nat} {l : Lt} {t u' : Tok} {p q x y : Addr × Obj} {rest : List (Addr × Obj)}
    (N : News h₀ L h ((ad, { cls := .type "tuple", data := .seq #[.str l.str t, .str (numS rs.length) u'] }) :: p :: q :: (R, listOf ((rowV rs).toArray.push (.ref ad)) (k + 1)) :: x :: y :: (rowL 0 rs ++ rest))) :
    News h₀ L h ((R, listOf (rowV (rs ++ [⟨ad, l, t, u'⟩])).toArray (k + 1)) :: x :: y :: (rowL 0 (rs ++ [⟨ad, l, t, u'⟩]) ++ rest)) := by
  have e : listOf (rowV (rs ++ [⟨ad, l, t, u'⟩])).toArray (k + 1) = listOf ((rowV rs).toArray.push (.ref ad)) (k + 1) := by
    simp
  rw [e, rowL_snoc, Nat.zero_add]
  refine news_sub N fun z hz => ?_
  simp only [List.mem_cons, List.mem_append, List.not_mem_nil, or_false] at hz ⊢
  rcases hz with h | h | h | (h | h) | h
  · simp [h]
  · simp [h]
  · simp [h]
  · simp [h]
  · exact .inl h
  · simp [h]
section
variable {n₀ : Nat} {w : World} {A₀ A : Around} {base h₀ : Heap} {env : Env} {outer : List Env} {L : Addr} {m : Str → Option Value} {mg mb : Str → Option Value} {mean : ExcName → Option Value} {loose : List Str} {p : Program} {s : Shared}
    {Q : Value → Shared → Prop} {E : Value → Shared → Prop} {R tb dtb : Addr} {th : Tok} {n k : Nat} {rs : List Rw} {rest : List (Addr × Obj)}
theorem add_header_c {l : Lt} {t u : Tok} (C : Cx n₀ w A₀ A base h₀ env outer L m mg mb mean loose p s.heap) (hn₀ : n₀ ≤ 700)
    (N : News h₀ L s.heap ((R, listOf (rowV rs).toArray k) :: (dtb, dictOf (hdrD w th R) n) :: (tb, instObj 281 dtb) :: (rowL 0 rs ++ rest)))
    (hz : rs.length ≤ 900) (hr : ∀ q ∈ rowL 0 rs ++ rest, q.1 ≠ R) (h1 : dtb ≠ R) (h2 : tb ≠ R) (hpl : PlainS (numS rs.length)) (hnl : (numS rs.length).length ≤ 1000)
    (h : ∀ ad u' h' tk, (∀ q ∈ rowL 0 rs ++ rest, q.1 ≠ ad) → ad ≠ R → Fr h₀ L h' m →
      News h₀ L h' ((R, listOf (rowV (rs ++ [⟨ad, l, t, u'⟩])).toArray (k + 1)) :: (dtb, dictOf (hdrD w th R) n) :: (tb, instObj 281 dtb) :: (rowL 0 (rs ++ [⟨ad, l, t, u'⟩]) ++ rest)) → Q .none { s with heap := h', toks := tk }) :
    wpAny (model PySem.Challenge.rw_to0065_01.row.prog w) A (call (.ref 278) [.ref tb, .str l.str t, .str (numS rs.length) u]) Q E s := by
  walk_at "cx_fill"
  w_strict (
    refine wpAny_call ?_
    refine' Cx.codeM (by assumption) (by assumption) ?k6 ?k7 (by walk_at "om") ?kX ?kM ?kR ?kP ?kT ?kB ?_ ?c2 ?c3 ?c4 ?c5
    case k6 => k_is
    case k7 => k_is
    case kX => kp_lit
    case kM => exact rfl
    case kR => exact rfl
    case kP => exact rfl
    case kT => exact fun _ => rfl
    case kB => exact fun _ => locs rfl
    case c5 => decide
    case c2 => exact rfl
    case c3 => exact rfl
    case c4 => exact rfl
    k_whole
    intro D' o' g' L' h' tk' l1 lo' fs' hs' FG' N' C'
    have F' := Cx.F C'
    have B' := Cx.B C'
    have X' := Cx.X C'
    have T' := Cx.T C'
    have l1r := l1
    repeat (replace l1r := tail_of l1r)
    try k_lt l1
    try dsimp only
    try k_lift B'
    try k_fold
    iterate 28 (walk_at "go1")
    k_dflt (first | refine' conv_name (Cx.upd ?zc1 ?zc2) ?zc3 ?zc4 ?zc5 ?_ | refine' conv_value (Cx.upd ?zc1 ?zc2) ?zc3 ?zc4 ?zc5 ?_)
    case zc1 => first | assumption | exact Cx.in1 (by assumption) | exact Cx.in1 (Cx.in1 (by assumption))
    case zc2 => k_asm
    case zc3 => omega
    case zc4 => k_asm
    case zc5 => first | assumption | exact plain_lt _
    intro h' tk' F' N'
    k_steps
    rename Fr _ _ _ _ => lF'
    rename News _ _ _ _ => lN'
    with_unfolding_all refine' For_turns lF' ?_
    k_whole
    with_unfolding_all ((refine MethodCall_ ?_); (refine ld lF' (by rfl) ?_); (refine getMethod_tab (knd := PySem.strKind _ _) (enc := PyData.str) PySem.F.slot_dict_items PySem.F.type_dict_items (by k_tabat) ?_); (refine callWith_method0 ?_); (refine call_items_tab (knd := PySem.strKind _ _) (enc := PyData.str) (by k_tabat) lF' lN' ?_))
    intro h2 o2 hv2 F2 N2
    replace N2 := kti_tail N2
    with_unfolding_all refine kti_items (knd := PySem.strKind _ _) (enc := PyData.str) (xs := []) (Cx.hh (by assumption)) F2 N2 hv2 (by k_tabat) (by k_mem) (fun _ _ h => Value.isStrOf_shape h) (by rfl) ?_
    intro i2 l2
    refine ItemsRest.zero (fun h3 tk3 F3 N3 => ?_)
    clear lF' lN' F2 N2
    replace F3 : Fr g' L' h3 _ := F3
    replace N3 : News g' L' h3 _ := N3
    iterate 22 (walk_at "go1")
    k_dflt (first | refine' conv_name (Cx.upd ?zc1 ?zc2) ?zc3 ?zc4 ?zc5 ?_ | refine' conv_value (Cx.upd ?zc1 ?zc2) ?zc3 ?zc4 ?zc5 ?_)
    case zc1 => first | assumption | exact Cx.in1 (by assumption) | exact Cx.in1 (Cx.in1 (by assumption))
    case zc2 => k_asm
    case zc3 => omega
    case zc4 => k_asm
    case zc5 => first | assumption | exact plain_lt _
    intro h' tk' F' N'
    k_steps
    exact h _ _ _ _ (add_off (by assumption)).1 (add_off (by assumption)).2 (by assumption) (add_done (by assumption)))
end
end PartAddH
section PartStrFor
section
variable {prog : Program} {w : World} {A : Around} {E : Value → Shared → Prop} {s : Shared} {env : Env} {h₀ : Heap} {x : Str} {body : List Stmt} {Q : Flow → Shared → Prop}
/-- behind a turn over a string, the tokens told -/
noncomputable def TurnS (h₀ : Heap) (L : Addr) (I : Addr) (o : Obj) (J : (Str → Option Value) → List (Addr × Obj) → Nat → Prop) (s₁ : Shared) (Q : Flow → Shared → Prop) (f : Flow) (s₂ : Shared) : Prop :=
  match f with
  | .ret v => Q (.ret v) s₂
  | .brk => Q .next s₂
  | _ => ∃ h' tk m' nx, s₂ = { s₁ with heap := h', toks := tk } ∧ Fr h₀ L h' m' ∧ News h₀ L h' ((I, o) :: nx) ∧ (∀ p ∈ nx, p.1 ≠ I) ∧ J m' nx tk
inductive StrAt (prog : Program) (w : World) (A : Around) (h₀ : Heap) (env : Env) (x : Str) (body : List Stmt) (Q : Flow → Shared → Prop) (E : Value → Shared → Prop) (xv : Value) (s₁ : Shared) : Prop
  | mk (z : Str) (t : Tok) (m₀ : Str → Option Value) (news : List (Addr × Obj)) (J : Nat → (Str → Option Value) → List (Addr × Obj) → Nat → Prop)
    (c1 : xv = .str z t) (c2 : z.cps.all (· < 128) = true) (c3 : A.handled = none) (c4 : Fr h₀ env.locals s₁.heap m₀) (c5 : News h₀ env.locals s₁.heap news) (c6 : J 0 m₀ news s₁.toks) (c7 : (∀ I i c m₁ news₁ h tk o, z.cps[i]? = some c → J i m₁ news₁ tk → (∀ p ∈ news, p.1 < I) → (∀ p ∈ news₁, p.1 ≠ I) → Fr h₀ env.locals h (fun y => if y = x then some (.str ⟨#[c]⟩ tk) else m₁ y) → News h₀ env.locals h ((I, o) :: news₁) →
      wpAny (model prog w) A (execs body env) (TurnS h₀ env.locals I o (J (i + 1)) { s₁ with heap := h, toks := tk + 1 + 1 } Q) E { s₁ with heap := h, toks := tk + 1 + 1 })) (c8 : (∀ m₁ news₁ h tk, J z.cps.size m₁ news₁ tk → Fr h₀ env.locals h m₁ → News h₀ env.locals h news₁ → Q .next { s₁ with heap := h, toks := tk })) : StrAt prog w A h₀ env x body Q E xv s₁
theorem For_str {iter : Expr} {px pos : Pos} {m : Str → Option Value} (_F : Fr h₀ env.locals s.heap m) (hx : env.kindOf x = some .local) (hp : (env.scope.kind == .class || (env.scope.kind == .module && env.locals != env.globals)) = false)
    (h : wpAny (model prog w) A (eval iter env) (fun xv s₁ => StrAt prog w A h₀ env x body Q E xv s₁) E s)
    (hs : ∀ x, foldedSetIterable iter env x = pure x := by intro _; rfl)
    (hE : PassesOwn (model prog w) A env E := by passes_own) :
    wpAny (model prog w) A (exec (.For (.Name x px) iter body [] pos) env) Q E s := by
  refine wpAny_For (wpAny_mono h (fun xv s₁ h₁ => ?_) fun _ _ e => e) hs
  obtain ⟨z, t, m₀, news, J, rfl, ha, hh, F, N, hj, turn, done⟩ := h₁
  refine wpAny_pyIter_ascii ha ?_
  have hI₀ := next_is_new F
  have hLI : env.locals ≠ s₁.heap.objs.size := Nat.ne_of_lt F.ns.lt
  have hlt : ∀ p ∈ news, p.1 < s₁.heap.objs.size := fun p hp => Heap.lt_size (N p hp).1
  generalize hIe : s₁.heap.objs.size = I at hI₀ hLI hlt ⊢
  refine codeAny_forLoop
    (fun k s' => ∃ h' tk m' news' i, s' = { s₁ with heap := h', toks := tk } ∧ h'.IsStrIter I "str_ascii_iterator" z t i ∧ Fr h₀ env.locals h' m' ∧ News h₀ env.locals h' news' ∧ (∀ p ∈ news', p.1 ≠ I) ∧ J i m' news' tk ∧ i ≤ z.cps.size ∧ k = z.cps.size + 1 - i) ?_ (z.cps.size + 1)
    ⟨_, _, m₀, news, 0, rfl, ⟨_, by rw [← hIe]; exact Heap.get?_push_size _ rfl, rfl, rfl⟩, F.push _, (fun p hp => ⟨Heap.get?_push_of_some _ (N p hp).1, (N p hp).2⟩), (fun p hp => Nat.ne_of_lt (hlt p hp)), hj, Nat.zero_le _, rfl⟩
  rintro k s' ⟨h', tk, m', news', i, rfl, hit, F', N', off, hJ, hi, rfl⟩
  cases hc : z.cps[i]? with
  | none =>
    have hin : i = z.cps.size := Nat.le_antisymm hi (by simpa using hc)
    subst hin
    refine wpAny_pyNext_ascii_end hh hit hc fun h1 hx1 => wpAny_execs_nil ?_
    refine done m' news' h1 tk hJ ⟨F'.ns.extBut hx1 hLI, fun b o e => hx1 b o (fun eb => by rw [eb, hI₀] at e; cases e) (F'.keep b o e), F'.above⟩ (fun p hp => ⟨hx1 _ _ (off p hp) (N' p hp).1, (N' p hp).2⟩)
  | some c =>
    have hlt' : i < z.cps.size := (Array.getElem?_eq_some_iff.mp hc).1
    refine wpAny_pyNext_ascii_item hit hc fun h1 hit1 hs1 => ?_
    have F1 : Fr h₀ env.locals h1 m' := ⟨F'.ns.extBut hs1.extBut hLI, fun b o e => hs1.extBut b o (fun eb => by rw [eb, hI₀] at e; cases e) (F'.keep b o e), F'.above⟩
    have N1 : News h₀ env.locals h1 news' := fun p hp => ⟨hs1.extBut _ _ (off p hp) (N' p hp).1, (N' p hp).2⟩
    obtain ⟨o1, ho1, hc1, hd1⟩ := hit1
    refine wpAny_assign_Name (wpAny_storeName_local hx F1.ns (fun h2 hn2 hs2 => ?_) hp)
    have hb : ∀ b o, h₀.get? b = some o → b ≠ env.locals := fun b o e eb => by
      have := Heap.lt_size e
      rw [eb] at this
      exact Nat.lt_irrefl _ (Nat.lt_of_lt_of_le this F1.above)
    have F2 : Fr h₀ env.locals h2 (fun y => if y = x then some (.str ⟨#[c]⟩ tk) else m' y) := ⟨hn2, fun b o e => hs2.extBut b o (hb b o e) (F1.keep b o e), F1.above⟩
    have N2 : News h₀ env.locals h2 ((I, o1) :: news') := fun p hp => by
      rcases List.mem_cons.mp hp with rfl | hp
      · exact ⟨hs2.extBut _ _ (Ne.symm hLI) ho1, Ne.symm hLI, hI₀⟩
      · exact ⟨hs2.extBut _ _ (N1 p hp).2.1 (N1 p hp).1, (N1 p hp).2⟩
    refine wpAny_mono (turn I i c m' news' h2 tk o1 hc hJ hlt off F2 N2) (fun f s₃ p => ?_) fun _ _ e => hE _ _ e
    have fin : (∃ h' tk' m' nx, s₃ = { s₁ with heap := h', toks := tk' } ∧ Fr h₀ env.locals h' m' ∧ News h₀ env.locals h' ((I, o1) :: nx) ∧ (∀ p ∈ nx, p.1 ≠ I) ∧ J (i + 1) m' nx tk') →
        ∃ m, m < z.cps.size + 1 - i ∧ ∃ h' tk m' news' i, s₃ = { s₁ with heap := h', toks := tk } ∧ h'.IsStrIter I "str_ascii_iterator" z t i ∧ Fr h₀ env.locals h' m' ∧ News h₀ env.locals h' news' ∧ (∀ p ∈ news', p.1 ≠ I) ∧ J i m' news' tk ∧ i ≤ z.cps.size ∧ m = z.cps.size + 1 - i := by
      rintro ⟨h3, tk3, m3, nx, rfl, F3, N3, off3, J3⟩
      exact ⟨_, by omega, h3, tk3, m3, nx, i + 1, rfl, ⟨o1, (N3 _ List.mem_cons_self).1, hc1, hd1⟩, F3, (fun p hp => N3 p (List.mem_cons_of_mem _ hp)), off3, J3, hlt', rfl⟩
    cases f with
    | ret v => exact p
    | brk => exact p
    | next => exact fin p
    | cont => exact fin p
end
end PartStrFor
/-- the last place of an a -/
noncomputable def lastA (T : List Lt) : Option Nat := ((List.range' 0 T.length).filter fun i => (T[i]?).any fun l => decide (l.low = .a)).getLast?
/-- what goes to the line ahead of all, where an a goes off with n letters behind it, the last of them d -/
noncomputable def handle (begin d : Lt) (n : Nat) : List Lt :=
  if 0 < n then (if begin = .a then .B else .b) :: (List.replicate n (if d = .b then .a else .A) ++ [if begin = .a then .b else .B]) else []
/-- a letter comes off the line -/
noncomputable def popB (T : List Lt) (c : Lt) (L : List Lt) : List Lt × List Lt :=
  if T.getLast? = some c.other then (T.dropLast, L) else (T ++ [c], L)
noncomputable def stepW (T : List Lt) (c : Lt) (L : List Lt) : List Lt × List Lt :=
  match (if c.low = .a then lastA T else none) with
  | some q => if T[q]? = some c.other then (T.take q, handle c.other (T.getLast?.getD .a) (T.length - q - 1) ++ L) else popB T c L
  | none => popB T c L
noncomputable def iterW : Nat → List Lt × List Lt → List Lt × List Lt
  | 0, x => x
  | _ + 1, (T, []) => (T, [])
  | n + 1, (T, c :: L) => iterW n (stepW T c L)
theorem lastA_lt {T : List Lt} {q : Nat} (h : lastA T = some q) : q < T.length := by
  have h1 := List.mem_of_getLast? h
  have h2 := (List.mem_filter.mp h1).1
  rw [List.mem_range'_1] at h2
  omega
theorem handle_len (b d : Lt) (n : Nat) : (handle b d n).length = if 0 < n then n + 2 else 0 := by
  unfold handle
  split
  · simp
  · rfl
theorem popB_len (T : List Lt) (c : Lt) (L : List Lt) : (popB T c L).1.length + (popB T c L).2.length ≤ T.length + (L.length + 1) := by
  unfold popB
  split
  · simp
    omega
  · simp
    omega
theorem stepW_len (T : List Lt) (c : Lt) (L : List Lt) : (stepW T c L).1.length + (stepW T c L).2.length ≤ T.length + (L.length + 1) := by
  unfold stepW
  split
  · rename_i q hq
    have hq' : lastA T = some q := by
      split at hq
      · exact hq
      · cases hq
    have := lastA_lt hq'
    split
    · simp only [List.length_take, List.length_append, handle_len]
      split <;> omega
    · exact popB_len T c L
  · exact popB_len T c L
section PartOtherT
section
variable {n : Nat} {w : World} {A₀ A : Around} {base h₀ : Heap} {env : Env} {outer : List Env} {L : Addr} {m mg mb : Str → Option Value} {mean : ExcName → Option Value} {loose : List Str} {p : Program} {h : Heap} {s : Shared}
/-- entering a function, the tokens told -/
theorem Cx.codeT {R : Result → Shared → Prop} {news : List (Addr × Obj)} {name qual : Str} {params : Arguments} {body : List Stmt} {scope : Scope} {dV kV doc pm cdv ct oc : Value} {an od : Option Addr} {osl : Array (Option Value)} {f : Addr} {args : Args} {binds : List (Str × Value)}
    (C : Cx n w A₀ A base h₀ env outer L m mg mb mean loose p s.heap) (N : News h₀ L s.heap news)
    (ho : (hd.heap_39 w.params).lookup f = some ⟨oc, od, .func (fnOf name qual params body scope dV kV doc pm an cdv ct), osl⟩) (hcd : codeIn (hd.heap_39 w.params) cdv qual = true) (hn : n ≤ 900)
    (hbind : BindsTo s (fnOf name qual params body scope dV kV doc pm an cdv ct) args binds) (hloc : ∀ y ∈ binds, scope.names.lookup y.1 = some .local)
    (k : ∀ g L' h₁, Fr h₀ L g m → News g L' h₁ news → Cx (n + 3) w A (A.deeper (envOf qual scope L' f cdv)) base g (envOf qual scope L' f cdv) (env :: outer) L' (fun y => binds.reverse.lookup y) mg mb mean loose p h₁ →
      wpAny (model PySem.Challenge.rw_to0065_01.row.prog w) (A.deeper (envOf qual scope L' f cdv)) (execs body (envOf qual scope L' f cdv))
        (fun fl s' => LeaveK h₀ L m g R (match fl with | .ret v => v | _ => .none) s')
        (fun e s' => wpAny (model PySem.Challenge.rw_to0065_01.row.prog w) (A.deeper (envOf qual scope L' f cdv)) (leaving (envOf qual scope L' f cdv) e) (fun _ s'' => R (.error e) s'') (fun e' s'' => R (.error e') s'') s')
        { s with heap := h₁, toks := s.toks + binds.length })
    (hco : scope.isCoroutine = false) (hgen : scope.isGenerator = false) (hk : scope.kind = .function)
    (hcell : ∀ x ∈ scope.names, x.2 ≠ .cell) : codeAny (model PySem.Challenge.rw_to0065_01.row.prog w) A (.call (.ref f) args) R s :=
  code_def C.B C.F C.X N C.T C.hA C.hf C.hke ho hcd (Nat.lt_trans C.hd (by show n < 1000; omega)) hbind hloc
    (fun g L' h₁ FG F' N' B' X' T' => k g L' h₁ FG N' ⟨B', F', X', T', Around.frames_deeper (Below.stack B'), rfl, hk, by show A.depth + 1 < n + 3; have := C.hd; omega, by show A.units + 3 < n + 3; have := C.hu; omega, C.hh⟩) hco hgen hk hcell
end
section
variable {n₀ : Nat} {w : World} {A₀ A : Around} {base h₀ : Heap} {env : Env} {outer : List Env} {L : Addr} {m : Str → Option Value} {mg mb : Str → Option Value} {mean : ExcName → Option Value} {loose : List Str} {p : Program} {s : Shared}
    {Q : Value → Shared → Prop} {E : Value → Shared → Prop} {R tb dtb : Addr} {th : Tok} {n k : Nat} {rs : List Rw} {rest : List (Addr × Obj)}
theorem other_t {l : Lt} {t : Tok} (C : Cx n₀ w A₀ A base h₀ env outer L m mg mb mean loose p s.heap) (hn₀ : n₀ ≤ 800)
    (N : News h₀ L s.heap rest)
    (h : ∀ h' tk u, s.toks ≤ u → u < tk → Fr h₀ L h' m → News h₀ L h' rest → Q (.str l.other.str u) { s with heap := h', toks := tk }) :
    wpAny (model PySem.Challenge.rw_to0065_01.row.prog w) A (call (.ref 306) [.str l.str t]) Q E s := by
  walk_at "cx_fill"
  w_strict (
    refine wpAny_call ?_
    refine' Cx.codeT (binds := [("letter", .str l.str t)]) (by assumption) (by assumption) ?k6 ?k7 (by walk_at "om") ?k9 ?kB ?_ ?c2 ?c3 ?c4 ?c5
    case k6 => k_is
    case k7 => k_is
    case k9 => first | exact binds_K (by k_in) rfl (by k_is) rfl rfl rfl | exact BindsTo.of_eq (by kernel_rfl)
    case c5 => decide
    case kB => exact locs rfl
    case c2 => exact rfl
    case c3 => exact rfl
    case c4 => exact rfl
    k_whole
    intro g' L' h' FG' N' C'
    have F' := Cx.F C'
    have B' := Cx.B C'
    have X' := Cx.X C'
    have T' := Cx.T C'
    (try dsimp only)
    (try k_lift B')
    (try k_fold)
    iterate 20 (walk_at "go1")
    k_dflt (refine' item_strD ?zq1 ?zq2 ?zq3 ?zq4 ?_; (case zq1 => k_asm); (case zq2 => k_mem); (case zq3 => assumption); (case zq4 => exact other_at))
    k_steps
    refine h _ _ _ ?_ ?_ (by assumption) (by walk_at "k_ledger")
    · cases l <;> simp only [List.length_cons, List.length_nil] <;> omega
    · cases l <;> simp only [List.length_cons, List.length_nil] <;> omega)
end
end PartOtherT
section PartWhileT
section
variable {prog : Program} {w : World} {A : Around} {E : Value → Shared → Prop} {Q : Flow → Shared → Prop} {s : Shared} {env : Env} {h₀ : Heap} {L : Addr}
/-- behind a turn of a while, the tokens told -/
noncomputable def WhlT (h₀ : Heap) (L : Addr) (s : Shared) (J : Nat → (Str → Option Value) → List (Addr × Obj) → Nat → Prop) (Q : Flow → Shared → Prop) (n : Nat) (f : Flow) (s₃ : Shared) : Prop :=
  match f with
  | .ret v => Q (.ret v) s₃
  | .brk => Q .next s₃
  | _ => ∃ h' tk m' nx n', s₃ = { s with heap := h', toks := tk } ∧ Fr h₀ L h' m' ∧ News h₀ L h' nx ∧ n' < n ∧ J n' m' nx tk
theorem While_T {test : Expr} {body : List Stmt} {pos : Pos} {m : Str → Option Value} {news : List (Addr × Obj)} (J : Nat → (Str → Option Value) → List (Addr × Obj) → Nat → Prop) {n₀ : Nat}
    (F : Fr h₀ L s.heap m) (N : News h₀ L s.heap news) (hJ : J n₀ m news s.toks)
    (turn : ∀ n m₁ nx h tk, J n m₁ nx tk → Fr h₀ L h m₁ → News h₀ L h nx →
      wpAny (model prog w) A (isTrue test env (eval test env)) (fun b s₂ => WhlIf b (wpAny (model prog w) A (execs body env) (WhlT h₀ L s J Q n) E s₂) (Q .next s₂)) E { s with heap := h, toks := tk })
    (hE : PassesOwn (model prog w) A env E := by passes_own) :
    wpAny (model prog w) A (exec (.While test body [] pos) env) Q E s := by
  have go : ∀ n m₁ nx h tk, J n m₁ nx tk → Fr h₀ L h m₁ → News h₀ L h nx → WhlRest prog w A E env test body [] Q 1 { s with heap := h, toks := tk } := by
    intro n
    induction n using Nat.strongRecOn with
    | ind n ih =>
      intro m₁ nx h tk hj F₁ N₁
      have more : ∀ f s₃, WhlT h₀ L s J Q n f s₃ → WhlPost prog w A E env test body [] Q 0 f s₃ := fun f s₃ q =>
        match f, q with
        | .ret _, q => q
        | .brk, q => q
        | .next, ⟨h', tk', m', nx', n', e, F₂, N₂, lt, j₂⟩ => e ▸ ih n' lt m' nx' h' tk' j₂ F₂ N₂
        | .cont, ⟨h', tk', m', nx', n', e, F₂, N₂, lt, j₂⟩ => e ▸ ih n' lt m' nx' h' tk' j₂ F₂ N₂
      refine whl_turn hE (wpAny_mono (turn n m₁ nx h tk hj F₁ N₁) (fun b s₂ q => ?_) fun _ _ e => e)
      cases b with
      | true => exact wpAny_mono (show wpAny _ _ _ _ _ _ from q) more fun _ _ e => e
      | false => exact wpAny_execs_nil (show Q .next s₂ from q)
  exact whl_start 1 (go n₀ m news s.heap s.toks hJ F N)
end
end PartWhileT
section PartMake
section
variable {n : Nat} {w : World} {A₀ A : Around} {base h₀ : Heap} {env : Env} {outer : List Env} {L : Addr} {m mg mb : Str → Option Value} {mean : ExcName → Option Value} {loose : List Str} {p : Program} {h : Heap}
/-- under a call of a class -/
theorem Cx.make {c : Addr} {pos : List Value} {kw : List (Str × Value)} (C : Cx n w A₀ A base h₀ env outer L m mg mb mean loose p h) : Cx (n + 4) w A₀ (A.under (.builtin "type.__call__" ⟨.ref c :: pos, kw⟩)) base h₀ env outer L m mg mb mean loose p h :=
  ⟨C.B, C.F, C.X, C.T, C.hA, C.hf, C.hke, by show A.depth + 1 < n + 4; have := C.hd; omega, Nat.lt_of_lt_of_le (Nat.add_lt_add_right C.hu _) (Nat.add_le_add_left (show (Code.builtin "type.__call__" ⟨.ref c :: pos, kw⟩).cUnits ≤ 4 from Nat.le_of_ble_eq_true rfl) n), C.hh⟩
end
end PartMake
section PartWrap
theorem upd_go {h₀ h : Heap} {L D : Addr} {o o' : Obj} {news news' : List (Addr × Obj)} {G : Prop} (N : News h₀ L h news) (U : Upd D o o' news news')
    (k : ∀ rest, (∀ q ∈ rest, q.1 ≠ D) → News h₀ L h ((D, o) :: rest) → (∀ h', News h₀ L h' ((D, o') :: rest) → News h₀ L h' news') → (∀ q ∈ news, q.1 ≠ D → q ∈ rest) → G) : G := by
  obtain ⟨pre, post, rfl, rfl, a, b⟩ := U.split
  refine k (pre ++ post) (fun q hq => (List.mem_append.mp hq).elim (a q) (b q)) (news_sub N fun q hq => ?_) (fun h' N' => news_sub N' fun q hq => ?_) fun q hq ne => ?_
  · simp only [List.mem_cons, List.mem_append] at hq ⊢
    rcases hq with h | h | h
    · exact .inr (.inl h)
    · exact .inl h
    · exact .inr (.inr h)
  · simp only [List.mem_cons, List.mem_append] at hq ⊢
    rcases hq with h | h | h
    · exact .inr (.inl h)
    · exact .inl h
    · exact .inr (.inr h)
  · simp only [List.mem_cons, List.mem_append] at hq ⊢
    rcases hq with h | h | h
    · exact .inl h
    · exact absurd (by rw [h]) ne
    · exact .inr h
theorem news_put {h₀ h : Heap} {L : Addr} {x : Addr × Obj} {l : List (Addr × Obj)} (N : News h₀ L h l) (hx : x ∈ l) : News h₀ L h (x :: l) := news_sub N fun q hq => (List.mem_cons.mp hq).elim (fun e => e ▸ hx) fun e => e
theorem news_back3 {h₀ h : Heap} {L : Addr} {x a b : Addr × Obj} {l : List (Addr × Obj)} (N : News h₀ L h (x :: a :: b :: l)) : News h₀ L h (x :: l) :=
  news_sub N fun q hq => by
    rcases List.mem_cons.mp hq with e | e
    · exact e ▸ List.mem_cons_self
    · exact List.mem_cons_of_mem _ (List.mem_cons_of_mem _ (List.mem_cons_of_mem _ e))
theorem news_app {h₀ h : Heap} {L : Addr} {k l : List (Addr × Obj)} (N : News h₀ L h l) (hx : ∀ q ∈ k, q ∈ l) : News h₀ L h (k ++ l) := news_sub N fun q hq => (List.mem_append.mp hq).elim (hx q) fun e => e
theorem off1_app {D : Addr} : ∀ {k l : List (Addr × Obj)}, LCg.Off1 D (k ++ l) → LCg.Off1 D l
  | [], _, h => h
  | _ :: _, _, h => off1_app h.2
section
variable {n₀ : Nat} {w : World} {A₀ A : Around} {base h₀ : Heap} {env : Env} {outer : List Env} {L : Addr} {m : Str → Option Value} {mg mb : Str → Option Value} {mean : ExcName → Option Value} {loose : List Str} {p : Program} {s : Shared}
    {Q : Value → Shared → Prop} {E : Value → Shared → Prop} {lx dx P R tb dtb D : Addr} {ln : Int} {ins v : Value} {th t1 t2 t3 t4 t5 t6 : Tok} {n k : Nat} {rs : List Rw} {news news' : List (Addr × Obj)}
theorem u_pop {vs : List Value} (C : Cx n₀ w A₀ A base h₀ env outer L m mg mb mean loose p s.heap) (hn₀ : n₀ ≤ 800)
    (N : News h₀ L s.heap news) (U : Upd P (listOf (v :: vs).toArray k) (listOf vs.toArray (k + 1)) news news')
    (m1 : (dx, dictOf (lexD w ln ins P t1 t2 t3 t4 t5 t6) n) ∈ news) (m2 : (lx, instObj 76 dx) ∈ news) (h1 : dx ≠ P) (h2 : lx ≠ P) (hz : vs.length ≤ 1000)
    (h : ∀ h' tk, s.toks ≤ tk → Fr h₀ L h' m → News h₀ L h' news' → Q v { s with heap := h', toks := tk }) :
    wpAny (model PySem.Challenge.rw_to0065_01.row.prog w) A (call (.ref 66) [.ref lx]) Q E s :=
  upd_go N U fun rest off N1 back into => wpAny_toksQ (get_pop C hn₀
    (news_sub N1 fun q hq => by
      rcases List.mem_cons.mp hq with rfl | hq
      · exact List.mem_cons_self
      · rcases List.mem_cons.mp hq with rfl | hq
        · exact List.mem_cons_of_mem _ (into _ m1 h1)
        · rcases List.mem_cons.mp hq with rfl | hq
          · exact List.mem_cons_of_mem _ (into _ m2 h2)
          · exact List.mem_cons_of_mem _ hq)
    off h1 h2 hz fun h' tk F' N' le => h h' tk le F' (back h' (news_back3 N')))
theorem u_push {its : Array Value} (C : Cx n₀ w A₀ A base h₀ env outer L m mg mb mean loose p s.heap) (hn₀ : n₀ ≤ 800)
    (N : News h₀ L s.heap news) (U : Upd P (listOf its k) (listOf (its.push v) (k + 1)) news news')
    (m1 : (dx, dictOf (lexD w ln ins P t1 t2 t3 t4 t5 t6) n) ∈ news) (m2 : (lx, instObj 76 dx) ∈ news) (h1 : dx ≠ P) (h2 : lx ≠ P) (hz : its.size ≤ 1000)
    (h : ∀ h' tk, s.toks ≤ tk → Fr h₀ L h' m → News h₀ L h' news' → Q .none { s with heap := h', toks := tk }) :
    wpAny (model PySem.Challenge.rw_to0065_01.row.prog w) A (call (.ref 73) [.ref lx, v]) Q E s :=
  upd_go N U fun rest off N1 back into => wpAny_toksQ (push_tok C hn₀
    (news_sub N1 fun q hq => by
      rcases List.mem_cons.mp hq with rfl | hq
      · exact List.mem_cons_self
      · rcases List.mem_cons.mp hq with rfl | hq
        · exact List.mem_cons_of_mem _ (into _ m1 h1)
        · rcases List.mem_cons.mp hq with rfl | hq
          · exact List.mem_cons_of_mem _ (into _ m2 h2)
          · exact List.mem_cons_of_mem _ hq)
    off h1 h2 hz fun h' tk F' N' le => h h' tk le F' (back h' (news_back3 N')))
theorem u_del {vs : List Value} {u : Tok} (C : Cx n₀ w A₀ A base h₀ env outer L m mg mb mean loose p s.heap) (hn₀ : n₀ ≤ 800)
    (N : News h₀ L s.heap news) (U : Upd D (listOf (vs ++ [v]).toArray n) (listOf vs.toArray (n + 1)) news news') (hz : vs.length ≤ 1000)
    (h : ∀ h' tk, s.toks ≤ tk → Fr h₀ L h' m → News h₀ L h' news' → Q .none { s with heap := h', toks := tk }) :
    wpAny (model PySem.Challenge.rw_to0065_01.row.prog w) A (call (.ref 122) [.ref D, .int (-1) u]) Q E s :=
  upd_go N U fun rest off N1 back into => wpAny_toksQ (delit C hn₀ N1 off hz fun h' tk F' N' le => h h' tk le F' (back h' N'))
/-- the table stands in the ledger -/
structure TabIn (w : World) (R dtb tb : Addr) (th : Tok) (n k : Nat) (rs : List Rw) (news : List (Addr × Obj)) : Prop where
  r : (R, listOf (rowV rs).toArray k) ∈ news
  d : (dtb, dictOf (hdrD w th R) n) ∈ news
  t : (tb, instObj 281 dtb) ∈ news
  rows : ∀ q ∈ rowL 0 rs, q ∈ news
theorem TabIn.led {h : Heap} (T : TabIn w R dtb tb th n k rs news) (N : News h₀ L h news) : News h₀ L h ((R, listOf (rowV rs).toArray k) :: (dtb, dictOf (hdrD w th R) n) :: (tb, instObj 281 dtb) :: (rowL 0 rs ++ news)) := by
  refine news_put (news_put (news_put (news_app N T.rows) ?_) ?_) ?_
  · exact List.mem_append_right _ T.t
  · exact List.mem_cons_of_mem _ (List.mem_append_right _ T.d)
  · exact List.mem_cons_of_mem _ (List.mem_cons_of_mem _ (List.mem_append_right _ T.r))
theorem news_back {h : Heap} {a b c : Addr × Obj} {k l : List (Addr × Obj)} (N : News h₀ L h (a :: b :: c :: (k ++ l))) : News h₀ L h l := news_tail (news_tl (news_tl (news_tl N)))
theorem news_back1 {h : Heap} {x a b c : Addr × Obj} {k l : List (Addr × Obj)} (N : News h₀ L h (x :: a :: b :: c :: (k ++ l))) : News h₀ L h (x :: l) :=
  news_sub N fun q hq => (List.mem_cons.mp hq).elim (fun e => e ▸ List.mem_cons_self) fun e => List.mem_cons_of_mem _ (List.mem_cons_of_mem _ (List.mem_cons_of_mem _ (List.mem_cons_of_mem _ (List.mem_append_right _ e))))
theorem u_keys (C : Cx n₀ w A₀ A base h₀ env outer L m mg mb mean loose p s.heap) (hn₀ : n₀ ≤ 800)
    (N : News h₀ L s.heap news) (T : TabIn w R dtb tb th n k rs news) (hz : rs.length ≤ 1000)
    (h : ∀ D h' tk, s.toks ≤ tk → Fr h₀ L h' m → News h₀ L h' ((D, LCg.lst (keyV rs)) :: news) → LCg.Off1 D news → Q (.ref D) { s with heap := h', toks := tk }) :
    wpAny (model PySem.Challenge.rw_to0065_01.row.prog w) A (call (.ref 233) [.ref tb]) Q E s :=
  wpAny_toksQ (keys_c C hn₀ (T.led N) hz fun D h' tk F' N' o1 le => h D h' tk le F' (news_back1 N') (off1_app o1.2.2.2))
theorem u_values (C : Cx n₀ w A₀ A base h₀ env outer L m mg mb mean loose p s.heap) (hn₀ : n₀ ≤ 800)
    (N : News h₀ L s.heap news) (T : TabIn w R dtb tb th n k rs news) (hz : rs.length ≤ 1000)
    (h : ∀ D h' tk, s.toks ≤ tk → Fr h₀ L h' m → News h₀ L h' ((D, LCg.lst (valV 0 rs)) :: news) → LCg.Off1 D news → Q (.ref D) { s with heap := h', toks := tk }) :
    wpAny (model PySem.Challenge.rw_to0065_01.row.prog w) A (call (.ref 238) [.ref tb]) Q E s :=
  wpAny_toksQ (values_c C hn₀ (T.led N) hz fun D h' tk F' N' o1 le => h D h' tk le F' (news_back1 N') (off1_app o1.2.2.2))
theorem u_all {l : Lt} {t : Tok} (C : Cx n₀ w A₀ A base h₀ env outer L m mg mb mean loose p s.heap) (hn₀ : n₀ ≤ 700)
    (N : News h₀ L s.heap news) (T : TabIn w R dtb tb th n k rs news) (hz : rs.length ≤ 1000)
    (h : ∀ D h' tk, s.toks ≤ tk → Fr h₀ L h' m → News h₀ L h' ((D, LCg.lst (plV l rs)) :: news) → LCg.Off1 D news → Q (.ref D) { s with heap := h', toks := tk }) :
    wpAny (model PySem.Challenge.rw_to0065_01.row.prog w) A (call (.ref 220) [.ref tb, .str l.str t]) Q E s :=
  wpAny_toksQ (get_all_c C hn₀ (T.led N) hz fun D h' tk F' N' o1 le => h D h' tk le F' (news_back1 N') (off1_app o1.2.2.2))
theorem u_hint (C : Cx n₀ w A₀ A base h₀ env outer L m mg mb mean loose p s.heap) (hn₀ : n₀ ≤ 800)
    (N : News h₀ L s.heap news) (T : TabIn w R dtb tb th n k rs news) (hz : rs.length ≤ 1000)
    (h : ∀ h' tk u, s.toks ≤ tk → Fr h₀ L h' m → News h₀ L h' news → Q (.int rs.length u) { s with heap := h', toks := tk }) :
    wpAny (model PySem.Challenge.rw_to0065_01.row.prog w) A (call (.ref 137) [.ref tb]) Q E s :=
  wpAny_toksQ (hint_c C hn₀ (T.led N) hz fun h' tk u F' N' le => h h' tk u le F' (news_back N'))
theorem u_index {l : Lt} {t : Tok} {q : Nat} {rq : Rw} (C : Cx n₀ w A₀ A base h₀ env outer L m mg mb mean loose p s.heap) (hn₀ : n₀ ≤ 800)
    (N : News h₀ L s.heap news) (hm : (D, listOf (keyV rs).toArray k) ∈ news) (hz : rs.length ≤ 1000) (ht : TokOk rs l t)
    (hq : rs[q]? = some rq) (hl : rq.l = l) (hb : ∀ j r, j < q → rs[j]? = some r → r.l ≠ l)
    (h : ∀ h' tk u, s.toks ≤ tk → Fr h₀ L h' m → News h₀ L h' news → Q (.int q u) { s with heap := h', toks := tk }) :
    wpAny (model PySem.Challenge.rw_to0065_01.row.prog w) A (call (.ref 129) [.ref D, .str l.str t]) Q E s :=
  wpAny_toksQ (indexOf_c C hn₀ (news_put N hm) hz ht hq hl hb fun h' tk u F' N' le => h h' tk u le F' (news_tl N'))
theorem u_count {l : Lt} {t : Tok} (C : Cx n₀ w A₀ A base h₀ env outer L m mg mb mean loose p s.heap) (hn₀ : n₀ ≤ 800)
    (N : News h₀ L s.heap news) (hm : (D, listOf (keyV rs).toArray k) ∈ news) (hz : rs.length ≤ 1000) (ht : TokOk rs l t)
    (h : ∀ h' tk u, s.toks ≤ tk → Fr h₀ L h' m → News h₀ L h' news → Q (.int (rs.countP fun r => decide (r.l = l)) u) { s with heap := h', toks := tk }) :
    wpAny (model PySem.Challenge.rw_to0065_01.row.prog w) A (call (.ref 115) [.ref D, .str l.str t]) Q E s :=
  wpAny_toksQ (countOf_c C hn₀ (news_put N hm) hz ht fun h' tk u F' N' le => h h' tk u le F' (news_tl N'))
theorem upd_into {h₀ h : Heap} {L R : Addr} {o o' : Obj} {news news' : List (Addr × Obj)} (U : Upd R o o' news news') (N : News h₀ L h ((R, o') :: news.filter fun q => decide (q.1 ≠ R))) : News h₀ L h news' := by
  obtain ⟨pre, post, rfl, rfl, a, b⟩ := U.split
  refine news_sub N fun q hq => ?_
  simp only [List.mem_cons, List.mem_append, List.mem_filter, decide_eq_true_eq] at hq ⊢
  rcases hq with h | h | h
  · exact .inr ⟨.inl h, a q h⟩
  · exact .inl h
  · exact .inr ⟨.inr (.inr h), b q h⟩
theorem u_add {l : Lt} {t u : Tok} (C : Cx n₀ w A₀ A base h₀ env outer L m mg mb mean loose p s.heap) (hn₀ : n₀ ≤ 700)
    (N : News h₀ L s.heap news) {r' : Addr → Tok → List (Addr × Obj)} (U : ∀ ad u', Upd R (listOf (rowV rs).toArray k) (listOf (rowV (rs ++ [⟨ad, l, t, u'⟩])).toArray (k + 1)) news (r' ad u'))
    (T : TabIn w R dtb tb th n k rs news) (hz : rs.length ≤ 900) (hr : ∀ q ∈ rowL 0 rs, q.1 ≠ R) (h1 : dtb ≠ R) (h2 : tb ≠ R) (hpl : PlainS (numS rs.length)) (hnl : (numS rs.length).length ≤ 1000)
    (h : ∀ ad u' h' tk, s.toks ≤ tk → ad ≠ R → (∀ q ∈ news, q.1 ≠ R → q.1 ≠ ad) → Fr h₀ L h' m → News h₀ L h' ((ad, (⟨ad, l, t, u'⟩ : Rw).obj rs.length) :: r' ad u') → Q .none { s with heap := h', toks := tk }) :
    wpAny (model PySem.Challenge.rw_to0065_01.row.prog w) A (call (.ref 278) [.ref tb, .str l.str t, .str (numS rs.length) u]) Q E s := by
  have into : ∀ q ∈ news, q.1 ≠ R → q ∈ news.filter fun q => decide (q.1 ≠ R) := fun q hq ne => List.mem_filter.mpr ⟨hq, by simpa using ne⟩
  have off : ∀ q ∈ news.filter fun q => decide (q.1 ≠ R), q.1 ≠ R := fun q hq => by simpa using (List.mem_filter.mp hq).2
  have sub : ∀ q ∈ news.filter fun q => decide (q.1 ≠ R), q ∈ news := fun q hq => (List.mem_filter.mp hq).1
  refine wpAny_toksQ (add_header_c (k := k) (n := n) (th := th) (dtb := dtb) (R := R) (rest := news.filter fun q => decide (q.1 ≠ R)) C hn₀ ?_ hz ?_ h1 h2 hpl hnl fun ad u' h' tk e1 e2 F' N' le => h ad u' h' tk le e2 (fun q hq ne => e1 q (List.mem_append_right _ (into q hq ne))) F' ?_)
  · refine news_sub (T.led N) fun q hq => ?_
    simp only [List.mem_cons, List.mem_append] at hq ⊢
    rcases hq with h | h | h | h | h
    · exact .inl h
    · exact .inr (.inl h)
    · exact .inr (.inr (.inl h))
    · exact .inr (.inr (.inr (.inl h)))
    · exact .inr (.inr (.inr (.inr (sub q h))))
  · intro q hq
    exact (List.mem_append.mp hq).elim (hr q) (off q)
  · have N2 := upd_into (U ad u') (news_back1 (x := (R, listOf (rowV (rs ++ [⟨ad, l, t, u'⟩])).toArray (k + 1))) (a := (dtb, dictOf (hdrD w th R) n)) (b := (tb, instObj 281 dtb)) (k := []) (l := news.filter fun q => decide (q.1 ≠ R)) (c := (tb, instObj 281 dtb)) (news_sub N' fun q hq => by
      simp only [List.nil_append, List.mem_cons, List.mem_append] at hq ⊢
      rcases hq with h | h | h | h | h
      · exact .inl h
      · exact .inr (.inl h)
      · exact .inr (.inr (.inl h))
      · exact .inr (.inr (.inl h))
      · exact .inr (.inr (.inr (.inr h)))))
    intro q hq
    rcases List.mem_cons.mp hq with rfl | hq
    · refine N' _ (List.mem_cons_of_mem _ (List.mem_cons_of_mem _ (List.mem_cons_of_mem _ (List.mem_append_left _ ?_))))
      rw [rowL_snoc, Nat.zero_add]
      exact List.mem_append_right _ List.mem_cons_self
    · exact N2 q hq
end
end PartWrap
theorem lay11 : True := by
  k_with "z call builtin:len" => (k_here; (with_reducible show wpAny _ _ (call (Value.builtin _) [Value.ref _]) _ _ _); k_dflt (refine' len_led ?x9i ?x9j ?x9k ?x9l ?_; (case x9i => k_asm); (case x9j => k_mem); (case x9k => first | exact List.length_map _ | exact rfl); (case x9l => assumption)))
  exact True.intro
section PartTab
theorem iter_none {prog : Program} {w : World} {A : Around} {E : Value → Shared → Prop} {s : Shared} {env : Env} {h₀ : Heap} {L : Addr} {target : Expr} {body : List Stmt} {Q : Flow → Shared → Prop} {ax : Addr} {n : Nat} {m₀ : Str → Option Value} {news : List (Addr × Obj)}
    (hL : env.locals = L) (hh : A.handled = none) (F : Fr h₀ L s.heap m₀) (N : News h₀ L s.heap news) (hm : (ax, listOf #[] n) ∈ news)
    (h : ∀ h tk, Fr h₀ L h m₀ → News h₀ L h news → Q .next { s with heap := h, toks := tk }) :
    wpAny (model prog w) A (pyIter (.ref ax)) (fun it s₂ => TurnsAt prog w A h₀ env target body Q E it s₂) E s := by
  subst hL
  exact iter_listTurns (vs := []) hh F N hm rfl rfl fun I _ => ItemsRest.zero h
section
variable {n₀ : Nat} {w : World} {A₀ A : Around} {base h₀ : Heap} {env : Env} {outer : List Env} {L : Addr} {m : Str → Option Value} {mg mb : Str → Option Value} {mean : ExcName → Option Value} {loose : List Str} {p : Program} {s : Shared}
    {Q : Value → Shared → Prop} {E : Value → Shared → Prop} {R : Addr} {rest : List (Addr × Obj)}
theorem table_c (C : Cx n₀ w A₀ A base h₀ env outer L m mg mb mean loose p s.heap) (hn₀ : n₀ ≤ 700)
    (N : News h₀ L s.heap ((R, listOf #[] 0) :: rest))
    (h : ∀ tb dtb th nd h' tk, (∀ q ∈ (R, listOf #[] 0) :: rest, q.1 < dtb) → (@LT.lt Nat _ dtb tb) → Fr h₀ L h' m → News h₀ L h' ((tb, instObj 281 dtb) :: (dtb, dictOf (hdrD w th R) nd) :: (R, listOf #[] 0) :: rest) → Q (.ref tb) { s with heap := h', toks := tk }) :
    wpAny (model PySem.Challenge.rw_to0065_01.row.prog w) A (call (.ref 281) [.ref R]) Q E s := by
  walk_at "cx_fill"
  w_strict (
    refine' call_cls ?k1 ?k2 ?k3 ?k4 ?k5 ?k6 ?_
    case k1 => k_asm
    case k2 => k_asm
    case k3 => k_asm
    case k4 => k_is
    case k5 => k_is
    case k6 => k_is
    intro x' d' h' F' N' l1 l2
    have l1k := l1
    have l1r := tail_of l1k
    k_lt l1
    k_lt2 l2
    (refine' Cx.code (Cx.upd ?zc1 ?zc2) ?zc3 ?k6 ?k7 ?zc4 ?k9 ?kB ?_ ?c2 ?c3 ?c4 ?c5)
    case zc1 => exact Cx.make (by assumption)
    case zc2 => k_asm
    case zc3 => k_asm
    case zc4 => omega
    case k6 => k_is
    case k7 => k_is
    case k9 => first | exact binds_K (by k_in) rfl (by k_is) rfl rfl rfl | exact BindsTo.of_eq rfl
    case c5 => decide
    case kB => exact locs rfl
    case c2 => exact rfl
    case c3 => exact rfl
    case c4 => exact rfl
    k_whole
    intro g' L' h' tk' FG' N' C'
    have F' := Cx.F C'
    have B' := Cx.B C'
    have X' := Cx.X C'
    have T' := Cx.T C'
    (try dsimp only)
    (try k_lift B')
    (try k_fold)
    iterate 40 (walk_at "go1")
    rename Fr _ _ _ _ => lF'
    with_unfolding_all refine' For_turns lF' ?_
    k_whole
    walk_at "go1"
    k_dflt (refine' iter_none ?zq0 ?zq1 ?zq2 ?zq3 ?zq4 ?_)
    case zq0 => rfl
    case zq1 => exact Cx.hh (by assumption)
    case zq2 => k_asm
    case zq3 => k_asm
    case zq4 => k_mem
    intro h3 tk3 F3 N3
    k_steps
    exact h _ _ _ _ _ _ l1k l2 (by assumption) (by assumption))
end
end PartTab
theorem gen_t {α : Type} {M : Model} {A : Around} {t : Sem α} {Q : α → Shared → Prop} {E : Value → Shared → Prop} {h : Heap} {g d o} {x y : Nat} (k : ∀ tk, x + y ≤ tk → wpAny M A t Q E ⟨h, g, d, tk, o⟩) : wpAny M A t Q E ⟨h, g, d, x + y, o⟩ := k _ (Nat.le_refl _)
section PartEqA
/-- lists of plain values (None, whole numbers, texts) side by side -/
noncomputable def atD : Value → PyData
  | .int n _ => .int n
  | .str z _ => .str z
  | _ => .none
noncomputable def isAt : Value → Bool
  | .int _ _ => true
  | .str z _ => PyData.strOk z
  | .none => true
  | _ => false
theorem reads_at {h : Heap} : ∀ {v : Value}, isAt v = true → Reads h v (atD v) []
  | .int n t, _ => .int n t
  | .str z t, _ => .str z t
  | .none, _ => .none
  | .bool _, e | .ref _, e | .builtin _, e => by cases e
theorem readsAll_at {h : Heap} : ∀ {vs : List Value}, (∀ v ∈ vs, isAt v = true) → ReadsAll h vs (vs.map atD) []
  | [], _ => .nil
  | v :: vs, e => by
    have := ReadsAll.cons (reads_at (h := h) (e v List.mem_cons_self)) (readsAll_at (h := h) (vs := vs) fun x hx => e x (List.mem_cons_of_mem _ hx))
    simpa using this
theorem lay_at : ∀ {v : Value}, isAt v = true → (atD v).canLay0 = true
  | .int _ _, _ => by simp [atD, PyData.canLay0]
  | .str _ _, h => by
    show PyData.canLay0 (.str _) = true; rw [PyData.canLay0]; exact h
  | .none, _ => by simp [atD, PyData.canLay0]
  | .bool _, e | .ref _, e | .builtin _, e => by cases e
theorem layAll_at : ∀ {vs : List Value}, (∀ v ∈ vs, isAt v = true) → PyData.canLayAll0 (vs.map atD) = true
  | [], _ => by simp [PyData.canLayAll0]
  | v :: vs, e => by simp [PyData.canLayAll0, lay_at (e v List.mem_cons_self), layAll_at (vs := vs) fun x hx => e x (List.mem_cons_of_mem _ hx)]
theorem depth_at (v : Value) : (atD v).depth ≤ 1 := by
  unfold atD
  split <;> simp [PyData.depth]
theorem depthAll_at : ∀ vs : List Value, PyData.depthAll (vs.map atD) ≤ 1
  | [] => by simp [PyData.depthAll]
  | v :: vs => by
    have h1 := depthAll_at vs
    have h2 := depth_at v
    simp only [List.map_cons, PyData.depthAll]
    omega
theorem shaped_at {vs : List Value} (h : ∀ v ∈ vs, isAt v = true) : PySem.SeqAt.shaped (.list (vs.map atD)) = true := by
  have h1 := depthAll_at vs
  have h2 : PyData.depth (.list (vs.map atD)) ≤ 64 := by simp only [PyData.depth]; omega
  show (PyData.canLay0 (.list (vs.map atD)) && decide (PyData.depth (.list (vs.map atD)) ≤ 64)) = true
  rw [Bool.and_eq_true]
  exact ⟨by simp only [PyData.canLay0]; exact layAll_at h, decide_eq_true h2⟩
theorem noMix_at1 (v u : Value) : PySem.SeqAt.noMix (atD v) (atD u) = true := by
  unfold atD
  split <;> split <;> simp [PySem.SeqAt.noMix]
theorem noMix_at : ∀ vs us : List Value, PySem.SeqAt.noMixAll (vs.map atD) (us.map atD) = true
  | [], [] => by simp [PySem.SeqAt.noMixAll]
  | [], _ :: _ => by simp [PySem.SeqAt.noMixAll]
  | _ :: _, [] => by simp [PySem.SeqAt.noMixAll]
  | v :: vs, u :: us => by simp [PySem.SeqAt.noMixAll, noMix_at1, noMix_at vs us]
theorem same_at1 (v u : Value) : PySem.Spec.same (atD v) (atD u) = true ↔ atD v = atD u := by
  unfold atD
  split <;> split <;> simp [PySem.Spec.same]
theorem same_at : ∀ vs us : List Value, PySem.Spec.sameAll (vs.map atD) (us.map atD) = true ↔ vs.map atD = us.map atD
  | [], [] => by simp [PySem.Spec.sameAll]
  | [], _ :: _ => by simp [PySem.Spec.sameAll]
  | _ :: _, [] => by simp [PySem.Spec.sameAll]
  | v :: vs, u :: us => by simp [PySem.Spec.sameAll, same_at1, same_at vs us]
theorem isList_mem {h₀ h : Heap} {L D : Addr} {news : List (Addr × Obj)} {its : Array Value} {n : Nat} (N : News h₀ L h news) (m : (D, listOf its n) ∈ news) : h.IsList D its := ⟨_, (N _ m).1, rfl, n, rfl⟩
section
variable {prog : Program} {w : World} {A : Around} {E : Value → Shared → Prop} {s : Shared} {h₀ : Heap} {L a b : Addr} {news : List (Addr × Obj)}
theorem ne_at {vs us : List Value} {n k : Nat} {Q : Value → Shared → Prop} (N : News h₀ L s.heap news) (ma : (a, listOf vs.toArray n) ∈ news) (mb : (b, listOf us.toArray k) ∈ news) (hu : A.units + 64 < cLine)
    (ha : ∀ v ∈ vs, isAt v = true) (hb : ∀ v ∈ us, isAt v = true) (r : Bool) (hr : r = true ↔ vs.map atD ≠ us.map atD)
    (h : Q (.bool r) s) : wpAny (model prog w) A (compareOp .NotEq (.ref a) (.ref b)) Q E s := by
  obtain ⟨o, ho, hc, n', hd⟩ := isList_mem N ma
  obtain ⟨o2, ho2, hc2, n2, hd2⟩ := isList_mem N mb
  refine ne_dataH_same (Reads.list ho hc hd (readsAll_at ha)) (Reads.list ho2 hc2 hd2 (readsAll_at hb)) (shaped_at ha) (shaped_at hb) hu (by simp only [PySem.SeqAt.noMix]; exact noMix_at vs us) ?_
  have e : (!PySem.Spec.same (.list (vs.map atD)) (.list (us.map atD))) = r := by
    simp only [PySem.Spec.same]
    have := same_at vs us
    cases e1 : PySem.Spec.sameAll (vs.map atD) (us.map atD) <;> cases r <;> simp_all
  show Q (.bool (!PySem.Spec.same (.list (vs.map atD)) (.list (us.map atD)))) s
  rw [e]
  exact h
theorem eq_at {vs us : List Value} {n k : Nat} {Q : Value → Shared → Prop} (N : News h₀ L s.heap news) (ma : (a, listOf vs.toArray n) ∈ news) (mb : (b, listOf us.toArray k) ∈ news) (hu : A.units + 64 < cLine)
    (ha : ∀ v ∈ vs, isAt v = true) (hb : ∀ v ∈ us, isAt v = true) (r : Bool) (hr : r = true ↔ vs.map atD = us.map atD)
    (h : Q (.bool r) s) : wpAny (model prog w) A (compareOp .Eq (.ref a) (.ref b)) Q E s := by
  obtain ⟨o, ho, hc, n', hd⟩ := isList_mem N ma
  obtain ⟨o2, ho2, hc2, n2, hd2⟩ := isList_mem N mb
  refine eq_dataH_same (Reads.list ho hc hd (readsAll_at ha)) (Reads.list ho2 hc2 hd2 (readsAll_at hb)) (shaped_at ha) (shaped_at hb) hu (by simp only [PySem.SeqAt.noMix]; exact noMix_at vs us) ?_
  have e : (PySem.Spec.same (.list (vs.map atD)) (.list (us.map atD))) = r := by
    simp only [PySem.Spec.same]
    have := same_at vs us
    cases e1 : PySem.Spec.sameAll (vs.map atD) (us.map atD) <;> cases r <;> simp_all
  show Q (.bool (PySem.Spec.same (.list (vs.map atD)) (.list (us.map atD)))) s
  rw [e]
  exact h
end
theorem strOk_lt (l : Lt) : PyData.strOk l.str = true := by cases l <;> decide +kernel
theorem at_keyV (rs : List Rw) : ∀ v ∈ keyV rs, isAt v = true := fun v hv => by
  obtain ⟨r, _, rfl⟩ := List.mem_map.mp hv
  exact strOk_lt r.l
end PartEqA
section PartNums
theorem numS_int (i : Nat) : numS i = Str.ofString (toString (i : Int)) := rfl
theorem digits_num (i : Nat) : ∀ c ∈ (numS i).cps.toList, 48 ≤ c ∧ c ≤ 57 := by
  rw [numS_int, KIN.signs_num]
  exact List.forall_mem_map.mpr fun _ h => digit_range (Nat.isDigit_of_mem_toDigits (by decide) (by decide) h)
theorem num_len {i : Nat} (h : i ≤ 1000) : (numS i).length ≤ 10 := KT.len_num (Int.natCast_nonneg i) (by omega)
theorem num_plain {i : Nat} (h : i ≤ 1000) : PlainS (numS i) := by
  have hl := num_len h
  have hl2 : (numS i).cps.size ≤ 10 := hl
  refine ⟨fun j hj => ?_, by omega⟩
  have := digits_num i ((numS i).cps.getD j 0) (by
    rw [Array.getD_eq_getD_getElem?, Array.getElem?_eq_getElem hj]
    simp)
  unfold PlainC
  omega
theorem strOk_num (i : Nat) : PyData.strOk (numS i) = true := by
  show Array.all _ _ = true
  rw [Array.all_eq_true]
  intro k hk
  have := digits_num i ((numS i).cps[k]) (by simp)
  simp
  omega
theorem numS_inj {i j : Nat} (hi : i ≤ 1000) (hj : j ≤ 1000) (h : numS i = numS j) : i = j := by
  have a := KIN.num_reads (n := (i : Int)) (by omega) (by omega)
  have b := KIN.num_reads (n := (j : Int)) (by omega) (by omega)
  rw [← numS_int] at a b
  rw [h, b] at a
  injection a with a
  omega
section
variable {prog : Program} {w : World} {A : Around} {E : Value → Shared → Prop} {s : Shared} {Q : Value → Shared → Prop} {t : Tok}
theorem int_num {i : Nat} (hi : i ≤ 1000) (h : Q (.int i s.toks) { s with toks := s.toks + 1 }) : wpAny (model prog w) A (call (.type "int") [.str (numS i) t]) Q E s :=
  KIN.call_num (n := (i : Int)) (by omega) (by omega) h
end
theorem at_valV : ∀ (rs : List Rw) (k : Nat), ∀ v ∈ valV k rs, isAt v = true
  | [], _, v, hv => by cases hv
  | r :: rs, k, v, hv => by
    rcases List.mem_cons.mp hv with rfl | hv
    · exact strOk_num k
    · exact at_valV rs (k + 1) v hv
end PartNums
theorem rowB_eq {c : Lt} {rs : List Rw} (h : c.low = .a) (i : Nat) : rowB c rs i = ((rs.map (·.l))[i]?).any fun l => decide (l.low = .a) := by
  unfold rowB
  rw [List.getElem?_map, h]
  cases rs[i]? <;> rfl
theorem lastA_rows {c : Lt} {rs : List Rw} (h : c.low = .a) : lastA (rs.map (·.l)) = ((List.range' 0 rs.length).filter fun i => rowB c rs i).getLast? := by
  unfold lastA
  rw [List.length_map]
  congr 2
  funext i
  exact (rowB_eq h i).symm
theorem plV_none {c : Lt} {rs : List Rw} (h : c.low = .a) (hl : lastA (rs.map (·.l)) = none) : plV c rs = [] := by
  rw [lastA_rows h, List.getLast?_eq_none_iff] at hl
  unfold plV
  rw [hl]
  rfl
theorem plV_some {c : Lt} {rs : List Rw} {q : Nat} (h : c.low = .a) (hl : lastA (rs.map (·.l)) = some q) : ∃ vs r, rs[q]? = some r ∧ plV c rs = vs ++ [.str (numS q) r.u] := by
  have hlt := lastA_lt hl
  rw [List.length_map] at hlt
  rw [lastA_rows h, List.getLast?_eq_some_iff] at hl
  obtain ⟨ys, e⟩ := hl
  unfold plV
  rw [e, List.map_append]
  refine ⟨ys.map fun i => ((valV 0 rs)[i]?).getD .none, rs[q], List.getElem?_eq_getElem hlt, ?_⟩
  rw [List.map_singleton, valV_get (List.getElem?_eq_getElem hlt), Nat.zero_add]
  rfl
/-- does the a go off -/
noncomputable def goB (rs : List Rw) (c : Lt) : Option Nat := if c.low = .a then lastA (rs.map (·.l)) else none
theorem at_plA (c : Lt) (rs : List Rw) : ∀ v ∈ plV c rs, isAt v = true := fun v hv => by
  obtain ⟨i, hi, rfl⟩ := List.mem_map.mp hv
  have h1 := (List.mem_filter.mp hi).1
  rw [List.mem_range'_1] at h1
  have hlt : i < rs.length := by omega
  rw [valV_get (List.getElem?_eq_getElem hlt), Nat.zero_add]
  exact strOk_num i
theorem lt_beq (x y : Lt) : (x.str == y.str) = decide (x = y) := by cases x <;> cases y <;> decide +kernel
theorem seq_last {α : Type} (vs : List α) (v : α) : seqIndex? (-1) (vs ++ [v]).length = some vs.length := by
  rw [List.length_append, List.length_singleton]
  unfold seqIndex?
  simp
  omega
theorem get_last {α : Type} (vs : List α) (v : α) : (vs ++ [v])[vs.length]? = some v := by simp
theorem Cx.room {n : Nat} {w : World} {A₀ A : Around} {base h₀ : Heap} {env : Env} {outer : List Env} {L : Addr} {m mg mb : Str → Option Value} {mean : ExcName → Option Value} {loose : List Str} {p : Program} {h : Heap} (C : Cx n w A₀ A base h₀ env outer L m mg mb mean loose p h) (hn : n ≤ 9000) : A.units + 64 < cLine := by
  have h1 := C.hu
  have h2 : cLine = 9900 := rfl
  omega
theorem goB_val {rs : List Rw} {q : Nat} {rq : Rw} {c : Lt} {b : Bool} (hrq : rs[q]? = some rq) (h : (rq.l.str == c.other.str) = b) : ((some q).any fun q => decide ((rs.map (·.l))[q]? = some c.other)) = b := by
  rw [lt_beq] at h
  rw [Option.any_some, List.getElem?_map, hrq, Option.map_some]
  rw [← h]
  simp
theorem keyV_rev (rs : List Rw) : (keyV rs).reverse = keyV rs.reverse := (List.map_reverse ..).symm
/-- behind the last a there is none -/
theorem lastA_after {T : List Lt} {q : Nat} (h : lastA T = some q) {i : Nat} {l : Lt} (hi : T[i]? = some l) (hq : q < i) : l.low ≠ .a := by
  intro e
  unfold lastA at h
  rw [List.getLast?_eq_some_iff] at h
  obtain ⟨ys, h⟩ := h
  have hlt : i < T.length := (List.getElem?_eq_some_iff.mp hi).1
  have hm : i ∈ (List.range' 0 T.length).filter fun i => (T[i]?).any fun l => decide (l.low = .a) := by
    rw [List.mem_filter, List.mem_range'_1, hi]
    exact ⟨by omega, by simpa using e⟩
  have hs : ((List.range' 0 T.length).filter fun i => (T[i]?).any fun l => decide (l.low = .a)).Pairwise (· < ·) := (List.pairwise_lt_range').filter _
  rw [h] at hm hs
  rcases List.mem_append.mp hm with hm | hm
  · have := (List.pairwise_append.mp hs).2.2 i hm q (List.mem_singleton.mpr rfl)
    omega
  · have := List.mem_singleton.mp hm
    omega
/-- what indexOf finds in the names turned round -/
theorem idx_rev {rs : List Rw} {c : Lt} {q : Nat} (hlow : c.low = .a) (h : lastA (rs.map (·.l)) = some q) (hgo : (rs.map (·.l))[q]? = some c.other) :
    ∃ rq, rs.reverse[rs.length - q - 1]? = some rq ∧ rq.l = c.other ∧ ∀ j r, j < rs.length - q - 1 → rs.reverse[j]? = some r → r.l ≠ c.other := by
  have hq := lastA_lt h
  rw [List.length_map] at hq
  rw [List.getElem?_map, List.getElem?_eq_getElem hq, Option.map_some, Option.some.injEq] at hgo
  refine ⟨rs[q], ?_, hgo, fun j r hj hr e => ?_⟩
  · rw [List.getElem?_reverse (by omega), show rs.length - 1 - (rs.length - q - 1) = q by omega, List.getElem?_eq_getElem hq]
  · rw [List.getElem?_reverse (by omega)] at hr
    have h2 : (rs.map (·.l))[rs.length - 1 - j]? = some r.l := by rw [List.getElem?_map, hr]; rfl
    refine lastA_after h h2 (by omega) ?_
    rw [e]
    revert hlow
    cases c <;> decide
theorem take_del {rs : List Rw} {i : Nat} (hi : i < rs.length) : ∃ r, rowV (rs.take (rs.length - i)) = rowV (rs.take (rs.length - (i + 1))) ++ [.ref r] := by
  have h : rs.length - (i + 1) < rs.length := by omega
  refine ⟨rs[rs.length - (i + 1)].ad, ?_⟩
  rw [show rs.length - i = rs.length - (i + 1) + 1 by omega, List.take_add_one, List.getElem?_eq_getElem h, Option.toList_some]
  unfold rowV
  rw [List.map_append]
  rfl
section PartLoopD
section
variable {prog : Program} {w : World} {A : Around} {E : Value → Shared → Prop} {s : Shared} {env : Env} {h₀ : Heap} {x : Str} {body : List Stmt} {Q : Flow → Shared → Prop}
/-- behind a turn that rewrites one list -/
noncomputable def TurnD (h₀ : Heap) (L : Addr) (x : Str) (m : Str → Option Value) (D I : Addr) (o : Obj) (vs : List Value) (rest : List (Addr × Obj)) (s₁ : Shared) (Q : Flow → Shared → Prop) (f : Flow) (s₂ : Shared) : Prop :=
  match f with
  | .ret v => Q (.ret v) s₂
  | .brk => Q .next s₂
  | _ => ∃ h' tk u k, s₂ = { s₁ with heap := h', toks := tk } ∧ Fr h₀ L h' (fun y => if y = x then u else m y) ∧ News h₀ L h' ((D, listOf vs.toArray k) :: (I, o) :: rest)
/-- for x in range(n), where each turn rewrites the list D -/
theorem loop_upd {r D : Addr} {n k₀ : Nat} {t₀ u₀ v₀ : Tok} {m : Str → Option Value} {news : List (Addr × Obj)} {nx : Nat → List (Addr × Obj)} (vs : Nat → List Value) {va vb : List Value} (ea : vs 0 = va) (eb : vs n = vb)
    (hh : A.handled = none) (hr : IsRange s.heap r 0 n 1 t₀ u₀ v₀) (hn : n ≤ 100000) (F : Fr h₀ env.locals s.heap m) (N : News h₀ env.locals s.heap news)
    (U : ∀ k, Upd D (listOf va.toArray k₀) (listOf vb.toArray k) news (nx k))
    (turn : ∀ I i t k h tk o rest, i < n → (@Ne Nat I D) → (∀ q ∈ rest, q.1 ≠ D) → (∀ q ∈ rest, q.1 ≠ I) → (∀ q ∈ news, q.1 ≠ D → q ∈ rest) → Fr h₀ env.locals h (fun y => if y = x then some (.int i t) else m y) → News h₀ env.locals h ((D, listOf (vs i).toArray k) :: (I, o) :: rest) →
      wpAny (model prog w) A (execs body env) (TurnD h₀ env.locals x m D I o (vs (i + 1)) rest { s with heap := h, toks := tk } Q) E { s with heap := h, toks := tk })
    (done : ∀ h tk u k, Fr h₀ env.locals h (fun y => if y = x then u else m y) → News h₀ env.locals h (nx k) → Q .next { s with heap := h, toks := tk }) :
    wpAny (model prog w) A (pyIter (.ref r)) (fun it s₂ => LoopAtV prog w A h₀ env x body Q E it s₂) E s := by
  subst ea eb
  have off : ∀ q ∈ news.filter fun q => decide (q.1 ≠ D), q.1 ≠ D := fun q hq => by simpa using (List.mem_filter.mp hq).2
  have into : ∀ q ∈ news, q.1 ≠ D → q ∈ news.filter fun q => decide (q.1 ≠ D) := fun q hq ne => List.mem_filter.mpr ⟨hq, by simpa using ne⟩
  have N0 : News h₀ env.locals s.heap ((D, listOf (vs 0).toArray k₀) :: news.filter fun q => decide (q.1 ≠ D)) := by
    obtain ⟨pre, post, e, _, _, _⟩ := (U 0).split
    refine news_sub N fun q hq => ?_
    rcases List.mem_cons.mp hq with rfl | hq
    · rw [e]
      simp
    · exact (List.mem_filter.mp hq).1
  refine iter_range (fun i m₁ nx₁ => ∃ u k, m₁ = (fun y => if y = x then u else m y) ∧ nx₁ = (D, listOf (vs i).toArray k) :: news.filter fun q => decide (q.1 ≠ D)) hh hr hn F N0 ⟨m x, k₀, ?_, rfl⟩ ?_ ?_
  · funext y
    split
    · rename_i e
      rw [e]
    · rfl
  · rintro I i t m₁ nx₁ h tk o hi ⟨u, k, rfl, rfl⟩ offI F₁ N₁
    have ne : @Ne Nat I D := fun e => offI _ List.mem_cons_self e.symm
    refine wpAny_mono (turn I i t k h tk o _ hi ne off (fun q hq => offI q (List.mem_cons_of_mem _ hq)) into ?_ (news_sub N₁ fun q hq => ?_)) (fun f s₃ p => ?_) fun _ _ e => e
    · have e : (fun y => if y = x then some (Value.int i t) else (if y = x then u else m y)) = fun y => if y = x then some (Value.int i t) else m y := by
        funext y
        by_cases h : y = x
        · rw [if_pos h, if_pos h]
        · rw [if_neg h, if_neg h, if_neg h]
      rw [e] at F₁
      exact F₁
    · simp only [List.mem_cons] at hq ⊢
      rcases hq with h | h | h
      · exact .inr (.inl h)
      · exact .inl h
      · exact .inr (.inr h)
    · have fin : (∃ h' tk' u k, s₃ = { s with heap := h', toks := tk' } ∧ Fr h₀ env.locals h' (fun y => if y = x then u else m y) ∧ News h₀ env.locals h' ((D, listOf (vs (i + 1)).toArray k) :: (I, o) :: news.filter fun q => decide (q.1 ≠ D))) →
          ∃ h' tk' m' nx, s₃ = { s with heap := h', toks := tk' } ∧ Fr h₀ env.locals h' m' ∧ News h₀ env.locals h' ((I, o) :: nx) ∧ (∀ p ∈ nx, p.1 ≠ I) ∧ ∃ u k, m' = (fun y => if y = x then u else m y) ∧ nx = (D, listOf (vs (i + 1)).toArray k) :: news.filter fun q => decide (q.1 ≠ D) := by
        rintro ⟨h', tk', u', k', e, F2, N2⟩
        refine ⟨h', tk', _, _, e, F2, news_sub N2 fun q hq => ?_, fun p hp => ?_, u', k', rfl, rfl⟩
        · simp only [List.mem_cons] at hq ⊢
          rcases hq with h | h | h
          · exact .inr (.inl h)
          · exact .inl h
          · exact .inr (.inr h)
        · rcases List.mem_cons.mp hp with rfl | hp
          · exact Ne.symm ne
          · exact offI p (List.mem_cons_of_mem _ hp)
      cases f with
      | ret v => exact p
      | brk => exact p
      | next => exact fin p
      | cont => exact fin p
  · rintro m₁ nx₁ h tk ⟨u, k, rfl, rfl⟩ F₁ N₁
    exact done h tk u k F₁ (upd_into (U k) N₁)
end
/-- a loop came to its end: one list rewritten, one name bound anew -/
structure GotF (h₀ : Heap) (L : Addr) (x : Str) (m : Str → Option Value) (nx : Nat → List (Addr × Obj)) (s : Shared) (f : Flow) (s' : Shared) : Prop where
  ex : f = .next ∧ ∃ h' tk u k, s' = { s with heap := h', toks := tk } ∧ Fr h₀ L h' (fun y => if y = x then u else m y) ∧ News h₀ L h' (nx k)
theorem got_f {h₀ : Heap} {L : Addr} {x : Str} {m : Str → Option Value} {nx : Nat → List (Addr × Obj)} {h h' : Heap} {g d o} {tk tk' k : Nat} {u : Option Value} (F : Fr h₀ L h' (fun y => if y = x then u else m y)) (N : News h₀ L h' (nx k)) :
    GotF h₀ L x m nx ⟨h, g, d, tk, o⟩ .next ⟨h', g, d, tk', o⟩ := ⟨rfl, h', tk', u, k, rfl, F, N⟩
theorem cut_for {M : Model} {A : Around} {t : Sem Flow} {Q : Flow → Shared → Prop} {E : Value → Shared → Prop} {h : Heap} {g d o} {tk k₀ : Nat} {h₀ : Heap} {L D : Addr} {m : Str → Option Value} {news : List (Addr × Obj)} {nx : Nat → List (Addr × Obj)} (x : Str) (vs vs' : List Value)
    (_F : Fr h₀ L h m) (_N : News h₀ L h news) (_U : ∀ k, Upd D (listOf vs.toArray k₀) (listOf vs'.toArray k) news (nx k))
    (h1 : wpAny M A t (GotF h₀ L x m nx ⟨h, g, d, tk, o⟩) E ⟨h, g, d, tk, o⟩)
    (h2 : ∀ h' tk' u k, tk ≤ tk' → Fr h₀ L h' (fun y => if y = x then u else m y) → News h₀ L h' (nx k) → Q .next ⟨h', g, d, tk', o⟩) : wpAny M A t Q E ⟨h, g, d, tk, o⟩ :=
  wpAny_toksQ (wpAny_mono h1 (fun _ _ ⟨e0, h', tk', u, k, e2, F', N'⟩ le => e0 ▸ e2 ▸ h2 h' tk' u k (by rw [e2] at le; exact le) F' N') fun _ _ e => e)
theorem turn_d {h₀ h h' : Heap} {g d os} {tk tk' : Nat} {L D I : Addr} {x : Str} {m : Str → Option Value} {o : Obj} {vs : List Value} {rest nx : List (Addr × Obj)} {Q : Flow → Shared → Prop} {u : Option Value} (k : Nat)
    (F : Fr h₀ L h' (fun y => if y = x then u else m y)) (N : News h₀ L h' nx) (a : (D, listOf vs.toArray k) ∈ nx) (b : (I, o) ∈ nx) (c : ∀ q ∈ rest, q ∈ nx) : TurnD h₀ L x m D I o vs rest ⟨h, g, d, tk, os⟩ Q .next ⟨h', g, d, tk', os⟩ :=
  ⟨h', tk', u, k, rfl, F, news_sub N fun q hq => by
    rcases List.mem_cons.mp hq with rfl | hq
    · exact a
    · rcases List.mem_cons.mp hq with rfl | hq
      · exact b
      · exact c q hq⟩
/-- a row of statements, what follows kept under two names: so the terms of the first statement's walk stay small -/
theorem execs_consQ {M : Model} {A : Around} {E : Value → Shared → Prop} {s : Shared} {env : Env} {st : Stmt} {rest : List Stmt} {Q : Flow → Shared → Prop}
    (h : ∀ Q' : Flow → Shared → Prop, (∀ s', wpAny M A (execs rest env) Q E s' → Q' .next s') → (∀ f s', f ≠ .next → Q f s' → Q' f s') → wpAny M A (exec st env) Q' E s) : wpAny M A (execs (st :: rest) env) Q E s :=
  wpAny_execs_cons (h _ (fun _ x => x) fun f _ hf x => by cases f <;> first | exact absurd rfl hf | exact x)
theorem oqN {M : Model} {A : Around} {E : Value → Shared → Prop} {s : Shared} {env : Env} {rest : List Stmt} {Q Q' : Flow → Shared → Prop} (hN : ∀ s', wpAny M A (execs rest env) Q E s' → Q' .next s') (h : wpAny M A (execs rest env) Q E s) : Q' .next s := hN s h
theorem oqR {s : Shared} {v : Value} {Q Q' : Flow → Shared → Prop} (hO : ∀ f s', f ≠ .next → Q f s' → Q' f s') (h : Q (.ret v) s) : Q' (.ret v) s := hO _ _ (fun e => nomatch e) h
theorem oqB {s : Shared} {Q Q' : Flow → Shared → Prop} (hO : ∀ f s', f ≠ .next → Q f s' → Q' f s') (h : Q .brk s) : Q' .brk s := hO _ _ (fun e => nomatch e) h
theorem oqC {s : Shared} {Q Q' : Flow → Shared → Prop} (hO : ∀ f s', f ≠ .next → Q f s' → Q' f s') (h : Q .cont s) : Q' .cont s := hO _ _ (fun e => nomatch e) h
/-- what is to follow, under a name -/
theorem gQ {α : Type} {M : Model} {A : Around} {t : Sem α} {Q : α → Shared → Prop} {E : Value → Shared → Prop} {s : Shared} (k : ∀ Q' : α → Shared → Prop, (∀ v s', Q v s' → Q' v s') → wpAny M A t Q' E s) : wpAny M A t Q E s := k Q fun _ _ h => h
theorem oqG {α : Type} {Q Q' : α → Shared → Prop} {v : α} {s : Shared} (h : ∀ v s', Q v s' → Q' v s') (k : Q v s) : Q' v s := h v s k
theorem gE {α : Type} {M : Model} {A : Around} {t : Sem α} {Q : α → Shared → Prop} {E : Value → Shared → Prop} {s : Shared} (k : ∀ E' : Value → Shared → Prop, (∀ v s', E v s' → E' v s') → wpAny M A t Q E' s) : wpAny M A t Q E s := k E fun _ _ h => h
/-- a wall: what was made a name stays one in the proof's term -/
theorem keepP {p : Prop} (h : p) : p := h
end PartLoopD
section PartLoopP
/-- the line's letters -/
structure Ln where
  l : Lt
  t : Tok
noncomputable abbrev lnV (ln : List Ln) : List Value := ln.map fun x => .str x.l.str x.t
noncomputable def Lt.code : Lt → Nat
  | .a => 97 | .A => 65 | .b => 98 | .B => 66
/-- the text of a list of letters -/
noncomputable def sgS (ls : List Lt) : Str := ⟨(ls.map Lt.code).toArray⟩
theorem code_str (l : Lt) : (⟨#[l.code]⟩ : Str) = l.str := by cases l <;> decide +kernel
theorem sgS_size (ls : List Lt) : (sgS ls).cps.size = ls.length := by
  unfold sgS
  simp
theorem sgS_get {ls : List Lt} {i c : Nat} (h : (sgS ls).cps[i]? = some c) : ∃ l, ls[i]? = some l ∧ (⟨#[c]⟩ : Str) = l.str := by
  unfold sgS at h
  simp only [List.getElem?_toArray, List.getElem?_map, Option.map_eq_some_iff] at h
  obtain ⟨l, h1, rfl⟩ := h
  exact ⟨l, h1, code_str l⟩
theorem sgS_ascii (ls : List Lt) : (sgS ls).cps.all (· < 128) = true := by
  unfold sgS
  simp only [List.all_toArray, List.all_map, List.all_eq_true]
  intro l _
  cases l <;> decide
theorem sgS_app (a b : List Lt) : sgS a ++ sgS b = sgS (a ++ b) := by
  show Str.append _ _ = _
  unfold sgS Str.append
  simp
theorem sgS_one (l : Lt) : sgS [l] = l.str := (code_str l)
/-- a text came out, the rest kept -/
structure GotS (h₀ : Heap) (L : Addr) (m : Str → Option Value) (news : List (Addr × Obj)) (z : Str) (s : Shared) (v : Value) (s' : Shared) : Prop where
  ex : ∃ t h' tk, v = .str z t ∧ s' = { s with heap := h', toks := tk } ∧ Fr h₀ L h' m ∧ News h₀ L h' news
theorem got_s {h₀ : Heap} {L : Addr} {m : Str → Option Value} {news : List (Addr × Obj)} {z : Str} {t : Tok} {h h' : Heap} {g d o} {tk tk' : Nat} (F : Fr h₀ L h' m) (N : News h₀ L h' news) :
    GotS h₀ L m news z ⟨h, g, d, tk, o⟩ (.str z t) ⟨h', g, d, tk', o⟩ := ⟨t, h', tk', rfl, rfl, F, N⟩
theorem cut_str {M : Model} {A : Around} {t : Sem Value} {Q : Value → Shared → Prop} {E : Value → Shared → Prop} {h : Heap} {g d o} {tk : Nat} {h₀ : Heap} {L : Addr} {m : Str → Option Value} {news : List (Addr × Obj)} (_F : Fr h₀ L h m) (_N : News h₀ L h news) (z : Str)
    (h1 : wpAny M A t (GotS h₀ L m news z ⟨h, g, d, tk, o⟩) E ⟨h, g, d, tk, o⟩)
    (h2 : ∀ t h' tk', tk ≤ tk' → Fr h₀ L h' m → News h₀ L h' news → Q (.str z t) ⟨h', g, d, tk', o⟩) : wpAny M A t Q E ⟨h, g, d, tk, o⟩ :=
  wpAny_toksQ (wpAny_mono h1 (fun _ _ ⟨t, h', tk', e1, e2, F', N'⟩ le => e1 ▸ e2 ▸ h2 t h' tk' (by rw [e2] at le; exact le) F' N') fun _ _ e => e)
section
variable {prog : Program} {w : World} {A : Around} {E : Value → Shared → Prop} {s : Shared} {env : Env} {h₀ : Heap} {x : Str} {body : List Stmt} {Q : Flow → Shared → Prop}
/-- for x in a text of letters, where each turn sends the letter to the end of the list D -/
theorem loop_push {D : Addr} {z : Str} {zt : Tok} {sg : List Lt} {ln : List Ln} {k₀ : Nat} {m : Str → Option Value} {news : List (Addr × Obj)} (ez : z = sgS sg)
    (hh : A.handled = none) (F : Fr h₀ env.locals s.heap m) (N : News h₀ env.locals s.heap news) (hD : (D, listOf (lnV ln).toArray k₀) ∈ news) (ht : 0 < s.toks)
    (turn : ∀ I i l ln' k h tk o rest, sg[i]? = some l → ln'.length ≤ ln.length + i → (@Ne Nat I D) → (∀ q ∈ rest, q.1 ≠ D) → (∀ q ∈ rest, q.1 ≠ I) → (∀ q ∈ news, q.1 ≠ D → q ∈ rest) → Fr h₀ env.locals h (fun y => if y = x then some (.str l.str tk) else m y) → News h₀ env.locals h ((D, listOf (lnV ln').toArray k) :: (I, o) :: rest) →
      wpAny (model prog w) A (execs body env) (TurnD h₀ env.locals x m D I o (lnV (ln' ++ [⟨l, tk⟩])) rest { s with heap := h, toks := tk + 1 + 1 } Q) E { s with heap := h, toks := tk + 1 + 1 })
    (done : ∀ h tk u k sl rest, (∀ q ∈ news, q.1 ≠ D → q ∈ rest) → (∀ q ∈ rest, q.1 ≠ D) → sl.map (·.l) = sg → (∀ x ∈ sl, 0 < x.t ∧ x.t < tk) → Fr h₀ env.locals h (fun y => if y = x then u else m y) → News h₀ env.locals h ((D, listOf (lnV (ln ++ sl)).toArray k) :: rest) → Q .next { s with heap := h, toks := tk }) :
    StrAt prog w A h₀ env x body Q E (.str z zt) s := by
  subst ez
  have off : ∀ q ∈ news.filter fun q => decide (q.1 ≠ D), q.1 ≠ D := fun q hq => by simpa using (List.mem_filter.mp hq).2
  have into : ∀ q ∈ news, q.1 ≠ D → q ∈ news.filter fun q => decide (q.1 ≠ D) := fun q hq ne => List.mem_filter.mpr ⟨hq, by simpa using ne⟩
  have N0 : News h₀ env.locals s.heap ((D, listOf (lnV ln).toArray k₀) :: news.filter fun q => decide (q.1 ≠ D)) := news_sub N fun q hq => by
    rcases List.mem_cons.mp hq with rfl | hq
    · exact hD
    · exact (List.mem_filter.mp hq).1
  refine ⟨sgS sg, zt, m, _, fun i m₁ nx₁ tk => 0 < tk ∧ ∃ u k sl, sl.map Ln.l = sg.take i ∧ (∀ x ∈ sl, 0 < x.t ∧ x.t < tk) ∧ m₁ = (fun y => if y = x then u else m y) ∧ nx₁ = (D, listOf (lnV (ln ++ sl)).toArray k) :: news.filter fun q => decide (q.1 ≠ D), rfl, sgS_ascii sg, hh, F, N0, ⟨ht, m x, k₀, [], rfl, by simp, ?_, by rw [List.append_nil]⟩, ?_, ?_⟩
  · funext y
    split
    · rename_i e
      rw [e]
    · rfl
  · rintro I i c m₁ nx₁ h tk o hc ⟨h0, u, k, sl, hsl, hst, rfl, rfl⟩ _ offI F₁ N₁
    obtain ⟨l, hl, ec⟩ := sgS_get hc
    rw [ec] at F₁
    have ne : @Ne Nat I D := fun e => offI _ List.mem_cons_self e.symm
    have hi : i < sg.length := (List.getElem?_eq_some_iff.mp hl).1
    have hlen : sl.length = i := by
      have := congrArg List.length hsl
      rw [List.length_map, List.length_take] at this
      omega
    refine wpAny_toksQ (wpAny_mono (turn I i l (ln ++ sl) k h tk o _ hl (by rw [List.length_append]; omega) ne off (fun q hq => offI q (List.mem_cons_of_mem _ hq)) into ?_ (news_sub N₁ fun q hq => ?_)) (fun f s₃ p le => ?_) fun _ _ e => e)
    · have e : (fun y => if y = x then some (Value.str l.str tk) else (if y = x then u else m y)) = fun y => if y = x then some (Value.str l.str tk) else m y := by
        funext y
        by_cases h : y = x
        · rw [if_pos h, if_pos h]
        · rw [if_neg h, if_neg h, if_neg h]
      rw [e] at F₁
      exact F₁
    · simp only [List.mem_cons] at hq ⊢
      rcases hq with h | h | h
      · exact .inr (.inl h)
      · exact .inl h
      · exact .inr (.inr h)
    · have fin : (∃ h' tk' u k', s₃ = { s with heap := h', toks := tk' } ∧ Fr h₀ env.locals h' (fun y => if y = x then u else m y) ∧ News h₀ env.locals h' ((D, listOf (lnV (ln ++ sl ++ [⟨l, tk⟩])).toArray k') :: (I, o) :: news.filter fun q => decide (q.1 ≠ D))) →
          ∃ h' tk' m' nx, s₃ = { s with heap := h', toks := tk' } ∧ Fr h₀ env.locals h' m' ∧ News h₀ env.locals h' ((I, o) :: nx) ∧ (∀ p ∈ nx, p.1 ≠ I) ∧ (0 < tk' ∧ ∃ u k sl, sl.map Ln.l = sg.take (i + 1) ∧ (∀ x ∈ sl, 0 < x.t ∧ x.t < tk') ∧ m' = (fun y => if y = x then u else m y) ∧ nx = (D, listOf (lnV (ln ++ sl)).toArray k) :: news.filter fun q => decide (q.1 ≠ D)) := by
        rintro ⟨h', tk', u', k', rfl, F2, N2⟩
        have le' : @LE.le Nat _ (tk + 1 + 1) tk' := le
        refine ⟨h', tk', _, (D, listOf (lnV (ln ++ (sl ++ [⟨l, tk⟩]))).toArray k') :: news.filter fun q => decide (q.1 ≠ D), rfl, F2, news_sub N2 fun q hq => ?_, fun p hp => ?_, ⟨by omega, u', k', sl ++ [⟨l, tk⟩], ?_, ?_, rfl, rfl⟩⟩
        · rw [← List.append_assoc] at hq
          simp only [List.mem_cons] at hq ⊢
          rcases hq with h | h | h
          · exact .inr (.inl h)
          · exact .inl h
          · exact .inr (.inr h)
        · rcases List.mem_cons.mp hp with rfl | hp
          · exact Ne.symm ne
          · exact offI p (List.mem_cons_of_mem _ hp)
        · rw [List.map_append, hsl, List.take_add_one, hl]
          rfl
        · intro y hy
          rcases List.mem_append.mp hy with hy | hy
          · exact ⟨(hst y hy).1, Nat.lt_of_lt_of_le (hst y hy).2 (by omega)⟩
          · rw [List.mem_singleton.mp hy]
            exact ⟨h0, (show @LT.lt Nat _ tk tk' by omega)⟩
      cases f with
      | ret v => exact p
      | brk => exact p
      | next => exact fin p
      | cont => exact fin p
  · rintro m₁ nx₁ h tk ⟨_, u, k, sl, hsl, hst, rfl, rfl⟩ F₁ N₁
    rw [sgS_size, List.take_length] at hsl
    exact done h tk u k sl _ into off hsl hst F₁ N₁
end
/-- a loop came to its end: letters went to the end of a list -/
structure GotP (h₀ : Heap) (L : Addr) (x : Str) (m : Str → Option Value) (sg : List Lt) (nx : Nat → List Ln → List (Addr × Obj)) (s : Shared) (f : Flow) (s' : Shared) : Prop where
  ex : f = .next ∧ ∃ h' tk u k sl, s' = { s with heap := h', toks := tk } ∧ sl.map (·.l) = sg ∧ (∀ x ∈ sl, 0 < x.t ∧ x.t < tk) ∧ Fr h₀ L h' (fun y => if y = x then u else m y) ∧ News h₀ L h' (nx k sl)
theorem got_p {h₀ : Heap} {L : Addr} {x : Str} {m : Str → Option Value} {sg : List Lt} {nx : Nat → List Ln → List (Addr × Obj)} {h h' : Heap} {g d o} {tk tk' k : Nat} {sl : List Ln} {u : Option Value} (e : sl.map (·.l) = sg) (ht : ∀ x ∈ sl, 0 < x.t ∧ x.t < tk') (F : Fr h₀ L h' (fun y => if y = x then u else m y)) (N : News h₀ L h' (nx k sl)) :
    GotP h₀ L x m sg nx ⟨h, g, d, tk, o⟩ .next ⟨h', g, d, tk', o⟩ := ⟨rfl, h', tk', u, k, sl, rfl, e, ht, F, N⟩
theorem cut_push {M : Model} {A : Around} {t : Sem Flow} {Q : Flow → Shared → Prop} {E : Value → Shared → Prop} {h : Heap} {g d o} {tk k₀ : Nat} {h₀ : Heap} {L D : Addr} {m : Str → Option Value} {news : List (Addr × Obj)} {nx : Nat → List Ln → List (Addr × Obj)} (x : Str) (ln : List Ln) (sg : List Lt)
    (_F : Fr h₀ L h m) (_N : News h₀ L h news) (U : ∀ k sl, Upd D (listOf (lnV ln).toArray k₀) (listOf (lnV (ln ++ sl)).toArray k) news (nx k sl))
    (h1 : (∀ k sl, Upd D (listOf (lnV ln).toArray k₀) (listOf (lnV (ln ++ sl)).toArray k) news (nx k sl)) → wpAny M A t (GotP h₀ L x m sg nx ⟨h, g, d, tk, o⟩) E ⟨h, g, d, tk, o⟩)
    (h2 : ∀ h' tk' u k sl, tk ≤ tk' → sl.map (·.l) = sg → (∀ x ∈ sl, 0 < x.t ∧ x.t < tk') → Fr h₀ L h' (fun y => if y = x then u else m y) → News h₀ L h' (nx k sl) → Q .next ⟨h', g, d, tk', o⟩) : wpAny M A t Q E ⟨h, g, d, tk, o⟩ :=
  wpAny_toksQ (wpAny_mono (h1 U) (fun _ _ ⟨e0, h', tk', u, k, sl, e2, es, ht, F', N'⟩ le => e0 ▸ e2 ▸ h2 h' tk' u k sl (by rw [e2] at le; exact le) es ht F' N') fun _ _ e => e)
theorem upd_rest {h₀ h : Heap} {L D : Addr} {o o' : Obj} {news news' rest : List (Addr × Obj)} (U : Upd D o o' news news') (N : News h₀ L h ((D, o') :: rest)) (into : ∀ q ∈ news, q.1 ≠ D → q ∈ rest) : News h₀ L h news' :=
  upd_into U (news_sub N fun q hq => by
    rcases List.mem_cons.mp hq with rfl | hq
    · exact List.mem_cons_self
    · exact List.mem_cons_of_mem _ (into q (List.mem_filter.mp hq).1 (by simpa using (List.mem_filter.mp hq).2)))
end PartLoopP
noncomputable def endS (b : Lt) : Str := if b = .a then "Bb" else "bB"
noncomputable def e0 (b : Lt) : Lt := if b = .a then .B else .b
noncomputable def e1 (b : Lt) : Lt := if b = .a then .b else .B
noncomputable def md (d : Lt) : Lt := if d = .b then .a else .A
theorem endS_t {l : Lt} (h : (l.str == "a") = true) : endS l = "Bb" := by
  have e : (l.str == "a") = decide (l = .a) := lt_beq l .a
  rw [e, decide_eq_true_eq] at h
  exact if_pos h
theorem endS_f {l : Lt} (h : (l.str == "a") = false) : endS l = "bB" := by
  have e : (l.str == "a") = decide (l = .a) := lt_beq l .a
  rw [e, decide_eq_false_iff_not] at h
  exact if_neg h
theorem md_t {l : Lt} (h : (l.str == "b") = true) : (md l).str = "a" := by
  have e : (l.str == "b") = decide (l = .b) := lt_beq l .b
  rw [e, decide_eq_true_eq] at h
  rw [md, if_pos h]
theorem md_f {l : Lt} (h : (l.str == "b") = false) : (md l).str = "A" := by
  have e : (l.str == "b") = decide (l = .b) := lt_beq l .b
  rw [e, decide_eq_false_iff_not] at h
  rw [md, if_neg h]
theorem endS_len (b : Lt) : (endS b).length = 2 := by cases b <;> decide +kernel
theorem endS_0 (b : Lt) : Txt.item (endS b) 0 = (e0 b).str := by cases b <;> decide +kernel
theorem endS_1 (b : Lt) : Txt.item (endS b) 1 = (e1 b).str := by cases b <;> decide +kernel
theorem foldl_rep (x : Array Nat) : ∀ (n : Nat) (acc : Array Nat), ((List.replicate n x).foldl (· ++ ·) acc).toList = acc.toList ++ (List.replicate n x.toList).flatten
  | 0, acc => by simp
  | n + 1, acc => by
    rw [List.replicate_succ, List.foldl_cons, foldl_rep x n]
    simp [List.replicate_succ]
theorem str_cps (l : Lt) : l.str.cps = #[l.code] := by cases l <;> decide +kernel
theorem mul_sgS (l : Lt) (n : Nat) : Txt.mul l.str n = sgS (List.replicate n l) := by
  unfold Txt.mul
  by_cases h0 : (n : Int) < 1
  · rw [if_pos h0]
    have : n = 0 := by omega
    subst this
    rfl
  · rw [if_neg h0]
    by_cases h1 : ((n : Int) == 1 || l.str.length == 0) = true
    · rw [if_pos h1]
      have : n = 1 := by
        rw [Bool.or_eq_true] at h1
        rcases h1 with h1 | h1
        · have := eq_of_beq h1
          omega
        · have e : l.str.length = 1 := by cases l <;> decide +kernel
          rw [e] at h1
          cases h1
      subst this
      exact (sgS_one l).symm
    · rw [if_neg h1, Int.toNat_natCast]
      unfold sgS
      congr 1
      apply Array.toList_inj.mp
      rw [foldl_rep, str_cps]
      simp [List.flatten_replicate_singleton]
theorem handle_pos (b d : Lt) {n : Nat} (h : 0 < n) : handle b d n = e0 b :: (List.replicate n (md d) ++ [e1 b]) := if_pos h
theorem sgS_len (ls : List Lt) : (sgS ls).length = ls.length := sgS_size ls
theorem sgS_handle (b d : Lt) {n : Nat} (h : 0 < n) : ((e0 b).str ++ sgS (List.replicate n (md d))) ++ (e1 b).str = sgS (handle b d n) := by
  rw [handle_pos b d h, ← sgS_one (e0 b), ← sgS_one (e1 b), sgS_app, sgS_app]
  rfl
theorem last_rows {rs : List Rw} (h : 0 < rs.length) : ∃ (vs : List Value) (d : Rw), keyV rs = vs ++ [.str d.l.str d.t] ∧ (rs.map (·.l)).getLast? = some d.l := by
  have hl := List.getLast?_eq_some_getLast (List.ne_nil_of_length_pos h)
  obtain ⟨ys, e⟩ := List.getLast?_eq_some_iff.mp hl
  refine ⟨keyV ys, rs.getLast (List.ne_nil_of_length_pos h), ?_, ?_⟩
  · conv => lhs; rw [e]
    unfold keyV
    rw [List.map_append]
    rfl
  · rw [List.getLast?_map, hl]
    rfl
theorem dec_cast (n : Nat) : decide ((0 : Int) < (n : Int)) = decide (0 < n) := by
  by_cases h : 0 < n
  · rw [decide_eq_true h, decide_eq_true (by omega)]
  · rw [decide_eq_false h, decide_eq_false (by omega)]
theorem e0_app (l : Lt) (r : List Lt) : l.str ++ sgS r = sgS (l :: r) := by
  rw [← sgS_one l, sgS_app]
  rfl
theorem app_e1 (r : List Lt) (l : Lt) : sgS r ++ l.str = sgS (r ++ [l]) := by rw [← sgS_one l, sgS_app]
theorem lt_len (l : Lt) : l.str.length = 1 := by cases l <;> decide +kernel
/-- the line, turned i places -/
noncomputable def rot (ln sl : List Ln) (i : Nat) : List Ln := ln.drop i ++ (sl ++ ln.take i)
theorem rot_step {ln sl : List Ln} {i : Nat} (h : i < ln.length) : ∃ y r, rot ln sl i = y :: r ∧ rot ln sl (i + 1) = r ++ [y] := by
  refine ⟨ln[i], ln.drop (i + 1) ++ (sl ++ ln.take i), ?_, ?_⟩
  · unfold rot
    rw [List.drop_eq_getElem_cons h]
    rfl
  · unfold rot
    rw [List.take_add_one, List.getElem?_eq_getElem h, Option.toList_some]
    simp
theorem rot_0 (ln sl : List Ln) : rot ln sl 0 = ln ++ sl := by simp [rot]
theorem rot_n (ln sl : List Ln) : rot ln sl ln.length = sl ++ ln := by simp [rot]
theorem rot_len (ln sl : List Ln) (i : Nat) : (rot ln sl i).length ≤ ln.length + sl.length + i := by
  simp only [rot, List.length_append, List.length_drop, List.length_take]
  omega
theorem rowL_take : ∀ {rs : List Rw} {q k : Nat} {x : Addr × Obj}, x ∈ rowL k (rs.take q) → x ∈ rowL k rs
  | [], q, k, x, h => by rw [List.take_nil] at h; exact h
  | r :: rs, 0, k, x, h => by cases h
  | r :: rs, q + 1, k, x, h => by
    rcases List.mem_cons.mp h with h | h
    · exact h ▸ List.mem_cons_self
    · exact List.mem_cons_of_mem _ (rowL_take h)
theorem stepW_go {T L : List Lt} {c : Lt} {q : Nat} (hlow : c.low = .a) (hl : lastA T = some q) (hgo : T[q]? = some c.other) :
    stepW T c L = (T.take q, handle c.other (T.getLast?.getD .a) (T.length - q - 1) ++ L) := by
  unfold stepW
  rw [if_pos hlow, hl]
  exact if_pos hgo
theorem stepW_pop {T L : List Lt} {c : Lt} (h : ((if c.low = .a then lastA T else none).any fun q => decide (T[q]? = some c.other)) = false) : stepW T c L = popB T c L := by
  unfold stepW
  split
  · rename_i q hq
    rw [hq, Option.any_some, decide_eq_false_iff_not] at h
    exact if_neg h
  · rfl
theorem push_lnV (ln : List Ln) (y : Ln) : (lnV ln).toArray.push (.str y.l.str y.t) = (lnV (ln ++ [y])).toArray := by
  unfold lnV
  rw [List.map_append, List.push_toArray]
  rfl
theorem push_ln (ln : List Ln) (l : Lt) (t : Tok) : (lnV ln).toArray.push (.str l.str t) = (lnV (ln ++ [⟨l, t⟩])).toArray := push_lnV ln ⟨l, t⟩
section PartSlices
theorem sliceRange_up {a b : Nat} (h : a ≤ b) : sliceRange (a : Int) (b : Int) 1 = (List.range (b - a)).map (a + ·) := by
  unfold sliceRange
  have hc : (if (1 : Int) > 0 then (if (a : Int) < b then ((b : Int) - a + 1 - 1) / 1 else 0) else (if (a : Int) > b then ((a : Int) - b - 1 - 1) / -1 else 0)).toNat = b - a := by
    rw [if_pos (by decide)]
    split
    · rw [Int.ediv_one]
      omega
    · omega
  simp only [hc]
  apply List.map_congr_left
  intro k _
  omega
open Builtin.Str in
theorem idx_to {n j : Nat} (h : j ≤ n) : strSliceIndices none (some (j : Int)) 1 n = (List.range j).map (0 + ·) := by
  have e : strSliceIndices none (some (j : Int)) 1 n = sliceRange ((0 : Nat) : Int) (j : Int) 1 := by
    unfold strSliceIndices
    have h1 : ¬ ((j : Int) < 0) := by omega
    have e1 : max 0 (min (j : Int) n) = j := by omega
    simp only [show (1 : Int) > 0 by decide, if_true, if_neg h1, e1]
    rfl
  rw [e, sliceRange_up (Nat.zero_le j), Nat.sub_zero]
open Builtin.Str in
theorem idx_from {n j : Nat} (h : j ≤ n) : strSliceIndices (some (j : Int)) none 1 n = (List.range (n - j)).map (j + ·) := by
  have e : strSliceIndices (some (j : Int)) none 1 n = sliceRange (j : Int) (n : Int) 1 := by
    unfold strSliceIndices
    have h1 : ¬ ((j : Int) < 0) := by omega
    have e1 : max 0 (min (j : Int) n) = j := by omega
    simp only [show (1 : Int) > 0 by decide, if_true, if_neg h1, e1]
  rw [e, sliceRange_up h]
theorem txt_slice {x : Str} {l u : Option Int} {zs : List Nat} (h : (Builtin.Str.strSliceIndices l u 1 x.length).filterMap (x.cps[·]?) = zs) (hw : (Builtin.Str.strSliceIndices l u 1 x.length).length = x.length → zs = x.cps.toList) : Txt.slice x l u = ⟨zs.toArray⟩ := by
  unfold Txt.slice
  split
  · rename_i hc
    rw [hw (by simpa using hc)]
  · rw [h]
theorem slice_take {ls : List Lt} {j : Nat} (h : j ≤ ls.length) : Txt.slice (sgS ls) none (some (j : Int)) = sgS (ls.take j) := by
  have hl : (sgS ls).length = ls.length := sgS_len ls
  refine txt_slice (zs := (ls.take j).map Lt.code) ?_ ?_
  · rw [hl, idx_to h, pick_run]
    simp [sgS, List.map_take]
  · rw [hl, idx_to h, List.length_map, List.length_range]
    rintro rfl
    simp [sgS]
theorem slice_drop {ls : List Lt} {j : Nat} (h : j ≤ ls.length) : Txt.slice (sgS ls) (some (j : Int)) none = sgS (ls.drop j) := by
  have hl : (sgS ls).length = ls.length := sgS_len ls
  refine txt_slice (zs := (ls.drop j).map Lt.code) ?_ ?_
  · rw [hl, idx_from h, pick_run]
    show ((ls.map Lt.code).toArray.toList.drop j).take (ls.length - j) = _
    rw [List.toList_toArray, List.map_drop]
    exact List.take_of_length_le (by rw [List.length_drop, List.length_map]; exact Nat.le_refl _)
  · rw [hl, idx_from h, List.length_map, List.length_range]
    intro e
    have : j = 0 ∨ ls.length = 0 := by omega
    rcases this with rfl | h0
    · simp [sgS]
    · rw [List.eq_nil_of_length_eq_zero h0]
      simp [sgS]
theorem slice_takeI {ls : List Lt} {j : Int} (h0 : 0 ≤ j) (h : j ≤ ls.length) : Txt.slice (sgS ls) none (some j) = sgS (ls.take j.toNat) := by
  obtain ⟨n, rfl⟩ := Int.eq_ofNat_of_zero_le h0
  exact slice_take (by omega)
theorem slice_dropI {ls : List Lt} {j : Int} (h0 : 0 ≤ j) (h : j ≤ ls.length) : Txt.slice (sgS ls) (some j) none = sgS (ls.drop j.toNat) := by
  obtain ⟨n, rfl⟩ := Int.eq_ofNat_of_zero_le h0
  exact slice_drop (by omega)
end PartSlices
theorem lay12 : True := by
  k_with "z storeName" => (k_here; (with_reducible show wpAny _ _ (storeName _ _ _) _ _ _); k_dflt (refine' store_t ?x9i ?x9j ?x9k ?x9l ?x9m ?_; (case x9i => k_asm); (case x9j => k_asm); (case x9k => exact rfl); (case x9l => exact rfl); (case x9m => exact rfl)); intro _ x9F _; (try dsimp only at x9F ⊢))
  k_with "z execs cons" => (k_here; (with_reducible refine gen_t ?_); intro _ x9l; (try dsimp only at x9l))
  exact True.intro
section PartNetrc
section
variable {n₀ : Nat} {w : World} {A₀ A : Around} {base h₀ : Heap} {env : Env} {outer : List Env} {L : Addr} {m : Str → Option Value} {mg mb : Str → Option Value} {mean : ExcName → Option Value} {loose : List Str} {p : Program} {s : Shared}
    {Q : Value → Shared → Prop} {E : Value → Shared → Prop} {rest : List (Addr × Obj)}
theorem perm3 {h₀ h : Heap} {L : Addr} {a b c : Addr × Obj} {r : List (Addr × Obj)} (N : News h₀ L h (a :: b :: c :: r)) : News h₀ L h (a :: c :: b :: r) := news_sub N fun q hq => by
  simp only [List.mem_cons] at hq ⊢
  rcases hq with h | h | h | h
  · exact .inl h
  · exact .inr (.inr (.inl h))
  · exact .inr (.inl h)
  · exact .inr (.inr (.inr h))
theorem netrc_c {v : Value} (C : Cx n₀ w A₀ A base h₀ env outer L m mg mb mean loose p s.heap) (hn₀ : n₀ ≤ 700)
    (N : News h₀ L s.heap rest)
    (h : ∀ lx dx P t1 t2 t3 t4 t5 t6 h' tk, (∀ q ∈ rest, q.1 < dx) → (@LT.lt Nat _ dx lx) → (∀ q ∈ rest, q.1 ≠ P) → dx ≠ P → lx ≠ P → Fr h₀ L h' m → News h₀ L h' ((P, listOf #[] 0) :: (dx, dictOf (lexD w 1 v P t1 t2 t3 t4 t5 t6) 4) :: (lx, instObj 76 dx) :: rest) → Q (.ref lx) { s with heap := h', toks := tk }) :
    wpAny (model PySem.Challenge.rw_to0065_01.row.prog w) A (call (.ref 76) [v]) Q E s := by
  walk_at "cx_fill"
  w_strict (
    refine' call_cls ?k1 ?k2 ?k3 ?k4 ?k5 ?k6 ?_
    case k1 => k_asm
    case k2 => k_asm
    case k3 => k_asm
    case k4 => k_is
    case k5 => k_is
    case k6 => k_is
    intro x' d' h' F' N' l1 l2
    have l1k := l1
    (try k_lt l1)
    (try k_lt2 l2)
    (refine' Cx.code (Cx.upd ?zc1 ?zc2) ?zc3 ?k6 ?k7 ?zc4 ?k9 ?kB ?_ ?c2 ?c3 ?c4 ?c5)
    case zc1 => exact Cx.make (by assumption)
    case zc2 => k_asm
    case zc3 => k_asm
    case zc4 => omega
    case k6 => k_is
    case k7 => k_is
    case k9 => first | exact binds_K (by k_in) rfl (by k_is) rfl rfl rfl | exact BindsTo.of_eq rfl
    case c5 => decide
    case kB => exact locs rfl
    case c2 => exact rfl
    case c3 => exact rfl
    case c4 => exact rfl
    k_whole
    intro g' L' h' tk' FG' N' C'
    have F' := Cx.F C'
    have B' := Cx.B C'
    have X' := Cx.X C'
    have T' := Cx.T C'
    (try dsimp only)
    (try k_lift B')
    (try k_fold)
    iterate 28 (walk_at "go1")
    rename (_ < _) ∧ _ => ll
    rename News h₀ L _ _ => NN
    exact h _ _ _ _ _ _ _ _ _ _ _ l1k l2 (fun q hq => Nat.ne_of_lt (allLt_at ll.2.2 q hq)) (Nat.ne_of_lt ll.2.1) (Nat.ne_of_lt ll.1) (by assumption) (perm3 NN))
end
end PartNetrc
theorem lay13 : True := by
  k_with "upd" => first | (refine' Upd.head ?_; k_all) | (refine' Upd.tail ?_ (by walk_at "upd"); first | walk_at "nes" | k_ne)
  k_with "z execs cons" => (k_here; (fail_if_success (with_reducible refine gen_t ?_)); (with_reducible refine execs_consQ ?_); intro _ _ _)
  k_with "oq" => first | (with_reducible refine oqN (by assumption) ?_) | (with_reducible refine oqR (by assumption) ?_) | (with_reducible refine oqB (by assumption) ?_) | (with_reducible refine oqC (by assumption) ?_) | (with_reducible refine oqG (by assumption) ?_)
  k_with "go1" => first | ((first | (k_unfold; (try dsimp only)) | walk1 | (dsimp only; walk1) | (leave1; walk_say "STEP leave1"; try dsimp only)); (try (walk_at "oq"; try dsimp only))) | (walk_at "oq"; try dsimp only)
  k_with "z execs nil" => (k_here; (with_reducible refine wpAny_execs_nil ?_); try dsimp only)
  exact True.intro
section PartUndone
theorem lay14 : True := by
  k_with "tok_le" => first | walk_at "lec" | walk_at "ltc" | (dsimp only; first | walk_at "lec" | walk_at "ltc") | omega | (dsimp only; omega) | (dsimp only at *; omega)
  exact True.intro
theorem in_tl {α : Type} {A l : List α} {x : α} (h : ∀ q ∈ A, q ∈ l) : ∀ q ∈ A, q ∈ x :: l := fun q hq => List.mem_cons_of_mem _ (h q hq)
theorem in_self {α : Type} {l : List α} : ∀ q ∈ l, q ∈ l := fun _ hq => hq
theorem lay15 : True := by
  k_with "rows_in2" => first | exact in_self | (refine in_tl ?_; walk_at "rows_in2")
  exact True.intro
theorem lay16 : True := by
  k_with "rows_in" => first | exact (fun q hq => List.mem_append_left _ hq) | (refine in_tl ?_; walk_at "rows_in")
  exact True.intro
theorem off1_lt {D : Addr} : ∀ {news : List (Addr × Obj)}, AllLt D news → LCg.Off1 D news
  | [], _ => trivial
  | _ :: _, h => ⟨Nat.ne_of_lt h.1, off1_lt h.2⟩
theorem lt_right {a D : Nat} {news : List (Addr × Obj)} (h : a < D ∧ AllLt D news) : AllLt D news := h.2
theorem off1_cons {D a : Addr} {o : Obj} {r : List (Addr × Obj)} (h : LCg.Off1 D ((a, o) :: r)) : (@Ne Nat a D) ∧ LCg.Off1 D r := h
theorem low_mem (l : Lt) : ([("a" : Str), "A"].any fun y => y == l.str) = decide (l.low = .a) := by cases l <;> decide +kernel
/-- a new list came out, the rest kept -/
structure GotL (h₀ : Heap) (L : Addr) (m : Str → Option Value) (news : List (Addr × Obj)) (vs : List Value) (s : Shared) (v : Value) (s' : Shared) : Prop where
  ex : ∃ D n h' tk, v = .ref D ∧ s' = { s with heap := h', toks := tk } ∧ s.toks ≤ tk ∧ Fr h₀ L h' m ∧ News h₀ L h' ((D, listOf vs.toArray n) :: news) ∧ LCg.Off1 D news
theorem got_l {h₀ : Heap} {L : Addr} {m : Str → Option Value} {news : List (Addr × Obj)} {vs : List Value} {h h' : Heap} {g d o} {tk tk' : Nat} {D : Addr} {n : Nat} (F : Fr h₀ L h' m) (N : News h₀ L h' ((D, listOf vs.toArray n) :: news)) (o1 : LCg.Off1 D news) (le : tk ≤ tk') :
    GotL h₀ L m news vs ⟨h, g, d, tk, o⟩ (.ref D) ⟨h', g, d, tk', o⟩ := ⟨D, n, h', tk', rfl, rfl, le, F, N, o1⟩
theorem cut_list {M : Model} {A : Around} {t : Sem Value} {Q : Value → Shared → Prop} {E : Value → Shared → Prop} {h : Heap} {g d o} {tk : Nat} {h₀ : Heap} {L : Addr} {m : Str → Option Value} {news : List (Addr × Obj)} (_F : Fr h₀ L h m) (_N : News h₀ L h news) (vs : List Value)
    (h1 : wpAny M A t (GotL h₀ L m news vs ⟨h, g, d, tk, o⟩) E ⟨h, g, d, tk, o⟩)
    (h2 : ∀ D n h' tk', tk ≤ tk' → Fr h₀ L h' m → News h₀ L h' ((D, listOf vs.toArray n) :: news) → LCg.Off1 D news → Q (.ref D) ⟨h', g, d, tk', o⟩) : wpAny M A t Q E ⟨h, g, d, tk, o⟩ :=
  wpAny_mono h1 (fun _ _ ⟨D, n, h', tk', e1, e2, le, F', N', o1⟩ => e1 ▸ e2 ▸ h2 D n h' tk' le F' N' o1) fun _ _ e => e
/-- a value came out, the rest kept -/
structure GotV {α : Type} (h₀ : Heap) (L : Addr) (m : Str → Option Value) (news : List (Addr × Obj)) (b : α) (s : Shared) (v : α) (s' : Shared) : Prop where
  ex : ∃ h' tk, v = b ∧ s' = { s with heap := h', toks := tk } ∧ s.toks ≤ tk ∧ Fr h₀ L h' m ∧ News h₀ L h' news
theorem got_v {α : Type} {h₀ : Heap} {L : Addr} {m : Str → Option Value} {news : List (Addr × Obj)} {b : α} {h h' : Heap} {g d o} {tk tk' : Nat} (F : Fr h₀ L h' m) (N : News h₀ L h' news) (le : tk ≤ tk') :
    GotV h₀ L m news b ⟨h, g, d, tk, o⟩ b ⟨h', g, d, tk', o⟩ := ⟨h', tk', rfl, rfl, le, F, N⟩
theorem cut_val {α : Type} {M : Model} {A : Around} {t : Sem α} {Q : α → Shared → Prop} {E : Value → Shared → Prop} {h : Heap} {g d o} {tk : Nat} {h₀ : Heap} {L : Addr} {m : Str → Option Value} {news : List (Addr × Obj)} (_F : Fr h₀ L h m) (_N : News h₀ L h news) (b : α)
    (h1 : wpAny M A t (GotV h₀ L m news b ⟨h, g, d, tk, o⟩) E ⟨h, g, d, tk, o⟩)
    (h2 : ∀ h' tk', tk ≤ tk' → Fr h₀ L h' m → News h₀ L h' news → Q b ⟨h', g, d, tk', o⟩) : wpAny M A t Q E ⟨h, g, d, tk, o⟩ :=
  wpAny_mono h1 (fun _ _ ⟨h', tk', e1, e2, le, F', N'⟩ => e1 ▸ e2 ▸ h2 h' tk' le F' N') fun _ _ e => e
/-- the places of a letter, where it is an a -/
noncomputable def plA (l : Lt) (rs : List Rw) : List Value := if l.low = .a then plV l rs else []
theorem plA_a {l : Lt} {rs : List Rw} (h : l.low = .a) : plA l rs = plV l rs := if_pos h
theorem plA_b {l : Lt} {rs : List Rw} (h : l.low ≠ .a) : plA l rs = [] := if_neg h
/-- what holds ahead of each turn -/
structure UJ (w : World) (m₀ : Str → Option Value) (lx dx P R dtb tb : Addr) (ln0 : Int) (ins : Value) (t1 t2 t3 t4 t5 t6 th : Tok) (n nd : Nat) (rest : List (Addr × Obj)) (T : List Lt) (N : Nat) (m : Str → Option Value) (nx : List (Addr × Obj)) (tk : Nat) : Prop where
  ex : ∃ (rs : List Rw) (ln : List Ln) (kR kP : Nat) (u : Str → Option Value) (tw : Tok),
    m = (fun y : Str => if y = "waits" then some (.int ln.length tw) else if (["letter", "begin", "names", "places", "behind", "k", "ends", "middle", "sign"] : List Str).contains y then u y else m₀ y) ∧
    nx = (tb, instObj 281 dtb) :: (dtb, dictOf (hdrD w th R) nd) :: (R, listOf (rowV rs).toArray kR) :: (P, listOf (lnV ln).toArray kP) :: (dx, dictOf (lexD w ln0 ins P t1 t2 t3 t4 t5 t6) n) :: (lx, instObj 76 dx) :: (rowL 0 rs ++ rest) ∧
    iterW N (rs.map (·.l), ln.map (·.l)) = (T, []) ∧ rs.length + ln.length ≤ 100 ∧ (∀ r ∈ rs, 0 < r.t ∧ r.t < tk) ∧ (∀ x ∈ ln, 0 < x.t ∧ x.t < tk) ∧
    (∀ q ∈ rowL 0 rs ++ rest, q.1 ≠ R) ∧ (∀ q ∈ rowL 0 rs ++ rest, q.1 ≠ P)
noncomputable abbrev turnNames : List Str := ["letter", "begin", "names", "places", "behind", "k", "ends", "middle", "sign"]
theorem uj_map {M m₀ : Str → Option Value} {v : Value} (hw : M "waits" = some v) (hm : ∀ y : Str, y ≠ "waits" → ¬ turnNames.contains y = true → M y = m₀ y) :
    M = fun y : Str => if y = "waits" then some v else if turnNames.contains y then M y else m₀ y := by
  funext y
  by_cases h1 : y = "waits"
  · rw [if_pos h1, h1]
    exact hw
  · rw [if_neg h1]
    by_cases h2 : turnNames.contains y = true
    · rw [if_pos h2]
    · rw [if_neg h2]
      exact hm y h1 h2
theorem ne_of_turn {y : Str} (h2 : ¬ turnNames.contains y = true) : y ≠ "letter" ∧ y ≠ "begin" ∧ y ≠ "names" ∧ y ≠ "places" ∧ y ≠ "behind" ∧ y ≠ "k" ∧ y ≠ "ends" ∧ y ≠ "middle" ∧ y ≠ "sign" := by
  refine ⟨?_, ?_, ?_, ?_, ?_, ?_, ?_, ?_, ?_⟩ <;> (rintro rfl; exact h2 (by decide +kernel))
theorem sub_take {rs : List Rw} {q : Nat} {rest : List (Addr × Obj)} {P : Addr × Obj → Prop} (h : ∀ x ∈ rowL 0 rs ++ rest, P x) : ∀ x ∈ rowL 0 (rs.take q) ++ rest, P x :=
  fun x hx => h x ((List.mem_append.mp hx).elim (fun e => List.mem_append_left _ (rowL_take e)) (fun e => List.mem_append_right _ e))
theorem handle_no (b d : Lt) {n : Nat} (h : ¬ 0 < n) : handle b d n = [] := if_neg h
theorem last_val {T : List Lt} {d c : Lt} {b : Bool} (hd : T.getLast? = some d) (h : (d.str == c.str) = b) : decide (T.getLast? = some c) = b := by
  rw [lt_beq] at h
  rw [hd, ← h]
  simp
theorem row_last {rs : List Rw} (h : 0 < rs.length) : ∃ r, rowV rs = rowV (rs.take (rs.length - 1)) ++ [.ref r] := by
  obtain ⟨r, e⟩ := take_del (rs := rs) (i := 0) h
  rw [Nat.sub_zero, List.take_length] at e
  exact ⟨r, e⟩
theorem sub_snoc {rs : List Rw} {r : Rw} {rest : List (Addr × Obj)} {P : Addr × Obj → Prop} (h : ∀ x ∈ rowL 0 rs ++ rest, P x) (hr : P (r.ad, r.obj rs.length)) : ∀ x ∈ rowL 0 (rs ++ [r]) ++ rest, P x := by
  intro x hx
  rw [rowL_snoc, Nat.zero_add] at hx
  rcases List.mem_append.mp hx with e | e
  · rcases List.mem_append.mp e with e | e
    · exact h x (List.mem_append_left _ e)
    · rw [List.mem_singleton.mp e]
      exact hr
  · exact h x (List.mem_append_right _ e)
theorem uj_next {w : World} {m₀ M : Str → Option Value} {h₀ h h' : Heap} {g d o} {tk tk' : Nat} {L lx dx P R dtb tb : Addr} {ln0 : Int} {ins : Value} {t1 t2 t3 t4 t5 t6 th : Tok} {n nd kR kP : Nat} {rest nx : List (Addr × Obj)} {T : List Lt} {n' : Nat} {Q : Flow → Shared → Prop} (rs : List Rw) (ln : List Ln)
    (F : Fr h₀ L h' M) (N : News h₀ L h' nx) (hw : ∃ tw, M "waits" = some (.int ln.length tw)) (hm : ∀ y : Str, y ≠ "waits" → ¬ turnNames.contains y = true → M y = m₀ y)
    (a1 : (tb, instObj 281 dtb) ∈ nx) (a2 : (dtb, dictOf (hdrD w th R) nd) ∈ nx) (a3 : (R, listOf (rowV rs).toArray kR) ∈ nx) (a4 : (P, listOf (lnV ln).toArray kP) ∈ nx) (a5 : (dx, dictOf (lexD w ln0 ins P t1 t2 t3 t4 t5 t6) n) ∈ nx) (a6 : (lx, instObj 76 dx) ∈ nx) (a7 : ∀ q ∈ rowL 0 rs ++ rest, q ∈ nx)
    (run : iterW n' (rs.map (·.l), ln.map (·.l)) = (T, [])) (hz : rs.length + ln.length ≤ 100) (hr : ∀ r ∈ rs, 0 < r.t ∧ r.t < tk') (hl : ∀ x ∈ ln, 0 < x.t ∧ x.t < tk') (hR : ∀ q ∈ rowL 0 rs ++ rest, q.1 ≠ R) (hP : ∀ q ∈ rowL 0 rs ++ rest, q.1 ≠ P) :
    WhlT h₀ L ⟨h, g, d, tk, o⟩ (UJ w m₀ lx dx P R dtb tb ln0 ins t1 t2 t3 t4 t5 t6 th n nd rest T) Q (n' + 1) .next ⟨h', g, d, tk', o⟩ := by
  obtain ⟨tw, hw⟩ := hw
  refine ⟨h', tk', _, _, n', rfl, F, ?_, Nat.lt_succ_self n', ⟨rs, ln, kR, kP, M, tw, uj_map hw hm, rfl, run, hz, hr, hl, hR, hP⟩⟩
  refine news_sub N fun q hq => ?_
  simp only [List.mem_cons] at hq
  rcases hq with rfl | rfl | rfl | rfl | rfl | rfl | hq
  · exact a1
  · exact a2
  · exact a3
  · exact a4
  · exact a5
  · exact a6
  · exact a7 q hq
theorem iter_nil {T X : List Lt} : ∀ {n : Nat}, iterW n (X, []) = (T, []) → X = T
  | 0, h => congrArg Prod.fst h
  | _ + 1, h => congrArg Prod.fst h
theorem all_ne3 {R a b c : Addr} {rest : List (Addr × Obj)} (l : a < R ∧ b < R ∧ c < R ∧ AllLt R rest) : ∀ q ∈ rest, q.1 ≠ R := fun q hq => Nat.ne_of_lt (allLt_at l.2.2.2 q hq)
theorem undone_while {prog : Program} {w : World} {A : Around} {E : Value → Shared → Prop} {Q : Flow → Shared → Prop} {h : Heap} {g d o} {tk : Nat} {env : Env} {h₀ : Heap} {L : Addr} {test : Expr} {body : List Stmt} {pos : Pos} {m₀ : Str → Option Value}
    {lx dx P R dtb tb : Addr} {ln0 : Int} {ins : Value} {t1 t2 t3 t4 t5 t6 th tw : Tok} {n nd k : Nat} {rest : List (Addr × Obj)} {T : List Lt} {N₀ : Nat} {ln : List Ln}
    (F : Fr h₀ L h m₀)
    (N : News h₀ L h ((tb, instObj 281 dtb) :: (dtb, dictOf (hdrD w th R) nd) :: (R, listOf #[] 0) :: (P, listOf (lnV ln).toArray k) :: (dx, dictOf (lexD w ln0 ins P t1 t2 t3 t4 t5 t6) n) :: (lx, instObj 76 dx) :: rest))
    (hw : m₀ "waits" = some (.int ln.length tw)) (hz : ln.length ≤ 100) (ht : ∀ x ∈ ln, 0 < x.t ∧ x.t < tk) (run : iterW N₀ ([], ln.map (·.l)) = (T, []))
    (hR : ∀ q ∈ rest, q.1 ≠ R) (hP : ∀ q ∈ rest, q.1 ≠ P)
    (turn : ∀ n' m₁ nx h' tk', UJ w m₀ lx dx P R dtb tb ln0 ins t1 t2 t3 t4 t5 t6 th n nd rest T n' m₁ nx tk' → Fr h₀ L h' m₁ → News h₀ L h' nx →
      wpAny (model prog w) A (isTrue test env (eval test env)) (fun b s₂ => WhlIf b (wpAny (model prog w) A (execs body env) (WhlT h₀ L ⟨h, g, d, tk, o⟩ (UJ w m₀ lx dx P R dtb tb ln0 ins t1 t2 t3 t4 t5 t6 th n nd rest T) Q n') E s₂) (Q .next s₂)) E ⟨h', g, d, tk', o⟩)
    (hE : PassesOwn (model prog w) A env E := by passes_own) :
    wpAny (model prog w) A (exec (.While test body [] pos) env) Q E ⟨h, g, d, tk, o⟩ := by
  refine While_T (J := UJ w m₀ lx dx P R dtb tb ln0 ins t1 t2 t3 t4 t5 t6 th n nd rest T) (n₀ := N₀) F N ?_ turn hE
  refine ⟨[], ln, 0, k, m₀, tw, ?_, rfl, run, by simpa using hz, (fun r hr => by cases hr), ht, hR, hP⟩
  funext y
  by_cases hy : y = "waits"
  · subst hy
    rw [if_pos rfl]
    exact hw
  · rw [if_neg hy]
    split <;> rfl
section
variable {n₀ : Nat} {w : World} {A₀ A : Around} {base h₀ : Heap} {env : Env} {outer : List Env} {L : Addr} {m : Str → Option Value} {mg mb : Str → Option Value} {mean : ExcName → Option Value} {loose : List Str} {p : Program} {s : Shared}
    {Q : Value → Shared → Prop} {E : Value → Shared → Prop} {lx dx P : Addr} {ln0 : Int} {ins v : Value} {t1 t2 t3 t4 t5 t6 : Tok} {n k : Nat} {rest : List (Addr × Obj)}
theorem undone_c {ln : List Ln} {T : List Lt} {N₀ : Nat} {t : Tok} (C : Cx n₀ w A₀ A base h₀ env outer L m mg mb mean loose p s.heap) (hn₀ : n₀ ≤ 600)
    (N : News h₀ L s.heap ((P, listOf (lnV ln).toArray k) :: (dx, dictOf (lexD w ln0 ins P t1 t2 t3 t4 t5 t6) n) :: (lx, instObj 76 dx) :: rest))
    (hr : ∀ q ∈ rest, q.1 ≠ P) (hdP : dx ≠ P) (hlP : lx ≠ P) (hz : ln.length ≤ 100)
    (ht : ∀ x ∈ ln, 0 < x.t ∧ x.t < s.toks) (run : iterW N₀ ([], ln.map (·.l)) = (T, []))
    (h : ∀ tb dtb R th nd rs kR kP h' tk, rs.map (·.l) = T → rs.length ≤ 100 → (∀ r ∈ rs, 0 < r.t ∧ r.t < tk) → (@Ne Nat P R) → (∀ q ∈ rowL 0 rs ++ rest, q.1 ≠ R) → (∀ q ∈ rowL 0 rs ++ rest, q.1 ≠ P) → Fr h₀ L h' m →
      News h₀ L h' ((tb, instObj 281 dtb) :: (dtb, dictOf (hdrD w th R) nd) :: (R, listOf (rowV rs).toArray kR) :: (P, listOf #[] kP) :: (dx, dictOf (lexD w ln0 ins P t1 t2 t3 t4 t5 t6) n) :: (lx, instObj 76 dx) :: (rowL 0 rs ++ rest)) → Q (.ref tb) { s with heap := h', toks := tk }) :
    wpAny (model PySem.Challenge.rw_to0065_01.row.prog w) A (call (.ref 313) [.ref lx, .int ln.length t]) Q E s := by
  walk_at "cx_fill"
  w_strict (
    refine wpAny_call ?_
    refine' Cx.codeT (binds := [("lexer", .ref lx), ("waits", .int ln.length t)]) (by assumption) (by assumption) ?k6 ?k7 (by walk_at "om") ?k9 ?kB ?_ ?c2 ?c3 ?c4 ?c5
    case k6 => k_is
    case k7 => k_is
    case k9 => first | exact binds_K (by k_in) rfl (by k_is) rfl rfl rfl | exact BindsTo.of_eq (by kernel_rfl)
    case c5 => decide
    case kB => exact locs rfl
    case c2 => exact rfl
    case c3 => exact rfl
    case c4 => exact rfl
    k_whole
    intro g' L' h' FG' N' C'
    have F' := Cx.F C'
    have B' := Cx.B C'
    have X' := Cx.X C'
    have T' := Cx.T C'
    (try dsimp only)
    (try k_lift B')
    (try k_fold)
    iterate 17 (walk_at "go1")
    k_dflt (refine wpAny_toksQ ?_; refine' table_c (Cx.upd ?zc1 ?zc2) ?zc3 ?zc4 ?_)
    case zc1 => assumption
    case zc2 => k_asm
    case zc3 => walk_at "om"
    case zc4 => k_asm
    intro tbq dtq thq ndq hq9 tkq9 lq1 lq2 Fq9 Nq9 leq9
    try dsimp only at leq9
    have lq1r := tail_of lq1
    k_lt lq1
    k_lt2 lq2
    iterate 3 (walk_at "go1")
    refine undone_while (by assumption) (by assumption) rfl (by assumption) ?ht run ?hR ?hP ?turn
    case ht => exact fun x hx => ⟨(ht x hx).1, Nat.lt_of_lt_of_le (ht x hx).2 (by first | omega | (simp only [List.length_cons, List.length_nil] at *; omega))⟩
    case hR => exact all_ne3 (by assumption)
    case hP => assumption
    case turn =>
      intro n' m₁ nx h2 tk2 J F2 N2
      obtain ⟨rs, ln, kR, kP, u, tw, rfl, rfl, run', hz', hrs, hln, hR', hP'⟩ := J.ex
      cases ln with
      | nil =>
        iterate 11 (walk_at "go1")
        exact h _ _ _ _ _ rs kR kP _ _ (iter_nil run') (by have := hz'; simp only [List.length_nil] at this; omega) (fun r hr => ⟨(hrs r hr).1, Nat.lt_of_lt_of_le (hrs r hr).2 (by walk_at "om")⟩) (by k_ne) hR' hP' (by assumption) (by assumption)
      | cons x ln =>
        cases n' with
        | zero => exact absurd (congrArg Prod.snd run') (by simp [iterW])
        | succ n' =>
          have hx := hln x List.mem_cons_self
          have hvl : (lnV ln).length ≤ 1000 := by
            rw [List.length_map]
            simp only [List.length_cons] at hz'
            omega
          have hr1k : rs.length ≤ 1000 := by
            simp only [List.length_cons] at hz'
            omega
          rw [show lnV (x :: ln) = .str x.l.str x.t :: lnV ln from rfl] at N2
          iterate 5 (walk_at "go1")
          refine WhlIf.yes (by simp only [List.length_cons]; rw [decide_eq_true_eq]; omega) ?_
          iterate 7 (walk_at "go1")
          k_dflt (refine' u_pop (Cx.upd ?zc1 ?zc2) ?zc3 ?zc4 ?zc5 ?zc6 ?zc7 ?zc8 ?zc9 ?zca ?_)
          case zc1 => assumption
          case zc2 => k_asm
          case zc3 => walk_at "om"
          case zc4 => k_asm
          case zc7 => k_dflt (k_mem)
          case zc6 => k_dflt (k_mem)
          case zc5 => k_upd
          case zc8 => assumption
          case zc9 => assumption
          case zca => assumption
          intro hq8 tkq8 leq8 Fq8 Nq8
          try dsimp only at leq8
          iterate 11 (walk_at "go1")
          k_dflt (refine' other_t (Cx.upd ?zc1 ?zc2) ?zc3 ?zc4 ?_)
          case zc1 => assumption
          case zc2 => k_asm
          case zc3 => walk_at "om"
          case zc4 => k_asm
          intro hq7 tkq7 uq7 leq7 lfq7 Fq7 Nq7
          try dsimp only at leq7
          iterate 15 (walk_at "go1")
          k_dflt (refine' u_keys (rs := _) (Cx.upd ?zc1 ?zc2) ?zc3 ?zc4 ?zc5 ?zc6 ?_)
          case zc1 => assumption
          case zc2 => k_asm
          case zc3 => walk_at "om"
          case zc4 => k_asm
          case zc5 => (k_dflt (refine' TabIn.mk ?ti1 ?ti2 ?ti3 ?ti4; (case ti3 => k_mem); (case ti2 => k_mem); (case ti1 => k_mem); (case ti4 => walk_at "rows_in")))
          case zc6 => omega
          intro Dq6 hq6 tkq6 leq6 Fq6 Nq6 oq6
          try dsimp only at leq6
          dsimp only [LCg.Off1] at oq6
          iterate 4 (walk_at "go1")
          refine cut_list (by assumption) (by assumption) (plA x.l rs) ?_ ?_
          · refine gQ fun Qz hQz => ?_
            iterate 10 (walk_at "go1")
            walk_at "go1"
            simp only [low_mem]
            by_cases hlow : x.l.low = .a
            · simp only [decide_eq_true hlow]
              iterate 10 (walk_at "go1")
              k_dflt (refine' u_all (rs := _) (Cx.upd ?zc1 ?zc2) ?zc3 ?zc4 ?zc5 ?zc6 ?_)
              case zc1 => assumption
              case zc2 => k_asm
              case zc3 => walk_at "om"
              case zc4 => k_asm
              case zc5 => (k_dflt (refine' TabIn.mk ?ti1 ?ti2 ?ti3 ?ti4; (case ti3 => k_mem); (case ti2 => k_mem); (case ti1 => k_mem); (case ti4 => walk_at "rows_in")))
              case zc6 => omega
              intro Dq5 hq5 tkq5 leq5 Fq5 Nq5 oq5
              try dsimp only at leq5
              walk_at "go1"
              rw [plA_a hlow]
              (try walk_at "oq"); (try walk_at "oq"); (try dsimp only)
              exact got_l (by assumption) (news_2nd (by assumption)) (by rename LCg.Off1 _ _ => oo; exact oo.2) (by walk_at "om")
            · simp only [decide_eq_false hlow]
              iterate 5 (walk_at "go1")
              rw [plA_b hlow]
              (try walk_at "oq"); (try walk_at "oq"); (try dsimp only)
              exact got_l (by assumption) (news_2nd (by assumption)) (by rename (_ < _) ∧ _ => ll; exact off1_lt ll.2) (by (try dsimp only); omega)
          · intro D2 n2 h2' tk2' le2' F2' N2' o2'
            dsimp only [LCg.Off1] at o2'
            iterate 4 (walk_at "go1")
            refine cut_val (by assumption) (by assumption) ((goB rs x.l).any fun q => decide ((rs.map (·.l))[q]? = some x.l.other)) ?_ ?_
            · iterate 6 (walk_at "go1")
              cases hq : goB rs x.l with
              | none =>
                have hp : plA x.l rs = [] := by
                  by_cases hlow : x.l.low = .a
                  · rw [goB, if_pos hlow] at hq
                    rw [plA_a hlow, plV_none hlow hq]
                  · exact plA_b hlow
                refine ne_at (vs := plA x.l rs) (us := []) (by k_asm) (by k_mem) (by k_mem) (C'.room (by walk_at "om")) (by rw [hp]; simp) (by simp) false (by rw [hp]; simp) ?_
                iterate 2 (walk_at "go1")
                (try walk_at "oq"); (try walk_at "oq"); (try dsimp only)
                exact got_v (by assumption) (by walk_at "k_ledger") (by walk_at "tok_le")
              | some q =>
                have hlow : x.l.low = .a := by
                  by_cases h : x.l.low = .a
                  · exact h
                  · rw [goB, if_neg h] at hq
                    cases hq
                rw [goB, if_pos hlow] at hq
                obtain ⟨vs, rq, hrq, hpl⟩ := plV_some hlow hq
                have hpa := at_plA x.l rs
                have hqn : q < rs.length := (List.getElem?_eq_some_iff.mp hrq).1
                rw [← plA_a hlow] at hpl hpa
                refine ne_at (vs := plA x.l rs) (us := []) (by k_asm) (by k_mem) (by k_mem) (C'.room (by walk_at "om")) hpa (by simp) true (by rw [hpl]; simp) ?_
                iterate 15 (walk_at "go1")
                refine kde_neg (vs := vs ++ [.str (numS q) rq.u]) (by rw [← hpl]; exact isList_mem (by k_asm) (by k_mem)) (by decide) (by decide) (seq_last vs _) (get_last vs _) ?_ (by with_unfolding_all rfl)
                walk_at "go1"
                refine int_num (by walk_at "om") ?_
                skip
                refine item_litK (vs := keyV rs) (k := q) (isList_mem (by k_asm) (by k_mem)) (by walk_at "om") (by walk_at "om") (v := .str rq.l.str rq.t) (by rw [Int.toNat_natCast, List.getElem?_map, hrq]; rfl) ?_ (by with_unfolding_all rfl)
                iterate 5 (walk_at "go1")
                all_goals rw [goB_val hrq (by assumption)]
                all_goals exact got_v (by assumption) (by walk_at "k_ledger") (by walk_at "tok_le")
            · intro h2' tk2' le2' F2' N2'
              cases hb : ((goB rs x.l).any fun q => decide ((rs.map (·.l))[q]? = some x.l.other)) with
              | true =>
                obtain ⟨q, hq, hgo⟩ : ∃ q, goB rs x.l = some q ∧ (rs.map (·.l))[q]? = some x.l.other := by
                  cases hq : goB rs x.l with
                  | none =>
                    rw [hq] at hb
                    cases hb
                  | some q =>
                    rw [hq, Option.any_some, decide_eq_true_eq] at hb
                    exact ⟨q, rfl, hb⟩
                · skip
                  iterate 16 (walk_at "go1")
                  refine krv_lit (by k_asm) (by k_asm) (isList_mem (its := (keyV rs).toArray) (by k_asm) (by k_mem)) (IsPart.int _ _) (zs := keyV rs.reverse) (by rw [List.toList_toArray]; exact keyV_rev rs) ?_ (by with_unfolding_all rfl) (by kmk_pure) (by rw [List.size_toArray, List.length_map]; exact Nat.le_trans (by omega : rs.length ≤ 1000) (by decide))
                  intro D3 h3 F3 N3 l3
                  k_lt l3
                  iterate 4 (walk_at "go1")
                  have hlow : x.l.low = .a := by
                    by_cases h : x.l.low = .a
                    · exact h
                    · rw [goB, if_neg h] at hq
                      cases hq
                  have hla : lastA (rs.map (·.l)) = some q := by rw [goB, if_pos hlow] at hq; exact hq
                  obtain ⟨rq, i1, i2, i3⟩ := idx_rev hlow hla hgo
                  have hrq0 : @LT.lt Nat _ 0 rq.t ∧ @LT.lt Nat _ rq.t tk2 := hrs rq (List.mem_reverse.mp (List.mem_of_getElem? i1))
                  refine u_index (rs := rs.reverse) (q := rs.length - q - 1) (rq := rq) (Cx.upd C' (by k_asm)) (by walk_at "om") (by k_asm) (by k_mem) (by rw [List.length_reverse]; omega) ⟨neN (by walk_at "om"), (fun r hr => neN (by have : @LT.lt Nat _ 0 r.t := (hrs r (List.mem_reverse.mp hr)).1; omega)), fun r hr e => absurd e (neN (by have : @LT.lt Nat _ r.t tk2 := (hrs r (List.mem_reverse.mp hr)).2; omega))⟩ i1 i2 i3 ?_
                  intro h4 tk4 u4 le4 F4 N4
                  iterate 3 (walk_at "go1")
                  have hpl2 := plV_some hlow hla
                  obtain ⟨vs, rp, hrp, hpl⟩ := hpl2
                  rw [← plA_a hlow] at hpl
                  have hqn : q < rs.length := (List.getElem?_eq_some_iff.mp hrp).1
                  refine cut_for "k" (rowV rs) (rowV (rs.take q)) (by k_asm) (by k_asm) (by intro k; walk_at "upd") ?_ ?_
                  · refine gQ fun Qz hQz => ?_
                    rename Fr g' L' _ _ => lF'
                    refine For_invVF lF' (by rfl) (by rfl) ?_
                    iterate 21 (walk_at "go1")
                    refine kde_neg (vs := vs ++ [.str (numS q) rp.u]) (by rw [← hpl]; exact isList_mem (by k_asm) (by k_mem)) (by decide) (by decide) (seq_last vs _) (get_last vs _) ?_ (by with_unfolding_all rfl)
                    walk_at "go1"
                    refine int_num (by walk_at "om") ?_
                    iterate 3 (walk_at "go1")
                    rename IsRange _ _ _ _ _ _ _ _ => hRg
                    rw [show ((rs.length : Int) - (q : Int)) = ((rs.length - q : Nat) : Int) by omega] at hRg
                    refine loop_upd (fun i => rowV (rs.take (rs.length - i))) (va := rowV rs) (vb := rowV (rs.take q)) (by rw [Nat.sub_zero, List.take_length]) (by rw [show rs.length - (rs.length - q) = q by omega]) (Cx.hh C') hRg (by walk_at "om") (by k_asm) (by k_asm) (by intro k; walk_at "upd") ?_ ?_
                    · intro I i t k h tk o rest' hi ne off offI into FT NT
                      obtain ⟨rd, erd⟩ := take_del (rs := rs) (i := i) (by walk_at "om")
                      rw [erd] at NT
                      iterate 13 (walk_at "go1")
                      refine u_del (Cx.upd C' (by k_asm)) (by walk_at "om") (by k_asm) (by k_upd) (by rw [List.length_map, List.length_take]; omega) ?_
                      intro h6 tk6 le6 F6 N6
                      iterate 2 (walk_at "go1")
                      exact ⟨_, _, _, _, rfl, by assumption, by assumption⟩
                    · intro h6 tk6 u6 k6 F6 N6
                      (try walk_at "oq"); (try walk_at "oq"); (try dsimp only)
                      exact got_f F6 N6
                  · intro h5 tk5 u5 k5 le5 F5 N5
                    try dsimp only
                    iterate 3 (walk_at "go1")
                    refine cut_val (by assumption) (by assumption) (decide (0 < rs.length - q - 1)) ?_ ?_
                    · iterate 5 (walk_at "go1")
                      rw [dec_cast]
                      (try walk_at "oq"); (try walk_at "oq"); (try dsimp only)
                      exact got_v (by assumption) (by walk_at "k_ledger") (by walk_at "tok_le")
                    · intro h6 tk6 le6 F6 N6
                      by_cases hn : 0 < rs.length - q - 1
                      · rw [decide_eq_true hn]
                        iterate 3 (walk_at "go1")
                        refine cut_str (by assumption) (by assumption) (endS x.l.other) ?_ ?_
                        · iterate 8 (walk_at "go1")
                          · rw [endS_t (by assumption)]
                            (try walk_at "oq"); (try walk_at "oq"); (try dsimp only)
                            exact got_s (by assumption) (by walk_at "k_ledger")
                          · walk_at "go1"
                            rw [endS_f (by assumption)]
                            (try walk_at "oq"); (try walk_at "oq"); (try dsimp only)
                            exact got_s (by assumption) (by walk_at "k_ledger")
                        · intro t7 h7 tk7 le7 F7 N7
                          iterate 8 (walk_at "go1")
                          obtain ⟨vl, d, ed, hd⟩ := last_rows (rs := rs) (by walk_at "om")
                          refine cut_str (by assumption) (by assumption) (md d.l).str ?_ ?_
                          · iterate 7 (walk_at "go1")
                            refine kde_neg (vs := vl ++ [.str d.l.str d.t]) (by rw [← ed]; exact isList_mem (by k_asm) (by k_mem)) (by decide) (by decide) (seq_last vl _) (get_last vl _) ?_ (by with_unfolding_all rfl)
                            iterate 5 (walk_at "go1")
                            · rw [md_t (by assumption)]
                              (try walk_at "oq"); (try walk_at "oq"); (try dsimp only)
                              exact got_s (by assumption) (by walk_at "k_ledger")
                            · walk_at "go1"
                              rw [md_f (by assumption)]
                              (try walk_at "oq"); (try walk_at "oq"); (try dsimp only)
                              exact got_s (by assumption) (by walk_at "k_ledger")
                          · intro t8 h8 tk8 le8 F8 N8
                            iterate 4 (walk_at "go1")
                            refine wpAny_toksQ (mul_c (l := md d.l) (j := rs.length - q - 1) (Cx.upd C' (by k_asm)) (by walk_at "om") (by k_asm) (by walk_at "om") ?_)
                            intro h9 tk9 u9 F9 N9 le9
                            rw [mul_sgS]
                            dsimp only at le9
                            iterate 3 (walk_at "go1")
                            refine cut_push "sign" ln (handle x.l.other d.l (rs.length - q - 1)) (by k_asm) (by k_asm) (by intro k sl; walk_at "upd") ?_ ?_
                            · intro UP
                              rename Fr g' L' _ _ => lF'
                              refine For_str lF' (by rfl) (by rfl) ?_
                              refine cut_str (by assumption) (by assumption) (sgS (handle x.l.other d.l (rs.length - q - 1))) ?_ ?_
                              · iterate 11 (walk_at "go1")
                                refine PyProof.Rows.item_str (by decide) (by rw [endS_len]; decide) (by rw [endS_len]; decide) ?_
                                intro _
                                rw [endS_0]
                                iterate 4 (walk_at "go1")
                                refine concat_c (x := (e0 x.l.other).str) (y := sgS (List.replicate (rs.length - q - 1) (md d.l))) (Cx.upd C' (by k_asm)) (by walk_at "om") (by k_asm) (by rw [sgS_len, List.length_replicate, lt_len, sizeLine_eq]; omega) ?_
                                intro hc tkc uc Fc Nc
                                rw [e0_app]
                                iterate 4 (walk_at "go1")
                                refine PyProof.Rows.item_str (by decide) (by rw [endS_len]; decide) (by rw [endS_len]; decide) ?_
                                intro _
                                rw [endS_1]
                                iterate 2 (walk_at "go1")
                                refine concat_c (x := sgS (e0 x.l.other :: List.replicate (rs.length - q - 1) (md d.l))) (y := (e1 x.l.other).str) (Cx.upd C' (by k_asm)) (by walk_at "om") (by k_asm) (by rw [sgS_len, List.length_cons, List.length_replicate, lt_len, sizeLine_eq]; omega) ?_
                                intro hc2 tkc2 uc2 Fc2 Nc2
                                rw [app_e1, handle_pos _ _ hn]
                                skip
                                (try walk_at "oq"); (try walk_at "oq"); (try dsimp only)
                                exact got_s (by assumption) (by walk_at "k_ledger")
                              · intro ta ha tka lea Fa Na
                                refine loop_push (sg := handle x.l.other d.l (rs.length - q - 1)) (ln := ln) rfl (Cx.hh C') (by assumption) (by assumption) (by k_mem) (by show @LT.lt Nat _ 0 tka; omega) ?_ ?_
                                · intro I i l ln' k h tk o rest' hl hlen ne off offI into FT NT
                                  replace FT : Fr g' L' h _ := FT
                                  have hi : i < rs.length - q - 1 + 2 := by
                                    have := (List.getElem?_eq_some_iff.mp hl).1
                                    rw [handle_len, if_pos hn] at this
                                    exact this
                                  have NT2 := news_put (news_put NT (List.mem_cons_of_mem _ (List.mem_cons_of_mem _ (into (dx, dictOf (lexD w ln0 ins P t1 t2 t3 t4 t5 t6) n) (by k_mem) hdP)))) (List.mem_cons_of_mem _ (List.mem_cons_of_mem _ (List.mem_cons_of_mem _ (into (lx, instObj 76 dx) (by k_mem) hlP))))
                                  clear NT
                                  iterate 11 (walk_at "go1")
                                  refine u_push (its := (lnV ln').toArray) (Cx.upd C' (by k_asm)) (by walk_at "om") (by k_asm) (by k_upd) (by k_mem) (by k_mem) hdP hlP (by rw [List.size_toArray, List.length_map]; simp only [List.length_cons] at hz'; omega) ?_
                                  intro hq tkq leq Fq Nq
                                  iterate 2 (walk_at "go1")
                                  rename News g' L' _ _ => NN
                                  rw [push_ln] at NN
                                  exact turn_d (k + 1) (by assumption) NN (by k_mem) (by k_mem) (by walk_at "rows_in2")
                                · intro h tk u k sl rest' into off esl hsl F N
                                  (try walk_at "oq"); (try walk_at "oq"); (try dsimp only)
                                  exact got_p esl hsl F (upd_rest (UP k sl) N into)
                            · intro hb tkb ub kb sl leb esl hsl Fb Nb
                              try dsimp only
                              iterate 2 (walk_at "go1")
                              have hsln : sl.length = rs.length - q - 1 + 2 := by
                                have := congrArg List.length esl
                                rw [List.length_map, handle_len, if_pos hn] at this
                                exact this
                              refine cut_for "k" (lnV (ln ++ sl)) (lnV (sl ++ ln)) (by k_asm) (by k_asm) (by intro k; walk_at "upd") ?_ ?_
                              · refine gQ fun Qz hQz => ?_
                                rename Fr g' L' _ _ => lF'
                                refine For_invVF lF' (by rfl) (by rfl) ?_
                                iterate 7 (walk_at "go1")
                                rename IsRange _ _ _ _ _ _ _ _ => hRg
                                rw [show (((x :: ln).length : Nat) : Int) - 1 = ((ln.length : Nat) : Int) by simp] at hRg
                                refine loop_upd (fun i => lnV (rot ln sl i)) (va := lnV (ln ++ sl)) (vb := lnV (sl ++ ln)) (by rw [rot_0]) (by rw [rot_n]) (Cx.hh C') hRg (by simp only [List.length_cons] at hz'; omega) (by k_asm) (by k_asm) (by intro k; walk_at "upd") ?_ ?_
                                · intro I i t k h tk o rest' hi ne off offI into FT NT
                                  replace FT : Fr g' L' h _ := FT
                                  have NT2 := news_put (news_put NT (List.mem_cons_of_mem _ (List.mem_cons_of_mem _ (into (dx, dictOf (lexD w ln0 ins P t1 t2 t3 t4 t5 t6) n) (by k_mem) hdP)))) (List.mem_cons_of_mem _ (List.mem_cons_of_mem _ (List.mem_cons_of_mem _ (into (lx, instObj 76 dx) (by k_mem) hlP))))
                                  clear NT
                                  obtain ⟨y, r, er1, er2⟩ := rot_step (ln := ln) (sl := sl) (i := i) hi
                                  have hrl := rot_len ln sl i
                                  rw [er1] at hrl NT2
                                  simp only [List.length_cons] at hrl hz'
                                  rw [er2]
                                  rw [show lnV (y :: r) = .str y.l.str y.t :: lnV r from rfl] at NT2
                                  iterate 11 (walk_at "go1")
                                  try dsimp only
                                  refine u_pop (v := .str y.l.str y.t) (vs := lnV r) (Cx.upd C' (by k_asm)) (by walk_at "om") (by k_asm) (by k_upd) (by k_mem) (by k_mem) hdP hlP (by rw [List.length_map]; omega) ?_
                                  intro hq tkq leq Fq Nq
                                  iterate 2 (walk_at "go1")
                                  refine u_push (its := (lnV r).toArray) (Cx.upd C' (by k_asm)) (by walk_at "om") (by k_asm) (by k_upd) (by k_mem) (by k_mem) hdP hlP (by rw [List.size_toArray, List.length_map]; omega) ?_
                                  intro hq2 tkq2 leq2 Fq2 Nq2
                                  iterate 2 (walk_at "go1")
                                  rename News g' L' _ _ => NN
                                  rw [push_ln] at NN
                                  exact turn_d (k + 1 + 1) (by assumption) NN (by k_mem) (by k_mem) (by walk_at "rows_in2")
                                · intro h6 tk6 u6 k6 F6 N6
                                  (try walk_at "oq"); (try walk_at "oq"); (try dsimp only)
                                  exact got_f F6 N6
                              · intro hc tkc uc kc lec Fc Nc
                                try dsimp only
                                iterate 13 (walk_at "go1")
                                have run2 : iterW n' ((rs.take q).map (·.l), (sl ++ ln).map (·.l)) = (T, []) := by
                                  have e2 : iterW n' (stepW (rs.map (·.l)) x.l (ln.map (·.l))) = (T, []) := run'
                                  rw [stepW_go hlow hla hgo, hd, Option.getD_some, List.length_map] at e2
                                  rw [List.map_take, List.map_append, esl]
                                  exact e2
                                refine uj_next (kR := k5) (kP := kc) (rs.take q) (sl ++ ln) (by k_asm) (by k_asm) ?ew ?em (by k_mem) (by k_mem) (by k_mem) (by k_mem) (by k_mem) (by k_mem) ?ea run2 ?ez ?er ?el ?eR ?eP
                                case ew => exact ⟨_, congrArg (fun z => some (Value.int z _)) (show (((x :: ln).length : Nat) : Int) - 1 + (((rs.length - q - 1 : Nat) : Int) + 2) = (((sl ++ ln).length : Nat) : Int) by rw [List.length_append, hsln]; simp only [List.length_cons]; omega)⟩
                                case em => (((intro y n0 nn); (obtain ⟨n1, n2, n3, n4, n5, n6, n7, n8, n9⟩ := ne_of_turn nn); (simp only [if_neg n0, if_neg n1, if_neg n2, if_neg n3, if_neg n4, if_neg n5, if_neg n6, if_neg n7, if_neg n8, if_neg n9, if_neg nn])))
                                case ea => exact sub_take (by walk_at "rows_in2")
                                case ez =>
                                  rw [List.length_take, List.length_append, hsln]
                                  simp only [List.length_cons] at hz'
                                  omega
                                case er => exact fun r hr => ⟨(hrs r (List.mem_of_mem_take hr)).1, Nat.lt_of_lt_of_le (hrs r (List.mem_of_mem_take hr)).2 (by walk_at "tok_le")⟩
                                case el =>
                                  intro y hy
                                  rcases List.mem_append.mp hy with hy | hy
                                  · exact ⟨(hsl y hy).1, Nat.lt_of_lt_of_le (hsl y hy).2 (by walk_at "tok_le")⟩
                                  · exact ⟨(hln y (List.mem_cons_of_mem _ hy)).1, Nat.lt_of_lt_of_le (hln y (List.mem_cons_of_mem _ hy)).2 (by walk_at "tok_le")⟩
                                case eR => exact sub_take hR'
                                case eP => exact sub_take hP'
                      · rw [decide_eq_false hn]
                        iterate 4 (walk_at "go1")
                        have run2 : iterW n' ((rs.take q).map (·.l), ln.map (·.l)) = (T, []) := by
                          have e2 : iterW n' (stepW (rs.map (·.l)) x.l (ln.map (·.l))) = (T, []) := run'
                          rw [stepW_go hlow hla hgo, List.length_map, handle_no _ _ hn] at e2
                          rw [List.map_take]
                          exact e2
                        refine uj_next (kR := k5) (kP := kP + 1) (rs.take q) ln (by k_asm) (by k_asm) ?ew ?em (by k_mem) (by k_mem) (by k_mem) (by k_mem) (by k_mem) (by k_mem) ?ea run2 ?ez ?er ?el ?eR ?eP
                        case ew => exact ⟨_, congrArg (fun z => some (Value.int z _)) (show (((x :: ln).length : Nat) : Int) - 1 = ((ln.length : Nat) : Int) by simp only [List.length_cons]; omega)⟩
                        case em => (((intro y n0 nn); (obtain ⟨n1, n2, n3, n4, n5, n6, n7, n8, n9⟩ := ne_of_turn nn); (simp only [if_neg n0, if_neg n1, if_neg n2, if_neg n3, if_neg n4, if_neg n5, if_neg n6, if_neg n7, if_neg n8, if_neg n9, if_neg nn])))
                        case ea => exact sub_take (by walk_at "rows_in2")
                        case ez =>
                          rw [List.length_take]
                          simp only [List.length_cons] at hz'
                          omega
                        case er => exact fun r hr => ⟨(hrs r (List.mem_of_mem_take hr)).1, Nat.lt_of_lt_of_le (hrs r (List.mem_of_mem_take hr)).2 (by walk_at "tok_le")⟩
                        case el => exact fun y hy => ⟨(hln y (List.mem_cons_of_mem _ hy)).1, Nat.lt_of_lt_of_le (hln y (List.mem_cons_of_mem _ hy)).2 (by walk_at "tok_le")⟩
                        case eR => exact sub_take hR'
                        case eP => exact sub_take hP'
              | false =>
                iterate 3 (walk_at "go1")
                refine cut_val (by assumption) (by assumption) (decide ((rs.map (·.l)).getLast? = some x.l.other)) ?_ ?_
                · iterate 6 (walk_at "go1")
                  rcases Nat.eq_zero_or_pos rs.length with h0 | h0
                  · have h0' := List.eq_nil_of_length_eq_zero h0
                    refine ne_at (vs := keyV rs) (us := []) (by k_asm) (by k_mem) (by k_mem) (C'.room (by walk_at "om")) (by rw [h0']; simp) (by simp) false (by rw [h0']; simp) ?_
                    iterate 2 (walk_at "go1")
                    rw [show decide ((rs.map (·.l)).getLast? = some x.l.other) = false by rw [h0']; rfl]
                    (try walk_at "oq"); (try walk_at "oq"); (try dsimp only)
                    exact got_v (by assumption) (by walk_at "k_ledger") (by walk_at "tok_le")
                  · obtain ⟨vl, d, ed, hd⟩ := last_rows h0
                    refine ne_at (vs := keyV rs) (us := []) (by k_asm) (by k_mem) (by k_mem) (C'.room (by walk_at "om")) (at_keyV rs) (by simp) true (by rw [ed]; simp) ?_
                    iterate 9 (walk_at "go1")
                    refine kde_neg (vs := vl ++ [.str d.l.str d.t]) (by rw [← ed]; exact isList_mem (by k_asm) (by k_mem)) (by decide) (by decide) (seq_last vl _) (get_last vl _) ?_ (by with_unfolding_all rfl)
                    iterate 5 (walk_at "go1")
                    · rw [last_val hd (by assumption)]
                      (try walk_at "oq"); (try walk_at "oq"); (try dsimp only)
                      exact got_v (by assumption) (by walk_at "k_ledger") (by walk_at "tok_le")
                    · skip
                      rw [last_val hd (by assumption)]
                      (try walk_at "oq"); (try walk_at "oq"); (try dsimp only)
                      exact got_v (by assumption) (by walk_at "k_ledger") (by walk_at "tok_le")
                · intro h6 tk6 le6 F6 N6
                  by_cases hpop : (rs.map (·.l)).getLast? = some x.l.other
                  · rw [decide_eq_true hpop]
                    iterate 15 (walk_at "go1")
                    have hpos : 0 < rs.length := by
                      rcases Nat.eq_zero_or_pos rs.length with h0 | h0
                      · rw [List.eq_nil_of_length_eq_zero h0] at hpop
                        cases hpop
                      · exact h0
                    obtain ⟨rd, erd⟩ := row_last hpos
                    rename News g' L' _ _ => NN
                    rw [erd] at NN
                    refine u_del (Cx.upd C' (by k_asm)) (by walk_at "om") (by k_asm) (by walk_at "upd") (by rw [List.length_map, List.length_take]; omega) ?_
                    intro h7 tk7 le7 F7 N7
                    iterate 8 (walk_at "go1")
                    have run2 : iterW n' ((rs.take (rs.length - 1)).map (·.l), ln.map (·.l)) = (T, []) := by
                      have e2 : iterW n' (stepW (rs.map (·.l)) x.l (ln.map (·.l))) = (T, []) := run'
                      rw [stepW_pop hb, popB, if_pos hpop, List.dropLast_eq_take, List.length_map] at e2
                      rw [List.map_take]
                      exact e2
                    refine uj_next (kR := kR + 1) (kP := kP + 1) (rs.take (rs.length - 1)) ln (by k_asm) (by k_asm) ?ew ?em (by k_mem) (by k_mem) (by k_mem) (by k_mem) (by k_mem) (by k_mem) ?ea run2 ?ez ?er ?el ?eR ?eP
                    case ew => exact ⟨_, congrArg (fun z => some (Value.int z _)) (show (((x :: ln).length : Nat) : Int) - 1 = ((ln.length : Nat) : Int) by simp only [List.length_cons]; omega)⟩
                    case em => (((intro y n0 nn); (obtain ⟨n1, n2, n3, n4, n5, n6, n7, n8, n9⟩ := ne_of_turn nn); (simp only [if_neg n0, if_neg n1, if_neg n2, if_neg n3, if_neg n4, if_neg n5, if_neg n6, if_neg n7, if_neg n8, if_neg n9, if_neg nn])))
                    case ea => exact sub_take (by walk_at "rows_in2")
                    case ez =>
                      rw [List.length_take]
                      simp only [List.length_cons] at hz'
                      omega
                    case er => exact fun r hr => ⟨(hrs r (List.mem_of_mem_take hr)).1, Nat.lt_of_lt_of_le (hrs r (List.mem_of_mem_take hr)).2 (by walk_at "tok_le")⟩
                    case el => exact fun y hy => ⟨(hln y (List.mem_cons_of_mem _ hy)).1, Nat.lt_of_lt_of_le (hln y (List.mem_cons_of_mem _ hy)).2 (by walk_at "tok_le")⟩
                    case eR => exact sub_take hR'
                    case eP => exact sub_take hP'
                  · rw [decide_eq_false hpop]
                    iterate 22 (walk_at "go1")
                    (try dsimp only)
                    refine u_hint (rs := rs) (Cx.upd C' (by k_asm)) (by walk_at "om") (by k_asm) (by (k_dflt (refine' TabIn.mk ?ti1 ?ti2 ?ti3 ?ti4; (case ti3 => k_mem); (case ti2 => k_mem); (case ti1 => k_mem); (case ti4 => walk_at "rows_in")))) (by walk_at "om") ?_
                    intro h7 tk7 u7 le7 F7 N7
                    iterate 2 (walk_at "go1")
                    iterate 2 (walk_at "go1")
                    (try dsimp only)
                    refine u_add (rs := rs) (l := x.l) (t := x.t) (Cx.upd C' (by k_asm)) (by walk_at "om") (by k_asm) (by intro ad u'; walk_at "upd") (by (k_dflt (refine' TabIn.mk ?ti1 ?ti2 ?ti3 ?ti4; (case ti3 => k_mem); (case ti2 => k_mem); (case ti1 => k_mem); (case ti4 => walk_at "rows_in")))) (by walk_at "om") (fun q hq => hR' q (List.mem_append_left _ hq)) (by k_ne) (by k_ne) (num_plain (by walk_at "om")) (Nat.le_trans (num_len (by walk_at "om")) (by decide)) ?_
                    intro ad u8 h8 tk8 le8 adR adN F8 N8
                    iterate 8 (walk_at "go1")
                    have run2 : iterW n' ((rs ++ [(⟨ad, x.l, x.t, u8⟩ : Rw)]).map (·.l), ln.map (·.l)) = (T, []) := by
                      have e2 : iterW n' (stepW (rs.map (·.l)) x.l (ln.map (·.l))) = (T, []) := run'
                      rw [stepW_pop hb, popB, if_neg hpop] at e2
                      rw [List.map_append]
                      exact e2
                    have adP : ad ≠ P := fun e => adN (P, listOf (lnV ln).toArray (kP + 1)) (by k_mem) (by k_ne) e.symm
                    refine uj_next (kR := kR + 1) (kP := kP + 1) (rs ++ [⟨ad, x.l, x.t, u8⟩]) ln (by k_asm) (by k_asm) ?ew ?em (by k_mem) (by k_mem) (by k_mem) (by k_mem) (by k_mem) (by k_mem) ?ea run2 ?ez ?er ?el ?eR ?eP
                    case ew => exact ⟨_, congrArg (fun z => some (Value.int z _)) (show (((x :: ln).length : Nat) : Int) - 1 = ((ln.length : Nat) : Int) by simp only [List.length_cons]; omega)⟩
                    case em => (((intro y n0 nn); (obtain ⟨n1, n2, n3, n4, n5, n6, n7, n8, n9⟩ := ne_of_turn nn); (simp only [if_neg n0, if_neg n1, if_neg n2, if_neg n3, if_neg n4, if_neg n5, if_neg n6, if_neg n7, if_neg n8, if_neg n9, if_neg nn])))
                    case ea => exact sub_snoc (by walk_at "rows_in2") List.mem_cons_self
                    case ez =>
                      rw [List.length_append]
                      simp only [List.length_cons, List.length_nil] at hz' ⊢
                      omega
                    case er =>
                      intro r hr
                      rcases List.mem_append.mp hr with hr | hr
                      · exact ⟨(hrs r hr).1, Nat.lt_of_lt_of_le (hrs r hr).2 (by walk_at "tok_le")⟩
                      · rw [List.mem_singleton.mp hr]
                        exact ⟨hx.1, Nat.lt_of_lt_of_le hx.2 (by walk_at "tok_le")⟩
                    case el => exact fun y hy => ⟨(hln y (List.mem_cons_of_mem _ hy)).1, Nat.lt_of_lt_of_le (hln y (List.mem_cons_of_mem _ hy)).2 (by walk_at "tok_le")⟩
                    case eR => exact sub_snoc hR' adR
                    case eP => exact sub_snoc hP' adP)
end
end PartUndone
theorem lay17 : True := by
  k_with_none
  exact True.intro
theorem lay18 : True := by
  k_with "z k_all" => first | assumption | exact ne_of_lt_all (by assumption) (by first | omega | exact Nat.le_add_right _ _ | exact Nat.le_refl _)
  k_with "cx_fill" => ((have x9X := Cx.X (by assumption)); revert x9X; k_fill; intro x9X; (have x9F := Cx.F (by assumption)))
  k_with "go1" => (first | (k_unfold; (try dsimp only)) | walk1 | (dsimp only; walk1) | (leave1; walk_say "STEP leave1"; try dsimp only))
  k_with "z call builtin:list.pop" => (k_here; (refine' pop0 ?x9F ?x9N ?x9U ?x9z ?_; (case x9F => k_asm); (case x9N => k_asm); (case x9U => k_upd); (case x9z => first | assumption | omega); intro _ _ _))
  k_with "k_ledger" => first | assumption | exact news_tl (by assumption) | exact news_tl (news_tl (by assumption)) | exact news_tl (news_tl (news_tl (by assumption))) | exact news_tl (news_tl (news_tl (news_tl (by assumption))))
  k_with "z k_enter" => (
    (refine' Cx.code (Cx.upd ?x9a ?x9b) ?x9c ?x9d ?x9e ?x9f ?x9g ?x9h ?_ ?x9i ?x9j ?x9k ?x9l)
    case x9a => first | assumption | exact Cx.in1 (by assumption) | exact Cx.in1 (Cx.in1 (by assumption))
    case x9b => k_asm
    case x9c => k_asm
    case x9f => omega
    case x9d => k_is
    case x9e => k_is
    case x9g => first | exact binds_K (by k_in) rfl (by k_is) rfl rfl rfl | exact BindsTo.of_eq rfl
    case x9l => decide
    case x9h => exact locs rfl
    case x9i => exact rfl
    case x9j => exact rfl
    case x9k => exact rfl
    k_whole
    intro _ _ _ _ _ _ x9C
    have x9F := Cx.F x9C
    have x9B := Cx.B x9C
    have x9X := Cx.X x9C
    have x9T := Cx.T x9C
    (try dsimp only)
    (try k_lift x9B)
    (try k_fold))
  k_with "z assign Tuple" => (k_here; (with_reducible show wpAny _ _ (assign (Expr.Tuple _ _ _) _ (Value.ref _)) _ _ _); k_dflt (refine' unpackN_ ?x9F ?x9N ?x9T ?x9i ?x9j ?x9k ?_; (case x9F => k_asm); (case x9N => k_asm); (case x9T => first | with_reducible assumption | (refine News.isTup (by k_asm) (by k_mem))); (case x9i => exact Cx.hh (by assumption)); (case x9j => exact rfl); (case x9k => exact rfl)); intro _ _ _)
  k_with "pr" => with_reducible (first | assumption | exact an1 (by assumption) | exact an2 (by assumption) | exact an3 (by assumption) | exact an4 (by assumption) | exact an5 (by assumption) | exact an6 (by assumption) | exact an7 (by assumption) | exact an8 (by assumption) | exact an9 (by assumption) | exact al1 (by assumption) | exact al2 (by assumption) | exact al3 (by assumption))
  k_with "lts" => with_reducible (first | walk_at "pr" | exact Nat.lt_add_one _ | (refine Nat.lt_trans ?_ (by assumption); walk_at "pr") | (refine lt_pl ?_; walk_at "lts"))
  k_with "nes" => first | walk_at "pr" | (refine Ne.symm ?_; walk_at "pr") | (refine Nat.ne_of_lt ?_; walk_at "lts") | (refine Nat.ne_of_gt ?_; walk_at "lts")
  k_with "z k_ne" => first | walk_at "nes" | (dsimp only; walk_at "nes")
  k_with "lec" => with_reducible (first | exact Nat.le_refl _ | assumption | exact Nat.le_add_right _ _ | exact Nat.succ_le_succ (Nat.zero_le _) | exact Nat.succ_le_of_lt (by assumption) | (refine Nat.le_trans ?_ (by assumption); walk_at "lec") | (refine le_lt ?_ (by assumption); walk_at "lec") | (refine le_pl ?_; walk_at "lec"))
  k_with "ltc" => with_reducible (refine Nat.lt_of_succ_le ?_; walk_at "lec")
  k_with "om" => first | exact Nat.le_of_ble_eq_true rfl | exact le_plus (by with_reducible assumption) (Nat.le_of_ble_eq_true rfl) | exact Nat.le_trans (by with_reducible assumption) (Nat.le_of_ble_eq_true rfl) | walk_at "lec" | walk_at "ltc" | omega
  exact True.intro
theorem lay19 : True := by
  k_with "z call builtin:len" => (k_here; (with_reducible show wpAny _ _ (call (Value.builtin _) [Value.ref _]) _ _ _); k_dflt (refine' len_led ?x9i ?x9j ?x9k ?x9l ?_; (case x9i => k_asm); (case x9j => k_mem); (case x9k => first | exact List.length_map _ | exact rfl); (case x9l => assumption)))
  exact True.intro
theorem lay20 : True := by
  k_with "z storeName" => (k_here; (with_reducible show wpAny _ _ (storeName _ _ _) _ _ _); k_dflt (refine' store_t ?x9i ?x9j ?x9k ?x9l ?x9m ?_; (case x9i => k_asm); (case x9j => k_asm); (case x9k => exact rfl); (case x9l => exact rfl); (case x9m => exact rfl)); intro _ x9F _; (try dsimp only at x9F ⊢))
  k_with "z execs cons" => (k_here; (with_reducible refine gen_t ?_); intro _ x9l; (try dsimp only at x9l))
  exact True.intro
theorem lay21 : True := by
  k_with "upd" => first | (refine' Upd.head ?_; k_all) | (refine' Upd.tail ?_ (by walk_at "upd"); first | walk_at "nes" | k_ne)
  k_with "z execs cons" => (k_here; (fail_if_success (with_reducible refine gen_t ?_)); (with_reducible refine execs_consQ ?_); intro _ _ _)
  k_with "oq" => first | (with_reducible refine oqN (by assumption) ?_) | (with_reducible refine oqR (by assumption) ?_) | (with_reducible refine oqB (by assumption) ?_) | (with_reducible refine oqC (by assumption) ?_) | (with_reducible refine oqG (by assumption) ?_)
  k_with "go1" => first | ((first | (k_unfold; (try dsimp only)) | walk1 | (dsimp only; walk1) | (leave1; walk_say "STEP leave1"; try dsimp only)); (try (walk_at "oq"; try dsimp only))) | (walk_at "oq"; try dsimp only)
  k_with "z execs nil" => (k_here; (with_reducible refine wpAny_execs_nil ?_); try dsimp only)
  exact True.intro
section PartCallIter
theorem slot_cit_next : Slot "callable_iterator" "__next__" "callable_iterator.__next__" :=
  .of (owner := "callable_iterator") (n := "__next__") (by rw [typeLookup_type, builtinLookup_eq_fast]; kernel_rfl) (by decide +kernel) (by decide +kernel) (by decide +kernel)
    (by first | exact .inl (by decide +kernel) | exact .inr (by decide +kernel)) (by rw [isSubtype_type]; kernel_rfl)
theorem entry_cit_next : entryFor table "callable_iterator.__next__" = some Builtin.«callable_iterator.__next__» := entryFor_of_tree (by kernel_rfl)
theorem owner_cit : Manifest.owners.lookup (String.ofList ['r', 'o', 't', 'a', 'r', 'e', 't', 'i', '_', 'e', 'l', 'b', 'a', 'l', 'l', 'a', 'c'].reverse) = some Manifest.sig_callable_iterator := by kernel_rfl
theorem args_cit_next (a : Value) : argsOk "callable_iterator.__next__" ⟨[a], []⟩ := by
  unfold argsOk; rw [signature?_of (id := "callable_iterator.__next__") (n := ['_', '_', 't', 'x', 'e', 'n', '_', '_']) (o := ['r', 'o', 't', 'a', 'r', 'e', 't', 'i', '_', 'e', 'l', 'b', 'a', 'l', 'l', 'a', 'c']) (by kernel_rfl) owner_cit]; kernel_rfl
noncomputable abbrev citEnd : Obj := { cls := .type "callable_iterator", data := .fields #[.none, .none, .bool true] }
noncomputable abbrev citObj (f : Value) (t : Tok) : Obj := { cls := .type "callable_iterator", data := .fields #[f, .str "" t, .bool false] }
theorem wpAny_callBorrowed {M : Model} {A : Around} {f : Value} {Q : Value → Shared → Prop} {E : Value → Shared → Prop} {s : Shared} (h : wpAny M A (call f) Q E s) : wpAny M A (callBorrowed f) Q E s := fun Γ p hΓ => by
  have h1 := h Γ p hΓ
  unfold call at h1
  rw [Sem.wp_runValue] at h1
  unfold callBorrowed
  show wpCode M _ _ p s
  refine Eq.mp ?_ h1
  congr 1
  funext r s'
  cases r with
  | error e => rfl
  | ok f => cases f <;> rfl
section
variable {M : Model} {A : Around} {E : Value → Shared → Prop} {s : Shared}
theorem wpAny_borrows {q ff : Addr} {self : Value} {fo : Obj} {fd : FuncData} {Q : Bool → Shared → Prop} (hq : s.heap.get? q = some (methodObj (.ref ff) self)) (hf : s.heap.get? ff = some fo) (hd : fo.data = .func fd) (h : Q true s) :
    wpAny M A (borrowsExactly (.ref q)) Q E s := by
  unfold borrowsExactly
  refine wpAny_bind (wpAny_load hq ?_)
  show wpAny M A (load ff >>= _) Q E s
  refine wpAny_bind (wpAny_load hf ?_)
  rw [hd]
  exact wpAny_pure h
end
section
variable {prog : Program} {w : World} {A : Around} {E : Value → Shared → Prop} {s : Shared}
/-- a StopIteration is made and raised -/
theorem stop_new {α : Type} {Q : α → Shared → Prop} (hh : A.handled = none) (h : ∀ g e, (∀ b o, s.heap.get? b = some o → g.get? b = some o) → ({ s with heap := g } : Shared).TypeIs (.ref e) "StopIteration" → E (.ref e) { s with heap := g }) :
    wpAny (model prog w) A (newExc (.type "StopIteration") [] >>= fun e => (raiseNew e : Sem α)) Q E s := by
  refine wpAny_bind ?_
  unfold newExc newTuple
  refine wpAny_bind (wpAny_newObj_type (wpAny_bind (m := firstArgMember _ _) (wpAny_of_eq (a := Value.none) (by rfl) ?_)) (by size_fits))
  exact wpAny_newObj_type (wpAny_raiseNew_none hh (h _ _ (fun b o e => Heap.get?_push_of_some _ (Heap.get?_push_of_some _ e)) ⟨_, Heap.get?_push_size _ rfl, rfl⟩)) (by size_fits)
/-- the next of iter(f, ''): a text that is not empty, or the end -/
theorem next_cit {it q ff : Addr} {self : Value} {fo : Obj} {fd : FuncData} {t : Tok} {Q : Option Value → Shared → Prop} (hh : A.handled = none) (hit : s.heap.get? it = some (citObj (.ref q) t)) (hq : s.heap.get? q = some (methodObj (.ref ff) self)) (hf : s.heap.get? ff = some fo) (hd : fo.data = .func fd)
    (h : wpAny (model prog w) A.in1 (call (.ref q)) (fun v s' => ∃ z u, v = .str z u ∧ s'.heap.get? it = some (citObj (.ref q) t) ∧ s'.heap.get? q = some (methodObj (.ref ff) self) ∧ s'.heap.get? ff = some fo ∧
      (z ≠ Str.ofString "" → Q (some v) s') ∧ (z = Str.ofString "" → ∀ h', Heap.ExtBut it s'.heap h' → h'.get? it = some citEnd → Q none { s' with heap := h' })) (fun _ _ => False) s) :
    wpAny (model prog w) A (pyNext (.ref it)) Q E s := by
  have hT : s.TypeIs (.ref it) "callable_iterator" := ⟨_, hit, rfl⟩
  unfold pyNext
  refine wpAny_bind (wpAny_attempt (wpAny_callSpecial?_slot (name := Str.ofString "__next__") hT slot_cit_next
    (wpAny_call_entry slot_cit_next hT entry_cit_next ?_ (args_cit_next _))))
  show wpAny _ _ (field (.ref it) 2 >>= _) _ _ s
  refine wpAny_bind (wpAny_field hit rfl (x := .bool false) rfl ?_)
  refine wpAny_bind (wpAny_field hit rfl (x := .ref q) rfl ?_)
  refine wpAny_bind (wpAny_attempt ?_)
  unfold callOutOfASlot
  refine wpAny_bind (wpAny_borrows hq hf hd ?_)
  rw [if_pos rfl]
  refine wpAny_callBorrowed (wpAny_mono h ?_ fun _ _ e => e.elim)
  rintro v s' ⟨z, u, rfl, h1, h2, h3, hne, heq⟩
  show wpAny _ _ (field (.ref it) 2 >>= _) _ _ s'
  refine wpAny_bind (wpAny_field h1 rfl (x := .bool false) rfl ?_)
  show wpAny _ _ (field (.ref it) 1 >>= _) _ _ s'
  refine wpAny_bind (wpAny_field h1 rfl (x := .str "" t) rfl ?_)
  refine wpAny_bind (wpAny_holding (wpAny_eqBool_str ?_))
  by_cases hz : z = Str.ofString ""
  · rw [decide_eq_true hz.symm]
    show wpAny _ _ (rule _ >>= _) _ _ s'
    refine wpAny_bind (wpAny_rule ?_)
    show wpAny _ _ ((field (.ref it) 0 >>= _) >>= _) _ _ s'
    refine wpAny_bind (wpAny_bind (wpAny_field h1 rfl (x := .ref q) rfl ?_))
    refine wpAny_bind ?_
    unfold slotLetsGo
    refine wpAny_bind (wpAny_borrows h2 h3 hd ?_)
    refine wpAny_pure ?_
    refine wpAny_bind (wpAny_setField h1 rfl (by simp) ?_)
    have hg : ∀ {h : Heap} {f : Obj → Obj} {o : Obj}, h.get? it = some o → (f o).isFreed = false → (h.update it f).get? it = some (f o) := fun ho hn => Heap.get?_update_self _ ho hn
    refine wpAny_bind (wpAny_setField (hg h1 rfl) rfl (by simp) ?_)
    refine wpAny_setField (hg (hg h1 rfl) rfl) rfl (by simp) ?_
    refine stop_new hh fun g e keep hT => wpAny_bind (wpAny_isInstance (T := "StopIteration") (b := true) hT isSubtype_stop (wpAny_pure (heq hz g (fun b o ne x => keep b o ?_) (keep _ _ (hg (hg (hg h1 rfl) rfl) rfl)))))
    exact ((Heap.SameBut.update ..).extBut.trans (Heap.SameBut.update ..).extBut).trans (Heap.SameBut.update ..).extBut b o ne x
  · rw [decide_eq_false (fun e => hz e.symm)]
    exact wpAny_pure ⟨_, rfl, wpAny_pure (hne hz)⟩
end
section
variable {prog : Program} {w : World} {A : Around} {E : Value → Shared → Prop} {s : Shared}
/-- the next of an iterator that came to its end -/
theorem next_cit_end {it : Addr} {Q : Option Value → Shared → Prop} (hh : A.handled = none) (hit : s.heap.get? it = some citEnd)
    (h : ∀ h', (∀ b o, s.heap.get? b = some o → h'.get? b = some o) → Q none { s with heap := h' }) : wpAny (model prog w) A (pyNext (.ref it)) Q E s := by
  have hT : s.TypeIs (.ref it) "callable_iterator" := ⟨_, hit, rfl⟩
  unfold pyNext
  refine wpAny_bind (wpAny_attempt (wpAny_callSpecial?_slot (name := Str.ofString "__next__") hT slot_cit_next
    (wpAny_call_entry slot_cit_next hT entry_cit_next ?_ (args_cit_next _))))
  show wpAny _ _ (field (.ref it) 2 >>= _) _ _ s
  refine wpAny_bind (wpAny_field hit rfl (x := .bool true) rfl ?_)
  show wpAny _ _ (rule _ >>= _) _ _ s
  refine wpAny_bind (wpAny_rule ?_)
  refine wpAny_bind ?_
  exact stop_new hh fun g e keep hT => wpAny_bind (wpAny_isInstance (T := "StopIteration") (b := true) hT isSubtype_stop (wpAny_pure (h g keep)))
end
theorem slot_cit_self : Slot "callable_iterator" "__iter__" "callable_iterator.__iter__" :=
  .of (owner := "callable_iterator") (n := "__iter__") (by rw [typeLookup_type, builtinLookup_eq_fast]; kernel_rfl) (by decide +kernel) (by decide +kernel) (by decide +kernel)
    (by first | exact .inl (by decide +kernel) | exact .inr (by decide +kernel)) (by rw [isSubtype_type]; kernel_rfl)
theorem entry_cit_self : entryFor table "callable_iterator.__iter__" = some Builtin.«dict_keyiterator.__iter__» := entryFor_alias (id' := "dict_keyiterator.__iter__") (by kernel_rfl) rfl (by decide +kernel) (by kernel_rfl)
theorem args_cit_self (a : Value) : argsOk "callable_iterator.__iter__" ⟨[a], []⟩ := by unfold argsOk; kernel_rfl
theorem slot_meth_call : Slot "method" "__call__" "method.__call__" :=
  .of (owner := "method") (n := "__call__") (by rw [typeLookup_type, builtinLookup_eq_fast]; kernel_rfl) (by decide +kernel) (by decide +kernel) (by decide +kernel)
    (by first | exact .inl (by decide +kernel) | exact .inr (by decide +kernel)) (by rw [isSubtype_type]; kernel_rfl)
theorem args_iter2 (a b : Value) : argsOk "iter" ⟨[a, b], []⟩ := by unfold argsOk; kernel_rfl
section
variable {prog : Program} {w : World} {A : Around} {E : Value → Shared → Prop} {s : Shared}
theorem pyIter_cit {it : Addr} {f : Value} {t : Tok} {Q : Value → Shared → Prop} (hit : s.heap.get? it = some (citObj f t)) (h : Q (.ref it) s) : wpAny (model prog w) A (pyIter (.ref it)) Q E s := by
  have hT : s.TypeIs (.ref it) "callable_iterator" := ⟨_, hit, rfl⟩
  refine wpAny_pyIter_slot hT slot_cit_self (wpAny_call_entry slot_cit_self hT entry_cit_self ?_ (args_cit_self _))
  show wpAny _ _ (ret (.ref it)) _ _ s
  exact wpAny_pure ⟨_, rfl, "callable_iterator", _, hT, slot_cit_next.lookup, h⟩
theorem wpAny_specialOf_slot' {v : Value} {T id : String} {name : Str} {Q : Option Value → Shared → Prop} (hT : s.TypeIs v T) (h : Slot T name id) (hQ : Q (some (.builtin id)) s) : wpAny (model prog w) A (specialOf v name) Q E s := by
  unfold specialOf
  refine wpAny_bind (wpAny_typeOf hT ?_)
  exact wpAny_of_eq h.lookup hQ
theorem call_iter2 {h₀ : Heap} {L q : Addr} {m : Str → Option Value} {news : List (Addr × Obj)} {f self : Value} {t : Tok} {Q : Value → Shared → Prop} (F : Fr h₀ L s.heap m) (N : News h₀ L s.heap news) (hq : s.heap.get? q = some (methodObj f self))
    (h : ∀ I h', Fr h₀ L h' m → News h₀ L h' ((I, citObj (.ref q) t) :: news) → (∀ p ∈ news, p.1 < I) → (∀ b o, s.heap.get? b = some o → h'.get? b = some o) → Q (.ref I) { s with heap := h' }) :
    wpAny (model prog w) A (call (.builtin "iter") [.ref q, .str "" t]) Q E s := by
  refine PySem.Calls.call_function_entry (by decide +kernel) (by decide +kernel) kdk_entry_iter (args_iter2 _ _) ?_
  unfold Builtin.«iter»
  refine wpAny_bind (m := someArgs "iter" 1 2 _) (wpAny_of_eq (a := [Value.ref q, Value.str "" t]) (by first | rfl | kernel_rfl!) ?_)
  show wpAny _ _ (specialOf (.ref q) "__call__" >>= _) _ _ _
  refine wpAny_bind (wpAny_specialOf_slot' (T := "method") ⟨_, hq, rfl⟩ slot_meth_call ?_)
  refine wpAny_bind (wpAny_rule ?_)
  refine wpAny_bind (wpAny_newObj_type ?_ (by size_fits))
  exact wpAny_pure ⟨_, rfl, h _ _ (F.push _) (News.push F N _ rfl) (fun q hq => Heap.lt_size (N q hq).1) fun b o e => Heap.get?_push_of_some _ e⟩
end
end PartCallIter
section PartChars
/-- a sign of the text, with its token -/
structure Ch where
  c : Nat
  t : Tok
noncomputable abbrev chV (cs : List Ch) : List Value := cs.map fun x => .str ⟨#[x.c]⟩ x.t
theorem ch_of : ∀ (vs : List Value) (cps : List Nat), vs.length = cps.length → (∀ (j : Nat) (v : Value), vs[j]? = some v → ∃ (c : Nat) (u : Tok), cps[j]? = some c ∧ v = Value.str ⟨#[c]⟩ u) → ∃ cs : List Ch, cs.map (·.c) = cps ∧ chV cs = vs
  | [], [], _, _ => ⟨[], rfl, rfl⟩
  | [], _ :: _, e, _ => by cases e
  | _ :: _, [], e, _ => by cases e
  | v :: vs, c :: cps, e, h => by
    obtain ⟨c', u, e1, e2⟩ := h 0 v rfl
    obtain ⟨cs, h1, h2⟩ := ch_of vs cps (by simpa using e) fun j v hj => by simpa using h (j + 1) v (by simpa using hj)
    have : c = c' := by simpa using e1
    subst this
    exact ⟨⟨c, u⟩ :: cs, by simp [h1], by rw [e2, ← h2]; rfl⟩
section
variable {prog : Program} {w : World} {A : Around} {E : Value → Shared → Prop} {s : Shared} {h₀ : Heap} {L : Addr} {m : Str → Option Value} {Q : Value → Shared → Prop} {news : List (Addr × Obj)}
theorem list_chars {x : Str} {t : Tok} (hh : A.handled = none) (F : Fr h₀ L s.heap m) (N : News h₀ L s.heap news) (hz : x.length ≤ 10000)
    (h : ∀ D k cs h' tk, cs.map (·.c) = x.cps.toList → Fr h₀ L h' m → News h₀ L h' ((D, listOf (chV cs).toArray k) :: news) → (∀ p ∈ news, p.1 < D) → Q (.ref D) { s with heap := h', toks := tk }) :
    wpAny (model prog w) A (call (.type "list") [.str x t]) Q E s := by
  refine PySem.call_list_str hh x t (hn := Nat.le_trans hz (by rw [sizeLine_eq]; decide)) fun h' tk acc' c' hk hS' hacc => ?_
  obtain ⟨cs, h1, h2⟩ := ch_of acc'.toList x.cps.toList (by simpa using hacc.1) fun j v hv => by
    obtain ⟨c, u, hc, e⟩ := hacc.2 j v (by simpa using hv)
    exact ⟨c, u, by simpa using hc, e⟩
  refine h _ c' cs h' tk h1 (F.keeps hk) (fun p hp => ?_) fun p hp => Heap.lt_size (N p hp).1
  rcases List.mem_cons.mp hp with rfl | hp
  · rw [h2]
    exact ⟨hS', Nat.ne_of_gt F.ns.lt, next_is_new F⟩
  · exact ⟨hk _ _ (N p hp).1, (N p hp).2⟩
end
end PartChars
section PartRd
/-- the function that gives one sign of what is left, by what a call of it does -/
structure RdOk (w : World) (f c cl Lf : Addr) (fd : FuncData) (oc ocl : Obj) : Prop where
  run : ∀ {n₀ : Nat} {A₀ A : Around} {base h₀ : Heap} {env : Env} {outer : List Env} {L : Addr} {m mg mb : Str → Option Value} {mean : ExcName → Option Value} {loose : List Str} {p : Program} {s : Shared} {Q : Value → Shared → Prop} {E : Value → Shared → Prop} {rest : List (Addr × Obj)} {cs : List Ch} {k : Nat} {t : Tok},
    Cx n₀ w A₀ A base h₀ env outer L m mg mb mean loose p s.heap → n₀ ≤ 800 → News h₀ L s.heap ((Lf, listOf (chV cs).toArray k) :: (f, ({ cls := .type "function", data := .func fd } : Obj)) :: (c, oc) :: (cl, ocl) :: rest) → (∀ q ∈ rest, q.1 ≠ Lf) → cs.length ≤ 1000 → (∀ x ∈ cs, x.c < 128) →
    (∀ h' tk u, cs = [] → Fr h₀ L h' m → News h₀ L h' ((Lf, listOf (chV cs).toArray k) :: (f, ({ cls := .type "function", data := .func fd } : Obj)) :: (c, oc) :: (cl, ocl) :: rest) → Q (.str "" u) { s with heap := h', toks := tk }) →
    (∀ h' tk x cs' k', cs = x :: cs' → Fr h₀ L h' m → News h₀ L h' ((Lf, listOf (chV cs').toArray k') :: (f, ({ cls := .type "function", data := .func fd } : Obj)) :: (c, oc) :: (cl, ocl) :: rest) → Q (.str ⟨#[x.c]⟩ x.t) { s with heap := h', toks := tk }) →
    wpAny (model PySem.Challenge.rw_to0065_01.row.prog w) A (call (.ref f) [.int 1 t]) Q E s
section
variable {n : Nat} {w : World} {A₀ A : Around} {base h₀ : Heap} {env : Env} {outer : List Env} {L : Addr} {m mg mb : Str → Option Value} {mean : ExcName → Option Value} {loose : List Str} {p : Program} {s : Shared}
theorem Cx.nest {R : Result → Shared → Prop} {news : List (Addr × Obj)} {name qual : Str} {params : Arguments} {body : List Stmt} {scope : Scope} {cl : List (Str × Addr)} {doc pm ctv : Value} {c' f : Addr} {args : Args} {binds : List (Str × Value)}
    (C : Cx n w A₀ A base h₀ env outer L m mg mb mean loose p s.heap) (N : News h₀ L s.heap news) (ho : (f, fnMade name qual params body scope cl doc pm c' ctv) ∈ news) (hcd : s.heap.CodeRec (.ref c') qual) (hn : n ≤ 900)
    (hbind : BindsTo s (fnX name qual params body scope cl .none .none doc pm none (.ref c') ctv) args binds) (hloc : ∀ y ∈ binds, scope.names.lookup y.1 = some .local)
    (k : ∀ g L' h₁ tk, Fr h₀ L g m → News g L' h₁ news → Cx (n + 3) w A (A.deeper (envX qual scope L' f (.ref c') cl)) base g (envX qual scope L' f (.ref c') cl) (env :: outer) L' (fun y => binds.reverse.lookup y) mg mb mean loose p h₁ →
      wpAny (model PySem.Challenge.rw_to0065_01.row.prog w) (A.deeper (envX qual scope L' f (.ref c') cl)) (execs body (envX qual scope L' f (.ref c') cl))
        (fun fl s' => LeaveK h₀ L m g R (match fl with | .ret v => v | _ => .none) s')
        (fun e s' => wpAny (model PySem.Challenge.rw_to0065_01.row.prog w) (A.deeper (envX qual scope L' f (.ref c') cl)) (leaving (envX qual scope L' f (.ref c') cl) e) (fun _ s'' => R (.error e) s'') (fun e' s'' => R (.error e') s'') s')
        { s with heap := h₁, toks := tk })
    (hco : scope.isCoroutine = false) (hgen : scope.isGenerator = false) (hk : scope.kind = .function)
    (hcell : ∀ x ∈ scope.names, x.2 ≠ .cell) : codeAny (model PySem.Challenge.rw_to0065_01.row.prog w) A (.call (.ref f) args) R s :=
  code_nest C.B C.F C.X N C.T C.hA C.hf C.hke ho hcd (Nat.lt_trans C.hd (by show n < 1000; omega)) hbind hloc
    (fun g L' h₁ FG F' N' B' X' T' => k g L' h₁ _ FG N' ⟨B', F', X', T', Around.frames_deeper (Below.stack B'), rfl, hk, by show A.depth + 1 < n + 3; have := C.hd; omega, by show A.units + 3 < n + 3; have := C.hu; omega, C.hh⟩) hco hgen hk hcell
end
end PartRd
section PartLexer
theorem lex_order {h₀ hh : Heap} {L : Addr} {a b c d e f g i j k l : Addr × Obj} {r : List (Addr × Obj)} (N : News h₀ L hh (a :: b :: c :: d :: e :: f :: g :: i :: j :: k :: l :: r)) : News h₀ L hh (a :: b :: c :: f :: e :: j :: g :: i :: k :: l :: r) :=
  news_sub N fun q hq => by
    simp only [List.mem_cons] at hq ⊢
    grind
theorem at_chV {cs : List Ch} (h : ∀ x ∈ cs, x.c < 128) : ∀ v ∈ chV cs, isAt v = true := fun v hv => by
  obtain ⟨x, hx, rfl⟩ := List.mem_map.mp hv
  have := h x hx
  show Array.all _ _ = true
  simp
  omega
/-- the dict of the stream -/
noncomputable abbrev strD (w : World) (Ps fr : Addr) (u1 u2 u3 u4 u5 u6 u7 : Tok) : List DictEntry :=
  [⟨PyData.keyHash w.params "lineno", .str "lineno" u1, .int 1 u5⟩, ⟨PyData.keyHash w.params "instream", .str "instream" u2, .none⟩,
   ⟨PyData.keyHash w.params "whitespace", .str "whitespace" u3, .str "\n\t\r " u6⟩, ⟨PyData.keyHash w.params "pushback", .str "pushback" u4, .ref Ps⟩, ⟨PyData.keyHash w.params "read", .str "read" u7, .ref fr⟩]
theorem off1_of {D : Addr} : ∀ {news : List (Addr × Obj)}, (∀ q ∈ news, q.1 ≠ D) → LCg.Off1 D news
  | [], _ => trivial
  | _ :: _, h => ⟨h _ List.mem_cons_self, off1_of fun q hq => h q (List.mem_cons_of_mem _ hq)⟩
theorem lay22 : True := by
  k_with "z call ref" => (k_here; (with_reducible show wpAny _ _ (call (Value.ref 76) _ _) _ _ _); k_dflt (refine' netrc_c (Cx.upd ?x9a ?x9b) ?x9c ?x9d ?_); (case x9a => assumption); (case x9b => k_asm); (case x9c => omega); (case x9d => k_asm); (intro _ _ _ _ _ _ _ _ _ _ _ x9l x9m x9n x9o x9p _ _); (have x9q := x9l); (repeat (replace x9q := tail_of x9q)); (have x9r := x9n); (repeat (replace x9r := tail_of x9r)); (k_lt x9l); (k_lt2 x9m); (have x9o := neN x9o); (have x9p := neN x9p); (have x9n := off1_of x9n); (dsimp only [LCg.Off1] at x9n))
  exact True.intro
/-- no two of the lexer's parts stand at one place -/
structure LexNe (P dx lx sx dsx Lf fr cr cl : Addr) (rest : List (Addr × Obj)) : Prop where
  L : (@Ne Nat P Lf) ∧ (@Ne Nat dx Lf) ∧ (@Ne Nat lx Lf) ∧ (@Ne Nat sx Lf) ∧ (@Ne Nat dsx Lf) ∧ (@Ne Nat fr Lf) ∧ (@Ne Nat cr Lf) ∧ (@Ne Nat cl Lf)
  D : (@Ne Nat P dx) ∧ (@Ne Nat Lf dx) ∧ (@Ne Nat lx dx) ∧ (@Ne Nat sx dx) ∧ (@Ne Nat dsx dx) ∧ (@Ne Nat fr dx) ∧ (@Ne Nat cr dx) ∧ (@Ne Nat cl dx)
  Q : (@Ne Nat dx P) ∧ (@Ne Nat Lf P) ∧ (@Ne Nat lx P) ∧ (@Ne Nat sx P) ∧ (@Ne Nat dsx P) ∧ (@Ne Nat fr P) ∧ (@Ne Nat cr P) ∧ (@Ne Nat cl P)
  rL : ∀ q ∈ rest, q.1 ≠ Lf
  rD : ∀ q ∈ rest, q.1 ≠ dx
  rP : ∀ q ∈ rest, q.1 ≠ P
section
variable {n₀ : Nat} {w : World} {A₀ A : Around} {base h₀ : Heap} {env : Env} {outer : List Env} {L : Addr} {m : Str → Option Value} {mg mb : Str → Option Value} {mean : ExcName → Option Value} {loose : List Str} {p : Program} {s : Shared}
    {Q : Value → Shared → Prop} {E : Value → Shared → Prop} {rest : List (Addr × Obj)}
theorem lexer_c {z : Str} {t : Tok} (C : Cx n₀ w A₀ A base h₀ env outer L m mg mb mean loose p s.heap) (hn₀ : n₀ ≤ 600) (CH : CodeHd base 291 287)
    (N : News h₀ L s.heap ((287, tabObj #[]) :: rest)) (hr : ∀ q ∈ rest, q.1 ≠ 287) (hz : z.length ≤ 1000) (ha : z.cps.all (· < 128) = true)
    (h : ∀ lx dx P sx dsx Ps fr cr cl Lf fd oc ocl vT k t1 t2 t3 t4 t5 t6 u1 u2 u3 u4 u5 u6 u7 cs h' tk, RdOk w fr cr cl Lf fd oc ocl → cs.map (·.c) = z.cps.toList →
      LexNe P dx lx sx dsx Lf fr cr cl ((287, tabObj vT) :: rest) → (∀ q ∈ (287, tabObj vT) :: rest, q.1 ≠ cr ∧ q.1 ≠ cl) →
      Fr h₀ L h' m → News h₀ L h' ((P, listOf #[] 0) :: (dx, dictOf (lexD w 1 (.ref sx) P t1 t2 t3 t4 t5 t6) 4) :: (lx, instObj 76 dx) :: (sx, instObj 76 dsx) :: (dsx, dictOf (strD w Ps fr u1 u2 u3 u4 u5 u6 u7) 5) :: (Lf, listOf (chV cs).toArray k) :: (fr, ({ cls := .type "function", data := .func fd } : Obj)) :: (cr, oc) :: (cl, ocl) :: (287, tabObj vT) :: rest) → Q (.ref lx) { s with heap := h', toks := tk }) :
    wpAny (model PySem.Challenge.rw_to0065_01.row.prog w) A (call (.ref 292) [.str z t]) Q E s := by
  walk_at "cx_fill"
  w_strict (
    refine wpAny_call ?_
    refine' Cx.codeC (binds := [("text", .str z t)]) (by assumption) (by assumption) ?k6 ?k7 (by walk_at "om") ?k9 ?kB ?kD ?_ ?c2 ?c3 ?c4
    case k6 => k_is
    case k7 => k_is
    case k9 => first | exact binds_K (by k_in) rfl (by k_is) rfl rfl rfl | exact BindsTo.of_eq (by kernel_rfl)
    case kB => exact rfl
    case kD => decide +kernel
    case c2 => exact rfl
    case c3 => exact rfl
    case c4 => exact rfl
    k_whole
    intro g' L' h' tk' cells' FG' N' Y' l1 C'
    have F' := Cx.F C'
    have B' := Cx.B C'
    have X' := Cx.X C'
    have T' := Cx.T C'
    have l1r := l1
    (repeat (replace l1r := tail_of l1r))
    (try k_lt l1)
    k_cells Y'
    (try simp only [List.cons_append, List.nil_append] at N')
    (try dsimp only)
    (try k_lift B')
    (try k_fold)
    rename (_ < _) ∧ _ => lC
    have hrC := fun q hq => Nat.ne_of_lt (Nat.lt_succ_of_lt (allLt_at lC.2 q hq))
    iterate 8 (walk_at "go1")
    refine list_chars (Cx.hh (by assumption)) (by k_asm) (by k_asm) (Nat.le_trans hz (by decide)) ?_
    intro Lf kf cs hf tkf hcs Ff Nf lf
    k_lt lf
    iterate 60 (walk_at "go1")
    rename News h₀ L _ _ => NN
    have LO := lex_order NN
    refine h _ _ _ _ _ _ _ _ _ _ _ _ _ _ _ _ _ _ _ _ _ _ _ _ _ _ _ _ cs _ _ ?rd hcs ?off ?offC (by assumption) LO
    case off =>
      exact ⟨⟨by first | walk_at "nes" | k_ne, by first | walk_at "nes" | k_ne, by first | walk_at "nes" | k_ne, by first | walk_at "nes" | k_ne, by first | walk_at "nes" | k_ne, by first | walk_at "nes" | k_ne, by first | walk_at "nes" | k_ne, by first | walk_at "nes" | k_ne⟩, ⟨by first | walk_at "nes" | k_ne, by first | walk_at "nes" | k_ne, by first | walk_at "nes" | k_ne, by first | walk_at "nes" | k_ne, by first | walk_at "nes" | k_ne, by first | walk_at "nes" | k_ne, by first | walk_at "nes" | k_ne, by first | walk_at "nes" | k_ne⟩, ⟨by first | walk_at "nes" | k_ne, by first | walk_at "nes" | k_ne, by first | walk_at "nes" | k_ne, by first | walk_at "nes" | k_ne, by first | walk_at "nes" | k_ne, by first | walk_at "nes" | k_ne, by first | walk_at "nes" | k_ne, by first | walk_at "nes" | k_ne⟩, List.forall_mem_cons.mpr ⟨by first | walk_at "nes" | k_ne, fun q hq => Nat.ne_of_lt (allLt_at lf.2.2 q hq)⟩, List.forall_mem_cons.mpr ⟨by first | walk_at "nes" | k_ne, by k_all⟩, List.forall_mem_cons.mpr ⟨by first | walk_at "nes" | k_ne, by assumption⟩⟩
    case offC =>
      refine List.forall_mem_cons.mpr ⟨⟨by first | walk_at "nes" | k_ne, by first | walk_at "nes" | k_ne⟩, fun q hq => ⟨?_, ?_⟩⟩
      · revert q
        k_all
      · exact hrC q hq
    case rd =>
      refine ⟨fun {n₁ A₁ A₂ base₁ h₁ env₁ outer₁ L₁ m₁ mg₁ mb₁ mean₁ loose₁ p₁ s₁ Q₁ E₁ rest₁ cs₁ k₁ t₁} C₁ hn₁ N₁ hr₁ hz₁ hc₁ h1 h2 => ?_⟩
      have X₁ := Cx.X C₁
      revert X₁
      k_fill
      intro X₁
      have F₁ := Cx.F C₁
      refine wpAny_call ?_
      refine' Cx.nest (binds := [("count", .int 1 t₁)]) C₁ N₁ ?ho ?hcd (by walk_at "om") ?k9 ?kB ?_ ?c2 ?c3 ?c4 ?c5
      case ho => k_mem
      case hcd => exact codeRec_news N₁ (by k_mem) (by assumption) (by assumption)
      case k9 => exact BindsTo.of_eq rfl
      case c5 => decide
      case kB => exact locs rfl
      case c2 => exact rfl
      case c3 => exact rfl
      case c4 => exact rfl
      k_whole
      intro g9 L9 h9 tk9 FG9 N9 C9
      have F9 := Cx.F C9
      have B9 := Cx.B C9
      have X9 := Cx.X C9
      have T9 := Cx.T C9
      (try dsimp only)
      (try k_lift B9)
      (try k_fold)
      iterate 15 (walk_at "go1")
      cases cs₁ with
      | nil =>
        refine ne_at (vs := chV []) (us := []) (by k_asm) (by k_mem) (by k_mem) (C9.room (by walk_at "om")) (by simp) (by simp) false (by simp) ?_
        iterate 9 (walk_at "go1")
        exact h1 _ _ _ rfl (by assumption) (by walk_at "k_ledger")
      | cons x cs₂ =>
        refine ne_at (vs := chV (x :: cs₂)) (us := []) (by k_asm) (by k_mem) (by k_mem) (C9.room (by walk_at "om")) (at_chV hc₁) (by simp) true (by simp) ?_
        rename News g9 L9 _ _ => NN
        rw [show chV (x :: cs₂) = .str ⟨#[x.c]⟩ x.t :: chV cs₂ from rfl] at NN
        have hz₂ : (chV cs₂).length ≤ 1000 := by
          rw [List.length_map]
          simp only [List.length_cons] at hz₁
          omega
        iterate 17 (walk_at "go1")
        exact h2 _ _ x cs₂ _ rfl (by assumption) (by walk_at "k_ledger"))
end
end PartLexer
theorem lay23 : True := by
  k_with_none
  exact True.intro
theorem lay24 : True := by
  k_with "z k_all" => first | assumption | exact ne_of_lt_all (by assumption) (by first | omega | exact Nat.le_add_right _ _ | exact Nat.le_refl _)
  k_with "cx_fill" => ((have x9X := Cx.X (by assumption)); revert x9X; k_fill; intro x9X; (have x9F := Cx.F (by assumption)))
  k_with "go1" => (first | (k_unfold; (try dsimp only)) | walk1 | (dsimp only; walk1) | (leave1; walk_say "STEP leave1"; try dsimp only))
  k_with "z call builtin:list.pop" => (k_here; (refine' pop0 ?x9F ?x9N ?x9U ?x9z ?_; (case x9F => k_asm); (case x9N => k_asm); (case x9U => k_upd); (case x9z => first | assumption | omega); intro _ _ _))
  k_with "k_ledger" => first | assumption | exact news_tl (by assumption) | exact news_tl (news_tl (by assumption)) | exact news_tl (news_tl (news_tl (by assumption))) | exact news_tl (news_tl (news_tl (news_tl (by assumption))))
  k_with "z k_enter" => (
    (refine' Cx.code (Cx.upd ?x9a ?x9b) ?x9c ?x9d ?x9e ?x9f ?x9g ?x9h ?_ ?x9i ?x9j ?x9k ?x9l)
    case x9a => first | assumption | exact Cx.in1 (by assumption) | exact Cx.in1 (Cx.in1 (by assumption))
    case x9b => k_asm
    case x9c => k_asm
    case x9f => omega
    case x9d => k_is
    case x9e => k_is
    case x9g => first | exact binds_K (by k_in) rfl (by k_is) rfl rfl rfl | exact BindsTo.of_eq rfl
    case x9l => decide
    case x9h => exact locs rfl
    case x9i => exact rfl
    case x9j => exact rfl
    case x9k => exact rfl
    k_whole
    intro _ _ _ _ _ _ x9C
    have x9F := Cx.F x9C
    have x9B := Cx.B x9C
    have x9X := Cx.X x9C
    have x9T := Cx.T x9C
    (try dsimp only)
    (try k_lift x9B)
    (try k_fold))
  k_with "z assign Tuple" => (k_here; (with_reducible show wpAny _ _ (assign (Expr.Tuple _ _ _) _ (Value.ref _)) _ _ _); k_dflt (refine' unpackN_ ?x9F ?x9N ?x9T ?x9i ?x9j ?x9k ?_; (case x9F => k_asm); (case x9N => k_asm); (case x9T => first | with_reducible assumption | (refine News.isTup (by k_asm) (by k_mem))); (case x9i => exact Cx.hh (by assumption)); (case x9j => exact rfl); (case x9k => exact rfl)); intro _ _ _)
  k_with "pr" => with_reducible (first | assumption | exact an1 (by assumption) | exact an2 (by assumption) | exact an3 (by assumption) | exact an4 (by assumption) | exact an5 (by assumption) | exact an6 (by assumption) | exact an7 (by assumption) | exact an8 (by assumption) | exact an9 (by assumption) | exact al1 (by assumption) | exact al2 (by assumption) | exact al3 (by assumption))
  k_with "lts" => with_reducible (first | walk_at "pr" | exact Nat.lt_add_one _ | (refine Nat.lt_trans ?_ (by assumption); walk_at "pr") | (refine lt_pl ?_; walk_at "lts"))
  k_with "nes" => first | walk_at "pr" | (refine Ne.symm ?_; walk_at "pr") | (refine Nat.ne_of_lt ?_; walk_at "lts") | (refine Nat.ne_of_gt ?_; walk_at "lts")
  k_with "z k_ne" => first | walk_at "nes" | (dsimp only; walk_at "nes")
  k_with "lec" => with_reducible (first | exact Nat.le_refl _ | assumption | exact Nat.le_add_right _ _ | exact Nat.succ_le_succ (Nat.zero_le _) | exact Nat.succ_le_of_lt (by assumption) | (refine Nat.le_trans ?_ (by assumption); walk_at "lec") | (refine le_lt ?_ (by assumption); walk_at "lec") | (refine le_pl ?_; walk_at "lec"))
  k_with "ltc" => with_reducible (refine Nat.lt_of_succ_le ?_; walk_at "lec")
  k_with "om" => first | exact Nat.le_of_ble_eq_true rfl | exact le_plus (by with_reducible assumption) (Nat.le_of_ble_eq_true rfl) | exact Nat.le_trans (by with_reducible assumption) (Nat.le_of_ble_eq_true rfl) | walk_at "lec" | walk_at "ltc" | omega
  exact True.intro
theorem lay25 : True := by
  k_with "z call builtin:len" => (k_here; (with_reducible show wpAny _ _ (call (Value.builtin _) [Value.ref _]) _ _ _); k_dflt (refine' len_led ?x9i ?x9j ?x9k ?x9l ?_; (case x9i => k_asm); (case x9j => k_mem); (case x9k => first | exact List.length_map _ | exact rfl); (case x9l => assumption)))
  exact True.intro
theorem lay26 : True := by
  k_with "z storeName" => (k_here; (with_reducible show wpAny _ _ (storeName _ _ _) _ _ _); k_dflt (refine' store_t ?x9i ?x9j ?x9k ?x9l ?x9m ?_; (case x9i => k_asm); (case x9j => k_asm); (case x9k => exact rfl); (case x9l => exact rfl); (case x9m => exact rfl)); intro _ x9F _; (try dsimp only at x9F ⊢))
  k_with "z execs cons" => (k_here; (with_reducible refine gen_t ?_); intro _ x9l; (try dsimp only at x9l))
  exact True.intro
theorem lay27 : True := by
  k_with "upd" => first | (refine' Upd.head ?_; k_all) | (refine' Upd.tail ?_ (by walk_at "upd"); first | walk_at "nes" | k_ne)
  k_with "z execs cons" => (k_here; (fail_if_success (with_reducible refine gen_t ?_)); (with_reducible refine execs_consQ ?_); intro _ _ _)
  k_with "oq" => first | (with_reducible refine oqN (by assumption) ?_) | (with_reducible refine oqR (by assumption) ?_) | (with_reducible refine oqB (by assumption) ?_) | (with_reducible refine oqC (by assumption) ?_) | (with_reducible refine oqG (by assumption) ?_)
  k_with "go1" => first | ((first | (k_unfold; (try dsimp only)) | walk1 | (dsimp only; walk1) | (leave1; walk_say "STEP leave1"; try dsimp only)); (try (walk_at "oq"; try dsimp only))) | (walk_at "oq"; try dsimp only)
  k_with "z execs nil" => (k_here; (with_reducible refine wpAny_execs_nil ?_); try dsimp only)
  exact True.intro
section PartReadC
noncomputable abbrev fnO (fd : FuncData) : Obj := { cls := .type "function", data := .func fd }
theorem lex_rd {h₀ hh : Heap} {L : Addr} {a b c d e f g i j : Addr × Obj} {r : List (Addr × Obj)} (N : News h₀ L hh (a :: b :: c :: d :: e :: f :: g :: i :: j :: r)) : News h₀ L hh (f :: g :: i :: j :: a :: b :: c :: d :: e :: r) :=
  news_sub N fun q hq => by
    simp only [List.mem_cons] at hq ⊢
    grind
theorem lex_dr {h₀ hh : Heap} {L : Addr} {a b c d e f g i j : Addr × Obj} {r : List (Addr × Obj)} (N : News h₀ L hh (f :: g :: i :: j :: a :: b :: c :: d :: e :: r)) : News h₀ L hh (a :: b :: c :: d :: e :: f :: g :: i :: j :: r) :=
  news_sub N fun q hq => by
    simp only [List.mem_cons] at hq ⊢
    grind
theorem nl_eq (c : Nat) : ((⟨#[c]⟩ : Str) == Str.ofString "\n") = decide (c = 10) := by
  have e : Str.ofString "\n" = ⟨#[10]⟩ := by decide +kernel
  rw [e]
  by_cases h : c = 10
  · rw [h]
    decide +kernel
  · rw [decide_eq_false h, beq_eq_false_iff_ne]
    intro e
    injection e with e
    injection e with e
    injection e with e
    exact h e
theorem nl_t {c : Nat} (h : ((⟨#[c]⟩ : Str) == Str.ofString "\n") = true) : c = 10 := by
  rw [nl_eq, decide_eq_true_eq] at h
  exact h
theorem nl_f {c : Nat} (h : ((⟨#[c]⟩ : Str) == Str.ofString "\n") = false) : c ≠ 10 := by
  rw [nl_eq, decide_eq_false_iff_not] at h
  exact h
section
variable {n₀ : Nat} {w : World} {A₀ A : Around} {base h₀ : Heap} {env : Env} {outer : List Env} {L : Addr} {m : Str → Option Value} {mg mb : Str → Option Value} {mean : ExcName → Option Value} {loose : List Str} {p : Program} {s : Shared}
    {Q : Value → Shared → Prop} {E : Value → Shared → Prop} {rest : List (Addr × Obj)} {P dx lx sx dsx Ps Lf fr cr cl : Addr} {fd : FuncData} {oc ocl : Obj} {cs : List Ch} {k kP : Nat} {ln : Int} {t1 t2 t3 t4 t5 t6 u1 u2 u3 u4 u5 u6 u7 : Tok} {pv : Array Value}
theorem read_code (C : Cx n₀ w A₀ A base h₀ env outer L m mg mb mean loose p s.heap) (hn₀ : n₀ ≤ 700) (R : RdOk w fr cr cl Lf fd oc ocl) (X : LexNe P dx lx sx dsx Lf fr cr cl rest)
    (N : News h₀ L s.heap ((P, listOf pv kP) :: (dx, dictOf (lexD w ln (.ref sx) P t1 t2 t3 t4 t5 t6) 4) :: (lx, instObj 76 dx) :: (sx, instObj 76 dsx) :: (dsx, dictOf (strD w Ps fr u1 u2 u3 u4 u5 u6 u7) 5) :: (Lf, listOf (chV cs).toArray k) :: (fr, fnO fd) :: (cr, oc) :: (cl, ocl) :: rest))
    (hz : cs.length ≤ 1000) (hc : ∀ x ∈ cs, x.c < 128) (hl : 0 ≤ ln ∧ ln ≤ 1000)
    (h1 : ∀ h' tk u, cs = [] → Fr h₀ L h' m → News h₀ L h' ((P, listOf pv kP) :: (dx, dictOf (lexD w ln (.ref sx) P t1 t2 t3 t4 t5 t6) 4) :: (lx, instObj 76 dx) :: (sx, instObj 76 dsx) :: (dsx, dictOf (strD w Ps fr u1 u2 u3 u4 u5 u6 u7) 5) :: (Lf, listOf (chV cs).toArray k) :: (fr, fnO fd) :: (cr, oc) :: (cl, ocl) :: rest) → Q (.str "" u) { s with heap := h', toks := tk })
    (h2 : ∀ h' tk x cs' k' t5', cs = x :: cs' → Fr h₀ L h' m → News h₀ L h' ((P, listOf pv kP) :: (dx, dictOf (lexD w (if x.c = 10 then ln + 1 else ln) (.ref sx) P t1 t2 t3 t4 t5' t6) 4) :: (lx, instObj 76 dx) :: (sx, instObj 76 dsx) :: (dsx, dictOf (strD w Ps fr u1 u2 u3 u4 u5 u6 u7) 5) :: (Lf, listOf (chV cs').toArray k') :: (fr, fnO fd) :: (cr, oc) :: (cl, ocl) :: rest) → Q (.str ⟨#[x.c]⟩ x.t) { s with heap := h', toks := tk }) :
    codeAny (model PySem.Challenge.rw_to0065_01.row.prog w) A (.call (.ref 59) ⟨[.ref lx], []⟩) (fun r s' => match r with | .ok (.ret v) => Q v s' | .ok _ => False | .error e => E e s') s := by
  obtain ⟨xL1, xL2, xL3, xL4, xL5, xL6, xL7, xL8⟩ := X.L
  obtain ⟨xD1, xD2, xD3, xD4, xD5, xD6, xD7, xD8⟩ := X.D
  have xrL := X.rL
  have xrD := X.rD
  walk_at "cx_fill"
  w_strict (
    refine' Cx.code (binds := [("self", .ref lx)]) (by assumption) (by assumption) ?k6 ?k7 (by walk_at "om") ?k9 ?kB ?_ ?c2 ?c3 ?c4 ?c5
    case k6 => k_is
    case k7 => k_is
    case k9 => first | exact binds_K (by k_in) rfl (by k_is) rfl rfl rfl | exact BindsTo.of_eq (by kernel_rfl)
    case c5 => decide
    case kB => exact locs rfl
    case c2 => exact rfl
    case c3 => exact rfl
    case c4 => exact rfl
    k_whole
    intro g' L' h' tk' FG' N' C'
    have F' := Cx.F C'
    have B' := Cx.B C'
    have X' := Cx.X C'
    have T' := Cx.T C'
    (try dsimp only)
    (try k_lift B')
    (try k_fold)
    iterate 8 (walk_at "go1")
    refine' callWith_F ?fk1 ?_
    case fk1 => exact FnAt.of (by k_asm) (by k_mem)
    iterate 5 (walk_at "go1")
    rename News _ _ _ _ => NN
    refine' R.run (Cx.upd ?zc1 ?zc2) ?zc3 (lex_rd NN) ?hr hz hc ?_ ?_
    case zc1 => assumption
    case zc2 => k_asm
    case zc3 => omega
    case hr => k_all
    · intro h6 tk6 u6 e6 F6 N6
      have N7 := lex_dr N6
      clear N6
      iterate 16 (walk_at "go1")
      exact h1 _ _ _ e6 (by assumption) (by walk_at "k_ledger")
    · intro h6 tk6 x6 cs6 k6 e6 F6 N6
      have N7 := lex_dr N6
      clear N6
      iterate 24 (walk_at "go1")
      · have hx : x6.c = 10 := nl_t (by assumption)
        have h3 := fun h' tk t5' => h2 h' tk x6 cs6 k6 t5' e6
        rw [if_pos hx] at h3
        exact h3 _ _ _ (by assumption) (by walk_at "k_ledger")
      · have hx : x6.c ≠ 10 := nl_f (by assumption)
        have h3 := fun h' tk t5' => h2 h' tk x6 cs6 k6 t5' e6
        rw [if_neg hx] at h3
        iterate 6 (walk_at "go1")
        exact h3 _ _ _ (by assumption) (by walk_at "k_ledger"))
end
end PartReadC
section PartLexFor
noncomputable abbrev lexLed (w : World) (P dx lx sx dsx Ps Lf fr cr cl : Addr) (fd : FuncData) (oc ocl : Obj) (pv : Array Value) (kP : Nat) (ln : Int) (t1 t2 t3 t4 t5 t6 u1 u2 u3 u4 u5 u6 u7 : Tok) (cs : List Ch) (k : Nat) (rest : List (Addr × Obj)) : List (Addr × Obj) :=
  (P, listOf pv kP) :: (dx, dictOf (lexD w ln (.ref sx) P t1 t2 t3 t4 t5 t6) 4) :: (lx, instObj 76 dx) :: (sx, instObj 76 dsx) :: (dsx, dictOf (strD w Ps fr u1 u2 u3 u4 u5 u6 u7) 5) :: (Lf, listOf (chV cs).toArray k) :: (fr, fnO fd) :: (cr, oc) :: (cl, ocl) :: rest
/-- what is left is plain, and the lines are few -/
structure Good (cs : List Ch) (ln : Int) : Prop where
  c : ∀ x ∈ cs, x.c < 128
  l : 0 ≤ ln
  b : ln + cs.length ≤ 1000
theorem Good.next {x : Ch} {cs : List Ch} {ln : Int} (g : Good (x :: cs) ln) : Good cs (if x.c = 10 then ln + 1 else ln) := by
  have h1 := g.l
  have h2 := g.b
  rw [List.length_cons] at h2
  refine ⟨fun y hy => g.c y (List.mem_cons_of_mem _ hy), ?_, ?_⟩
  · split <;> omega
  · split <;> omega
section
variable {n₀ : Nat} {w : World} {A₀ A : Around} {base h₀ : Heap} {env : Env} {outer : List Env} {L : Addr} {m : Str → Option Value} {mg mb : Str → Option Value} {mean : ExcName → Option Value} {loose : List Str} {p : Program} {s : Shared}
    {Q : Flow → Shared → Prop} {E : Value → Shared → Prop} {rest : List (Addr × Obj)} {P dx lx sx dsx Ps Lf fr cr cl it q : Addr} {fd : FuncData} {oc ocl : Obj} {kP : Nat} {t t1 t2 t3 t4 t6 u1 u2 u3 u4 u5 u6 u7 : Tok} {pv : Array Value} {x : Str} {body : List Stmt}
/-- what holds at each turn over the signs that are read; behind the last one -/
inductive ReadInv (h₀ : Heap) (L : Addr) (w : World) (it q : Addr) (t : Tok) (J : List Ch → Int → (Str → Option Value) → Prop) (P dx lx sx dsx Ps Lf fr cr cl : Addr) (fd : FuncData) (oc ocl : Obj) (pv : Array Value) (kP : Nat) (t1 t2 t3 t4 t6 u1 u2 u3 u4 u5 u6 u7 : Tok) (rest : List (Addr × Obj)) (g : Array GenState) (d : Drawn) (o : OsState) (Q : Flow → Shared → Prop) : Nat → Shared → Prop
  | go (h : Heap) (tk : Nat) (m : Str → Option Value) (cs : List Ch) (ln : Int) (t5 : Tok) (k : Nat) (F : Fr h₀ L h m) (N : News h₀ L h ((it, citObj (.ref q) t) :: (q, methodObj (.ref 59) (.ref lx)) :: lexLed w P dx lx sx dsx Ps Lf fr cr cl fd oc ocl pv kP ln t1 t2 t3 t4 t5 t6 u1 u2 u3 u4 u5 u6 u7 cs k rest)) (G : Good cs ln) (hJ : J cs ln m) : ReadInv h₀ L w it q t J P dx lx sx dsx Ps Lf fr cr cl fd oc ocl pv kP t1 t2 t3 t4 t6 u1 u2 u3 u4 u5 u6 u7 rest g d o Q (cs.length + 1) ⟨h, g, d, tk, o⟩
  | fin (h : Heap) (tk : Nat) (nx : List (Addr × Obj)) (N : News h₀ L h ((it, citEnd) :: nx)) (last : ∀ h'', (∀ b o, h.get? b = some o → h''.get? b = some o) → Q .next ⟨h'', g, d, tk, o⟩) : ReadInv h₀ L w it q t J P dx lx sx dsx Ps Lf fr cr cl fd oc ocl pv kP t1 t2 t3 t4 t6 u1 u2 u3 u4 u5 u6 u7 rest g d o Q 0 ⟨h, g, d, tk, o⟩
/-- behind a turn over the signs that are read -/
noncomputable def TurnR (h₀ : Heap) (L : Addr) (w : World) (it q : Addr) (t : Tok) (J : List Ch → Int → (Str → Option Value) → Prop) (P dx lx sx dsx Ps Lf fr cr cl : Addr) (fd : FuncData) (oc ocl : Obj) (pv : Array Value) (kP : Nat) (t1 t2 t3 t4 t6 u1 u2 u3 u4 u5 u6 u7 : Tok) (rest : List (Addr × Obj)) (n : Nat) (s₁ : Shared) (Q : Flow → Shared → Prop) (f : Flow) (s₂ : Shared) : Prop :=
  match f with
  | .ret v => Q (.ret v) s₂
  | .brk => Q .next s₂
  | _ => ∃ k, k < n + 1 + 1 ∧ ReadInv h₀ L w it q t J P dx lx sx dsx Ps Lf fr cr cl fd oc ocl pv kP t1 t2 t3 t4 t6 u1 u2 u3 u4 u5 u6 u7 rest s₁.gens s₁.drawn s₁.os Q k s₂
inductive ReadAt (prog : Program) (w : World) (A : Around) (env : Env) (x : Str) (body : List Stmt) (Q : Flow → Shared → Prop) (E : Value → Shared → Prop) (xv : Value) (s₁ : Shared) : Prop
  | mk (n₀ : Nat) (A₀ : Around) (base h₀ : Heap) (outer : List Env) (m mg mb : Str → Option Value) (mean : ExcName → Option Value) (loose : List Str) (p : Program) (P dx lx sx dsx Ps Lf fr cr cl it q : Addr) (fd fdR : FuncData) (oc ocl fo : Obj) (kP : Nat) (t t1 t2 t3 t4 t5 t6 u1 u2 u3 u4 u5 u6 u7 : Tok) (pv : Array Value) (rest : List (Addr × Obj)) (cs : List Ch) (k : Nat) (ln : Int) (J : List Ch → Int → (Str → Option Value) → Prop)
    (c1 : xv = .ref it) (c2 : prog = PySem.Challenge.rw_to0065_01.row.prog) (c3 : Cx n₀ w A₀ A base h₀ env outer env.locals m mg mb mean loose p s₁.heap) (c4 : n₀ ≤ 600) (c5 : RdOk w fr cr cl Lf fd oc ocl) (c6 : LexNe P dx lx sx dsx Lf fr cr cl rest) (c7 : (hd.heap_39 w.params).lookup 59 = some fo) (c8 : fo.data = .func fdR) (c9 : (it ≠ q ∧ ∀ a ∈ [P, dx, lx, sx, dsx, Lf, fr, cr, cl], @Ne Nat it a ∧ @Ne Nat q a)) (c10 : (∀ z ∈ rest, z.1 ≠ it)) (c11 : (∀ z ∈ rest, z.1 ≠ q)) (c12 : News h₀ env.locals s₁.heap ((it, citObj (.ref q) t) :: (q, methodObj (.ref 59) (.ref lx)) :: lexLed w P dx lx sx dsx Ps Lf fr cr cl fd oc ocl pv kP ln t1 t2 t3 t4 t5 t6 u1 u2 u3 u4 u5 u6 u7 cs k rest)) (c13 : Good cs ln) (c14 : J cs ln m) (c15 : (∀ x0 cs ln t5 k m₁ h tk, J (x0 :: cs) ln m₁ → Good (x0 :: cs) ln → Fr h₀ env.locals h (fun y => if y = x then some (.str ⟨#[x0.c]⟩ x0.t) else m₁ y) → News h₀ env.locals h ((it, citObj (.ref q) t) :: (q, methodObj (.ref 59) (.ref lx)) :: lexLed w P dx lx sx dsx Ps Lf fr cr cl fd oc ocl pv kP (if x0.c = 10 then ln + 1 else ln) t1 t2 t3 t4 t5 t6 u1 u2 u3 u4 u5 u6 u7 cs k rest) →
      wpAny (model prog w) A (execs body env) (TurnR h₀ env.locals w it q t J P dx lx sx dsx Ps Lf fr cr cl fd oc ocl pv kP t1 t2 t3 t4 t6 u1 u2 u3 u4 u5 u6 u7 rest cs.length { s₁ with heap := h, toks := tk } Q) E { s₁ with heap := h, toks := tk })) (c16 : (∀ m₁ h tk ln t5 k, J [] ln m₁ → Good [] ln → Fr h₀ env.locals h m₁ → News h₀ env.locals h ((it, citEnd) :: (q, methodObj (.ref 59) (.ref lx)) :: lexLed w P dx lx sx dsx Ps Lf fr cr cl fd oc ocl pv kP ln t1 t2 t3 t4 t5 t6 u1 u2 u3 u4 u5 u6 u7 [] k rest) → Q .next { s₁ with heap := h, toks := tk })) : ReadAt prog w A env x body Q E xv s₁
end
theorem lex_in {h₀ hh : Heap} {L : Addr} {a b c d e f g i j y z : Addr × Obj} {r : List (Addr × Obj)} (N : News h₀ L hh (y :: z :: a :: b :: c :: d :: e :: f :: g :: i :: j :: r)) : News h₀ L hh (a :: b :: c :: d :: e :: f :: g :: i :: j :: y :: z :: r) :=
  news_sub N fun q hq => by
    simp only [List.mem_cons] at hq ⊢
    grind
theorem lex_out {h₀ hh : Heap} {L : Addr} {a b c d e f g i j y z : Addr × Obj} {r : List (Addr × Obj)} (N : News h₀ L hh (a :: b :: c :: d :: e :: f :: g :: i :: j :: y :: z :: r)) : News h₀ L hh (y :: z :: a :: b :: c :: d :: e :: f :: g :: i :: j :: r) :=
  news_sub N fun q hq => by
    simp only [List.mem_cons] at hq ⊢
    grind
theorem off_led {w : World} {P dx lx sx dsx Ps Lf fr cr cl it : Addr} {fd : FuncData} {oc ocl : Obj} {pv : Array Value} {kP : Nat} {ln : Int} {t1 t2 t3 t4 t5 t6 u1 u2 u3 u4 u5 u6 u7 : Tok} {cs : List Ch} {k : Nat} {rest : List (Addr × Obj)}
    (h : ∀ a ∈ [P, dx, lx, sx, dsx, Lf, fr, cr, cl], @Ne Nat it a) (hr : ∀ z ∈ rest, z.1 ≠ it) : ∀ z ∈ lexLed w P dx lx sx dsx Ps Lf fr cr cl fd oc ocl pv kP ln t1 t2 t3 t4 t5 t6 u1 u2 u3 u4 u5 u6 u7 cs k rest, z.1 ≠ it := by
  intro z hz
  simp only [lexLed, List.mem_cons] at hz
  simp only [List.mem_cons, List.not_mem_nil, or_false, forall_eq_or_imp, forall_eq] at h
  obtain ⟨a1, a2, a3, a4, a5, a6, a7, a8, a9⟩ := h
  rcases hz with rfl | rfl | rfl | rfl | rfl | rfl | rfl | rfl | rfl | hz
  · exact Ne.symm a1
  · exact Ne.symm a2
  · exact Ne.symm a3
  · exact Ne.symm a4
  · exact Ne.symm a5
  · exact Ne.symm a6
  · exact Ne.symm a7
  · exact Ne.symm a8
  · exact Ne.symm a9
  · exact hr z hz
theorem sign_ne (c : Nat) : (⟨#[c]⟩ : Str) ≠ Str.ofString "" := by
  have e : Str.ofString "" = ⟨#[]⟩ := by decide +kernel
  rw [e]
  intro e
  injection e with e
  injection e with e
  cases e
section
variable {w : World} {A : Around} {env : Env} {s : Shared} {Q : Flow → Shared → Prop} {E : Value → Shared → Prop} {x : Str} {body : List Stmt} {prog : Program}
theorem For_read {iter : Expr} {px pos : Pos} (hx : env.kindOf x = some .local) (hp : (env.scope.kind == .class || (env.scope.kind == .module && env.locals != env.globals)) = false)
    (h : wpAny (model prog w) A (eval iter env) (fun xv s₁ => ReadAt prog w A env x body Q E xv s₁) E s)
    (hs : ∀ x, foldedSetIterable iter env x = pure x := by intro _; rfl)
    (hE : PassesOwn (model prog w) A env E := by passes_own) :
    wpAny (model prog w) A (exec (.For (.Name x px) iter body [] pos) env) Q E s := by
  refine wpAny_For (wpAny_mono h (fun xv s₁ h₁ => ?_) fun _ _ e => e) hs
  obtain ⟨n₀, A₀, base, h₀, outer, m, mg, mb, mean, loose, p, P, dx, lx, sx, dsx, Ps, Lf, fr, cr, cl, it, q, fd, fdR, oc, ocl, fo, kP, t, t1, t2, t3, t4, t5, t6, u1, u2, u3, u4, u5, u6, u7, pv, rest, cs, k, ln, J, rfl, rfl, C, hn₀, R, X, hlk, hfd, ⟨hiq, hap⟩, hri, hrq, N, G, hJ, turn, done⟩ := h₁
  have hh := C.hh
  refine pyIter_cit (N _ List.mem_cons_self).1 ?_
  refine codeAny_forLoop (ReadInv h₀ env.locals w it q t J P dx lx sx dsx Ps Lf fr cr cl fd oc ocl pv kP t1 t2 t3 t4 t6 u1 u2 u3 u4 u5 u6 u7 rest s₁.gens s₁.drawn s₁.os Q) ?_ (cs.length + 1) (.go s₁.heap s₁.toks m cs ln t5 k C.F N G hJ)
  rintro k s' (⟨h, tk, m₁, cs, ln, t5, kk, F, N, G, HJ⟩ | ⟨h, tk, nx, N, last⟩)
  · have hit := (N _ List.mem_cons_self).1
    have hq := (N _ (List.mem_cons_of_mem _ List.mem_cons_self)).1
    have hf : h.get? 59 = some fo := F.keep _ _ (C.X _ _ hlk)
    have X' : LexNe P dx lx sx dsx Lf fr cr cl ((it, citObj (.ref q) t) :: (q, methodObj (.ref 59) (.ref lx)) :: rest) :=
      ⟨X.L, X.D, X.Q, List.forall_mem_cons.mpr ⟨(hap Lf (by simp)).1, List.forall_mem_cons.mpr ⟨(hap Lf (by simp)).2, X.rL⟩⟩, List.forall_mem_cons.mpr ⟨(hap dx (by simp)).1, List.forall_mem_cons.mpr ⟨(hap dx (by simp)).2, X.rD⟩⟩, List.forall_mem_cons.mpr ⟨(hap P (by simp)).1, List.forall_mem_cons.mpr ⟨(hap P (by simp)).2, X.rP⟩⟩⟩
    have hb := G.b
    have hg := G.l
    refine next_cit hh hit hq hf hfd ?_
    refine wpAny_call (method_call hq (read_code (Cx.in1 (C.upd F)) (by omega) R X' (lex_in N) (by omega) G.c ⟨hg, by omega⟩ ?_ ?_))
    · intro h1 tk1 u1' ecs F1 N1
      subst ecs
      have N2 := lex_out N1
      refine ⟨_, _, rfl, (N2 _ List.mem_cons_self).1, (N2 _ (List.mem_cons_of_mem _ List.mem_cons_self)).1, F1.keep _ _ (C.X _ _ hlk), fun e => absurd rfl e, fun _ h2 hx2 he2 => wpAny_execs_nil ?_⟩
      have hL : env.locals ≠ it := Ne.symm (N2 _ List.mem_cons_self).2.1
      have hI : h₀.get? it = none := (N2 _ List.mem_cons_self).2.2
      have offI := off_led (fun a ha => (hap a ha).1) hri (w := w) (Ps := Ps) (fd := fd) (oc := oc) (ocl := ocl) (pv := pv) (kP := kP) (ln := ln) (t1 := t1) (t2 := t2) (t3 := t3) (t4 := t4) (t5 := t5) (t6 := t6) (u1 := u1) (u2 := u2) (u3 := u3) (u4 := u4) (u5 := u5) (u6 := u6) (u7 := u7) (cs := []) (k := kk)
      refine done m₁ h2 tk1 ln t5 kk HJ G ⟨F1.ns.extBut hx2 hL, fun b o e => hx2 b o (fun eb => by rw [eb, hI] at e; cases e) (F1.keep b o e), F1.above⟩ fun z hz => ?_
      rcases List.mem_cons.mp hz with rfl | hz
      · exact ⟨he2, Ne.symm hL, hI⟩
      · have n := N2 z (List.mem_cons_of_mem _ hz)
        refine ⟨hx2 _ _ ?_ n.1, n.2⟩
        rcases List.mem_cons.mp hz with rfl | hz
        · exact Ne.symm hiq
        · exact offI z hz
    · intro h1 tk1 x0 cs1 k1 t5' ecs F1 N1
      subst ecs
      have N2 := lex_out N1
      refine ⟨_, _, rfl, (N2 _ List.mem_cons_self).1, (N2 _ (List.mem_cons_of_mem _ List.mem_cons_self)).1, F1.keep _ _ (C.X _ _ hlk), fun _ => ?_, fun e => absurd e (sign_ne _)⟩
      have hb2 : ∀ b o, h₀.get? b = some o → b ≠ env.locals := fun b o e eb => by
        have := Heap.lt_size e
        rw [eb] at this
        exact Nat.lt_irrefl _ (Nat.lt_of_lt_of_le this F1.above)
      refine wpAny_assign_Name (wpAny_storeName_local hx F1.ns (fun h2 hn2 hs2 => ?_) hp)
      have F2 : Fr h₀ env.locals h2 (fun y => if y = x then some (.str ⟨#[x0.c]⟩ x0.t) else m₁ y) := ⟨hn2, fun b o e => hs2.extBut b o (hb2 b o e) (F1.keep b o e), F1.above⟩
      have N3 := fun z hz => (⟨hs2.extBut _ _ (N2 z hz).2.1 (N2 z hz).1, (N2 z hz).2⟩ : h2.get? z.1 = some z.2 ∧ _)
      refine wpAny_mono (turn x0 cs1 ln t5' k1 m₁ h2 _ HJ G F2 N3) (fun f s₃ p => ?_) fun _ _ e => hE _ _ e
      cases f with
      | ret v => exact p
      | brk => exact p
      | next => exact p
      | cont => exact p
  · refine next_cit_end hh (N _ List.mem_cons_self).1 fun h' hk => wpAny_execs_nil (last h' hk)
end
section
variable {n₀ : Nat} {w : World} {A₀ A : Around} {base h₀ : Heap} {env : Env} {outer : List Env} {L : Addr} {m : Str → Option Value} {mg mb : Str → Option Value} {mean : ExcName → Option Value} {loose : List Str} {p : Program} {s₁ : Shared}
    {Q : Flow → Shared → Prop} {E : Value → Shared → Prop} {rest : List (Addr × Obj)} {P dx lx sx dsx Ps Lf fr cr cl it q : Addr} {fd fdR : FuncData} {oc ocl fo : Obj} {kP k : Nat} {t t1 t2 t3 t4 t5 t6 u1 u2 u3 u4 u5 u6 u7 : Tok} {pv : Array Value} {x : Str} {body : List Stmt} {cs : List Ch} {ln : Int}
theorem readAt (hL : env.locals = L) (C : Cx n₀ w A₀ A base h₀ env outer L m mg mb mean loose p s₁.heap) (hn₀ : n₀ ≤ 600) (R : RdOk w fr cr cl Lf fd oc ocl) (X : LexNe P dx lx sx dsx Lf fr cr cl rest) (hlk : (hd.heap_39 w.params).lookup 59 = some fo) (hfd : fo.data = .func fdR)
    (hap : it ≠ q ∧ ∀ a ∈ [P, dx, lx, sx, dsx, Lf, fr, cr, cl], @Ne Nat it a ∧ @Ne Nat q a) (hri : ∀ z ∈ rest, z.1 ≠ it) (hrq : ∀ z ∈ rest, z.1 ≠ q)
    (N : News h₀ L s₁.heap ((it, citObj (.ref q) t) :: (q, methodObj (.ref 59) (.ref lx)) :: lexLed w P dx lx sx dsx Ps Lf fr cr cl fd oc ocl pv kP ln t1 t2 t3 t4 t5 t6 u1 u2 u3 u4 u5 u6 u7 cs k rest)) (G : Good cs ln)
    (J : List Ch → Int → (Str → Option Value) → Prop) (hJ : J cs ln m)
    (turn : ∀ x0 cs ln t5 k m₁ h tk, J (x0 :: cs) ln m₁ → Good (x0 :: cs) ln → Fr h₀ L h (fun y => if y = x then some (.str ⟨#[x0.c]⟩ x0.t) else m₁ y) → News h₀ L h ((it, citObj (.ref q) t) :: (q, methodObj (.ref 59) (.ref lx)) :: lexLed w P dx lx sx dsx Ps Lf fr cr cl fd oc ocl pv kP (if x0.c = 10 then ln + 1 else ln) t1 t2 t3 t4 t5 t6 u1 u2 u3 u4 u5 u6 u7 cs k rest) →
      wpAny (model PySem.Challenge.rw_to0065_01.row.prog w) A (execs body env) (TurnR h₀ L w it q t J P dx lx sx dsx Ps Lf fr cr cl fd oc ocl pv kP t1 t2 t3 t4 t6 u1 u2 u3 u4 u5 u6 u7 rest cs.length { s₁ with heap := h, toks := tk } Q) E { s₁ with heap := h, toks := tk })
    (done : ∀ m₁ h tk ln t5 k, J [] ln m₁ → Good [] ln → Fr h₀ L h m₁ → News h₀ L h ((it, citEnd) :: (q, methodObj (.ref 59) (.ref lx)) :: lexLed w P dx lx sx dsx Ps Lf fr cr cl fd oc ocl pv kP ln t1 t2 t3 t4 t5 t6 u1 u2 u3 u4 u5 u6 u7 [] k rest) → Q .next { s₁ with heap := h, toks := tk }) :
    ReadAt PySem.Challenge.rw_to0065_01.row.prog w A env x body Q E (.ref it) s₁ := by
  subst hL
  exact ⟨_, _, _, _, _, _, _, _, _, _, _, P, dx, lx, sx, dsx, Ps, Lf, fr, cr, cl, it, q, fd, fdR, oc, ocl, fo, kP, t, t1, t2, t3, t4, t5, t6, u1, u2, u3, u4, u5, u6, u7, pv, rest, cs, k, ln, J, rfl, rfl, C, hn₀, R, X, hlk, hfd, hap, hri, hrq, N, G, hJ, turn, done⟩
end
end PartLexFor
section PartTokFor
theorem tok_map {M m : Str → Option Value} {v : Value} (hw : M "token" = some v) (hm : ∀ y : Str, y ≠ "token" → y ≠ "ch" → M y = m y) :
    M = fun y : Str => if y = "token" then some v else if y = "ch" then M "ch" else m y := by
  funext y
  by_cases h1 : y = "token"
  · rw [if_pos h1, h1]
    exact hw
  · rw [if_neg h1]
    by_cases h2 : y = "ch"
    · rw [if_pos h2, h2]
    · rw [if_neg h2]
      exact hm y h1 h2
/-- what holds of the names while a token grows -/
noncomputable def TokJ (Z : List Nat → List Ch → Int → Prop) (m : Str → Option Value) (cs : List Ch) (ln : Int) (m' : Str → Option Value) : Prop :=
  ∃ acc tt u, Z acc cs ln ∧ m' = fun y : Str => if y = "token" then some (.str ⟨acc.toArray⟩ tt) else if y = "ch" then u else m y
section
variable {n₀ : Nat} {w : World} {A₀ A : Around} {base h₀ : Heap} {env : Env} {outer : List Env} {L : Addr} {m : Str → Option Value} {mg mb : Str → Option Value} {mean : ExcName → Option Value} {loose : List Str} {p : Program} {s₁ : Shared}
    {Q : Flow → Shared → Prop} {E : Value → Shared → Prop} {rest : List (Addr × Obj)} {P dx lx sx dsx Ps Lf fr cr cl it q : Addr} {fd fdR : FuncData} {oc ocl fo : Obj} {kP k : Nat} {t t1 t2 t3 t4 t5 t6 u1 u2 u3 u4 u5 u6 u7 : Tok} {pv : Array Value} {body : List Stmt} {cs : List Ch} {ln : Int}
theorem readTok (Z : List Nat → List Ch → Int → Prop) {acc : List Nat} {tt : Tok} (hL : env.locals = L) (C : Cx n₀ w A₀ A base h₀ env outer L m mg mb mean loose p s₁.heap) (hn₀ : n₀ ≤ 600) (R : RdOk w fr cr cl Lf fd oc ocl) (X : LexNe P dx lx sx dsx Lf fr cr cl rest) (hlk : (hd.heap_39 w.params).lookup 59 = some fo) (hfd : fo.data = .func fdR)
    (hap : it ≠ q ∧ ∀ a ∈ [P, dx, lx, sx, dsx, Lf, fr, cr, cl], @Ne Nat it a ∧ @Ne Nat q a) (hri : ∀ z ∈ rest, z.1 ≠ it) (hrq : ∀ z ∈ rest, z.1 ≠ q)
    (N : News h₀ L s₁.heap ((it, citObj (.ref q) t) :: (q, methodObj (.ref 59) (.ref lx)) :: lexLed w P dx lx sx dsx Ps Lf fr cr cl fd oc ocl pv kP ln t1 t2 t3 t4 t5 t6 u1 u2 u3 u4 u5 u6 u7 cs k rest)) (G : Good cs ln)
    (hm : m "token" = some (.str ⟨acc.toArray⟩ tt)) (hZ : Z acc cs ln)
    (turn : ∀ x0 cs ln t5 k acc tt u h tk, Z acc (x0 :: cs) ln → Good (x0 :: cs) ln → Fr h₀ L h (fun y : Str => if y = "ch" then some (.str ⟨#[x0.c]⟩ x0.t) else if y = "token" then some (.str ⟨acc.toArray⟩ tt) else if y = "ch" then u else m y) → News h₀ L h ((it, citObj (.ref q) t) :: (q, methodObj (.ref 59) (.ref lx)) :: lexLed w P dx lx sx dsx Ps Lf fr cr cl fd oc ocl pv kP (if x0.c = 10 then ln + 1 else ln) t1 t2 t3 t4 t5 t6 u1 u2 u3 u4 u5 u6 u7 cs k rest) →
      wpAny (model PySem.Challenge.rw_to0065_01.row.prog w) A (execs body env) (TurnR h₀ L w it q t (TokJ Z m) P dx lx sx dsx Ps Lf fr cr cl fd oc ocl pv kP t1 t2 t3 t4 t6 u1 u2 u3 u4 u5 u6 u7 rest cs.length { s₁ with heap := h, toks := tk } Q) E { s₁ with heap := h, toks := tk })
    (done : ∀ acc tt u h tk ln t5 k, Z acc [] ln → Good [] ln → Fr h₀ L h (fun y : Str => if y = "token" then some (.str ⟨acc.toArray⟩ tt) else if y = "ch" then u else m y) → News h₀ L h ((it, citEnd) :: (q, methodObj (.ref 59) (.ref lx)) :: lexLed w P dx lx sx dsx Ps Lf fr cr cl fd oc ocl pv kP ln t1 t2 t3 t4 t5 t6 u1 u2 u3 u4 u5 u6 u7 [] k rest) → Q .next { s₁ with heap := h, toks := tk }) :
    ReadAt PySem.Challenge.rw_to0065_01.row.prog w A env "ch" body Q E (.ref it) s₁ :=
  readAt hL C hn₀ R X hlk hfd hap hri hrq N G (TokJ Z m) ⟨acc, tt, m "ch", hZ, tok_map hm fun _ _ _ => rfl⟩
    (fun x0 cs ln t5 k m₁ h tk ⟨acc, tt, u, z, e⟩ G' F' N' => turn x0 cs ln t5 k acc tt u h tk z G' (by rw [e] at F'; exact F') N')
    fun m₁ h tk ln t5 k ⟨acc, tt, u, z, e⟩ G' F' N' => done acc tt u h tk ln t5 k z G' (by rw [e] at F'; exact F') N'
theorem turn_tok {Z : List Nat → List Ch → Int → Prop} {M : Str → Option Value} {h h' : Heap} {g d o} {tk tk' n : Nat} (acc : List Nat) {tt : Tok} (F : Fr h₀ L h' M) (N : News h₀ L h' ((it, citObj (.ref q) t) :: (q, methodObj (.ref 59) (.ref lx)) :: lexLed w P dx lx sx dsx Ps Lf fr cr cl fd oc ocl pv kP ln t1 t2 t3 t4 t5 t6 u1 u2 u3 u4 u5 u6 u7 cs k rest)) (hle : cs.length ≤ n) (G : Good cs ln)
    (hw : M "token" = some (.str ⟨acc.toArray⟩ tt)) (hm : ∀ y : Str, y ≠ "token" → y ≠ "ch" → M y = m y) (hZ : Z acc cs ln) :
    TurnR h₀ L w it q t (TokJ Z m) P dx lx sx dsx Ps Lf fr cr cl fd oc ocl pv kP t1 t2 t3 t4 t6 u1 u2 u3 u4 u5 u6 u7 rest n ⟨h, g, d, tk, o⟩ Q .next ⟨h', g, d, tk', o⟩ :=
  ⟨cs.length + 1, Nat.succ_lt_succ (Nat.lt_succ_of_le hle), .go h' tk' M cs ln t5 k F N G ⟨acc, tt, M "ch", hZ, tok_map hw hm⟩⟩
theorem turn_tok_c {Z : List Nat → List Ch → Int → Prop} {M : Str → Option Value} {h h' : Heap} {g d o} {tk tk' n : Nat} (acc : List Nat) {tt : Tok} (F : Fr h₀ L h' M) (N : News h₀ L h' ((it, citObj (.ref q) t) :: (q, methodObj (.ref 59) (.ref lx)) :: lexLed w P dx lx sx dsx Ps Lf fr cr cl fd oc ocl pv kP ln t1 t2 t3 t4 t5 t6 u1 u2 u3 u4 u5 u6 u7 cs k rest)) (hle : cs.length ≤ n) (G : Good cs ln)
    (hw : M "token" = some (.str ⟨acc.toArray⟩ tt)) (hm : ∀ y : Str, y ≠ "token" → y ≠ "ch" → M y = m y) (hZ : Z acc cs ln) :
    TurnR h₀ L w it q t (TokJ Z m) P dx lx sx dsx Ps Lf fr cr cl fd oc ocl pv kP t1 t2 t3 t4 t6 u1 u2 u3 u4 u5 u6 u7 rest n ⟨h, g, d, tk, o⟩ Q .cont ⟨h', g, d, tk', o⟩ :=
  ⟨cs.length + 1, Nat.succ_lt_succ (Nat.lt_succ_of_le hle), .go h' tk' M cs ln t5 k F N G ⟨acc, tt, M "ch", hZ, tok_map hw hm⟩⟩
theorem turn_end {J : List Ch → Int → (Str → Option Value) → Prop} {h h' : Heap} {g d o} {tk tk' n : Nat} {nx : List (Addr × Obj)} (N : News h₀ L h' ((it, citEnd) :: nx)) (last : ∀ h'', (∀ b o, h'.get? b = some o → h''.get? b = some o) → Q .next ⟨h'', g, d, tk', o⟩) :
    TurnR h₀ L w it q t J P dx lx sx dsx Ps Lf fr cr cl fd oc ocl pv kP t1 t2 t3 t4 t6 u1 u2 u3 u4 u5 u6 u7 rest n ⟨h, g, d, tk, o⟩ Q .next ⟨h', g, d, tk', o⟩ := ⟨0, Nat.succ_pos _, .fin h' tk' nx N last⟩
theorem LexNe.ext {oi oq : Obj} (X : LexNe P dx lx sx dsx Lf fr cr cl rest) (hap : it ≠ q ∧ ∀ a ∈ [P, dx, lx, sx, dsx, Lf, fr, cr, cl], @Ne Nat it a ∧ @Ne Nat q a) : LexNe P dx lx sx dsx Lf fr cr cl ((it, oi) :: (q, oq) :: rest) :=
  ⟨X.L, X.D, X.Q, List.forall_mem_cons.mpr ⟨(hap.2 Lf (by simp)).1, List.forall_mem_cons.mpr ⟨(hap.2 Lf (by simp)).2, X.rL⟩⟩, List.forall_mem_cons.mpr ⟨(hap.2 dx (by simp)).1, List.forall_mem_cons.mpr ⟨(hap.2 dx (by simp)).2, X.rD⟩⟩, List.forall_mem_cons.mpr ⟨(hap.2 P (by simp)).1, List.forall_mem_cons.mpr ⟨(hap.2 P (by simp)).2, X.rP⟩⟩⟩
/-- ch was laid anew, signs may have been read -/
structure GotC (h₀ : Heap) (L : Addr) (m : Str → Option Value) (w : World) (it q : Addr) (t : Tok) (Z : List Nat → List Ch → Int → Prop) (P dx lx sx dsx Ps Lf fr cr cl : Addr) (fd : FuncData) (oc ocl : Obj) (pv : Array Value) (kP : Nat) (t1 t2 t3 t4 t6 u1 u2 u3 u4 u5 u6 u7 : Tok) (rest : List (Addr × Obj)) (s : Shared) (f : Flow) (s' : Shared) : Prop where
  ex : f = .next ∧ ∃ acc tt h' tk cs ln t5 k, s' = { s with heap := h', toks := tk } ∧ Z acc cs ln ∧ Good cs ln ∧ Fr h₀ L h' (fun y : Str => if y = "ch" then some (.str ⟨acc.toArray⟩ tt) else m y) ∧
    News h₀ L h' ((it, citObj (.ref q) t) :: (q, methodObj (.ref 59) (.ref lx)) :: lexLed w P dx lx sx dsx Ps Lf fr cr cl fd oc ocl pv kP ln t1 t2 t3 t4 t5 t6 u1 u2 u3 u4 u5 u6 u7 cs k rest)
theorem got_c {M : Str → Option Value} {Z : List Nat → List Ch → Int → Prop} {h h' : Heap} {g d o} {tk tk' : Nat} (acc : List Nat) {tt : Tok} (F : Fr h₀ L h' M) (N : News h₀ L h' ((it, citObj (.ref q) t) :: (q, methodObj (.ref 59) (.ref lx)) :: lexLed w P dx lx sx dsx Ps Lf fr cr cl fd oc ocl pv kP ln t1 t2 t3 t4 t5 t6 u1 u2 u3 u4 u5 u6 u7 cs k rest)) (G : Good cs ln)
    (hw : M "ch" = some (.str ⟨acc.toArray⟩ tt)) (hm : ∀ y : Str, y ≠ "ch" → M y = m y) (hZ : Z acc cs ln) :
    GotC h₀ L m w it q t Z P dx lx sx dsx Ps Lf fr cr cl fd oc ocl pv kP t1 t2 t3 t4 t6 u1 u2 u3 u4 u5 u6 u7 rest ⟨h, g, d, tk, o⟩ .next ⟨h', g, d, tk', o⟩ := by
  have e : M = fun y : Str => if y = "ch" then some (.str ⟨acc.toArray⟩ tt) else m y := by
    funext y
    by_cases h1 : y = "ch"
    · rw [if_pos h1, h1]
      exact hw
    · rw [if_neg h1]
      exact hm y h1
  exact ⟨rfl, acc, tt, h', tk', cs, ln, t5, k, rfl, hZ, G, e ▸ F, N⟩
theorem cut_ch {M : Model} {A : Around} {tm : Sem Flow} {h : Heap} {g d o} {tk : Nat} (Z : List Nat → List Ch → Int → Prop) (_F : Fr h₀ L h m) (_N : News h₀ L h ((it, citObj (.ref q) t) :: (q, methodObj (.ref 59) (.ref lx)) :: lexLed w P dx lx sx dsx Ps Lf fr cr cl fd oc ocl pv kP ln t1 t2 t3 t4 t5 t6 u1 u2 u3 u4 u5 u6 u7 cs k rest))
    (h1 : wpAny M A tm (GotC h₀ L m w it q t Z P dx lx sx dsx Ps Lf fr cr cl fd oc ocl pv kP t1 t2 t3 t4 t6 u1 u2 u3 u4 u5 u6 u7 rest ⟨h, g, d, tk, o⟩) E ⟨h, g, d, tk, o⟩)
    (h2 : ∀ acc tt h' tk' cs ln t5 k, Z acc cs ln → Good cs ln → Fr h₀ L h' (fun y : Str => if y = "ch" then some (.str ⟨acc.toArray⟩ tt) else m y) → News h₀ L h' ((it, citObj (.ref q) t) :: (q, methodObj (.ref 59) (.ref lx)) :: lexLed w P dx lx sx dsx Ps Lf fr cr cl fd oc ocl pv kP ln t1 t2 t3 t4 t5 t6 u1 u2 u3 u4 u5 u6 u7 cs k rest) → Q .next ⟨h', g, d, tk', o⟩) : wpAny M A tm Q E ⟨h, g, d, tk, o⟩ :=
  wpAny_mono h1 (fun _ _ ⟨e0, acc, tt, h', tk', cs, ln, t5, k, e2, z, G, F', N'⟩ => e0 ▸ e2 ▸ h2 acc tt h' tk' cs ln t5 k z G F' N') fun _ _ e => e
end
end PartTokFor
/-- the lexer, on signs -/
noncomputable def isWs (c : Nat) : Bool := c == 10 || c == 9 || c == 13 || c == 32
/-- behind an opening quote -/
noncomputable def inQ : List Nat → List Nat → List Nat × List Nat
  | acc, [] => (acc, [])
  | acc, c :: cs => if c = 34 then (acc, cs) else if c = 92 then (match cs with
    | [] => (acc, [])
    | d :: cs' => inQ (acc ++ [d]) cs') else inQ (acc ++ [c]) cs
/-- within a word -/
noncomputable def inW : List Nat → List Nat → List Nat × List Nat
  | acc, [] => (acc, [])
  | acc, c :: cs => if isWs c then (acc, cs) else if c = 92 then (match cs with
    | [] => (acc, [])
    | d :: cs' => inW (acc ++ [d]) cs') else inW (acc ++ [c]) cs
noncomputable def lexT : List Nat → List Nat × List Nat
  | [] => ([], [])
  | c :: cs => if isWs c then lexT cs else if c = 34 then inQ [] cs else if c = 92 then (match cs with
    | [] => ([], [])
    | d :: cs' => inW [d] cs') else inW [c] cs
noncomputable def nls (cs : List Nat) : Nat := cs.countP (· == 10)
theorem lexT_ws {c : Nat} {cs : List Nat} (h : isWs c = true) : lexT (c :: cs) = lexT cs := by rw [lexT.eq_def]; simp only [h, if_true]
theorem lexT_q {cs : List Nat} : lexT (34 :: cs) = inQ [] cs := by rw [lexT.eq_def]; rfl
theorem lexT_b {d : Nat} {cs : List Nat} : lexT (92 :: d :: cs) = inW [d] cs := by rw [lexT.eq_def]; rfl
theorem lexT_b0 : lexT [92] = ([], []) := by rw [lexT.eq_def]; rfl
theorem lexT_o {c : Nat} {cs : List Nat} (h : isWs c = false) (h1 : c ≠ 34) (h2 : c ≠ 92) : lexT (c :: cs) = inW [c] cs := by rw [lexT.eq_def]; simp only [h, if_neg h1, if_neg h2]; rfl
theorem inQ_end {acc cs : List Nat} : inQ acc (34 :: cs) = (acc, cs) := by rw [inQ.eq_def]; rfl
theorem inQ_b {acc : List Nat} {d : Nat} {cs : List Nat} : inQ acc (92 :: d :: cs) = inQ (acc ++ [d]) cs := by rw [inQ.eq_def]; rfl
theorem inQ_b0 {acc : List Nat} : inQ acc [92] = (acc, []) := by rw [inQ.eq_def]; rfl
theorem inQ_o {acc : List Nat} {c : Nat} {cs : List Nat} (h1 : c ≠ 34) (h2 : c ≠ 92) : inQ acc (c :: cs) = inQ (acc ++ [c]) cs := by rw [inQ.eq_def]; simp only [if_neg h1, if_neg h2]
theorem inQ_nil {acc : List Nat} : inQ acc [] = (acc, []) := by rw [inQ.eq_def]
theorem inW_ws {acc cs : List Nat} {c : Nat} (h : isWs c = true) : inW acc (c :: cs) = (acc, cs) := by rw [inW.eq_def]; simp only [h, if_true]
theorem inW_b {acc : List Nat} {d : Nat} {cs : List Nat} : inW acc (92 :: d :: cs) = inW (acc ++ [d]) cs := by rw [inW.eq_def]; rfl
theorem inW_b0 {acc : List Nat} : inW acc [92] = (acc, []) := by rw [inW.eq_def]; rfl
theorem inW_o {acc : List Nat} {c : Nat} {cs : List Nat} (h : isWs c = false) (h2 : c ≠ 92) : inW acc (c :: cs) = inW (acc ++ [c]) cs := by rw [inW.eq_def]; simp only [h, if_neg h2]; rfl
theorem inW_nil {acc : List Nat} : inW acc [] = (acc, []) := by rw [inW.eq_def]
section PartGetTok
theorem ws_eq : ∀ c, c < 128 → (!(Builtin.Str.occurrences (Str.ofString "\n\t\x0d ") { cps := #[c] } 0 (Str.ofString "\n\t\x0d ").length 1).isEmpty) = isWs c := by decide +kernel
theorem sign_eq {z : Str} {k : Nat} (e : z = ⟨#[k]⟩) (c : Nat) : ((⟨#[c]⟩ : Str) == z) = decide (c = k) := by
  rw [e]
  by_cases h : c = k
  · rw [h, decide_eq_true rfl, beq_self_eq_true]
  · rw [decide_eq_false h, beq_eq_false_iff_ne]
    intro e
    injection e with e
    injection e with e
    injection e with e
    exact h e
theorem quote_eq (c : Nat) : ((⟨#[c]⟩ : Str) == Str.ofString "\"") = decide (c = 34) := sign_eq (by decide +kernel) c
theorem back_eq (c : Nat) : ((⟨#[c]⟩ : Str) == Str.ofString "\\") = decide (c = 92) := sign_eq (by decide +kernel) c
theorem app_sign (acc : List Nat) (c : Nat) : (⟨acc.toArray⟩ : Str) ++ ⟨#[c]⟩ = ⟨(acc ++ [c]).toArray⟩ := by
  show Str.append _ _ = _
  unfold Str.append
  simp
theorem app_none (acc : List Nat) : (⟨acc.toArray⟩ : Str) ++ Str.ofString "" = ⟨acc.toArray⟩ := by
  rw [show Str.ofString "" = ⟨#[]⟩ by decide +kernel]
  show Str.append _ _ = _
  unfold Str.append
  simp
theorem none_app (acc : List Nat) : Str.ofString "" ++ (⟨acc.toArray⟩ : Str) = ⟨acc.toArray⟩ := by
  rw [show Str.ofString "" = ⟨#[]⟩ by decide +kernel]
  show Str.append _ _ = _
  unfold Str.append
  simp
theorem nls_cons (c : Nat) (cs : List Nat) : ((nls (c :: cs) : Nat) : Int) = nls cs + if c = 10 then 1 else 0 := by
  unfold nls
  rw [List.countP_cons]
  by_cases h : c = 10
  · simp [h]
  · simp [h]
theorem nls_step {ln : Int} {c : Nat} {cs : List Nat} {r : Int} (h : ln + nls (c :: cs) = r) : (if c = 10 then ln + 1 else ln) + nls cs = r := by
  rw [nls_cons] at h
  rw [← h]
  split <;> omega
theorem hap_of {it q P dx lx sx dsx Lf fr cr cl : Addr} {X Y : Prop} (l1 : @LT.lt Nat _ q it ∧ @LT.lt Nat _ P it ∧ @LT.lt Nat _ dx it ∧ @LT.lt Nat _ lx it ∧ @LT.lt Nat _ sx it ∧ @LT.lt Nat _ dsx it ∧ @LT.lt Nat _ Lf it ∧ @LT.lt Nat _ fr it ∧ @LT.lt Nat _ cr it ∧ @LT.lt Nat _ cl it ∧ X)
    (lq : @LT.lt Nat _ P q ∧ @LT.lt Nat _ dx q ∧ @LT.lt Nat _ lx q ∧ @LT.lt Nat _ sx q ∧ @LT.lt Nat _ dsx q ∧ @LT.lt Nat _ Lf q ∧ @LT.lt Nat _ fr q ∧ @LT.lt Nat _ cr q ∧ @LT.lt Nat _ cl q ∧ Y) :
    it ≠ q ∧ ∀ a ∈ [P, dx, lx, sx, dsx, Lf, fr, cr, cl], @Ne Nat it a ∧ @Ne Nat q a := by
  obtain ⟨a0, a1, a2, a3, a4, a5, a6, a7, a8, a9, _⟩ := l1
  obtain ⟨b1, b2, b3, b4, b5, b6, b7, b8, b9, _⟩ := lq
  refine ⟨Nat.ne_of_gt a0, ?_⟩
  simp only [List.mem_cons, List.not_mem_nil, or_false, forall_eq_or_imp, forall_eq]
  exact ⟨⟨Nat.ne_of_gt a1, Nat.ne_of_gt b1⟩, ⟨Nat.ne_of_gt a2, Nat.ne_of_gt b2⟩, ⟨Nat.ne_of_gt a3, Nat.ne_of_gt b3⟩, ⟨Nat.ne_of_gt a4, Nat.ne_of_gt b4⟩, ⟨Nat.ne_of_gt a5, Nat.ne_of_gt b5⟩, ⟨Nat.ne_of_gt a6, Nat.ne_of_gt b6⟩, ⟨Nat.ne_of_gt a7, Nat.ne_of_gt b7⟩, ⟨Nat.ne_of_gt a8, Nat.ne_of_gt b8⟩, ⟨Nat.ne_of_gt a9, Nat.ne_of_gt b9⟩⟩
theorem empty_str : Str.ofString "" = ⟨([] : List Nat).toArray⟩ := by decide +kernel
section
variable {n₀ : Nat} {w : World} {A₀ A : Around} {base h₀ : Heap} {env : Env} {outer : List Env} {L : Addr} {m : Str → Option Value} {mg mb : Str → Option Value} {mean : ExcName → Option Value} {loose : List Str} {p : Program} {s : Shared}
    {Q : Value → Shared → Prop} {E : Value → Shared → Prop} {rest : List (Addr × Obj)} {P dx lx sx dsx Ps Lf fr cr cl : Addr} {fd : FuncData} {oc ocl : Obj} {cs : List Ch} {k kP : Nat} {ln : Int} {t1 t2 t3 t4 t5 t6 u1 u2 u3 u4 u5 u6 u7 : Tok}
theorem gtok_c (C : Cx n₀ w A₀ A base h₀ env outer L m mg mb mean loose p s.heap) (hn₀ : n₀ ≤ 400) (R : RdOk w fr cr cl Lf fd oc ocl) (X : LexNe P dx lx sx dsx Lf fr cr cl rest)
    (N : News h₀ L s.heap (lexLed w P dx lx sx dsx Ps Lf fr cr cl fd oc ocl #[] kP ln t1 t2 t3 t4 t5 t6 u1 u2 u3 u4 u5 u6 u7 cs k rest)) (G : Good cs ln)
    (h : ∀ h' tk u cs' k' ln' t5' zs, lexT (cs.map (·.c)) = (zs, cs'.map (·.c)) → ln' + nls (cs'.map (·.c)) = ln + nls (cs.map (·.c)) → Good cs' ln' → Fr h₀ L h' m → News h₀ L h' (lexLed w P dx lx sx dsx Ps Lf fr cr cl fd oc ocl #[] kP ln' t1 t2 t3 t4 t5' t6 u1 u2 u3 u4 u5 u6 u7 cs' k' rest) → Q (.str ⟨zs.toArray⟩ u) { s with heap := h', toks := tk }) :
    wpAny (model PySem.Challenge.rw_to0065_01.row.prog w) A (call (.ref 66) [.ref lx]) Q E s := by
  obtain ⟨xP1, xP2, xP3, xP4, xP5, xP6, xP7, xP8⟩ := X.Q
  have xrP := X.rP
  walk_at "cx_fill"
  w_strict (
    refine wpAny_call ?_
    refine' Cx.code (binds := [("self", .ref lx)]) (by assumption) (by assumption) ?k6 ?k7 (by walk_at "om") ?k9 ?kB ?_ ?c2 ?c3 ?c4 ?c5
    case k6 => k_is
    case k7 => k_is
    case k9 => first | exact binds_K (by k_in) rfl (by k_is) rfl rfl rfl | exact BindsTo.of_eq (by kernel_rfl)
    case c5 => decide
    case kB => exact locs rfl
    case c2 => exact rfl
    case c3 => exact rfl
    case c4 => exact rfl
    k_whole
    intro g' L' h' tk' FG' N' C'
    have F' := Cx.F C'
    have B' := Cx.B C'
    have X' := Cx.X C'
    have T' := Cx.T C'
    (try dsimp only)
    (try k_lift B')
    (try k_fold)
    iterate 27 (walk_at "go1")
    rename (_ < _) ∧ _ => lq
    have hrq := fun z hz => Nat.ne_of_lt (allLt_at lq.2.2.2.2.2.2.2.2.2 z hz)
    rename News _ _ _ _ => NN
    refine call_iter2 (by k_asm) NN (NN _ List.mem_cons_self).1 ?_
    clear NN
    intro it h1 F1 N1 l1 _
    have l1r := l1
    (repeat (replace l1r := tail_of l1r))
    have hri := fun z hz => Nat.ne_of_lt (l1r z hz)
    k_lt l1
    iterate 3 (walk_at "go1")
    refine For_read (by rfl) (by rfl) ?_
    walk_at "go1"
    have hap := hap_of l1 lq
    k_dflt (refine' readTok (fun acc cs' ln' => acc = [] ∧ lexT (cs'.map (·.c)) = lexT (cs.map (·.c)) ∧ ln' + nls (cs'.map (·.c)) = ln + nls (cs.map (·.c))) (acc := []) ?hL (Cx.upd ?zc1 ?zc2) ?zc3 R X ?zc4 ?zc5 ?hap ?hri ?hrq ?N G ?hm ⟨rfl, rfl, rfl⟩ ?turn ?done)
    case zc1 => assumption
    case zc2 => k_asm
    case zc3 => omega
    case zc4 => k_is
    case zc5 => exact rfl
    case hL => exact rfl
    case N => k_asm
    case hap => exact hap
    case hri => exact hri
    case hrq => exact hrq
    case hm => exact congrArg (fun z => some (Value.str z _)) empty_str
    case turn =>
      intro x0 cs1 ln1 t51 k1 acc tt u h2 tk2 z G2 F2 N2
      obtain ⟨rfl, z1, z2⟩ := z
      have hx0 : x0.c < 128 := G2.c x0 List.mem_cons_self
      iterate 7 (walk_at "go1")
      walk_at "go1"
      rw [ws_eq x0.c hx0]
      cases hws : isWs x0.c with
      | true =>
        iterate 6 (walk_at "go1")
        exact turn_tok_c [] (by assumption) (by assumption) (Nat.le_refl _) G2.next (congrArg (fun z => some (Value.str z _)) empty_str) (fun y h1 h2 => by simp only [if_neg h1, if_neg h2]) ⟨rfl, by rw [← z1]; exact (lexT_ws hws).symm, nls_step z2⟩
      | false =>
        iterate 9 (walk_at "go1")
        walk_at "go1"
        rw [quote_eq]
        by_cases hq34 : x0.c = 34
        · rw [decide_eq_true hq34]
          iterate 4 (walk_at "go1")
          refine For_read (by rfl) (by rfl) ?_
          walk_at "go1"
          have G3 := G2.next
          k_dflt (refine' readTok (fun acc cs' ln' => inQ acc (cs'.map (·.c)) = lexT (cs.map (·.c)) ∧ ln' + nls (cs'.map (·.c)) = ln + nls (cs.map (·.c)) ∧ acc.length + cs'.length ≤ 1000) (acc := []) ?hLQ (Cx.upd ?zc1Q ?zc2Q) ?zc3Q R X ?zc4Q ?zc5Q hap hri hrq ?NQ G3 ?hmQ ⟨?z1Q, nls_step z2, ?z3Q⟩ ?turnQ ?doneQ)
          case zc1Q => assumption
          case zc2Q => k_asm
          case zc3Q => omega
          case zc4Q => k_is
          case zc5Q => exact rfl
          case hLQ => exact rfl
          case NQ => k_asm
          case hmQ => exact congrArg (fun z => some (Value.str z _)) empty_str
          case z1Q => rw [← z1, List.map_cons, hq34]; exact lexT_q.symm
          case z3Q =>
            have h1 := G3.b
            have h2 := G3.l
            simp only [List.length_nil]
            omega
          case turnQ =>
            intro x2 cs2 ln2 t53 k2 acc2 tt2 u2' h3 tk3 z G4 F4 N4
            obtain ⟨z3, z4, z5⟩ := z
            iterate 5 (walk_at "go1")
            walk_at "go1"
            rw [quote_eq]
            by_cases hx34 : x2.c = 34
            · rw [decide_eq_true hx34]
              iterate 7 (walk_at "go1")
              unfold TurnR
              try dsimp only
              iterate 2 (walk_at "go1")
              try (unfold TurnR; try dsimp only)
              iterate 2 (walk_at "go1")
              exact h _ _ _ cs2 k2 _ t53 acc2 (by rw [← z3, List.map_cons, hx34]; exact inQ_end) (nls_step z4) G4.next (by assumption) (by walk_at "k_ledger")
            · rw [decide_eq_false hx34]
              iterate 8 (walk_at "go1")
              walk_at "go1"
              rw [back_eq]
              by_cases hx92 : x2.c = 92
              · rw [decide_eq_true hx92]
                have G5 := G4.next
                have g1 := G5.b
                have g2 := G5.l
                iterate 9 (walk_at "go1")
                try dsimp only
                rename News _ _ _ _ => NN
                refine wpAny_call (read_code (Cx.upd (by assumption) (by k_asm)) (by walk_at "om") R (X.ext hap) (lex_in NN) (by walk_at "om") G5.c ⟨g2, by omega⟩ ?_ ?_)
                · intro h5 tk5 ue ee F5 N5
                  have N6 := lex_out N5
                  clear N5
                  subst ee
                  iterate 11 (walk_at "go1")
                  exact turn_tok acc2 (by assumption) (by assumption) (Nat.le_refl _) G5 (congrArg (fun z => some (Value.str z _)) (app_none acc2)) (fun y h1 h2 => by simp only [if_neg h1, if_neg h2]) ⟨by rw [← z3, List.map_cons, hx92]; exact inQ_nil.trans inQ_b0.symm, nls_step z4, by simp only [List.length_cons, List.length_nil] at z5 ⊢; omega⟩
                · intro h5 tk5 x3 cs3 k3 t55 ee F5 N5
                  have N6 := lex_out N5
                  clear N5
                  subst ee
                  have G6 := G5.next
                  iterate 11 (walk_at "go1")
                  exact turn_tok (acc2 ++ [x3.c]) (by assumption) (by assumption) (Nat.le_succ _) G6 (congrArg (fun z => some (Value.str z _)) (app_sign acc2 x3.c)) (fun y h1 h2 => by simp only [if_neg h1, if_neg h2]) ⟨by rw [← z3, List.map_cons, hx92]; exact inQ_b.symm, nls_step (nls_step z4), by simp only [List.length_append, List.length_cons, List.length_nil] at z5 ⊢; omega⟩
              · rw [decide_eq_false hx92]
                iterate 12 (walk_at "go1")
                exact turn_tok (acc2 ++ [x2.c]) (by assumption) (by assumption) (Nat.le_refl _) G4.next (congrArg (fun z => some (Value.str z _)) (app_sign acc2 x2.c)) (fun y h1 h2 => by simp only [if_neg h1, if_neg h2]) ⟨by rw [← z3, List.map_cons]; exact (inQ_o hx34 hx92).symm, nls_step z4, by simp only [List.length_append, List.length_cons, List.length_nil] at z5 ⊢; omega⟩
          case doneQ =>
            intro acc2 tt2 u2' h3 tk3 ln3 t53 k3 z G4 F4 N4
            obtain ⟨z3, z4, z5⟩ := z
            try dsimp only
            iterate 3 (walk_at "go1")
            refine turn_end N4 fun h4 hk4 => ?_
            have F5 := F4.keeps hk4
            have N5 := fun p hp => (⟨hk4 _ _ (N4 p hp).1, (N4 p hp).2⟩ : h4.get? p.1 = some p.2 ∧ _)
            try dsimp only
            iterate 5 (walk_at "go1")
            exact h _ _ _ [] k3 ln3 t53 acc2 (by rw [← z3]; exact inQ_nil) z4 G4 (by assumption) (by walk_at "k_ledger")
        · rw [decide_eq_false hq34]
          iterate 4 (walk_at "go1")
          refine cut_ch (fun acc cs' ln' => inW acc (cs'.map (·.c)) = lexT (cs.map (·.c)) ∧ ln' + nls (cs'.map (·.c)) = ln + nls (cs.map (·.c)) ∧ acc.length + cs'.length ≤ 1000 ∧ cs'.length ≤ cs1.length) (by k_asm) (by k_asm) ?_ ?_
          · iterate 4 (walk_at "go1")
            walk_at "go1"
            rw [back_eq]
            have G5 := G2.next
            have g1 := G5.b
            have g2 := G5.l
            by_cases hx92 : x0.c = 92
            · rw [decide_eq_true hx92]
              iterate 9 (walk_at "go1")
              try dsimp only
              rename News _ _ _ _ => NN
              refine wpAny_call (read_code (Cx.upd (by assumption) (by k_asm)) (by walk_at "om") R (X.ext hap) (lex_in NN) (by walk_at "om") G5.c ⟨g2, by omega⟩ ?_ ?_)
              · intro h5 tk5 ue ee F5 N5
                have N6 := lex_out N5
                clear N5
                subst ee
                iterate 2 (walk_at "go1")
                exact got_c [] (by assumption) (by assumption) G5 (congrArg (fun z => some (Value.str z _)) empty_str) (fun y h1 => by simp only [if_neg h1]) ⟨by rw [← z1, List.map_cons, hx92]; exact inW_nil.trans lexT_b0.symm, nls_step z2, by simp only [List.length_nil]; omega, Nat.le_refl _⟩
              · intro h5 tk5 x3 cs3 k3 t55 ee F5 N5
                have N6 := lex_out N5
                clear N5
                subst ee
                have G6 := G5.next
                iterate 2 (walk_at "go1")
                exact got_c [x3.c] (by assumption) (by assumption) G6 rfl (fun y h1 => by simp only [if_neg h1]) ⟨by rw [← z1, List.map_cons, hx92]; exact lexT_b.symm, nls_step (nls_step z2), by simp only [List.length_cons, List.length_nil] at g1 ⊢; omega, Nat.le_succ _⟩
            · rw [decide_eq_false hx92]
              iterate 3 (walk_at "go1")
              exact got_c [x0.c] (by assumption) (by assumption) G5 rfl (fun y h1 => rfl) ⟨by rw [← z1, List.map_cons]; exact (lexT_o hws hq34 hx92).symm, nls_step z2, by have b1 := G2.b; have b2 := G2.l; simp only [List.length_cons, List.length_nil] at b1 ⊢; omega, Nat.le_refl _⟩
          · intro acc1 tt1 h6 tk6 cs6 ln6 t56 k6 z6 G6 F6 N6
            obtain ⟨z7, z8, z9, z10⟩ := z6
            try dsimp only
            iterate 9 (walk_at "go1")
            refine For_read (by rfl) (by rfl) ?_
            walk_at "go1"
            k_dflt (refine' readTok (fun acc cs' ln' => inW acc (cs'.map (·.c)) = lexT (cs.map (·.c)) ∧ ln' + nls (cs'.map (·.c)) = ln + nls (cs.map (·.c)) ∧ acc.length + cs'.length ≤ 1000) (acc := acc1) ?hLW (Cx.upd ?zc1W ?zc2W) ?zc3W R X ?zc4W ?zc5W hap hri hrq ?NW G6 ?hmW ⟨z7, z8, z9⟩ ?turnW ?doneW)
            case zc1W => assumption
            case zc2W => k_asm
            case zc3W => omega
            case zc4W => k_is
            case zc5W => exact rfl
            case hLW => exact rfl
            case NW => k_asm
            case hmW => exact congrArg (fun z => some (Value.str z _)) (none_app acc1)
            case turnW =>
              intro x2 cs2 ln2 t53 k2 acc2 tt2 u2' h3 tk3 z G4 F4 N4
              obtain ⟨z3, z4, z5⟩ := z
              have hx2 : x2.c < 128 := G4.c x2 List.mem_cons_self
              iterate 7 (walk_at "go1")
              walk_at "go1"
              rw [ws_eq x2.c hx2]
              cases hw2 : isWs x2.c with
              | true =>
                iterate 7 (walk_at "go1")
                unfold TurnR
                try dsimp only
                iterate 2 (walk_at "go1")
                try (unfold TurnR; try dsimp only)
                iterate 2 (walk_at "go1")
                exact h _ _ _ cs2 k2 _ t53 acc2 (by rw [← z3, List.map_cons]; exact inW_ws hw2) (nls_step z4) G4.next (by assumption) (by walk_at "k_ledger")
              | false =>
                iterate 8 (walk_at "go1")
                walk_at "go1"
                rw [back_eq]
                by_cases hx92 : x2.c = 92
                · rw [decide_eq_true hx92]
                  have G5 := G4.next
                  have g1 := G5.b
                  have g2 := G5.l
                  iterate 9 (walk_at "go1")
                  try dsimp only
                  rename News _ _ _ _ => NN
                  refine wpAny_call (read_code (Cx.upd (by assumption) (by k_asm)) (by walk_at "om") R (X.ext hap) (lex_in NN) (by walk_at "om") G5.c ⟨g2, by omega⟩ ?_ ?_)
                  · intro h5 tk5 ue ee F5 N5
                    have N6 := lex_out N5
                    clear N5
                    subst ee
                    iterate 11 (walk_at "go1")
                    exact turn_tok acc2 (by assumption) (by assumption) (Nat.le_refl _) G5 (congrArg (fun z => some (Value.str z _)) (app_none acc2)) (fun y h1 h2 => by simp only [if_neg h1, if_neg h2]) ⟨by rw [← z3, List.map_cons, hx92]; exact inW_nil.trans inW_b0.symm, nls_step z4, by simp only [List.length_cons, List.length_nil] at z5 ⊢; omega⟩
                  · intro h5 tk5 x3 cs3 k3 t55 ee F5 N5
                    have N6 := lex_out N5
                    clear N5
                    subst ee
                    have G6 := G5.next
                    iterate 11 (walk_at "go1")
                    exact turn_tok (acc2 ++ [x3.c]) (by assumption) (by assumption) (Nat.le_succ _) G6 (congrArg (fun z => some (Value.str z _)) (app_sign acc2 x3.c)) (fun y h1 h2 => by simp only [if_neg h1, if_neg h2]) ⟨by rw [← z3, List.map_cons, hx92]; exact inW_b.symm, nls_step (nls_step z4), by simp only [List.length_append, List.length_cons, List.length_nil] at z5 ⊢; omega⟩
                · rw [decide_eq_false hx92]
                  iterate 12 (walk_at "go1")
                  exact turn_tok (acc2 ++ [x2.c]) (by assumption) (by assumption) (Nat.le_refl _) G4.next (congrArg (fun z => some (Value.str z _)) (app_sign acc2 x2.c)) (fun y h1 h2 => by simp only [if_neg h1, if_neg h2]) ⟨by rw [← z3, List.map_cons]; exact (inW_o hw2 hx92).symm, nls_step z4, by simp only [List.length_append, List.length_cons, List.length_nil] at z5 ⊢; omega⟩
            case doneW =>
              intro acc2 tt2 u2' h3 tk3 ln3 t53 k3 z G4 F4 N4
              obtain ⟨z3, z4, z5⟩ := z
              try dsimp only
              iterate 3 (walk_at "go1")
              refine turn_end N4 fun h4 hk4 => ?_
              have F5 := F4.keeps hk4
              have N5 := fun p hp => (⟨hk4 _ _ (N4 p hp).1, (N4 p hp).2⟩ : h4.get? p.1 = some p.2 ∧ _)
              try dsimp only
              iterate 5 (walk_at "go1")
              exact h _ _ _ [] k3 ln3 t53 acc2 (by rw [← z3]; exact inW_nil) z4 G4 (by assumption) (by walk_at "k_ledger")
    case done =>
      intro acc tt u h2 tk2 ln2 t52 k2 z G2 F2 N2
      obtain ⟨rfl, z1, z2⟩ := z
      try dsimp only
      iterate 5 (walk_at "go1")
      exact h _ _ _ [] k2 ln2 t52 [] z1.symm z2 G2 (by assumption) (by walk_at "k_ledger"))
end
end PartGetTok
section PartWords
theorem tx_a : Str.ofString "a" = sgS [.a] := by decide +kernel
theorem tx_A : Str.ofString "A" = sgS [.A] := by decide +kernel
theorem tx_b : Str.ofString "b" = sgS [.b] := by decide +kernel
theorem tx_B : Str.ofString "B" = sgS [.B] := by decide +kernel
theorem tx_1 : Str.ofString "abaBAB" = sgS [.a, .b, .a, .B, .A, .B] := by decide +kernel
theorem tx_2 : Str.ofString "babABA" = sgS [.b, .a, .b, .A, .B, .A] := by decide +kernel
theorem lay28 : True := by
  k_with "z inplaceOp Add str str" => (k_here; (refine SBL.iadd (hsz := ?hsz) ?_); (case hsz => assumption); intro _ _ _)
  exact True.intro
theorem lay29 : True := by
  k_with "z binaryOp Add str str" => (k_here; (refine add_str ?_ (by assumption)); intro _ _)
  exact True.intro
theorem drop2 {h₀ h : Heap} {L : Addr} {x a b y : Addr × Obj} {r : List (Addr × Obj)} (N : News h₀ L h (x :: a :: b :: y :: r)) : News h₀ L h (x :: y :: r) := news_sub N fun q hq => by
  simp only [List.mem_cons] at hq ⊢
  grind
noncomputable def piecesL (d : Int) : List (List Lt) := if Int.fmod d 2 = 0 then [[.a], [.b], [.a, .b, .a, .B, .A, .B], [.b, .a, .b, .A, .B, .A]] else [[.A], [.B], [.a, .b, .a, .B, .A, .B], [.b, .a, .b, .A, .B, .A]]
/-- the letter of a number's last quaternary figure -/
noncomputable def letterOf (n : Int) : Lt := if Int.fmod n 4 = 0 then .a else if Int.fmod n 4 = 1 then .b else if Int.fmod n 4 = 2 then .A else .B
noncomputable def numA (a : Int) : Nat → Int
  | 0 => a
  | i + 1 => Int.fdiv (numA a i) 4
noncomputable def wordL (a : Int) (i : Nat) : List Lt := (List.range i).map fun j => letterOf (numA a j)
/-- a piece set into the word -/
noncomputable def insP (pcs : List (List Lt)) (later : List Lt) (cell : Int) : List Lt :=
  later.take (Int.fmod (Int.fdiv cell 4) (later.length + 1)).toNat ++ ((pcs.getD (Int.fmod cell 4).toNat []) ++ later.drop (Int.fmod (Int.fdiv cell 4) (later.length + 1)).toNat)
noncomputable def latL (pcs : List (List Lt)) (word : List Lt) (cells : List Int) (i : Nat) : List Lt := (cells.take i).foldl (insP pcs) word
theorem pieces_len (d : Int) : (piecesL d).length = 4 := by
  unfold piecesL
  split <;> rfl
theorem piece_le (d : Int) (k : Nat) : ((piecesL d).getD k []).length ≤ 6 := by
  have h : ∀ l ∈ piecesL d, l.length ≤ 6 := by
    unfold piecesL
    split <;> decide
  by_cases hk : k < (piecesL d).length
  · rw [List.getD_eq_getElem?_getD, List.getElem?_eq_getElem hk]
    exact h _ (List.getElem_mem hk)
  · rw [List.getD_eq_getElem?_getD, List.getElem?_eq_none (by walk_at "om")]
    simp
theorem insP_len (d : Int) (lat : List Lt) (c : Int) : (insP (piecesL d) lat c).length ≤ lat.length + 6 := by
  have := piece_le d (Int.fmod c 4).toNat
  simp only [insP, List.length_append, List.length_take, List.length_drop]
  omega
theorem latL_len (d : Int) (word : List Lt) (b c : Int) (i : Nat) : (latL (piecesL d) word [b, c] i).length ≤ word.length + 12 := by
  have h1 := insP_len d word b
  have h2 := insP_len d (insP (piecesL d) word b) c
  unfold latL
  match i with
  | 0 => simp
  | 1 => simp; omega
  | i + 2 => simp; omega
theorem wordL_len (a : Int) (i : Nat) : (wordL a i).length = i := by simp [wordL]
theorem pieces_get {xs : List (List Lt × Tok)} {d : Int} {k : Nat} (hxs : xs.map (·.1) = piecesL d) (hk : k < 4) : ∃ tp, (xs.map fun x => Value.str (sgS x.1) x.2)[k]? = some (.str (sgS ((piecesL d).getD k [])) tp) := by
  have hl := congrArg List.length hxs
  rw [List.length_map, pieces_len] at hl
  refine ⟨(xs[k]'(by walk_at "om")).2, ?_⟩
  rw [List.getElem?_map, List.getElem?_eq_getElem (by walk_at "om"), ← hxs, List.getD_eq_getElem?_getD, List.getElem?_map, List.getElem?_eq_getElem (by walk_at "om")]
  rfl
theorem lat_map {M m : Str → Option Value} {v : Value} (hl : M "later" = some v) (hm : ∀ y : Str, y ≠ "later" → y ≠ "cell" → y ≠ "place" → M y = m y) :
    M = fun y : Str => if y = "later" then some v else if y = "cell" then M "cell" else if y = "place" then M "place" else m y := by
  funext y
  by_cases h1 : y = "later"
  · rw [if_pos h1, h1]
    exact hl
  · rw [if_neg h1]
    by_cases h2 : y = "cell"
    · rw [if_pos h2, h2]
    · rw [if_neg h2]
      by_cases h3 : y = "place"
      · rw [if_pos h3, h3]
      · rw [if_neg h3]
        exact hm y h1 h2 h3
/-- texts with their tokens -/
noncomputable abbrev txV (xs : List (List Lt × Tok)) : List Value := xs.map fun x => .str (sgS x.1) x.2
structure GotT (h₀ : Heap) (L : Addr) (m : Str → Option Value) (news : List (Addr × Obj)) (zs : List (List Lt)) (s : Shared) (v : Value) (s' : Shared) : Prop where
  ex : ∃ D n xs h' tk, v = .ref D ∧ xs.map (·.1) = zs ∧ s' = { s with heap := h', toks := tk } ∧ Fr h₀ L h' m ∧ News h₀ L h' ((D, listOf (txV xs).toArray n) :: news) ∧ (∀ q ∈ news, q.1 ≠ D)
theorem got_t {h₀ : Heap} {L : Addr} {m : Str → Option Value} {news : List (Addr × Obj)} {zs : List (List Lt)} {h h' : Heap} {g d o} {tk tk' : Nat} {D : Addr} {n : Nat} (xs : List (List Lt × Tok)) {its : Array Value} (F : Fr h₀ L h' m) (N : News h₀ L h' ((D, listOf its n) :: news)) (o1 : ∀ q ∈ news, q.1 ≠ D) (e : its = (txV xs).toArray) (ez : xs.map (·.1) = zs) :
    GotT h₀ L m news zs ⟨h, g, d, tk, o⟩ (.ref D) ⟨h', g, d, tk', o⟩ := by
  subst e
  exact ⟨D, n, xs, h', tk', rfl, ez, rfl, F, N, o1⟩
theorem cut_txts {M : Model} {A : Around} {t : Sem Value} {Q : Value → Shared → Prop} {E : Value → Shared → Prop} {h : Heap} {g d o} {tk : Nat} {h₀ : Heap} {L : Addr} {m : Str → Option Value} {news : List (Addr × Obj)} (_F : Fr h₀ L h m) (_N : News h₀ L h news) (zs : List (List Lt))
    (h1 : wpAny M A t (GotT h₀ L m news zs ⟨h, g, d, tk, o⟩) E ⟨h, g, d, tk, o⟩)
    (h2 : ∀ D n xs h' tk', xs.map (·.1) = zs → Fr h₀ L h' m → News h₀ L h' ((D, listOf (txV xs).toArray n) :: news) → (∀ q ∈ news, q.1 ≠ D) → Q (.ref D) ⟨h', g, d, tk', o⟩) : wpAny M A t Q E ⟨h, g, d, tk, o⟩ :=
  wpAny_mono h1 (fun _ _ ⟨D, n, xs, h', tk', e1, ez, e2, F', N', o1⟩ => e1 ▸ e2 ▸ h2 D n xs h' tk' ez F' N' o1) fun _ _ e => e
theorem wordL_succ (a : Int) (i : Nat) : wordL a (i + 1) = wordL a i ++ [letterOf (numA a i)] := by
  unfold wordL
  rw [List.range_succ, List.map_append]
  rfl
theorem word_map {M m : Str → Option Value} {v u : Value} (hn : M "number" = some v) (hw : M "word" = some u) (hm : ∀ y : Str, y ≠ "number" → y ≠ "word" → y ≠ "k" → M y = m y) :
    M = fun y : Str => if y = "number" then some v else if y = "word" then some u else if y = "k" then M "k" else m y := by
  funext y
  by_cases h1 : y = "number"
  · rw [if_pos h1, h1]
    exact hn
  · rw [if_neg h1]
    by_cases h2 : y = "word"
    · rw [if_pos h2, h2]
      exact hw
    · rw [if_neg h2]
      by_cases h3 : y = "k"
      · rw [if_pos h3, h3]
      · rw [if_neg h3]
        exact hm y h1 h2 h3
theorem item_word (n : Int) : Txt.item (Str.ofString "abAB") (Int.fmod n 4) = (letterOf n).str := by
  have h0 := Int.fmod_nonneg_of_pos n (b := 4) (by decide)
  have h1 := Int.fmod_lt_of_pos n (b := 4) (by decide)
  have : Int.fmod n 4 = 0 ∨ Int.fmod n 4 = 1 ∨ Int.fmod n 4 = 2 ∨ Int.fmod n 4 = 3 := by omega
  unfold letterOf
  rcases this with e | e | e | e <;> rw [e] <;> decide +kernel
theorem sgS_nil : Str.ofString "" = sgS [] := by decide +kernel
section
variable {n₀ : Nat} {w : World} {A₀ A : Around} {base h₀ : Heap} {env : Env} {outer : List Env} {L : Addr} {m : Str → Option Value} {mg mb : Str → Option Value} {mean : ExcName → Option Value} {loose : List Str} {p : Program} {s : Shared}
    {Q : Value → Shared → Prop} {E : Value → Shared → Prop} {rest : List (Addr × Obj)} {D : Addr} {k : Nat} {a b c d : Int} {ta tb tc td : Tok}
theorem words_c (C : Cx n₀ w A₀ A base h₀ env outer L m mg mb mean loose p s.heap) (hn₀ : n₀ ≤ 800)
    (N : News h₀ L s.heap ((D, listOf #[.int a ta, .int b tb, .int c tc, .int d td] k) :: rest))
    (h : ∀ T' t1 t2 h' tk, (∀ q ∈ rest, q.1 ≠ T') → T' ≠ D → Fr h₀ L h' m → News h₀ L h' ((T', ({ cls := .type "tuple", data := .seq #[.str (sgS (wordL a 3)) t1, .str (sgS (latL (piecesL d) (wordL a 3) [b, c] 2)) t2] } : Obj)) :: (D, listOf #[.int a ta, .int b tb, .int c tc, .int d td] k) :: rest) → Q (.ref T') { s with heap := h', toks := tk }) :
    wpAny (model PySem.Challenge.rw_to0065_01.row.prog w) A (call (.ref 299) [.ref D]) Q E s := by
  walk_at "cx_fill"
  w_strict (
    refine wpAny_call ?_
    refine' Cx.code (binds := [("cells", .ref D)]) (by assumption) (by assumption) ?k6 ?k7 (by walk_at "om") ?k9 ?kB ?_ ?c2 ?c3 ?c4 ?c5
    case k6 => k_is
    case k7 => k_is
    case k9 => first | exact binds_K (by k_in) rfl (by k_is) rfl rfl rfl | exact BindsTo.of_eq (by kernel_rfl)
    case c5 => decide
    case kB => exact locs rfl
    case c2 => exact rfl
    case c3 => exact rfl
    case c4 => exact rfl
    k_whole
    intro g' L' h' tk' FG' N' C'
    have F' := Cx.F C'
    have B' := Cx.B C'
    have X' := Cx.X C'
    have T' := Cx.T C'
    (try dsimp only)
    (try k_lift B')
    (try k_fold)
    iterate 14 (walk_at "go1")
    rename Fr _ _ _ _ => lF'
    refine For_invVF lF' (by rfl) (by rfl) ?_
    iterate 7 (walk_at "go1")
    rename IsRange _ _ _ _ _ _ _ _ => hRg
    refine iter_range (fun i m₁ nx => ∃ tn tw u, m₁ = (fun y : Str => if y = "number" then some (.int (numA a i) tn) else if y = "word" then some (.str (sgS (wordL a i)) tw) else if y = "k" then u else List.lookup y (List.reverse (α := Str × Value) [("cells", .ref D)])) ∧ nx = (D, listOf #[.int a ta, .int b tb, .int c tc, .int d td] k) :: rest) (Cx.hh (by assumption)) hRg (by decide) (by assumption) (by assumption) ⟨_, _, _, word_map rfl (congrArg (fun z => some (Value.str z _)) sgS_nil) (fun y h1 h2 h3 => by simp only [if_neg h1, if_neg h2]), rfl⟩ ?_ ?_
    · rintro I i tt m₁ nx h2 tk2 o hi ⟨tn, tw, u, rfl, rfl⟩ off F2 N2
      iterate 9 (walk_at "go1")
      walk_at "go1"
      rw [item_word]
      have hi3 : i < 3 := hi
      have hsz1 : (sgS (wordL a i)).length + (letterOf (numA a i)).str.length ≤ sizeLine := by
        rw [sgS_len, lt_len, sizeLine_eq, wordL, List.length_map, List.length_range]
        omega
      iterate 10 (walk_at "go1")
      have ew : sgS (wordL a i) ++ (letterOf (numA a i)).str = sgS (wordL a (i + 1)) := by rw [wordL_succ, app_e1]
      exact ⟨_, _, _, _, rfl, by assumption, by assumption, off, _, _, _, word_map rfl (congrArg (fun z => some (Value.str z _)) ew) (fun y h1 h2 h3 => by simp only [if_neg h1, if_neg h2, if_neg h3]), rfl⟩
    · rintro m₁ nx h2 tk2 ⟨tn, tw, u, rfl, rfl⟩ F2 N2
      try dsimp only
      replace F2 : Fr g' L' h2 _ := F2
      replace N2 : News g' L' h2 _ := N2
      iterate 3 (walk_at "go1")
      refine cut_txts (by assumption) (by assumption) (piecesL d) ?_ ?_
      · iterate 24 (walk_at "go1")
        · rename Int.fmod _ _ = 0 => hd0
          rename (_ < _) ∧ _ => ll
          refine' got_t [([.a], _), ([.b], _), ([.a, .b, .a, .B, .A, .B], _), ([.b, .a, .b, .A, .B, .A], _)] ?gF ?gN ?gO ?gE ?gZ
          case gF => assumption
          case gN => assumption
          case gE =>
            rw [tx_a, tx_b, tx_1, tx_2]
            exact rfl
          case gO => exact List.forall_mem_cons.mpr ⟨Nat.ne_of_lt ll.1, fun q hq => Nat.ne_of_lt (allLt_at ll.2 q hq)⟩
          case gZ => exact (if_pos hd0).symm
        · iterate 11 (walk_at "go1")
          rename Int.fmod _ _ ≠ 0 => hd0
          rename (_ < _) ∧ _ => ll
          refine' got_t [([.A], _), ([.B], _), ([.a, .b, .a, .B, .A, .B], _), ([.b, .a, .b, .A, .B, .A], _)] ?hF ?hN ?hO ?hE ?hZ
          case hF => assumption
          case hN => assumption
          case hE =>
            rw [tx_A, tx_B, tx_1, tx_2]
            exact rfl
          case hO => exact List.forall_mem_cons.mpr ⟨Nat.ne_of_lt ll.1, fun q hq => Nat.ne_of_lt (allLt_at ll.2 q hq)⟩
          case hZ => exact (if_neg hd0).symm
      · intro Dp np xs h3 tk3 hxs F3 N3 off3
        iterate 8 (walk_at "go1")
        rename Fr g' L' _ _ => lF'
        (with_unfolding_all refine' For_turns lF' ?_)
        k_whole
        iterate 9 (walk_at "go1")
        rename News g' L' _ _ => NN
        rename Fr g' L' _ _ => FF
        refine iter_listTurns (lo := listOf [.int b tb, .int c tc].toArray 0) (Cx.hh C') FF NN (by k_mem) rfl rfl ?_
        intro I l1
        refine items_inv (fun i m₁ => ∃ tl u1 u2, m₁ = (fun y : Str => if y = "later" then some (.str (sgS (latL (piecesL d) (wordL a 3) [b, c] i)) tl) else if y = "cell" then u1 else if y = "place" then u2 else if y = "pieces" then some (.ref Dp) else if y = "number" then some (.int (numA a 3) tn) else if y = "word" then some (.str (sgS (wordL a 3)) tw) else if y = "k" then u else List.lookup y (List.reverse (α := Str × Value) [("cells", .ref D)]))) _ 0 _ ?_ (by k_subL) ?_ ?_
        · refine ⟨tw, none, none, ?_⟩
          funext y
          by_cases h1 : y = "later"
          · rw [if_pos h1, if_pos h1]
            rfl
          · rw [if_neg h1, if_neg h1]
            by_cases h2 : y = "cell"
            · subst h2
              exact rfl
            · rw [if_neg h2]
              by_cases h3 : y = "place"
              · subst h3
                exact rfl
              · rw [if_neg h3]
        · rintro j av v m₁ h4 tk4 ha hv ⟨tl, u1, u2, rfl⟩ F4
          replace F4 : Fr g' L' h4 _ := F4
          obtain ⟨cv, ct, hcv, rfl⟩ : ∃ (cv : Int) (ct : Tok), [b, c][j]? = some cv ∧ v = .int cv ct := by
            match j with
            | 0 =>
              have e : Itm.val (.int b tb) = av := by simpa using ha
              subst e
              exact ⟨b, tb, rfl, hv⟩
            | 1 =>
              have e : Itm.val (.int c tc) = av := by simpa using ha
              subst e
              exact ⟨c, tc, rfl, hv⟩
            | j + 2 => simp at ha
          ktu_objs
          have hl1 : (sgS (latL (piecesL d) (wordL a 3) [b, c] (0 + j))).length ≤ 100 := by
            have := latL_len d (wordL a 3) b c (0 + j)
            rw [wordL_len] at this
            rw [sgS_len]
            omega
          iterate 17 (walk_at "go1")
          refine PyProof.Rows.len_str (by walk_at "om") ?_
          iterate 16 (walk_at "go1")
          have lat1 : latL (piecesL d) (wordL a 3) [b, c] (0 + j + 1) = insP (piecesL d) (latL (piecesL d) (wordL a 3) [b, c] (0 + j)) cv := by
            rw [Nat.zero_add, latL, List.take_add_one, hcv, List.foldl_append]
            rfl
          generalize hlat : latL (piecesL d) (wordL a 3) [b, c] (0 + j) = lat at *
          rw [sgS_len] at hl1
          have hp0 := Int.fmod_nonneg_of_pos (Int.fdiv cv 4) (b := (lat.length : Int) + 1) (by walk_at "om")
          have hp1 := Int.fmod_lt_of_pos (Int.fdiv cv 4) (b := (lat.length : Int) + 1) (by walk_at "om")
          have hc0 := Int.fmod_nonneg_of_pos cv (b := 4) (by decide)
          have hc1 := Int.fmod_lt_of_pos cv (b := 4) (by decide)
          rename Fr g' L' _ _ => FF
          rename News g' L' _ _ => NN
          refine PyProof.Rows.slice_strN_ns (hsz := ?hsz) (s := ⟨_, _, _, _, _⟩) FF NN ?_
          case hsz => rw [sgS_len, sizeLine_eq]; omega
          intro h5 t5 k5 F5 N5
          simp only [sgS_len] at F5 ⊢
          rw [slice_takeI hp0 (by walk_at "om")]
          obtain ⟨tp, hpc⟩ := pieces_get (d := d) hxs (k := (Int.fmod cv 4).toNat) (by walk_at "om")
          have hpl := piece_le d (Int.fmod cv 4).toNat
          iterate 6 (walk_at "go1")
          refine item_litK (vs := txV xs) (k := Int.fmod cv 4) (isList_mem (by k_asm) (by k_mem)) hc0 (by walk_at "om") hpc ?_ (by with_unfolding_all rfl)
          have hszA : (sgS (lat.take (Int.fmod (Int.fdiv cv 4) (lat.length + 1)).toNat)).length + (sgS ((piecesL d).getD (Int.fmod cv 4).toNat [])).length ≤ sizeLine := by
            rw [sgS_len, sgS_len, sizeLine_eq, List.length_take]
            omega
          iterate 2 (walk_at "go1")
          rw [sgS_app]
          iterate 6 (walk_at "go1")
          rename Fr g' L' _ _ => FG
          rename News g' L' _ _ => NG
          refine PyProof.Rows.slice_strN_sn (hsz := ?hszS) (s := ⟨_, _, _, _, _⟩) FG NG ?_
          case hszS => rw [sgS_len, sizeLine_eq]; omega
          intro h6 t6 k6 F6 N6
          simp only [sgS_len] at F6 ⊢
          rw [slice_dropI hp0 (by walk_at "om")]
          have hszB : (sgS (lat.take (Int.fmod (Int.fdiv cv 4) (lat.length + 1)).toNat ++ (piecesL d).getD (Int.fmod cv 4).toNat [])).length + (sgS (lat.drop (Int.fmod (Int.fdiv cv 4) (lat.length + 1)).toNat)).length ≤ sizeLine := by
            rw [sgS_len, sgS_len, sizeLine_eq, List.length_append, List.length_take, List.length_drop]
            omega
          walk_at "go1"
          rw [sgS_app, List.append_assoc]
          iterate 3 (walk_at "go1")
          rw [lat1]
          exact ⟨_, _, _, _, rfl, by assumption, by assumption, off_hd l1, rfl, _, _, _, lat_map rfl (fun y h1 h2 h3 => by simp only [if_neg h1, if_neg h2, if_neg h3])⟩
        · rintro m₁ h4 tk4 ⟨tl, u1, u2, rfl⟩ F4 N4
          replace F4 : Fr g' L' h4 _ := F4
          replace N4 : News g' L' h4 _ := N4
          iterate 11 (walk_at "go1")
          rename (_ < _) ∧ _ => ll
          rename News h₀ L _ _ => NN
          exact h _ _ _ _ _ (fun q hq => Nat.ne_of_lt (allLt_at ll.2.2.2 q hq)) (Nat.ne_of_gt ll.2.2.1) (by assumption) (drop2 NN))
end
end PartWords
theorem lay30 : True := by
  k_with_none
  exact True.intro
theorem lay31 : True := by
  k_with "z k_all" => first | assumption | exact ne_of_lt_all (by assumption) (by first | omega | exact Nat.le_add_right _ _ | exact Nat.le_refl _)
  k_with "cx_fill" => ((have x9X := Cx.X (by assumption)); revert x9X; k_fill; intro x9X; (have x9F := Cx.F (by assumption)))
  k_with "go1" => (first | (k_unfold; (try dsimp only)) | walk1 | (dsimp only; walk1) | (leave1; walk_say "STEP leave1"; try dsimp only))
  k_with "z call builtin:list.pop" => (k_here; (refine' pop0 ?x9F ?x9N ?x9U ?x9z ?_; (case x9F => k_asm); (case x9N => k_asm); (case x9U => k_upd); (case x9z => first | assumption | omega); intro _ _ _))
  k_with "k_ledger" => first | assumption | exact news_tl (by assumption) | exact news_tl (news_tl (by assumption)) | exact news_tl (news_tl (news_tl (by assumption))) | exact news_tl (news_tl (news_tl (news_tl (by assumption))))
  k_with "z k_enter" => (
    (refine' Cx.code (Cx.upd ?x9a ?x9b) ?x9c ?x9d ?x9e ?x9f ?x9g ?x9h ?_ ?x9i ?x9j ?x9k ?x9l)
    case x9a => first | assumption | exact Cx.in1 (by assumption) | exact Cx.in1 (Cx.in1 (by assumption))
    case x9b => k_asm
    case x9c => k_asm
    case x9f => omega
    case x9d => k_is
    case x9e => k_is
    case x9g => first | exact binds_K (by k_in) rfl (by k_is) rfl rfl rfl | exact BindsTo.of_eq rfl
    case x9l => decide
    case x9h => exact locs rfl
    case x9i => exact rfl
    case x9j => exact rfl
    case x9k => exact rfl
    k_whole
    intro _ _ _ _ _ _ x9C
    have x9F := Cx.F x9C
    have x9B := Cx.B x9C
    have x9X := Cx.X x9C
    have x9T := Cx.T x9C
    (try dsimp only)
    (try k_lift x9B)
    (try k_fold))
  k_with "z assign Tuple" => (k_here; (with_reducible show wpAny _ _ (assign (Expr.Tuple _ _ _) _ (Value.ref _)) _ _ _); k_dflt (refine' unpackN_ ?x9F ?x9N ?x9T ?x9i ?x9j ?x9k ?_; (case x9F => k_asm); (case x9N => k_asm); (case x9T => first | with_reducible assumption | (refine News.isTup (by k_asm) (by k_mem))); (case x9i => exact Cx.hh (by assumption)); (case x9j => exact rfl); (case x9k => exact rfl)); intro _ _ _)
  k_with "pr" => with_reducible (first | assumption | exact an1 (by assumption) | exact an2 (by assumption) | exact an3 (by assumption) | exact an4 (by assumption) | exact an5 (by assumption) | exact an6 (by assumption) | exact an7 (by assumption) | exact an8 (by assumption) | exact an9 (by assumption) | exact al1 (by assumption) | exact al2 (by assumption) | exact al3 (by assumption))
  k_with "lts" => with_reducible (first | walk_at "pr" | exact Nat.lt_add_one _ | (refine Nat.lt_trans ?_ (by assumption); walk_at "pr") | (refine lt_pl ?_; walk_at "lts"))
  k_with "nes" => first | walk_at "pr" | (refine Ne.symm ?_; walk_at "pr") | (refine Nat.ne_of_lt ?_; walk_at "lts") | (refine Nat.ne_of_gt ?_; walk_at "lts")
  k_with "z k_ne" => first | walk_at "nes" | (dsimp only; walk_at "nes")
  k_with "lec" => with_reducible (first | exact Nat.le_refl _ | assumption | exact Nat.le_add_right _ _ | exact Nat.succ_le_succ (Nat.zero_le _) | exact Nat.succ_le_of_lt (by assumption) | (refine Nat.le_trans ?_ (by assumption); walk_at "lec") | (refine le_lt ?_ (by assumption); walk_at "lec") | (refine le_pl ?_; walk_at "lec"))
  k_with "ltc" => with_reducible (refine Nat.lt_of_succ_le ?_; walk_at "lec")
  k_with "om" => first | exact Nat.le_of_ble_eq_true rfl | exact le_plus (by with_reducible assumption) (Nat.le_of_ble_eq_true rfl) | exact Nat.le_trans (by with_reducible assumption) (Nat.le_of_ble_eq_true rfl) | walk_at "lec" | walk_at "ltc" | omega
  exact True.intro
theorem lay32 : True := by
  k_with "z call builtin:len" => (k_here; (with_reducible show wpAny _ _ (call (Value.builtin _) [Value.ref _]) _ _ _); k_dflt (refine' len_led ?x9i ?x9j ?x9k ?x9l ?_; (case x9i => k_asm); (case x9j => k_mem); (case x9k => first | exact List.length_map _ | exact rfl); (case x9l => assumption)))
  exact True.intro
theorem lay33 : True := by
  k_with "z storeName" => (k_here; (with_reducible show wpAny _ _ (storeName _ _ _) _ _ _); k_dflt (refine' store_t ?x9i ?x9j ?x9k ?x9l ?x9m ?_; (case x9i => k_asm); (case x9j => k_asm); (case x9k => exact rfl); (case x9l => exact rfl); (case x9m => exact rfl)); intro _ x9F _; (try dsimp only at x9F ⊢))
  k_with "z execs cons" => (k_here; (with_reducible refine gen_t ?_); intro _ x9l; (try dsimp only at x9l))
  exact True.intro
theorem lay34 : True := by
  k_with "upd" => first | (refine' Upd.head ?_; k_all) | (refine' Upd.tail ?_ (by walk_at "upd"); first | walk_at "nes" | k_ne)
  k_with "z execs cons" => (k_here; (fail_if_success (with_reducible refine gen_t ?_)); (with_reducible refine execs_consQ ?_); intro _ _ _)
  k_with "oq" => first | (with_reducible refine oqN (by assumption) ?_) | (with_reducible refine oqR (by assumption) ?_) | (with_reducible refine oqB (by assumption) ?_) | (with_reducible refine oqC (by assumption) ?_) | (with_reducible refine oqG (by assumption) ?_)
  k_with "go1" => first | ((first | (k_unfold; (try dsimp only)) | walk1 | (dsimp only; walk1) | (leave1; walk_say "STEP leave1"; try dsimp only)); (try (walk_at "oq"; try dsimp only))) | (walk_at "oq"; try dsimp only)
  k_with "z execs nil" => (k_here; (with_reducible refine wpAny_execs_nil ?_); try dsimp only)
  exact True.intro
/-- the plait: the first word backwards, each letter in the other size, and the later word -/
noncomputable def plaitL (wd lt : List Lt) : List Lt := wd.reverse.map Lt.other ++ lt
/-- two rows of two -/
noncomputable def matS (m : Int × Int × Int × Int) (l : Lt) : Int × Int × Int × Int :=
  match l with
  | .a => (m.1, m.2.1 + m.1, m.2.2.1, m.2.2.2 + m.2.2.1)
  | .A => (m.1, m.2.1 - m.1, m.2.2.1, m.2.2.2 - m.2.2.1)
  | .b => (m.1 - m.2.1, m.2.1, m.2.2.1 - m.2.2.2, m.2.2.2)
  | .B => (m.1 + m.2.1, m.2.1, m.2.2.1 + m.2.2.2, m.2.2.2)
noncomputable def matL (ls : List Lt) : Int × Int × Int × Int := ls.foldl matS (1, 0, 0, 1)
/-- how many letters are alike -/
noncomputable def cnt (ls : List Lt) (l : Lt) : Nat := ls.countP fun x => decide (x = l)
/-- the small letters less the great ones -/
noncomputable def expo (ls : List Lt) : Int := ((cnt ls .a : Int) + cnt ls .b) - (cnt ls .A + cnt ls .B)
/-- the lone letters' a -/
noncomputable def sizeL (d : Int) : Lt := if Int.fmod d 2 = 0 then .a else .A
/-- how many lone letters -/
noncomputable def loneN (b c : Int) : Nat := (if Int.fmod b 4 < 2 then 1 else 0) + (if Int.fmod c 4 < 2 then 1 else 0)
theorem loneN_le (b c : Int) : loneN b c ≤ 1000 := by
  unfold loneN
  split <;> split <;> omega
theorem loneN_eq (b c : Int) (f : Nat → Value) : (((List.range' 0 2).filter fun i => decide (Int.fmod ([b, c].getD i 0) 4 < 2)).map f).length = loneN b c := by
  rw [List.length_map]
  unfold loneN
  by_cases h1 : Int.fmod b 4 < 2 <;> by_cases h2 : Int.fmod c 4 < 2 <;> simp [List.range'_succ, h1, h2]
structure PL (b c d : Int) (wd lt : List Lt) : Prop where
  wn : wd.length = 3
  ln : 3 ≤ lt.length ∧ lt.length ≤ 15
  ex : ∃ N T, iterW N ([], plaitL wd lt) = (T, []) ∧ matL T = matL (plaitL wd lt) ∧ expo T = (1 - Int.fmod d 2 * 2) * loneN b c ∧ (loneN b c = 0 → T = []) ∧ (loneN b c ≠ 0 → ∀ l ∈ T, l ≠ (sizeL d).other)
/-- the step on the letters read from the end on -/
noncomputable def spanB : List Lt → List Lt → Nat × List Lt
  | acc, [] => (acc.length, [])
  | acc, x :: R => if x.low = .b then spanB (x :: acc) R else (acc.length, x :: R)
theorem spanB_eq : ∀ (R acc : List Lt), ∃ bs, R = bs ++ (spanB acc R).2 ∧ (spanB acc R).1 = acc.length + bs.length ∧ (∀ x ∈ bs, x.low = .b) ∧ (∀ y R', (spanB acc R).2 = y :: R' → y.low = .a)
  | [], acc => ⟨[], rfl, rfl, by simp, by simp [spanB]⟩
  | x :: R, acc => by
    unfold spanB
    by_cases h : x.low = .b
    · rw [if_pos h]
      obtain ⟨bs, h1, h2, h3, h4⟩ := spanB_eq R (x :: acc)
      refine ⟨x :: bs, ?_, ?_, ?_, h4⟩
      · rw [List.cons_append, ← h1]
      · rw [h2, List.length_cons, List.length_cons]
        omega
      · intro y hy
        rcases List.mem_cons.mp hy with rfl | hy
        · exact h
        · exact h3 y hy
    · rw [if_neg h]
      refine ⟨[], rfl, rfl, by simp, ?_⟩
      intro y R' e
      have e1 : x = y := by
        have := List.cons.inj e
        exact this.1
      subst e1
      revert h
      cases x <;> decide
noncomputable def popR (R : List Lt) (c : Lt) (L : List Lt) : List Lt × List Lt :=
  match R with
  | y :: R' => if y = c.other then (R', L) else (c :: R, L)
  | [] => ([c], L)
noncomputable def stepR (R : List Lt) (c : Lt) (L : List Lt) : List Lt × List Lt :=
  match c.low with
  | .a => match spanB [] R with
    | (n, y :: R') => if y = c.other then (R', handle c.other (R.headD .a) n ++ L) else popR R c L
    | (_, []) => popR R c L
  | _ => popR R c L
theorem lastA_snoc (T : List Lt) (x : Lt) : lastA (T ++ [x]) = if x.low = .a then some T.length else lastA T := by
  unfold lastA
  rw [List.length_append, List.length_singleton, List.range'_concat, List.filter_append]
  have e : (List.range' 0 T.length).filter (fun i => ((T ++ [x])[i]?).any fun l => decide (l.low = .a)) = (List.range' 0 T.length).filter fun i => (T[i]?).any fun l => decide (l.low = .a) := by
    apply List.filter_congr
    intro i hi
    rw [List.mem_range'_1] at hi
    rw [List.getElem?_append_left (by omega)]
  rw [e]
  by_cases h : x.low = .a
  · rw [if_pos h]
    simp [h]
  · rw [if_neg h]
    simp [h]
theorem lastA_app_b (T : List Lt) : ∀ bs : List Lt, (∀ x ∈ bs, x.low = .b) → lastA (T ++ bs) = lastA T := by
  intro bs
  induction bs generalizing T with
  | nil => intro _; rw [List.append_nil]
  | cons x r ih =>
    intro h
    rw [show T ++ x :: r = (T ++ [x]) ++ r by simp, ih (T ++ [x]) fun y hy => h y (List.mem_cons_of_mem _ hy), lastA_snoc, if_neg]
    rw [h x List.mem_cons_self]
    decide
theorem popR_eq (R : List Lt) (c : Lt) (L : List Lt) : popB R.reverse c L = ((popR R c L).1.reverse, (popR R c L).2) := by
  unfold popB popR
  cases R with
  | nil => simp
  | cons y R' =>
    rw [List.getLast?_reverse, List.head?_cons]
    by_cases h : y = c.other
    · subst h
      simp
    · rw [if_neg (by simpa using h)]
      simp [h]
theorem stepR_eq (R : List Lt) (c : Lt) (L : List Lt) : stepW R.reverse c L = ((stepR R c L).1.reverse, (stepR R c L).2) := by
  have hc : c.low = .a ∨ c.low = .b := by cases c <;> decide
  rcases hc with hc | hc
  · obtain ⟨bs, h1, h2, h3, h4⟩ := spanB_eq R []
    unfold stepW stepR
    simp only [hc, if_true]
    generalize hsp : spanB [] R = sp at h1 h2 h3 h4
    obtain ⟨n, S⟩ := sp
    dsimp only at h1 h2 h3 h4 ⊢
    cases S with
    | nil =>
      have e : lastA R.reverse = none := by
        rw [h1, List.append_nil]
        have := lastA_app_b [] bs.reverse (fun x hx => h3 x (by simpa using hx))
        rw [List.nil_append] at this
        rw [this]
        rfl
      rw [e]
      exact popR_eq R c L
    | cons y R' =>
      have e : lastA R.reverse = some R'.length := by
        rw [h1, List.reverse_append, List.reverse_cons, lastA_app_b _ _ (fun x hx => h3 x (by simpa using hx)), lastA_snoc, if_pos (h4 y R' rfl), List.length_reverse]
      rw [e]
      dsimp only
      have eg : R.reverse[R'.length]? = some y := by
        rw [h1, List.reverse_append, List.reverse_cons, List.append_assoc, List.getElem?_append_right (by simp)]
        simp
      rw [eg]
      by_cases hy : y = c.other
      · rw [if_pos (congrArg some hy), if_pos hy]
        have e1 : R.reverse.take R'.length = R'.reverse := by
          rw [h1, List.reverse_append, List.reverse_cons, List.append_assoc, List.take_left' (by simp)]
        have e2 : R.reverse.length - R'.length - 1 = n := by
          rw [List.length_reverse, h1, h2]
          simp only [List.length_append, List.length_cons, List.length_nil]
          omega
        have e3 : R.reverse.getLast?.getD .a = R.headD .a := by
          rw [List.getLast?_reverse]
          cases R <;> rfl
        rw [e1, e2, e3]
      · rw [if_neg (fun e => hy (Option.some.inj e)), if_neg hy]
        exact popR_eq R c L
  · have hb : ¬ c.low = .a := by rw [hc]; decide
    unfold stepW stepR
    simp only [if_neg hb, hc]
    exact popR_eq R c L
theorem popR_line (R : List Lt) (c : Lt) (L M : List Lt) : popR R c (L ++ M) = ((popR R c L).1, (popR R c L).2 ++ M) := by
  unfold popR
  cases R with
  | nil => rfl
  | cons y R' =>
    dsimp only
    split <;> rfl
theorem stepR_line (R : List Lt) (c : Lt) (L M : List Lt) : stepR R c (L ++ M) = ((stepR R c L).1, (stepR R c L).2 ++ M) := by
  unfold stepR
  split
  · split
    · split
      · rw [List.append_assoc]
      · exact popR_line R c L M
    · exact popR_line R c L M
  · exact popR_line R c L M
noncomputable def iterR : Nat → List Lt → List Lt → List Lt × List Lt
  | 0, R, L => (R, L)
  | _ + 1, R, [] => (R, [])
  | n + 1, R, c :: L => iterR n (stepR R c L).1 (stepR R c L).2
theorem iterR_eq : ∀ (n : Nat) (R L : List Lt), iterW n (R.reverse, L) = ((iterR n R L).1.reverse, (iterR n R L).2)
  | 0, R, L => rfl
  | _ + 1, R, [] => rfl
  | n + 1, R, c :: L => by
    rw [iterW, stepR_eq, iterR_eq n]
    rfl
theorem iterR_nil : ∀ (n : Nat) (R : List Lt), iterR n R [] = (R, [])
  | 0, _ => rfl
  | _ + 1, _ => rfl
/-- the line runs out, and R' is left -/
noncomputable def Red (R P R' : List Lt) : Prop := ∃ n, iterR n R P = (R', [])
theorem Red.nil (R : List Lt) : Red R [] R := ⟨0, rfl⟩
theorem Red.app {R' R'' : List Lt} : ∀ {n : Nat} {R P : List Lt} {Q : List Lt}, iterR n R P = (R', []) → Red R' Q R'' → Red R (P ++ Q) R''
  | 0, R, P, Q, h, h2 => by
    have e : (R, P) = (R', []) := h
    cases e
    exact h2
  | n + 1, R, [], Q, h, h2 => by
    have e : (R, ([] : List Lt)) = (R', []) := h
    cases e
    exact h2
  | n + 1, R, c :: P, Q, h, h2 => by
    have e : iterR n (stepR R c P).1 (stepR R c P).2 = (R', []) := h
    obtain ⟨m, hm⟩ := Red.app e h2
    refine ⟨m + 1, ?_⟩
    show iterR m (stepR R c (P ++ Q)).1 (stepR R c (P ++ Q)).2 = _
    rw [stepR_line]
    exact hm
theorem Red.trans {R R' R'' P Q : List Lt} (h1 : Red R P R') (h2 : Red R' Q R'') : Red R (P ++ Q) R'' := let ⟨_, e⟩ := h1; Red.app e h2
/-- the line run out, in so many steps -/
noncomputable def go : Nat → List Lt → List Lt → Option (List Lt)
  | _, R, [] => some R
  | 0, _, _ => none
  | n + 1, R, c :: L => go n (stepR R c L).1 (stepR R c L).2
theorem go_red : ∀ {n : Nat} {R P R' : List Lt}, go n R P = some R' → Red R P R'
  | n, R, [], R', h => by
    have e : some R = some R' := by rw [← h]; cases n <;> rfl
    cases e
    exact Red.nil R
  | 0, R, c :: L, R', h => by cases h
  | n + 1, R, c :: L, R', h => by
    obtain ⟨m, hm⟩ := go_red (n := n) (R := (stepR R c L).1) (P := (stepR R c L).2) h
    exact ⟨m + 1, hm⟩
/-- the same, made for the kernel -/
noncomputable def eqF : Lt → Lt → Bool
  | .a, .a => true
  | .A, .A => true
  | .b, .b => true
  | .B, .B => true
  | _, _ => false
theorem eqF_eq (x y : Lt) : eqF x y = decide (x = y) := by cases x <;> cases y <;> decide
noncomputable def spanF : Nat → List Lt → Nat × List Lt
  | n, .b :: R => spanF (n + 1) R
  | n, .B :: R => spanF (n + 1) R
  | n, R => (n, R)
noncomputable def repF (c : Lt) : Nat → List Lt → List Lt
  | 0, L => L
  | n + 1, L => c :: repF c n L
theorem repF_eq (c : Lt) (L : List Lt) : ∀ n, repF c n L = List.replicate n c ++ L
  | 0 => rfl
  | n + 1 => by rw [repF, repF_eq c L n, List.replicate_succ]; rfl
theorem spanF_eq : ∀ (R acc : List Lt), spanB acc R = spanF acc.length R
  | [], acc => by rw [spanB, spanF] <;> intros <;> simp_all
  | .a :: R, acc => by rw [spanB, spanF] <;> simp
  | .A :: R, acc => by rw [spanB, spanF] <;> simp
  | .b :: R, acc => by rw [spanB, spanF, if_pos rfl, spanF_eq R]; rfl
  | .B :: R, acc => by rw [spanB, spanF, if_pos rfl, spanF_eq R]; rfl
noncomputable def goF : Nat → List Lt → List Lt → Option (List Lt)
  | 0, R, L => match L with
    | [] => some R
    | _ => none
  | n + 1, R, L => match L with
    | [] => some R
    | .b :: L => (match R with
      | .B :: R' => goF n R' L
      | _ => goF n (.b :: R) L)
    | .B :: L => (match R with
      | .b :: R' => goF n R' L
      | _ => goF n (.B :: R) L)
    | .a :: L => (match R with
      | .A :: R' => goF n R' L
      | .b :: R' => (match spanF 1 R' with
        | (k, .A :: X) => goF n X (.b :: repF .a k (.B :: L))
        | _ => goF n (.a :: R) L)
      | .B :: R' => (match spanF 1 R' with
        | (k, .A :: X) => goF n X (.b :: repF .A k (.B :: L))
        | _ => goF n (.a :: R) L)
      | _ => goF n (.a :: R) L)
    | .A :: L => (match R with
      | .a :: R' => goF n R' L
      | .b :: R' => (match spanF 1 R' with
        | (k, .a :: X) => goF n X (.B :: repF .a k (.b :: L))
        | _ => goF n (.A :: R) L)
      | .B :: R' => (match spanF 1 R' with
        | (k, .a :: X) => goF n X (.B :: repF .A k (.b :: L))
        | _ => goF n (.A :: R) L)
      | _ => goF n (.A :: R) L)
theorem spanB_b (R : List Lt) : spanB [] (.b :: R) = spanF 1 R := by rw [spanF_eq]; rfl
theorem spanB_B (R : List Lt) : spanB [] (.B :: R) = spanF 1 R := by rw [spanF_eq]; rfl
theorem spanF_pos : ∀ (R : List Lt) (k : Nat), 0 < k → 0 < (spanF k R).1
  | [], k, h => by rw [spanF] <;> simp [h]
  | .a :: R, k, h => by rw [spanF] <;> simp [h]
  | .A :: R, k, h => by rw [spanF] <;> simp [h]
  | .b :: R, k, h => by rw [spanF]; exact spanF_pos R (k + 1) (Nat.succ_pos k)
  | .B :: R, k, h => by rw [spanF]; exact spanF_pos R (k + 1) (Nat.succ_pos k)
theorem goF_eq : ∀ (n : Nat) (R L : List Lt), goF n R L = go n R L
  | 0, R, [] => rfl
  | 0, R, _ :: _ => rfl
  | n + 1, R, [] => rfl
  | n + 1, R, c :: L => by
    rw [go]
    have ih := goF_eq n
    have popA : ∀ (y : Lt) (R' : List Lt), (y = c.other) = False → popR (y :: R') c L = (c :: y :: R', L) := by
      intro y R' h
      unfold popR
      dsimp only
      rw [if_neg (by rw [h]; exact id)]
    have popN : popR [] c L = ([c], L) := rfl
    have popY : ∀ R', popR (c.other :: R') c L = (R', L) := by
      intro R'
      unfold popR
      dsimp only
      rw [if_pos rfl]
    cases c with
    | b =>
      match R with
      | [] => exact ih _ _
      | .a :: R' => exact ih _ _
      | .A :: R' => exact ih _ _
      | .b :: R' => exact ih _ _
      | .B :: R' => exact ih _ _
    | B =>
      match R with
      | [] => exact ih _ _
      | .a :: R' => exact ih _ _
      | .A :: R' => exact ih _ _
      | .b :: R' => exact ih _ _
      | .B :: R' => exact ih _ _
    | a =>
      match R with
      | [] => exact ih _ _
      | .a :: R' => exact ih _ _
      | .A :: R' => exact ih _ _
      | .b :: R' =>
        have hk := spanF_pos R' 1 Nat.one_pos
        have e := spanB_b R'
        rw [goF]
        unfold stepR
        dsimp only
        rw [e]
        generalize spanF 1 R' = sp at hk ⊢
        obtain ⟨k, X⟩ := sp
        match X with
        | [] => exact ih _ _
        | .a :: X => exact ih _ _
        | .b :: X => exact ih _ _
        | .B :: X => exact ih _ _
        | .A :: X =>
          dsimp only at hk ⊢
          rw [if_pos rfl, ih]
          dsimp only
          rw [repF_eq]
          unfold handle
          rw [if_pos hk]
          simp
      | .B :: R' =>
        have hk := spanF_pos R' 1 Nat.one_pos
        have e := spanB_B R'
        rw [goF]
        unfold stepR
        dsimp only
        rw [e]
        generalize spanF 1 R' = sp at hk ⊢
        obtain ⟨k, X⟩ := sp
        match X with
        | [] => exact ih _ _
        | .a :: X => exact ih _ _
        | .b :: X => exact ih _ _
        | .B :: X => exact ih _ _
        | .A :: X =>
          dsimp only at hk ⊢
          rw [if_pos rfl, ih]
          dsimp only
          rw [repF_eq]
          unfold handle
          rw [if_pos hk]
          simp
    | A =>
      match R with
      | [] => exact ih _ _
      | .a :: R' => exact ih _ _
      | .A :: R' => exact ih _ _
      | .b :: R' =>
        have hk := spanF_pos R' 1 Nat.one_pos
        have e := spanB_b R'
        rw [goF]
        unfold stepR
        dsimp only
        rw [e]
        generalize spanF 1 R' = sp at hk ⊢
        obtain ⟨k, X⟩ := sp
        match X with
        | [] => exact ih _ _
        | .A :: X => exact ih _ _
        | .b :: X => exact ih _ _
        | .B :: X => exact ih _ _
        | .a :: X =>
          dsimp only at hk ⊢
          rw [if_pos rfl, ih]
          dsimp only
          rw [repF_eq]
          unfold handle
          rw [if_pos hk]
          simp
      | .B :: R' =>
        have hk := spanF_pos R' 1 Nat.one_pos
        have e := spanB_B R'
        rw [goF]
        unfold stepR
        dsimp only
        rw [e]
        generalize spanF 1 R' = sp at hk ⊢
        obtain ⟨k, X⟩ := sp
        match X with
        | [] => exact ih _ _
        | .A :: X => exact ih _ _
        | .b :: X => exact ih _ _
        | .B :: X => exact ih _ _
        | .a :: X =>
          dsimp only at hk ⊢
          rw [if_pos rfl, ih]
          dsimp only
          rw [repF_eq]
          unfold handle
          rw [if_pos hk]
          simp
/-- the pieces, with how many lone letters each has -/
noncomputable def pcsN (d : Int) : List (List Lt × Nat) := if Int.fmod d 2 = 0 then [([.a], 1), ([.b], 1), ([.a, .b, .a, .B, .A, .B], 0), ([.b, .a, .b, .A, .B, .A], 0)] else [([.A], 1), ([.B], 1), ([.a, .b, .a, .B, .A, .B], 0), ([.b, .a, .b, .A, .B, .A], 0)]
noncomputable def noL (l : Lt) : List Lt → Bool
  | [] => true
  | x :: R => !(eqF x l) && noL l R
noncomputable def endOk (bad : Lt) (n : Nat) (R : List Lt) : Bool :=
  match n with
  | 0 => R.isEmpty
  | _ + 1 => noL bad R
/-- no piece more -/
noncomputable def chk0 (bad : Lt) (R r : List Lt) (n : Nat) : Bool :=
  match goF 60 R r with
  | some R' => endOk bad n R'
  | none => false
noncomputable def same : List Lt → List Lt → Bool
  | [], [] => true
  | x :: r, y :: s => eqF x y && same r s
  | _, _ => false
/-- one piece, here -/
noncomputable def pc1 (bad : Lt) (R r : List Lt) (n : Nat) : List (List Lt × Nat) → Bool
  | [] => true
  | p :: ps => (match goF 60 R p.1 with
    | some R' => (match p.2 with
      | 0 => same R' R || chk0 bad R' r n
      | _ + 1 => chk0 bad R' r (n + p.2))
    | none => false) && pc1 bad R r n ps
/-- one piece more, somewhere -/
noncomputable def chk1 (bad : Lt) (pcs : List (List Lt × Nat)) (n : Nat) : List Lt → List Lt → Bool
  | r, R => chk0 bad R r n && pc1 bad R r n pcs && (match r with
    | [] => true
    | x :: r' => match goF 60 R [x] with
      | some R' => chk1 bad pcs n r' R'
      | none => false)
noncomputable def here (bad : Lt) (pcs : List (List Lt × Nat)) (x : List Lt × List Lt) : Bool := pcs.all fun p => chk1 bad pcs p.2 (p.1 ++ x.2) x.1
/-- what is left, and what is still to be read, ahead of the first piece -/
noncomputable def roots : List (List Lt × List Lt) := [
  ([.A, .A, .A], [.a, .a, .a]),
  ([.A, .A], [.a, .a]),
  ([.A], [.a]),
  ([], []),
  ([.A, .A, .B], [.a, .a, .b]),
  ([.A, .B], [.a, .b]),
  ([.B], [.b]),
  ([.A], [.a, .a, .A]),
  ([], [.a, .A]),
  ([.a], [.A]),
  ([.A, .A, .b], [.a, .a, .B]),
  ([.A, .b], [.a, .B]),
  ([.b], [.B]),
  ([.A, .B, .A], [.a, .b, .a]),
  ([.B, .A], [.b, .a]),
  ([.A, .B, .B], [.a, .b, .b]),
  ([.B, .B], [.b, .b]),
  ([.b, .A, .B], [.a, .b, .A]),
  ([.B, .a], [.b, .A]),
  ([.A], [.a, .b, .B]),
  ([], [.b, .B]),
  ([.A], [.a, .A, .a]),
  ([], [.A, .a]),
  ([.B], [.a, .A, .b]),
  ([.a, .B], [.A, .b]),
  ([.a], [.a, .A, .A]),
  ([.a, .a], [.A, .A]),
  ([.b], [.a, .A, .B]),
  ([.a, .b], [.A, .B]),
  ([.A, .b, .A], [.a, .B, .a]),
  ([.b, .A], [.B, .a]),
  ([.A], [.a, .B, .b]),
  ([], [.B, .b]),
  ([.b, .a, .B], [.a, .B, .A]),
  ([.a, .b, .a, .B], [.B, .A]),
  ([.B, .a, .b, .a, .B], [.A]),
  ([.A, .b, .b], [.a, .B, .B]),
  ([.b, .b], [.B, .B]),
  ([.B, .A, .A], [.b, .a, .a]),
  ([.B, .A, .B], [.b, .a, .b]),
  ([.B], [.b, .a, .A]),
  ([.B, .A, .b], [.b, .a, .B]),
  ([.B, .B, .A], [.b, .b, .a]),
  ([.B, .B, .B], [.b, .b, .b]),
  ([.B, .B, .a], [.b, .b, .A]),
  ([.B], [.b, .b, .B]),
  ([.B], [.b, .A, .a]),
  ([.B, .a, .B], [.b, .A, .b]),
  ([.B, .a, .a], [.b, .A, .A]),
  ([.B, .a, .b], [.b, .A, .B]),
  ([.A], [.b, .B, .a]),
  ([.B], [.b, .B, .b]),
  ([.a], [.b, .B, .A]),
  ([.b, .a], [.B, .A]),
  ([.b], [.b, .B, .B]),
  ([.A], [.A, .a, .a]),
  ([.B], [.A, .a, .b]),
  ([.a], [.A, .a, .A]),
  ([.b], [.A, .a, .B]),
  ([.B, .A, .b], [.A, .b, .a]),
  ([.A, .B, .A, .b], [.b, .a]),
  ([.b, .A, .B, .A, .b], [.a]),
  ([.a, .B, .B], [.A, .b, .b]),
  ([.a, .B, .a], [.A, .b, .A]),
  ([.a], [.A, .b, .B]),
  ([.a], [.A, .A, .a]),
  ([.a, .a, .B], [.A, .A, .b]),
  ([.a, .a, .a], [.A, .A, .A]),
  ([.a, .a, .b], [.A, .A, .B]),
  ([.B, .a, .b], [.A, .B, .a]),
  ([.a], [.A, .B, .b]),
  ([.a, .b, .a], [.A, .B, .A]),
  ([.a, .b, .b], [.A, .B, .B]),
  ([.b, .A, .A], [.B, .a, .a]),
  ([.b, .A, .B], [.B, .a, .b]),
  ([.b], [.B, .a, .A]),
  ([.b, .A, .b], [.B, .a, .B]),
  ([.A], [.B, .b, .a]),
  ([.B], [.B, .b, .b]),
  ([.a], [.B, .b, .A]),
  ([.b], [.B, .b, .B]),
  ([.b], [.B, .A, .a]),
  ([.b, .a, .B], [.B, .A, .b]),
  ([.b, .a, .a], [.B, .A, .A]),
  ([.b, .a, .b], [.B, .A, .B]),
  ([.b, .b, .A], [.B, .B, .a]),
  ([.b], [.B, .B, .b]),
  ([.b, .b, .a], [.B, .B, .A]),
  ([.b, .b, .b], [.B, .B, .B])]
theorem hereA_0 : ((roots.drop 0).take 12).all (here .A [([.a], 1), ([.b], 1), ([.a, .b, .a, .B, .A, .B], 0), ([.b, .a, .b, .A, .B, .A], 0)]) = true := by decide +kernel
theorem hereB_0 : ((roots.drop 0).take 12).all (here .a [([.A], 1), ([.B], 1), ([.a, .b, .a, .B, .A, .B], 0), ([.b, .a, .b, .A, .B, .A], 0)]) = true := by decide +kernel
theorem hereA_1 : ((roots.drop 12).take 12).all (here .A [([.a], 1), ([.b], 1), ([.a, .b, .a, .B, .A, .B], 0), ([.b, .a, .b, .A, .B, .A], 0)]) = true := by decide +kernel
theorem hereB_1 : ((roots.drop 12).take 12).all (here .a [([.A], 1), ([.B], 1), ([.a, .b, .a, .B, .A, .B], 0), ([.b, .a, .b, .A, .B, .A], 0)]) = true := by decide +kernel
theorem hereA_2 : ((roots.drop 24).take 12).all (here .A [([.a], 1), ([.b], 1), ([.a, .b, .a, .B, .A, .B], 0), ([.b, .a, .b, .A, .B, .A], 0)]) = true := by decide +kernel
theorem hereB_2 : ((roots.drop 24).take 12).all (here .a [([.A], 1), ([.B], 1), ([.a, .b, .a, .B, .A, .B], 0), ([.b, .a, .b, .A, .B, .A], 0)]) = true := by decide +kernel
theorem hereA_3 : ((roots.drop 36).take 12).all (here .A [([.a], 1), ([.b], 1), ([.a, .b, .a, .B, .A, .B], 0), ([.b, .a, .b, .A, .B, .A], 0)]) = true := by decide +kernel
theorem hereB_3 : ((roots.drop 36).take 12).all (here .a [([.A], 1), ([.B], 1), ([.a, .b, .a, .B, .A, .B], 0), ([.b, .a, .b, .A, .B, .A], 0)]) = true := by decide +kernel
theorem hereA_4 : ((roots.drop 48).take 12).all (here .A [([.a], 1), ([.b], 1), ([.a, .b, .a, .B, .A, .B], 0), ([.b, .a, .b, .A, .B, .A], 0)]) = true := by decide +kernel
theorem hereB_4 : ((roots.drop 48).take 12).all (here .a [([.A], 1), ([.B], 1), ([.a, .b, .a, .B, .A, .B], 0), ([.b, .a, .b, .A, .B, .A], 0)]) = true := by decide +kernel
theorem hereA_5 : ((roots.drop 60).take 12).all (here .A [([.a], 1), ([.b], 1), ([.a, .b, .a, .B, .A, .B], 0), ([.b, .a, .b, .A, .B, .A], 0)]) = true := by decide +kernel
theorem hereB_5 : ((roots.drop 60).take 12).all (here .a [([.A], 1), ([.B], 1), ([.a, .b, .a, .B, .A, .B], 0), ([.b, .a, .b, .A, .B, .A], 0)]) = true := by decide +kernel
theorem hereA_6 : ((roots.drop 72).take 12).all (here .A [([.a], 1), ([.b], 1), ([.a, .b, .a, .B, .A, .B], 0), ([.b, .a, .b, .A, .B, .A], 0)]) = true := by decide +kernel
theorem hereB_6 : ((roots.drop 72).take 12).all (here .a [([.A], 1), ([.B], 1), ([.a, .b, .a, .B, .A, .B], 0), ([.b, .a, .b, .A, .B, .A], 0)]) = true := by decide +kernel
theorem hereA_7 : ((roots.drop 84).take 12).all (here .A [([.a], 1), ([.b], 1), ([.a, .b, .a, .B, .A, .B], 0), ([.b, .a, .b, .A, .B, .A], 0)]) = true := by decide +kernel
theorem hereB_7 : ((roots.drop 84).take 12).all (here .a [([.A], 1), ([.B], 1), ([.a, .b, .a, .B, .A, .B], 0), ([.b, .a, .b, .A, .B, .A], 0)]) = true := by decide +kernel
section PartPlain4
/-- no letter stands beside its contrary -/
noncomputable def Rd : List Lt → Prop
  | x :: y :: R => x ≠ y.other ∧ Rd (y :: R)
  | _ => True
theorem Rd.tail {x : Lt} {R : List Lt} (h : Rd (x :: R)) : Rd R := by
  cases R with
  | nil => trivial
  | cons y R => exact h.2
theorem Rd.drop : ∀ (bs R : List Lt), Rd (bs ++ R) → Rd R
  | [], _, h => h
  | _ :: bs, R, h => Rd.drop bs R h.tail
theorem low_eq_of {x y : Lt} (hx : x.low = .b) (hy : y.low = .b) (h : x ≠ y.other) : x = y := by
  cases x <;> cases y <;> simp_all
theorem Rd.rep : ∀ (bs S : List Lt) (d : Lt), (∀ x ∈ bs, x.low = .b) → d.low = .b → Rd (d :: (bs ++ S)) → bs = List.replicate bs.length d
  | [], _, _, _, _, _ => rfl
  | x :: bs, S, d, h, hd, hr => by
    have e : d = x := low_eq_of hd (h x List.mem_cons_self) hr.1
    subst e
    have := Rd.rep bs S d (fun y hy => h y (List.mem_cons_of_mem _ hy)) hd hr.2
    rw [List.length_cons, List.replicate_succ, ← this]
theorem other_other (c : Lt) : c.other.other = c := by cases c <;> rfl
section
variable {α : Type} (f : α → Lt → α)
theorem popR_inv (hinv : ∀ m c, f (f m c) c.other = m) (R : List Lt) (c : Lt) (L : List Lt) (m : α) (hR : Rd R) : List.foldl f m ((popR R c L).1.reverse ++ (popR R c L).2) = List.foldl f m (R.reverse ++ c :: L) ∧ Rd (popR R c L).1 := by
  unfold popR
  cases R with
  | nil => exact ⟨rfl, trivial⟩
  | cons y R' =>
    dsimp only
    by_cases h : y = c.other
    · rw [if_pos h]
      refine ⟨?_, hR.tail⟩
      subst h
      simp only [List.reverse_cons, List.foldl_append, List.foldl_cons, List.foldl_nil]
      have := hinv (List.foldl f m R'.reverse) c.other
      rw [other_other] at this
      rw [this]
    · rw [if_neg h]
      refine ⟨by simp, ?_, hR⟩
      intro e
      exact h (by rw [e, other_other])
theorem stepR_inv (hinv : ∀ m c, f (f m c) c.other = m)
    (hh : ∀ m y d n, y.low = .a → d.low = .b → 0 < n → List.foldl f m (y :: (List.replicate n d ++ [y.other])) = List.foldl f m (handle y d n))
    (R : List Lt) (c : Lt) (L : List Lt) (m : α) (hR : Rd R) : List.foldl f m ((stepR R c L).1.reverse ++ (stepR R c L).2) = List.foldl f m (R.reverse ++ c :: L) ∧ Rd (stepR R c L).1 := by
  have hc : c.low = .a ∨ c.low = .b := by cases c <;> decide
  rcases hc with hc | hc
  · obtain ⟨bs, h1, h2, h3, h4⟩ := spanB_eq R []
    unfold stepR
    simp only [hc]
    generalize spanB [] R = sp at h1 h2 h3 h4
    obtain ⟨n, S⟩ := sp
    dsimp only at h1 h2 h3 h4 ⊢
    cases S with
    | nil => exact popR_inv f hinv R c L m hR
    | cons y R' =>
      dsimp only
      by_cases hy : y = c.other
      · rw [if_pos hy]
        have hR' : Rd R' := by
          rw [h1] at hR
          exact (Rd.drop bs _ hR).tail
        refine ⟨?_, hR'⟩
        have hcy : c = y.other := by rw [hy, other_other]
        cases bs with
        | nil =>
          have hn : n = 0 := h2
          subst hn
          rw [h1, hcy]
          have : handle c.other (R.headD .a) 0 = [] := rfl
          simp only [List.nil_append, List.reverse_cons, List.foldl_append, List.foldl_cons, List.foldl_nil, handle, Nat.lt_irrefl, if_false, hinv]
        | cons d r =>
          have hn : n = r.length + 1 := by
            rw [h2]
            simp
          have hd : d.low = .b := h3 d List.mem_cons_self
          have e := Rd.rep r (y :: R') d (fun x hx => h3 x (List.mem_cons_of_mem _ hx)) hd (by rw [h1] at hR; exact hR)
          have eh : R.headD .a = d := by rw [h1]; rfl
          have eR : R.reverse = R'.reverse ++ (y :: List.replicate n d) := by
            rw [h1, List.reverse_append, List.reverse_cons, List.append_assoc, hn, List.replicate_succ, ← e]
            have : (d :: r).reverse = d :: r := by
              rw [e, ← List.replicate_succ, List.reverse_replicate]
            rw [this]
            rfl
          rw [eh, eR, ← hy, List.append_assoc, List.cons_append]
          have hk := hh (List.foldl f m R'.reverse) y d n (h4 y R' rfl) hd (by omega)
          have e2 : R'.reverse ++ y :: (List.replicate n d ++ c :: L) = (R'.reverse ++ (y :: (List.replicate n d ++ [y.other]))) ++ L := by
            rw [hcy]
            simp
          rw [e2, ← List.append_assoc, List.foldl_append, List.foldl_append (l := R'.reverse ++ _), List.foldl_append, List.foldl_append, hk]
      · rw [if_neg hy]
        exact popR_inv f hinv R c L m hR
  · unfold stepR
    simp only [hc]
    exact popR_inv f hinv R c L m hR
theorem iterR_inv (hinv : ∀ m c, f (f m c) c.other = m)
    (hh : ∀ m y d n, y.low = .a → d.low = .b → 0 < n → List.foldl f m (y :: (List.replicate n d ++ [y.other])) = List.foldl f m (handle y d n)) :
    ∀ (n : Nat) (R L : List Lt) (m : α), Rd R → List.foldl f m ((iterR n R L).1.reverse ++ (iterR n R L).2) = List.foldl f m (R.reverse ++ L)
  | 0, _, _, _, _ => rfl
  | _ + 1, _, [], _, _ => rfl
  | n + 1, R, c :: L, m, h => by
    obtain ⟨h1, h2⟩ := stepR_inv f hinv hh R c L m h
    rw [iterR, iterR_inv hinv hh n _ _ m h2, h1]
theorem Red.inv (hinv : ∀ m c, f (f m c) c.other = m)
    (hh : ∀ m y d n, y.low = .a → d.low = .b → 0 < n → List.foldl f m (y :: (List.replicate n d ++ [y.other])) = List.foldl f m (handle y d n))
    {P R : List Lt} (h : Red [] P R) (m : α) : List.foldl f m R.reverse = List.foldl f m P := by
  obtain ⟨n, e⟩ := h
  have := iterR_inv f hinv hh n [] P m trivial
  rw [e] at this
  simpa using this
end
/-- the matrices -/
theorem mat_inv (m : Int × Int × Int × Int) (c : Lt) : matS (matS m c) c.other = m := by
  obtain ⟨p, q, r, s⟩ := m
  cases c
  · show (p, q + p - p, r, s + r - r) = _
    refine Prod.ext rfl (Prod.ext ?_ (Prod.ext rfl ?_)) <;> (dsimp only; omega)
  · show (p, q - p + p, r, s - r + r) = _
    refine Prod.ext rfl (Prod.ext ?_ (Prod.ext rfl ?_)) <;> (dsimp only; omega)
  · show (p - q + q, q, r - s + s, s) = _
    refine Prod.ext ?_ (Prod.ext rfl (Prod.ext ?_ rfl)) <;> (dsimp only; omega)
  · show (p + q - q, q, r + s - s, s) = _
    refine Prod.ext ?_ (Prod.ext rfl (Prod.ext ?_ rfl)) <;> (dsimp only; omega)
theorem mat_rep_a : ∀ (n : Nat) (p q r s : Int), List.foldl matS (p, q, r, s) (List.replicate n .a) = (p, q + n * p, r, s + n * r)
  | 0, p, q, r, s => by simp
  | n + 1, p, q, r, s => by
    rw [List.replicate_succ, List.foldl_cons]
    show List.foldl matS (p, q + p, r, s + r) _ = _
    rw [mat_rep_a n, Int.natCast_succ, Int.add_mul, Int.add_mul, Int.one_mul, Int.one_mul]
    refine Prod.ext rfl (Prod.ext ?_ (Prod.ext rfl ?_)) <;> (dsimp only; omega)
theorem mat_rep_A : ∀ (n : Nat) (p q r s : Int), List.foldl matS (p, q, r, s) (List.replicate n .A) = (p, q - n * p, r, s - n * r)
  | 0, p, q, r, s => by simp
  | n + 1, p, q, r, s => by
    rw [List.replicate_succ, List.foldl_cons]
    show List.foldl matS (p, q - p, r, s - r) _ = _
    rw [mat_rep_A n, Int.natCast_succ, Int.add_mul, Int.add_mul, Int.one_mul, Int.one_mul]
    refine Prod.ext rfl (Prod.ext ?_ (Prod.ext rfl ?_)) <;> (dsimp only; omega)
theorem mat_rep_b : ∀ (n : Nat) (p q r s : Int), List.foldl matS (p, q, r, s) (List.replicate n .b) = (p - n * q, q, r - n * s, s)
  | 0, p, q, r, s => by simp
  | n + 1, p, q, r, s => by
    rw [List.replicate_succ, List.foldl_cons]
    show List.foldl matS (p - q, q, r - s, s) _ = _
    rw [mat_rep_b n, Int.natCast_succ, Int.add_mul, Int.add_mul, Int.one_mul, Int.one_mul]
    refine Prod.ext ?_ (Prod.ext rfl (Prod.ext ?_ rfl)) <;> (dsimp only; omega)
theorem mat_rep_B : ∀ (n : Nat) (p q r s : Int), List.foldl matS (p, q, r, s) (List.replicate n .B) = (p + n * q, q, r + n * s, s)
  | 0, p, q, r, s => by simp
  | n + 1, p, q, r, s => by
    rw [List.replicate_succ, List.foldl_cons]
    show List.foldl matS (p + q, q, r + s, s) _ = _
    rw [mat_rep_B n, Int.natCast_succ, Int.add_mul, Int.add_mul, Int.one_mul, Int.one_mul]
    refine Prod.ext ?_ (Prod.ext rfl (Prod.ext ?_ rfl)) <;> (dsimp only; omega)
theorem mat_handle (m : Int × Int × Int × Int) (y d : Lt) (n : Nat) (hy : y.low = .a) (hd : d.low = .b) (hn : 0 < n) : List.foldl matS m (y :: (List.replicate n d ++ [y.other])) = List.foldl matS m (handle y d n) := by
  obtain ⟨p, q, r, s⟩ := m
  have hy' : y = .a ∨ y = .A := by cases y <;> simp_all
  have hd' : d = .b ∨ d = .B := by cases d <;> simp_all
  unfold handle
  rw [if_pos hn]
  rcases hy' with rfl | rfl <;> rcases hd' with rfl | rfl <;>
    (simp only [List.foldl_cons, List.foldl_append, List.foldl_nil, matS, mat_rep_a, mat_rep_A, mat_rep_b, mat_rep_B, Lt.other, if_true, reduceCtorEq, if_false, Int.mul_add, Int.mul_sub]
     refine Prod.ext ?_ (Prod.ext ?_ (Prod.ext ?_ ?_)) <;> (dsimp only; omega))
/-- small letters less great ones -/
noncomputable def sgn : Lt → Int
  | .a => 1
  | .b => 1
  | .A => -1
  | .B => -1
noncomputable def addS (e : Int) (c : Lt) : Int := e + sgn c
theorem sum_inv (e : Int) (c : Lt) : addS (addS e c) c.other = e := by cases c <;> (simp only [addS, sgn]; omega)
theorem sum_rep (d : Lt) : ∀ (n : Nat) (e : Int), List.foldl addS e (List.replicate n d) = e + n * sgn d
  | 0, e => by simp
  | n + 1, e => by
    rw [List.replicate_succ, List.foldl_cons, sum_rep d n, addS, Int.natCast_succ, Int.add_mul, Int.one_mul]
    omega
theorem sum_handle (e : Int) (y d : Lt) (n : Nat) (hy : y.low = .a) (hd : d.low = .b) (hn : 0 < n) : List.foldl addS e (y :: (List.replicate n d ++ [y.other])) = List.foldl addS e (handle y d n) := by
  have hy' : y = .a ∨ y = .A := by cases y <;> simp_all
  have hd' : d = .b ∨ d = .B := by cases d <;> simp_all
  unfold handle
  rw [if_pos hn]
  rcases hy' with rfl | rfl <;> rcases hd' with rfl | rfl <;>
    (simp only [List.foldl_cons, List.foldl_append, List.foldl_nil, sum_rep, addS, sgn, Lt.other, if_true, reduceCtorEq, if_false]; omega)
theorem expo_fold : ∀ (ls : List Lt) (e : Int), List.foldl addS e ls = e + expo ls
  | [], e => by simp [expo, cnt]
  | x :: ls, e => by
    rw [List.foldl_cons, expo_fold ls]
    unfold expo cnt addS
    simp only [List.countP_cons]
    cases x <;> simp [sgn] <;> omega
end PartPlain4
theorem same_eq : ∀ {l m : List Lt}, same l m = true → l = m
  | [], [], _ => rfl
  | x :: r, y :: s, h => by
    unfold same at h
    rw [Bool.and_eq_true, eqF_eq, decide_eq_true_eq] at h
    rw [h.1, same_eq h.2]
  | [], _ :: _, h => by cases h
  | _ :: _, [], h => by cases h
theorem noL_ok {l : Lt} : ∀ {R : List Lt}, noL l R = true → ∀ x ∈ R, x ≠ l
  | [], _, x, hx => by cases hx
  | y :: R, h, x, hx => by
    unfold noL at h
    rw [Bool.and_eq_true, Bool.not_eq_true', eqF_eq, decide_eq_false_iff_not] at h
    rcases List.mem_cons.mp hx with rfl | hx
    · exact h.1
    · exact noL_ok h.2 x hx
/-- how the reduction ends -/
noncomputable def Fin5 (bad : Lt) (R r : List Lt) (n : Nat) : Prop := ∃ R', Red R r R' ∧ (n = 0 → R' = []) ∧ (n ≠ 0 → ∀ l ∈ R', l ≠ bad)
theorem goF_red {n : Nat} {R P R' : List Lt} (h : goF n R P = some R') : Red R P R' := go_red (by rw [← goF_eq]; exact h)
theorem chk0_ok {bad : Lt} {R r : List Lt} {n : Nat} (h : chk0 bad R r n = true) : Fin5 bad R r n := by
  unfold chk0 at h
  cases hg : goF 60 R r with
  | none => rw [hg] at h; cases h
  | some R' =>
    rw [hg] at h
    refine ⟨R', goF_red hg, ?_, ?_⟩
    · intro hn
      subst hn
      have h' : R'.isEmpty = true := h
      simpa using h'
    · intro hn
      match n, hn, h with
      | n + 1, _, h => exact noL_ok h
theorem Fin5.pre {bad : Lt} {R R' P r : List Lt} {n : Nat} (h1 : Red R P R') (h : Fin5 bad R' r n) : Fin5 bad R (P ++ r) n := let ⟨T, h2, h3, h4⟩ := h; ⟨T, h1.trans h2, h3, h4⟩
theorem pc1_ok {bad : Lt} {R r : List Lt} {n : Nat} (h0 : Fin5 bad R r n) : ∀ {ps : List (List Lt × Nat)}, pc1 bad R r n ps = true → ∀ p ∈ ps, Fin5 bad R (p.1 ++ r) (n + p.2)
  | [], _, p, hp => by cases hp
  | q :: ps, h, p, hp => by
    unfold pc1 at h
    rw [Bool.and_eq_true] at h
    rcases List.mem_cons.mp hp with rfl | hp
    · have h1 := h.1
      cases hg : goF 60 R p.1 with
      | none => rw [hg] at h1; cases h1
      | some R' =>
        rw [hg] at h1
        dsimp only at h1
        obtain ⟨pl, pn⟩ := p
        dsimp only at h1 hg ⊢
        cases pn with
        | zero =>
          dsimp only at h1
          rw [Bool.or_eq_true] at h1
          rcases h1 with h1 | h1
          · have e := same_eq h1
            subst e
            exact Fin5.pre (goF_red hg) h0
          · exact Fin5.pre (goF_red hg) (chk0_ok h1)
        | succ k =>
          exact Fin5.pre (goF_red hg) (chk0_ok h1)
    · exact pc1_ok h0 h.2 p hp
theorem chk1_ok {bad : Lt} {pcs : List (List Lt × Nat)} {n : Nat} : ∀ (r R : List Lt), chk1 bad pcs n r R = true → ∀ k, k ≤ r.length → ∀ p ∈ pcs, Fin5 bad R (r.take k ++ (p.1 ++ r.drop k)) (n + p.2)
  | r, R, h, 0, _, p, hp => by
    unfold chk1 at h
    rw [Bool.and_eq_true, Bool.and_eq_true] at h
    simpa using pc1_ok (chk0_ok h.1.1) h.1.2 p hp
  | [], R, h, k + 1, hk, p, hp => by
    rw [List.length_nil] at hk
    omega
  | x :: r, R, h, k + 1, hk, p, hp => by
    unfold chk1 at h
    rw [Bool.and_eq_true] at h
    have h2 := h.2
    dsimp only at h2
    cases hg : goF 60 R [x] with
    | none => rw [hg] at h2; cases h2
    | some R' =>
      rw [hg] at h2
      have := chk1_ok r R' h2 k (by rw [List.length_cons] at hk; omega) p hp
      exact Fin5.pre (P := [x]) (goF_red hg) this
noncomputable def inR (x : List Lt × List Lt) : Bool := roots.any fun y => same y.1 x.1 && same y.2 x.2
theorem inR_ok {x : List Lt × List Lt} (h : inR x = true) : x ∈ roots := by
  unfold inR at h
  rw [List.any_eq_true] at h
  obtain ⟨y, hy, he⟩ := h
  rw [Bool.and_eq_true] at he
  have e : y = x := Prod.ext (same_eq he.1) (same_eq he.2)
  exact e ▸ hy
noncomputable def rootStep (x : List Lt × List Lt) : Bool :=
  match x.2 with
  | [] => true
  | c :: r => match goF 60 x.1 [c] with
    | some R' => inR (R', r)
    | none => false
theorem roots_step : roots.all rootStep = true := by decide +kernel
theorem roots_walk : ∀ (r R : List Lt), (R, r) ∈ roots → ∀ k, k ≤ r.length → ∃ R', Red R (r.take k) R' ∧ (R', r.drop k) ∈ roots
  | r, R, h, 0, _ => ⟨R, by simpa using Red.nil R, by simpa using h⟩
  | [], R, h, k + 1, hk => by
    rw [List.length_nil] at hk
    omega
  | x :: r, R, h, k + 1, hk => by
    have h1 := List.all_eq_true.mp roots_step _ h
    unfold rootStep at h1
    dsimp only at h1
    cases hg : goF 60 R [x] with
    | none => rw [hg] at h1; cases h1
    | some R' =>
      rw [hg] at h1
      obtain ⟨R2, h2, h3⟩ := roots_walk r R' (inR_ok h1) k (by rw [List.length_cons] at hk; omega)
      exact ⟨R2, Red.trans (P := [x]) (goF_red hg) h2, h3⟩
noncomputable def allL : List Lt := [.a, .A, .b, .B]
theorem allL_mem (l : Lt) : l ∈ allL := by cases l <;> decide
noncomputable def wordOk (x y z : Lt) : Bool := match goF 60 [] [z.other, y.other, x.other] with
  | some R => inR (R, [x, y, z])
  | none => false
theorem words_ok : (allL.all fun x => allL.all fun y => allL.all fun z => wordOk x y z) = true := by decide +kernel
theorem word_root (x y z : Lt) : ∃ R, Red [] [z.other, y.other, x.other] R ∧ (R, [x, y, z]) ∈ roots := by
  have h := List.all_eq_true.mp (List.all_eq_true.mp (List.all_eq_true.mp words_ok x (allL_mem x)) y (allL_mem y)) z (allL_mem z)
  unfold wordOk at h
  cases hg : goF 60 [] [z.other, y.other, x.other] with
  | none => rw [hg] at h; cases h
  | some R =>
    rw [hg] at h
    exact ⟨R, goF_red hg, inR_ok h⟩
theorem all_parts {α : Type} (f : α → Bool) (l : List α) (k : Nat) (h1 : (l.take k).all f = true) (h2 : (l.drop k).all f = true) : l.all f = true := by
  rw [← List.take_append_drop k l, List.all_append, h1, h2]
  rfl
noncomputable abbrev pcA : List (List Lt × Nat) := [([.a], 1), ([.b], 1), ([.a, .b, .a, .B, .A, .B], 0), ([.b, .a, .b, .A, .B, .A], 0)]
noncomputable abbrev pcB : List (List Lt × Nat) := [([.A], 1), ([.B], 1), ([.a, .b, .a, .B, .A, .B], 0), ([.b, .a, .b, .A, .B, .A], 0)]
theorem hereA : roots.all (here .A pcA) = true := by
  refine all_parts _ _ 12 hereA_0 (all_parts _ _ 12 ?_ ?_)
  · exact hereA_1
  rw [List.drop_drop]
  refine all_parts _ _ 12 hereA_2 (all_parts _ _ 12 ?_ ?_)
  · rw [List.drop_drop]; exact hereA_3
  rw [List.drop_drop, List.drop_drop]
  refine all_parts _ _ 12 hereA_4 (all_parts _ _ 12 ?_ ?_)
  · rw [List.drop_drop]; exact hereA_5
  rw [List.drop_drop, List.drop_drop]
  refine all_parts _ _ 12 hereA_6 (all_parts _ _ 12 ?_ ?_)
  · rw [List.drop_drop]; exact hereA_7
  rfl
theorem hereB : roots.all (here .a pcB) = true := by
  refine all_parts _ _ 12 hereB_0 (all_parts _ _ 12 ?_ ?_)
  · exact hereB_1
  rw [List.drop_drop]
  refine all_parts _ _ 12 hereB_2 (all_parts _ _ 12 ?_ ?_)
  · rw [List.drop_drop]; exact hereB_3
  rw [List.drop_drop, List.drop_drop]
  refine all_parts _ _ 12 hereB_4 (all_parts _ _ 12 ?_ ?_)
  · rw [List.drop_drop]; exact hereB_5
  rw [List.drop_drop, List.drop_drop]
  refine all_parts _ _ 12 hereB_6 (all_parts _ _ 12 ?_ ?_)
  · rw [List.drop_drop]; exact hereB_7
  rfl
/-- a piece of the ones that the fourth number gives, with how many lone letters -/
theorem pcs_get (d : Int) (k : Nat) (hk : k < 4) : ((piecesL d).getD k [], if k < 2 then 1 else 0) ∈ (if Int.fmod d 2 = 0 then pcA else pcB) := by
  unfold piecesL
  have : k = 0 ∨ k = 1 ∨ k = 2 ∨ k = 3 := by omega
  by_cases h : Int.fmod d 2 = 0
  · rw [if_pos h, if_pos h]
    rcases this with rfl | rfl | rfl | rfl <;> simp
  · rw [if_neg h, if_neg h]
    rcases this with rfl | rfl | rfl | rfl <;> simp
theorem here_all (d : Int) : roots.all (here (sizeL d).other (if Int.fmod d 2 = 0 then pcA else pcB)) = true := by
  unfold sizeL
  by_cases h : Int.fmod d 2 = 0
  · rw [if_pos h, if_pos h]
    exact hereA
  · rw [if_neg h, if_neg h]
    exact hereB
/-- two pieces, the second one behind the first one's beginning -/
theorem two_pieces {bad : Lt} {pcs : List (List Lt × Nat)} (hh : roots.all (here bad pcs) = true) (x y z : Lt) (p q : List Lt × Nat) (hp : p ∈ pcs) (hq : q ∈ pcs) (k j : Nat) (hk : k ≤ 3) (hj : j ≤ (p.1 ++ [x, y, z].drop k).length) :
    Fin5 bad [] ([z.other, y.other, x.other] ++ ([x, y, z].take k ++ ((p.1 ++ [x, y, z].drop k).take j ++ (q.1 ++ (p.1 ++ [x, y, z].drop k).drop j)))) (p.2 + q.2) := by
  obtain ⟨R, hR, hr⟩ := word_root x y z
  obtain ⟨R', hR', hr'⟩ := roots_walk _ R hr k hk
  have h1 := List.all_eq_true.mp hh _ hr'
  unfold here at h1
  have h2 := List.all_eq_true.mp h1 p hp
  exact Fin5.pre hR (Fin5.pre hR' (chk1_ok _ _ h2 j hj q hq))
theorem expo_app (l m : List Lt) : expo (l ++ m) = expo l + expo m := by
  unfold expo cnt
  simp only [List.countP_append]
  omega
theorem expo_other (l : List Lt) : expo (l.map Lt.other) = - expo l := by
  induction l with
  | nil => rfl
  | cons x r ih =>
    have h1 := expo_app [x.other] (r.map Lt.other)
    have h2 := expo_app [x] r
    have h3 : expo [x.other] = - expo [x] := by cases x <;> decide
    rw [List.map_cons]
    show expo ([x.other] ++ r.map Lt.other) = - expo ([x] ++ r)
    omega
theorem expo_rev (l : List Lt) : expo l.reverse = expo l := by
  unfold expo cnt
  simp only [List.countP_reverse]
theorem expo_piece (d : Int) (k : Nat) (hk : k < 4) : expo ((piecesL d).getD k []) = (1 - Int.fmod d 2 * 2) * ((if k < 2 then 1 else 0 : Nat) : Int) := by
  have hm0 := Int.fmod_nonneg_of_pos d (b := 2) (by decide)
  have hm1 := Int.fmod_lt_of_pos d (b := 2) (by decide)
  have : k = 0 ∨ k = 1 ∨ k = 2 ∨ k = 3 := by omega
  unfold piecesL
  by_cases h : Int.fmod d 2 = 0
  · rw [if_pos h, h]
    rcases this with rfl | rfl | rfl | rfl <;> decide
  · rw [if_neg h, show Int.fmod d 2 = 1 by omega]
    rcases this with rfl | rfl | rfl | rfl <;> decide
theorem insP_eq (pcs : List (List Lt)) (lat : List Lt) (cell : Int) : ∃ k ≤ lat.length, insP pcs lat cell = lat.take k ++ (pcs.getD (Int.fmod cell 4).toNat [] ++ lat.drop k) := by
  have h0 := Int.fmod_nonneg_of_pos (Int.fdiv cell 4) (b := (lat.length : Int) + 1) (by omega)
  have h1 := Int.fmod_lt_of_pos (Int.fdiv cell 4) (b := (lat.length : Int) + 1) (by omega)
  exact ⟨_, by omega, rfl⟩
theorem expo_ins {lat p : List Lt} {k : Nat} : expo (lat.take k ++ (p ++ lat.drop k)) = expo lat + expo p := by
  have h := expo_app (lat.take k) (lat.drop k)
  rw [List.take_append_drop] at h
  rw [expo_app, expo_app]
  omega
theorem len_ins {lat p : List Lt} {k : Nat} : (lat.take k ++ (p ++ lat.drop k)).length = lat.length + p.length := by
  have h := congrArg List.length (List.take_append_drop k lat)
  rw [List.length_append] at h
  simp only [List.length_append]
  omega
theorem lone_k (b : Int) : (if (Int.fmod b 4).toNat < 2 then 1 else 0 : Nat) = if Int.fmod b 4 < 2 then 1 else 0 := by
  have h0 := Int.fmod_nonneg_of_pos b (b := 4) (by decide)
  by_cases h : Int.fmod b 4 < 2
  · rw [if_pos h, if_pos (by omega)]
  · rw [if_neg h, if_neg (by omega)]
theorem fin_later (d : Int) (x y z : Lt) (pk qk k1 k2 : Nat) (hp : pk < 4) (hq : qk < 4) (h1 : k1 ≤ 3)
    (h2 : k2 ≤ ([x, y, z].take k1 ++ ((piecesL d).getD pk [] ++ [x, y, z].drop k1)).length) :
    Fin5 (sizeL d).other [] ([z.other, y.other, x.other] ++ (([x, y, z].take k1 ++ ((piecesL d).getD pk [] ++ [x, y, z].drop k1)).take k2 ++ ((piecesL d).getD qk [] ++ ([x, y, z].take k1 ++ ((piecesL d).getD pk [] ++ [x, y, z].drop k1)).drop k2)))
      ((if pk < 2 then 1 else 0) + (if qk < 2 then 1 else 0)) := by
  have hP := pcs_get d pk hp
  have hQ := pcs_get d qk hq
  have hh := here_all d
  generalize (piecesL d).getD pk [] = p at *
  generalize (piecesL d).getD qk [] = q at *
  have hw : ([x, y, z] : List Lt).length = 3 := rfl
  generalize hwd : ([x, y, z] : List Lt) = wd at *
  have hl : (wd.take k1).length = k1 := by rw [List.length_take]; omega
  by_cases hk : k1 ≤ k2
  · have h := two_pieces hh x y z (p, _) (q, _) hP hQ k1 (k2 - k1) h1 (by
      rw [hwd]
      simp only [List.length_append, List.length_take, List.length_drop] at h2 ⊢
      omega)
    rw [hwd] at h
    have e1 : (wd.take k1 ++ (p ++ wd.drop k1)).take k2 = wd.take k1 ++ (p ++ wd.drop k1).take (k2 - k1) := by
      rw [List.take_append, hl, List.take_of_length_le (by omega)]
    have e2 : (wd.take k1 ++ (p ++ wd.drop k1)).drop k2 = (p ++ wd.drop k1).drop (k2 - k1) := by
      rw [List.drop_append, hl, List.drop_eq_nil_of_le (by omega), List.nil_append]
    rw [e1, e2, List.append_assoc]
    exact h
  · have h := two_pieces hh x y z (q, _) (p, _) hQ hP k2 (q.length + (k1 - k2)) (by omega) (by
      rw [hwd]
      simp only [List.length_append, List.length_drop]
      omega)
    rw [hwd] at h
    dsimp only at h
    have e1 : (wd.take k1 ++ (p ++ wd.drop k1)).take k2 = wd.take k2 := by
      rw [List.take_append_of_le_length (by omega), List.take_take, Nat.min_eq_left (by omega)]
    have e2 : (wd.take k1 ++ (p ++ wd.drop k1)).drop k2 = (wd.drop k2).take (k1 - k2) ++ (p ++ wd.drop k1) := by
      rw [List.drop_append_of_le_length (by omega), List.drop_take]
    have e3 : (q ++ wd.drop k2).take (q.length + (k1 - k2)) = q ++ (wd.drop k2).take (k1 - k2) := by
      rw [List.take_length_add_append]
    have e4 : (q ++ wd.drop k2).drop (q.length + (k1 - k2)) = wd.drop k1 := by
      rw [List.drop_length_add_append, List.drop_drop, show k2 + (k1 - k2) = k1 by omega]
    rw [e3, e4] at h
    rw [e1, e2, Nat.add_comm]
    simpa [List.append_assoc] using h
theorem plain_law (a b c d : Int) : PL b c d (wordL a 3) (latL (piecesL d) (wordL a 3) [b, c] 2) := by
  obtain ⟨x, y, z, hw⟩ : ∃ x y z, wordL a 3 = [x, y, z] := ⟨_, _, _, rfl⟩
  rw [hw]
  have hb0 := Int.fmod_nonneg_of_pos b (b := 4) (by decide)
  have hb1 := Int.fmod_lt_of_pos b (b := 4) (by decide)
  have hc0 := Int.fmod_nonneg_of_pos c (b := 4) (by decide)
  have hc1 := Int.fmod_lt_of_pos c (b := 4) (by decide)
  have el : latL (piecesL d) [x, y, z] [b, c] 2 = insP (piecesL d) (insP (piecesL d) [x, y, z] b) c := rfl
  obtain ⟨k1, hk1, e1⟩ := insP_eq (piecesL d) [x, y, z] b
  obtain ⟨k2, hk2, e2⟩ := insP_eq (piecesL d) (insP (piecesL d) [x, y, z] b) c
  have hp6 := piece_le d (Int.fmod b 4).toNat
  have hq6 := piece_le d (Int.fmod c 4).toNat
  have hexP := expo_piece d (Int.fmod b 4).toNat (by omega)
  have hexQ := expo_piece d (Int.fmod c 4).toNat (by omega)
  rw [lone_k] at hexP hexQ
  rw [el, e2]
  rw [e1] at hk2 ⊢
  have hf := fin_later d x y z (Int.fmod b 4).toNat (Int.fmod c 4).toNat k1 k2 (by omega) (by omega) hk1 hk2
  rw [lone_k, lone_k] at hf
  generalize (piecesL d).getD (Int.fmod b 4).toNat [] = p at *
  generalize (piecesL d).getD (Int.fmod c 4).toNat [] = q at *
  refine ⟨rfl, ?_, ?_⟩
  · rw [len_ins, len_ins]
    simp only [List.length_cons, List.length_nil]
    omega
  · obtain ⟨R', hR, h3, h4⟩ := hf
    have hpl : plaitL [x, y, z] (([x, y, z].take k1 ++ (p ++ [x, y, z].drop k1)).take k2 ++ (q ++ ([x, y, z].take k1 ++ (p ++ [x, y, z].drop k1)).drop k2)) = [z.other, y.other, x.other] ++ (([x, y, z].take k1 ++ (p ++ [x, y, z].drop k1)).take k2 ++ (q ++ ([x, y, z].take k1 ++ (p ++ [x, y, z].drop k1)).drop k2)) := rfl
    rw [hpl]
    have hmat := Red.inv matS mat_inv mat_handle hR (1, 0, 0, 1)
    have hsum := Red.inv addS sum_inv sum_handle hR 0
    rw [expo_fold, expo_fold, Int.zero_add, Int.zero_add] at hsum
    obtain ⟨N, hN⟩ := hR
    refine ⟨N, R'.reverse, ?_, hmat, ?_, ?_, ?_⟩
    · have := iterR_eq N [] ([z.other, y.other, x.other] ++ (([x, y, z].take k1 ++ (p ++ [x, y, z].drop k1)).take k2 ++ (q ++ ([x, y, z].take k1 ++ (p ++ [x, y, z].drop k1)).drop k2)))
      rw [hN] at this
      exact this
    · rw [hsum, expo_app, expo_ins, expo_ins]
      have e5 : expo [z.other, y.other, x.other] = - expo [x, y, z] := by
        have := expo_other ([x, y, z] : List Lt).reverse
        rw [expo_rev] at this
        exact this
      rw [e5, hexP, hexQ]
      unfold loneN
      rw [Int.natCast_add, Int.mul_add]
      omega
    · intro h0
      rw [h3 h0]
      rfl
    · intro h0 l hl
      exact h4 h0 l (by simpa using hl)
/-- a text of signs -/
noncomputable def tS (l : List Nat) : Str := ⟨l.toArray⟩
theorem tS_app (a b : List Nat) : tS a ++ tS b = tS (a ++ b) := by
  show Str.append (tS a) (tS b) = _
  unfold tS Str.append
  simp
theorem tS_sg (w : List Lt) : sgS w = tS (w.map Lt.code) := rfl
theorem tS_len (l : List Nat) : (tS l).length = l.length := by simp [tS, Str.length]
theorem tS_cps (l : List Nat) : (tS l).cps.toList = l := by simp [tS]
/-- the word's signs, a backslash between them -/
noncomputable def jb : List Lt → List Nat
  | [] => []
  | x :: r => x.code :: r.flatMap fun l => [92, l.code]
theorem glue_fold : ∀ (r : List Lt) (acc : Array Nat), (((r.map fun l => (⟨#[l.code]⟩ : Str)).foldl (fun acc p => acc ++ (Str.ofString "\\").cps ++ p.cps) acc)).toList = acc.toList ++ r.flatMap fun l => [92, l.code]
  | [], acc => by simp
  | x :: r, acc => by
    rw [List.map_cons, List.foldl_cons, glue_fold r]
    have e : (Str.ofString "\\").cps = #[92] := by decide +kernel
    rw [e]
    simp
theorem join_jb (w : List Lt) : Txt.join (Str.ofString "\\") (signs (sgS w)) = tS (jb w) := by
  have e : signs (sgS w) = w.map fun l => (⟨#[l.code]⟩ : Str) := by
    unfold signs sgS
    simp [Function.comp_def]
  rw [e]
  unfold Txt.join Builtin.Str.glued
  cases w with
  | nil => rfl
  | cons x r =>
    have h := glue_fold r #[x.code]
    unfold tS
    congr 1
    apply Array.toList_inj.mp
    exact h
theorem jb_len (w : List Lt) : (jb w).length ≤ 2 * w.length := by
  cases w with
  | nil => simp [jb]
  | cons x r =>
    have e : ∀ r : List Lt, (r.flatMap fun l => [92, l.code]).length = 2 * r.length := by
      intro r
      induction r with
      | nil => rfl
      | cons y r ih =>
        rw [List.flatMap_cons, List.length_append, ih]
        simp only [List.length_cons, List.length_nil]
        omega
    rw [jb, List.length_cons, e, List.length_cons]
    omega
/-- what stands behind the later word -/
noncomputable def tailT : List Nat := [13, 9, 32, 10, 46, 92, 32, 92, 34, 92, 92, 34, 32, 34, 92, 34, 32, 120]
noncomputable def textT (word later : List Lt) : List Nat := (((34 :: jb word) ++ [34, 92]) ++ jb later) ++ tailT
theorem tx_q : Str.ofString "\"" = tS [34] := by decide +kernel
theorem tx_qb : Str.ofString "\"\\" = tS [34, 92] := by decide +kernel
theorem tx_tail : Str.ofString "\r\t \n.\\ \\\"\\\\\" \"\\\" x" = tS tailT := by decide +kernel
theorem code_lt (l : Lt) : l.code < 128 := by cases l <;> decide
theorem jb_lt (w : List Lt) : ∀ x ∈ jb w, x < 128 := by
  intro x hx
  cases w with
  | nil => cases hx
  | cons y r =>
    rcases List.mem_cons.mp hx with rfl | hx
    · exact code_lt y
    · obtain ⟨l, _, hx⟩ := List.mem_flatMap.mp hx
      rcases List.mem_cons.mp hx with rfl | hx
      · decide
      · rw [List.mem_singleton.mp hx]
        exact code_lt l
theorem text_lt (word later : List Lt) : ∀ x ∈ textT word later, x < 128 := by
  intro x hx
  simp only [textT, List.mem_append, List.mem_cons] at hx
  rcases hx with ((hx | hx) | hx) | hx
  · rcases hx with rfl | hx
    · decide
    · exact jb_lt word x hx
  · rcases hx with rfl | rfl | hx
    · decide
    · decide
    · cases hx
  · exact jb_lt later x hx
  · have : ∀ y ∈ tailT, y < 128 := by decide
    exact this x hx
theorem text_ascii (word later : List Lt) : (tS (textT word later)).cps.all (· < 128) = true := by
  rw [Array.all_eq_true']
  intro x hx
  have : x ∈ textT word later := by simpa [tS] using hx
  simpa using text_lt word later x this
theorem text_len (word later : List Lt) : (textT word later).length ≤ 2 * word.length + 2 * later.length + 21 := by
  have h1 := jb_len word
  have h2 := jb_len later
  simp only [textT, List.length_append, List.length_cons, List.length_nil, tailT]
  omega
theorem plain_code (l : Lt) : isWs l.code = false ∧ l.code ≠ 34 ∧ l.code ≠ 92 ∧ l.code ≠ 10 := by cases l <;> decide
theorem inQ_jb : ∀ (r : List Lt) (acc R : List Nat), inQ acc ((r.flatMap fun l => [92, l.code]) ++ 34 :: R) = (acc ++ r.map Lt.code, R)
  | [], acc, R => by
    rw [List.flatMap_nil, List.nil_append, inQ_end, List.map_nil, List.append_nil]
  | x :: r, acc, R => by
    rw [List.flatMap_cons]
    show inQ acc (92 :: x.code :: ((r.flatMap fun l => [92, l.code]) ++ 34 :: R)) = _
    rw [inQ_b, inQ_jb r]
    simp
theorem inW_jb : ∀ (r : List Lt) (acc R : List Nat), inW acc ((r.flatMap fun l => [92, l.code]) ++ 13 :: R) = (acc ++ r.map Lt.code, R)
  | [], acc, R => by
    rw [List.flatMap_nil, List.nil_append, inW_ws (by decide), List.map_nil, List.append_nil]
  | x :: r, acc, R => by
    rw [List.flatMap_cons]
    show inW acc (92 :: x.code :: ((r.flatMap fun l => [92, l.code]) ++ 13 :: R)) = _
    rw [inW_b, inW_jb r]
    simp
/-- what is left behind the first word -/
noncomputable def rest1 (later : List Lt) : List Nat := 92 :: (jb later ++ tailT)
noncomputable def rest2 : List Nat := [9, 32, 10, 46, 92, 32, 92, 34, 92, 92, 34, 32, 34, 92, 34, 32, 120]
theorem lex_1 {word later : List Lt} (h : word ≠ []) : lexT (textT word later) = (word.map Lt.code, rest1 later) := by
  cases word with
  | nil => exact absurd rfl h
  | cons x r =>
    obtain ⟨_, h1, h2, _⟩ := plain_code x
    have e : textT (x :: r) later = 34 :: x.code :: ((r.flatMap fun l => [92, l.code]) ++ 34 :: rest1 later) := by simp [textT, jb, rest1]
    rw [e, lexT_q, inQ_o h1 h2, inQ_jb]
    simp
theorem lex_2 {later : List Lt} (h : later ≠ []) : lexT (rest1 later) = (later.map Lt.code, rest2) := by
  cases later with
  | nil => exact absurd rfl h
  | cons x r =>
    have e : rest1 (x :: r) = 92 :: x.code :: ((r.flatMap fun l => [92, l.code]) ++ 13 :: rest2) := by simp [rest1, jb, tailT, rest2]
    rw [e, lexT_b, inW_jb]
    simp
noncomputable def tok3 : List Nat := [46, 32, 34, 92, 34]
noncomputable def rest3 : List Nat := [34, 92, 34, 32, 120]
noncomputable def tok4 : List Nat := [34, 32, 120]
theorem lex_3 : lexT rest2 = (tok3, rest3) := by decide +kernel
theorem lex_4 : lexT rest3 = (tok4, []) := by decide +kernel
theorem lex_5 : lexT [] = ([], []) := by decide +kernel
theorem tx_3 : Str.ofString ". \"\\\"" = tS tok3 := by decide +kernel
theorem tx_4 : Str.ofString "\" x" = tS tok4 := by decide +kernel
theorem nls_jb (w : List Lt) : nls (jb w) = 0 := by
  unfold nls
  rw [List.countP_eq_zero]
  intro x hx
  cases w with
  | nil => cases hx
  | cons y r =>
    rcases List.mem_cons.mp hx with rfl | hx
    · simpa using (plain_code y).2.2.2
    · obtain ⟨l, _, hx⟩ := List.mem_flatMap.mp hx
      rcases List.mem_cons.mp hx with rfl | hx
      · decide
      · rw [List.mem_singleton.mp hx]
        simpa using (plain_code l).2.2.2
theorem nls_text (word later : List Lt) : nls (textT word later) = 1 := by
  have h1 := nls_jb word
  have h2 := nls_jb later
  unfold nls at *
  simp only [textT, List.countP_append, List.countP_cons, h1, h2]
  decide
section PartCompS
section
variable {prog : Program} {w : World} {A : Around} {E : Value → Shared → Prop} {s : Shared} {h₀ h h' : Heap} {L : Addr} {m : Str → Option Value} {env : Env}
/-- the front of a ledger is laid anew (or goes), what lies behind it stays -/
theorem led_front {fr fr' r : List (Addr × Obj)} (F : Fr h₀ L h m) (N : News h₀ L h (fr ++ r)) (e : ∀ p ∈ fr', p.1 ∈ fr.map Prod.fst) (off : ∀ p ∈ r, p.1 ∉ fr.map Prod.fst)
    (hk : ∀ b o, b ∉ fr.map Prod.fst → h.get? b = some o → h'.get? b = some o) (hf : ∀ p ∈ fr', h'.get? p.1 = some p.2) : Fr h₀ L h' m ∧ News h₀ L h' (fr' ++ r) := by
  have own : ∀ a, a ∈ fr.map Prod.fst → a ≠ L ∧ h₀.get? a = none := fun a ha => by
    obtain ⟨p, hp, rfl⟩ := List.mem_map.mp ha
    exact (N p (List.mem_append_left r hp)).2
  refine ⟨⟨F.ns.at' fun o x => hk L o (fun q => (own L q).1 rfl) x, fun b o x => hk b o (fun q => ?_) (F.keep b o x), F.above⟩, fun p hp => ?_⟩
  · rw [(own b q).2] at x
    cases x
  · rcases List.mem_append.mp hp with q | q
    · exact ⟨hf p q, own p.1 (e p q)⟩
    · exact ⟨hk _ _ (off p q) (N p (List.mem_append_right fr q)).1, (N p (List.mem_append_right fr q)).2⟩
/-- the list and the frame of a comprehension are laid above all that stands -/
theorem comp_lay {lc : Expr} {scope : Scope} {cl : List (Str × Addr)} {it : Value} {news : List (Addr × Obj)} {RR : Value → Addr → Result → Shared → Prop} (hcell : ∀ y ∈ scope.names, y.2 ≠ .cell) (hkind : scope.kind = .function)
    (F : Fr h₀ L s.heap m) (N : News h₀ L s.heap news)
    (go : ∀ C D g oC mC, s.heap.objs.size = D → D + 1 = C → (∀ b o, s.heap.get? b = some o → g.get? b = some o) → LCg.NsObj oC mC → Fr h₀ L g m → News h₀ L g ((C, oC) :: (D, LCg.lst []) :: news) →
      codeAny (model prog w) A (.compStart lc 0 it (.ref D) (compEnvC scope cl C env)) (RR (.ref D) C) { s with heap := g }) :
    wpAny (model prog w) A (newList []) (fun acc s₃ => wpAny (model prog w) A (newFunctionEnv scope env.globals cl [] env.qual none .none (some env)) (fun cenv s₄ =>
      codeAny (model prog w) A (.compStart lc 0 it acc { cenv with scope := relabel scope env }) (RR acc cenv.locals) s₄) E s₃) E s := by
  refine wpAny_newObj_type (wpAny_newFunctionEnv hcell (fun _ hy => nomatch hy) (fun g hn hs => ?_) hkind)
  obtain ⟨oC, eC, pC⟩ := LCg.ns_obj hn
  have FD := F.push (LCg.lst [])
  have lt : s.heap.objs.size < (s.heap.push (LCg.lst [])).objs.size := by rw [Heap.size_push]; exact Nat.lt_succ_self _
  have up : ∀ b o, b < (s.heap.push (LCg.lst [])).objs.size → (s.heap.push (LCg.lst [])).get? b = some o → g.get? b = some o := fun b o l e => hs.extBut b o (Nat.ne_of_lt l) (Heap.get?_push_of_some _ e)
  have top : ∀ b o, s.heap.get? b = some o → g.get? b = some o := fun b o e => up b o (Nat.lt_trans (Heap.lt_size e) lt) (Heap.get?_push_of_some _ e)
  refine go _ _ g oC _ rfl (Heap.size_push _ _).symm top pC (F.keeps top) fun p hp => ?_
  rcases List.mem_cons.mp hp with rfl | hp
  · exact ⟨eC, Nat.ne_of_gt FD.ns.lt, next_is_new FD⟩
  · rcases List.mem_cons.mp hp with rfl | hp
    · exact ⟨up _ _ lt (Heap.get?_push_size _ rfl), Nat.ne_of_gt F.ns.lt, next_is_new F⟩
    · exact ⟨top _ _ (N p hp).1, (N p hp).2⟩
/-- the frame of a comprehension goes -/
theorem comp_leave {C : Addr} {oC : Obj} {mC : Str → Option Value} {r : List (Addr × Obj)} (F : Fr h₀ L h m) (N : News h₀ L h ((C, oC) :: r)) (off : ∀ p ∈ r, p.1 ≠ C) (pC : LCg.NsObj oC mC) {P : Heap → Prop} (k : ∀ g, Fr h₀ L g m → News h₀ L g r → P g) :
    ∃ mC, h.Ns C mC ∧ ∀ g, Heap.SameBut C h g → P g :=
  ⟨mC, pC.ns (N (C, oC) List.mem_cons_self).1, fun g hs => k g (F.change hs (N (C, oC) List.mem_cons_self).2.1 (N (C, oC) List.mem_cons_self).2.2) fun p hp => ⟨hs.extBut _ _ (off p hp) (N p (List.mem_cons_of_mem _ hp)).1, (N p (List.mem_cons_of_mem _ hp)).2⟩⟩
/-- behind one element of a comprehension over a text -/
noncomputable def EltS (h₀ : Heap) (L : Addr) (m : Str → Option Value) (s₁ : Shared) (I : Addr) (oI : Obj) (C : Addr) (oC : Obj) (D : Addr) (oD : Obj) (J : Value → List (Addr × Obj) → Nat → Prop) (y : Value) (s₂ : Shared) : Prop :=
  ∃ h' tk nx, s₂ = { s₁ with heap := h', toks := tk } ∧ Fr h₀ L h' m ∧ News h₀ L h' ((I, oI) :: (C, oC) :: (D, oD) :: nx) ∧ LCg.Off3 I C D nx ∧ J y nx tk
inductive CompStr (prog : Program) (w : World) (A : Around) (h₀ : Heap) (L : Addr) (m : Str → Option Value) (env : Env) (elt : Expr) (x : Str) (scope : Scope) (cl : List (Str × Addr)) (Q : Value → Shared → Prop) (xv : Value) (s₁ : Shared) : Prop
  | mk (z : Str) (t : Tok) (news : List (Addr × Obj)) (J : Nat → List Value → List (Addr × Obj) → Nat → Prop)
    (c1 : xv = .str z t) (c2 : z.cps.all (· < 128) = true) (c3 : z.cps.size ≤ sizeLine) (c4 : A.handled = none) (c5 : Fr h₀ L s₁.heap m) (c6 : News h₀ L s₁.heap news) (c7 : J 0 [] news s₁.toks) (c8 : (∀ I oI C oC D m₂ i c ys nw h tk (E' : Value → Shared → Prop), z.cps[i]? = some c → J i ys nw tk → LCg.NsObj oC m₂ → m₂ x = some (.str ⟨#[c]⟩ tk) → Fr h₀ L h m → News h₀ L h ((I, oI) :: (C, oC) :: (D, LCg.lst ys) :: nw) → LCg.Off3 I C D nw → ((@Ne Nat I C) ∧ (@Ne Nat I D) ∧ (@Ne Nat C D)) →
      (∀ q ∈ news, q.1 < I) → I < D → D < C →
      wpAny (model prog w) A (eval elt (compEnvC scope cl C env)) (EltS h₀ L m { s₁ with heap := h, toks := tk + 1 + 1 } I oI C oC D (LCg.lst ys) (fun y nx tk' => J (i + 1) (ys ++ [y]) nx tk')) E' { s₁ with heap := h, toks := tk + 1 + 1 })) (c9 : (∀ D ys nw h tk, J z.cps.size ys nw tk → Fr h₀ L h m → News h₀ L h ((D, LCg.lst ys) :: nw) → LCg.Off1 D nw → Q (.ref D) { s₁ with heap := h, toks := tk })) : CompStr prog w A h₀ L m env elt x scope cl Q xv s₁
/-- what holds ahead of each turn over a text -/
inductive StrInv (h₀ : Heap) (L : Addr) (m : Str → Option Value) (z : Str) (t : Tok) (J : Nat → List Value → List (Addr × Obj) → Nat → Prop) (I C D : Addr) (g : Array GenState) (d : Drawn) (o : OsState) : Nat → Shared → Prop
  | mk (h : Heap) (tk i : Nat) (oI oC : Obj) (ys : List Value) (mC : Str → Option Value) (nw : List (Addr × Obj)) (hi : i ≤ z.cps.size) (hl : ys.length = i) (pI : oI.cls = .type "str_ascii_iterator" ∧ oI.data = .fields #[.str z t, .int i 0]) (pC : LCg.NsObj oC mC)
      (F : Fr h₀ L h m) (N : News h₀ L h ((I, oI) :: (C, oC) :: (D, LCg.lst ys) :: nw)) (off : LCg.Off3 I C D nw) (hJ : J i ys nw tk) : StrInv h₀ L m z t J I C D g d o (z.cps.size + 1 - i) ⟨h, g, d, tk, o⟩
theorem compS_loop {elt iter : Expr} {x : Str} {px : Pos} {scope : Scope} {cl : List (Str × Addr)} {pos : Pos} {R : Result → Shared → Prop} {z : Str} {t : Tok} {J : Nat → List Value → List (Addr × Obj) → Nat → Prop} {I C D : Addr} {n : Nat} {s₁ s₃ : Shared}
    (hkind : scope.kind = .function) (hx : scope.names.lookup x = some .local) (hh : A.handled = none) (hsz : z.cps.size ≤ sizeLine) (hID : I < D) (hDC : D < C)
    (turn : ∀ oI oC m₂ i c ys nw h tk (E' : Value → Shared → Prop), z.cps[i]? = some c → J i ys nw tk → LCg.NsObj oC m₂ → m₂ x = some (.str ⟨#[c]⟩ tk) → Fr h₀ L h m → News h₀ L h ((I, oI) :: (C, oC) :: (D, LCg.lst ys) :: nw) → LCg.Off3 I C D nw →
      wpAny (model prog w) A (eval elt (compEnvC scope cl C env)) (EltS h₀ L m { s₁ with heap := h, toks := tk + 1 + 1 } I oI C oC D (LCg.lst ys) (fun y nx tk' => J (i + 1) (ys ++ [y]) nx tk')) E' { s₁ with heap := h, toks := tk + 1 + 1 })
    (fin : ∀ ys nw oC mC h tk, J z.cps.size ys nw tk → Fr h₀ L h m → News h₀ L h ((C, oC) :: (D, LCg.lst ys) :: nw) → LCg.Off3 I C D nw → LCg.NsObj oC mC → R (.ok .next) { s₁ with heap := h, toks := tk })
    (h₃ : StrInv h₀ L m z t J I C D s₁.gens s₁.drawn s₁.os n s₃) :
      codeAny (model prog w) A (.compLoop (.ListComp elt [⟨.Name x px, iter, [], 0⟩] scope pos) 0 (.ref I) (.ref D) (compEnvC scope cl C env)) R s₃ := by
  have nIC : I ≠ C := Nat.ne_of_lt (Nat.lt_trans hID hDC)
  have nID : I ≠ D := Nat.ne_of_lt hID
  have nCD : C ≠ D := Nat.ne_of_gt hDC
  refine codeAny_compLoop_tests (StrInv h₀ L m z t J I C D s₁.gens s₁.drawn s₁.os) ?_ n h₃
  rintro _ _ ⟨h, tk, i, oI, oC, ys, mC, nw, hi, hl, pI, pC, F, N, off, hJ⟩
  have eC := (N (C, oC) (List.mem_cons_of_mem _ List.mem_cons_self)).1
  have sI : h.IsStrIter I "str_ascii_iterator" z t i := ⟨oI, (N (I, oI) List.mem_cons_self).1, pI⟩
  have offM := off.mem
  cases hc : z.cps[i]? with
  | none =>
    obtain rfl : i = z.cps.size := Nat.le_antisymm hi (Array.getElem?_eq_none_iff.mp hc)
    refine wpAny_pyNext_ascii_end hh sI hc fun g ext => ?_
    obtain ⟨F₁, N₁⟩ := led_front (h' := g) (fr := [(I, oI)]) (fr' := []) (r := (C, oC) :: (D, LCg.lst ys) :: nw) F N (fun _ q => nomatch q) (by
      rintro p (_ | ⟨_, _ | ⟨_, q⟩⟩)
      · exact fun q => nIC (List.mem_singleton.mp q).symm
      · exact fun q => nID (List.mem_singleton.mp q).symm
      · exact fun r => (offM p q).1 (List.mem_singleton.mp r)) (fun b o q e => ext b o (fun r => q (List.mem_singleton.mpr r)) e) fun _ q => nomatch q
    exact fin ys nw oC mC g tk hJ F₁ N₁ off pC
  | some c =>
    refine wpAny_pyNext_ascii_item sI hc fun g₁ sI₁ but₁ => ?_
    refine wpAny_assign_Name (wpAny_storeName_local (lookup_relabel_local hx) (pC.ns (but₁.extBut C _ (Ne.symm nIC) eC)) (fun g₂ nC but₂ => ?_) (by simp [compEnvC, relabel, hkind]))
    refine wpAny_tests_nil ?_
    obtain ⟨oI₁, eI₁, pI₁⟩ := sI₁
    obtain ⟨oC₁, eC₁, pC₁⟩ := LCg.ns_obj nC
    obtain ⟨F₂, N₂⟩ := led_front (h' := g₂) (fr := [(I, oI), (C, oC)]) (fr' := [(I, oI₁), (C, oC₁)]) (r := (D, LCg.lst ys) :: nw) F N (by
      rintro p (_ | ⟨_, _ | ⟨_, q⟩⟩)
      · exact List.mem_cons_self
      · exact List.mem_cons_of_mem _ List.mem_cons_self
      · cases q) (by
      rintro p (_ | ⟨_, q⟩) (r | ⟨_, r | ⟨_, r⟩⟩)
      · exact nID rfl
      · exact nCD rfl
      · cases r
      · exact (offM _ q).1 rfl
      · exact (offM _ q).2.1 rfl
      · cases r) (fun b o q e => but₂.extBut b o (fun r => q (r ▸ List.mem_cons_of_mem _ List.mem_cons_self)) (but₁.extBut b o (fun r => q (r ▸ List.mem_cons_self)) e)) (by
      rintro p (_ | ⟨_, _ | ⟨_, q⟩⟩)
      · exact but₂.extBut _ _ nIC eI₁
      · exact eC₁
      · cases q)
    refine wpAny_mono (turn oI₁ oC₁ _ i c ys nw g₂ tk _ hc hJ pC₁ (if_pos rfl) F₂ N₂ off) (fun y _ q => ?_) fun _ _ e => e
    obtain ⟨g₃, tk₃, nx, rfl, F₃, N₃, off₃, hJ₃⟩ := q
    refine append_K (D := D) F₃ N₃ (.tail nID (.tail nCD (.head fun p q => (off₃.mem p q).2.2))) (fun g₄ F₄ N₄ => ?_) ?_
    · exact ⟨z.cps.size + 1 - (i + 1), Nat.sub_lt_sub_left (Nat.lt_succ_of_lt (Array.getElem?_eq_some_iff.mp hc).1) (Nat.lt_succ_self i),
        .mk g₄ tk₃ (i + 1) oI₁ oC₁ (ys ++ [y]) _ nx (Array.getElem?_eq_some_iff.mp hc).1 (by rw [List.length_append, hl]; rfl) pI₁ pC₁ F₄ (LCg.lst_snoc ys y ▸ N₄) off₃ hJ₃⟩
    · rw [List.size_toArray, hl]
      exact Nat.le_trans hi hsz
theorem ListComp_S {elt iter : Expr} {x : Str} {px : Pos} {scope : Scope} {cl : List (Str × Addr)} {pos : Pos} {Q : Value → Shared → Prop} (_F₀ : Fr h₀ L s.heap m)
    (hclos : closureFor scope env = pure cl) (hcell : ∀ y ∈ scope.names, y.2 ≠ .cell) (hkind : scope.kind = .function)
    (hnames : ∀ y ∈ scope.names, y.2 = .local → scope.names.lookup y.1 = some .local) (hx : scope.names.lookup x = some .local)
    (h : wpAny (model prog w) A (eval iter env) (CompStr prog w A h₀ L m env elt x scope cl Q) E s)
    (hs : ∀ x, foldedSetIterable iter env x = pure x := by intro _; rfl) :
    wpAny (model prog w) A (eval (.ListComp elt [⟨.Name x px, iter, [], 0⟩] scope pos) env) Q E s := by
  refine wpAny_comprehension_free (use := none) rfl hs hclos hkind hnames (wpAny_mono h (fun xv s₁ h₁ => ?_) fun _ _ e => e)
  obtain ⟨z, t, news, J, rfl, ha, hsz, hh, F, N, hj, turn, done⟩ := h₁
  refine wpAny_pyIter_ascii ha (comp_lay hcell hkind (F.push _) (N.grown fun _ _ e => Heap.get?_push_of_some _ e) fun C D g oC mC eD eC top pC F₁ N₁ => ?_)
  rw [Heap.size_push] at eD
  have lt : ∀ p ∈ news, p.1 < s₁.heap.objs.size := fun p hp => Heap.lt_size (N p hp).1
  have hID : s₁.heap.objs.size < D := eD ▸ Nat.lt_succ_self _
  have hDC : D < C := eC ▸ Nat.lt_succ_self _
  have eI := top _ _ (Heap.get?_push_size _ rfl)
  have loop := compS_loop (elt := elt) (iter := iter) (px := px) (cl := cl) (pos := pos) (env := env) (R := compPost (model prog w) A E none Q (.ref D) C) (s₁ := s₁) (t := t) hkind hx hh hsz hID hDC
    (fun oI oC m₂ i c ys nw h tk E' a1 a2 a3 a4 a5 a6 off => turn _ oI C oC D m₂ i c ys nw h tk E' a1 a2 a3 a4 a5 a6 off ⟨Nat.ne_of_lt (Nat.lt_trans hID hDC), Nat.ne_of_lt hID, Nat.ne_of_gt hDC⟩ lt hID hDC)
    (fun ys nw oC mC h tk a1 F₂ N₂ off pC => comp_leave F₂ N₂ (by
      rintro p (_ | ⟨_, q⟩)
      · exact Nat.ne_of_lt hDC
      · exact (off.mem p q).2.1) pC fun g F₃ N₃ => done D ys nw g tk a1 F₃ N₃ off.one)
    (.mk g s₁.toks 0 _ oC [] _ news (Nat.zero_le _) rfl ⟨rfl, rfl⟩ pC F₁ (by
      rintro p (_ | ⟨_, q⟩)
      · exact ⟨eI, Nat.ne_of_gt F.ns.lt, next_is_new F⟩
      · exact N₁ p q) (LCg.Off3.of fun p hp => ⟨Nat.ne_of_lt (lt p hp), Nat.ne_of_lt (Nat.lt_trans (lt p hp) (Nat.lt_trans hID hDC)), Nat.ne_of_lt (Nat.lt_trans (lt p hp) hID)⟩) hj)
  exact codeAny_compStart_list loop (wpAny_pyIter_striter_ascii ⟨_, eI, rfl, rfl⟩ loop)
end
end PartCompS
theorem sgS_list (w : List Lt) : (sgS w).cps.toList = w.map Lt.code := by simp [sgS]
theorem sgS_rev (w : List Lt) (u : Tok) : Txt.sliceBy (sgS w) none none (-1, u) = sgS w.reverse := by
  have h1 := PyProof.Rows.fold_front_eq_rev (sgS w) ⟨#[]⟩ rfl u
  have h2 := PyProof.Rows.fold_front_list (sgS w) ⟨#[]⟩ rfl
  rw [h1] at h2
  have e : (Txt.sliceBy (sgS w) none none (-1, u)).cps = (sgS w.reverse).cps := by
    apply Array.toList_inj.mp
    rw [h2, sgS_list, sgS_list, List.map_reverse]
  exact congrArg Str.mk e
/-- letters with their tokens -/
noncomputable abbrev ltV (xs : List (Lt × Tok)) : List Value := xs.map fun x => .str x.1.str x.2
theorem strs_lt : ∀ xs : List (Lt × Tok), StrsAre (ltV xs) (xs.map fun x => x.1.str)
  | [] => .nil
  | x :: r => .cons _ _ (strs_lt r)
theorem one_len (l : Lt) : l.str.length = 1 := by cases l <;> decide +kernel
theorem sum_one (xs : List (Lt × Tok)) : ((xs.map fun x => x.1.str).map (·.length)).sum = xs.length := by
  induction xs with
  | nil => rfl
  | cons x r ih =>
    simp only [List.map_cons, List.sum_cons, List.length_cons] at ih ⊢
    rw [ih, one_len]
    omega
theorem join_lts (xs : List Lt) : Txt.join (Str.ofString "") (xs.map fun l => l.str) = sgS xs := by
  have hf : ∀ (r : List Lt) (acc : Array Nat), ((r.map fun l => l.str).foldl (fun acc (p : Str) => acc ++ (Str.ofString "").cps ++ p.cps) acc).toList = acc.toList ++ r.map Lt.code := by
    intro r
    induction r with
    | nil => intro acc; simp
    | cons x r ih =>
      intro acc
      rw [List.map_cons, List.foldl_cons, ih]
      have e : (Str.ofString "").cps = #[] := by decide +kernel
      rw [e, str_cps]
      simp
  unfold Txt.join Builtin.Str.glued
  cases xs with
  | nil => rfl
  | cons x r =>
    have h := hf r x.str.cps
    unfold sgS
    congr 1
    apply Array.toList_inj.mp
    refine h.trans ?_
    rw [str_cps]
    rfl
theorem join_ltV {prog : Program} {w : World} {A : Around} {E : Value → Shared → Prop} {s : Shared} {Q : Value → Shared → Prop} {h₀ : Heap} {L D : Addr} {news : List (Addr × Obj)} {xs : List (Lt × Tok)} {k : Nat} {t : Tok} (N : News h₀ L s.heap news) (hm : (D, listOf (ltV xs).toArray k) ∈ news) (hz : xs.length ≤ 1000)
    (h : ∀ t' k, Q (.str (sgS (xs.map (·.1))) t') { s with toks := k }) : wpAny (model prog w) A (call (.builtin "str.join") [.str (Str.ofString "") t, .ref D]) Q E s := by
  refine join_list (ys := xs.map fun x => x.1.str) ⟨_, (N _ hm).1, rfl, k, rfl⟩ (strs_lt xs) ?_ ?_
  · rw [sum_one]
    have : (Str.ofString "").length = 0 := by decide +kernel
    rw [this]
    omega
  · intro t' k'
    have := h t' k'
    rw [← join_lts, List.map_map] at this
    exact this
theorem ltV_snoc (xs : List (Lt × Tok)) (l : Lt) (u : Tok) : ltV xs ++ [.str l.str u] = ltV (xs ++ [(l, u)]) := by
  unfold ltV
  rw [List.map_append]
  rfl
theorem plait_full {xs : List (Lt × Tok)} {wd lt : List Lt} (h : xs.map (·.1) = (wd.reverse.take (sgS wd.reverse).cps.size).map Lt.other) : sgS (xs.map (·.1)) ++ sgS lt = sgS (plaitL wd lt) := by
  rw [h, sgS_size, List.take_length, sgS_app]
  rfl
/-- the lexer made, with what is still to be read -/
inductive LexS (w : World) (h₀ : Heap) (L : Addr) (m : Str → Option Value) (c4 c3 c2 : Addr) (o4 o3 : Obj) (rem : List Nat) (s : Shared) (fl : Flow) (s' : Shared) : Prop
  | mk (lx dx P sx dsx Ps fr cr cl Lf : Addr) (fd : FuncData) (oc ocl oL : Obj) (vT : Array Value) (kL kP : Nat) (t1 t2 t3 t4 t5 t6 u1 u2 u3 u4 u5 u6 u7 : Tok) (cs : List Ch) (ln : Int) (h' : Heap) (tk : Nat)
    (e1 : fl = .next) (e2 : s' = { s with heap := h', toks := tk }) (R : RdOk w fr cr cl Lf fd oc ocl) (X : LexNe P dx lx sx dsx Lf fr cr cl [(287, tabObj vT), (c4, o4), (c3, o3), (c2, oL)]) (hL : oL.data = .cell (some (.ref lx))) (G : Good cs ln)
    (hcs : cs.map (·.c) = rem) (hln : ln + nls rem = 2) (F : Fr h₀ L h' m)
    (N : News h₀ L h' (lexLed w P dx lx sx dsx Ps Lf fr cr cl fd oc ocl #[] kP ln t1 t2 t3 t4 t5 t6 u1 u2 u3 u4 u5 u6 u7 cs kL [(287, tabObj vT), (c4, o4), (c3, o3), (c2, oL)])) : LexS w h₀ L m c4 c3 c2 o4 o3 rem s fl s'
theorem lex_s {w : World} {h₀ : Heap} {L : Addr} {m : Str → Option Value} {c4 c3 c2 : Addr} {o4 o3 : Obj} {rem : List Nat} {h : Heap} {g d o} {tk : Nat} {lx dx P sx dsx Ps fr cr cl Lf : Addr} {fd : FuncData} {oc ocl oL : Obj} {vT : Array Value} {kL kP : Nat} {t1 t2 t3 t4 t5 t6 u1 u2 u3 u4 u5 u6 u7 : Tok} {cs : List Ch} {ln : Int} {h' : Heap} {tk' : Nat} {nx : List (Addr × Obj)}
    (F : Fr h₀ L h' m) (N : News h₀ L h' nx) (R : RdOk w fr cr cl Lf fd oc ocl) (X : LexNe P dx lx sx dsx Lf fr cr cl [(287, tabObj vT), (c4, o4), (c3, o3), (c2, oL)]) (hL : oL.data = .cell (some (.ref lx))) (G : Good cs ln) (hcs : cs.map (·.c) = rem) (hln : ln + nls rem = 2)
    (hs : ∀ q ∈ lexLed w P dx lx sx dsx Ps Lf fr cr cl fd oc ocl #[] kP ln t1 t2 t3 t4 t5 t6 u1 u2 u3 u4 u5 u6 u7 cs kL [(287, tabObj vT), (c4, o4), (c3, o3), (c2, oL)], q ∈ nx) :
    LexS w h₀ L m c4 c3 c2 o4 o3 rem ⟨h, g, d, tk, o⟩ .next ⟨h', g, d, tk', o⟩ :=
  ⟨lx, dx, P, sx, dsx, Ps, fr, cr, cl, Lf, fd, oc, ocl, oL, vT, kL, kP, t1, t2, t3, t4, t5, t6, u1, u2, u3, u4, u5, u6, u7, cs, ln, h', tk', rfl, rfl, R, X, hL, G, hcs, hln, F, news_sub N hs⟩
theorem cut_lexN {prog : Program} {w : World} {h₀ : Heap} {L : Addr} {m : Str → Option Value} {c4 c3 c2 : Addr} {o4 o3 o2 : Obj} {x0 x1 x5 : Addr × Obj} {A : Around} {t : Sem Flow} {Q : Flow → Shared → Prop} {E : Value → Shared → Prop} {h : Heap} {g d o} {tk : Nat} (_F : Fr h₀ L h m) (_N : News h₀ L h [x0, (c4, o4), (c3, o3), (c2, o2), x1, x5]) (rem : List Nat)
    (h1 : wpAny (model prog w) A t (LexS w h₀ L m c4 c3 c2 o4 o3 rem ⟨h, g, d, tk, o⟩) E ⟨h, g, d, tk, o⟩)
    (h2 : ∀ (lx dx P sx dsx Ps fr cr cl Lf : Addr) (fd : FuncData) (oc ocl oL : Obj) (vT : Array Value) (kL kP : Nat) (t1 t2 t3 t4 t5 t6 u1 u2 u3 u4 u5 u6 u7 : Tok) (cs : List Ch) (ln : Int) (h' : Heap) (tk' : Nat),
      tk ≤ tk' → RdOk w fr cr cl Lf fd oc ocl → LexNe P dx lx sx dsx Lf fr cr cl [(287, tabObj vT), (c4, o4), (c3, o3), (c2, oL)] → oL.data = .cell (some (.ref lx)) → Good cs ln → cs.map (·.c) = rem → ln + nls rem = 2 → Fr h₀ L h' m →
      News h₀ L h' (lexLed w P dx lx sx dsx Ps Lf fr cr cl fd oc ocl #[] kP ln t1 t2 t3 t4 t5 t6 u1 u2 u3 u4 u5 u6 u7 cs kL [(287, tabObj vT), (c4, o4), (c3, o3), (c2, oL)]) → Q .next ⟨h', g, d, tk', o⟩) : wpAny (model prog w) A t Q E ⟨h, g, d, tk, o⟩ :=
  wpAny_toksQ (wpAny_mono h1 (fun _ _ ⟨lx, dx, P, sx, dsx, Ps, fr, cr, cl, Lf, fd, oc, ocl, oL, vT, kL, kP, t1, t2, t3, t4, t5, t6, u1, u2, u3, u4, u5, u6, u7, cs, ln, h', tk', e1, e2, R, X, hL, G, hcs, hln, F', N'⟩ => by
    subst e1; subst e2
    exact fun le => h2 lx dx P sx dsx Ps fr cr cl Lf fd oc ocl oL vT kL kP t1 t2 t3 t4 t5 t6 u1 u2 u3 u4 u5 u6 u7 cs ln h' tk' le R X hL G hcs hln F' N') fun _ _ e => e)
theorem cut_lexL {prog : Program} {w : World} {h₀ : Heap} {L : Addr} {m : Str → Option Value} {c4 c3 c2 : Addr} {o4 o3 o2 : Obj} {x1 x2 x3 x4 x5 x6 x7 x8 x9 x0 : Addr × Obj} {A : Around} {t : Sem Flow} {Q : Flow → Shared → Prop} {E : Value → Shared → Prop} {h : Heap} {g d o} {tk : Nat} (_F : Fr h₀ L h m) (_N : News h₀ L h [x1, x2, x3, x4, x5, x6, x7, x8, x9, x0, (c4, o4), (c3, o3), (c2, o2)]) (rem : List Nat)
    (h1 : wpAny (model prog w) A t (LexS w h₀ L m c4 c3 c2 o4 o3 rem ⟨h, g, d, tk, o⟩) E ⟨h, g, d, tk, o⟩)
    (h2 : ∀ (lx dx P sx dsx Ps fr cr cl Lf : Addr) (fd : FuncData) (oc ocl oL : Obj) (vT : Array Value) (kL kP : Nat) (t1 t2 t3 t4 t5 t6 u1 u2 u3 u4 u5 u6 u7 : Tok) (cs : List Ch) (ln : Int) (h' : Heap) (tk' : Nat),
      tk ≤ tk' → RdOk w fr cr cl Lf fd oc ocl → LexNe P dx lx sx dsx Lf fr cr cl [(287, tabObj vT), (c4, o4), (c3, o3), (c2, oL)] → oL.data = .cell (some (.ref lx)) → Good cs ln → cs.map (·.c) = rem → ln + nls rem = 2 → Fr h₀ L h' m →
      News h₀ L h' (lexLed w P dx lx sx dsx Ps Lf fr cr cl fd oc ocl #[] kP ln t1 t2 t3 t4 t5 t6 u1 u2 u3 u4 u5 u6 u7 cs kL [(287, tabObj vT), (c4, o4), (c3, o3), (c2, oL)]) → Q .next ⟨h', g, d, tk', o⟩) : wpAny (model prog w) A t Q E ⟨h, g, d, tk, o⟩ :=
  wpAny_toksQ (wpAny_mono h1 (fun _ _ ⟨lx, dx, P, sx, dsx, Ps, fr, cr, cl, Lf, fd, oc, ocl, oL, vT, kL, kP, t1, t2, t3, t4, t5, t6, u1, u2, u3, u4, u5, u6, u7, cs, ln, h', tk', e1, e2, R, X, hL, G, hcs, hln, F', N'⟩ => by
    subst e1; subst e2
    exact fun le => h2 lx dx P sx dsx Ps fr cr cl Lf fd oc ocl oL vT kL kP t1 t2 t3 t4 t5 t6 u1 u2 u3 u4 u5 u6 u7 cs ln h' tk' le R X hL G hcs hln F' N') fun _ _ e => e)
theorem lex_offP {w : World} {P dx lx sx dsx Ps Lf fr cr cl : Addr} {fd : FuncData} {oc ocl : Obj} {kL : Nat} {ln : Int} {t1 t2 t3 t4 t5 t6 u1 u2 u3 u4 u5 u6 u7 : Tok} {cs : List Ch} {rest : List (Addr × Obj)} (X : LexNe P dx lx sx dsx Lf fr cr cl rest) :
    ∀ q ∈ (dx, dictOf (lexD w ln (.ref sx) P t1 t2 t3 t4 t5 t6) 4) :: (lx, instObj 76 dx) :: (sx, instObj 76 dsx) :: (dsx, dictOf (strD w Ps fr u1 u2 u3 u4 u5 u6 u7) 5) :: (Lf, listOf (chV cs).toArray kL) :: (fr, fnO fd) :: (cr, oc) :: (cl, ocl) :: rest, q.1 ≠ P := by
  obtain ⟨h1, h2, h3, h4, h5, h6, h7, h8⟩ := X.Q
  intro q hq
  simp only [List.mem_cons] at hq
  rcases hq with rfl | rfl | rfl | rfl | rfl | rfl | rfl | rfl | hq
  · exact h1
  · exact h3
  · exact h4
  · exact h5
  · exact h2
  · exact h6
  · exact h7
  · exact h8
  · exact X.rP q hq
/-- letters were laid in the line -/
structure GotLn (h₀ : Heap) (L : Addr) (m : Str → Option Value) (f : List Value → Nat → List (Addr × Obj)) (ls : List Lt) (s : Shared) (fl : Flow) (s' : Shared) : Prop where
  ex : ∃ (ln : List Ln) (k : Nat) (h' : Heap) (tk : Nat), fl = .next ∧ s' = { s with heap := h', toks := tk } ∧ ln.map (·.l) = ls ∧ (∀ x ∈ ln, 0 < x.t ∧ x.t < tk) ∧ Fr h₀ L h' m ∧ News h₀ L h' (f (lnV ln) k)
theorem got_ln {h₀ : Heap} {L : Addr} {m : Str → Option Value} {f : List Value → Nat → List (Addr × Obj)} {ls : List Lt} {h h' : Heap} {g d o} {tk tk' k : Nat} (ln : List Ln) {nx : List (Addr × Obj)} (F : Fr h₀ L h' m) (N : News h₀ L h' nx) (hs : ∀ q ∈ f (lnV ln) k, q ∈ nx) (e : ln.map (·.l) = ls) (ht : ∀ x ∈ ln, 0 < x.t ∧ x.t < tk') :
    GotLn h₀ L m f ls ⟨h, g, d, tk, o⟩ .next ⟨h', g, d, tk', o⟩ := ⟨ln, k, h', tk', rfl, rfl, e, ht, F, news_sub N hs⟩
theorem cut_ln {M : Model} {A : Around} {t : Sem Flow} {Q : Flow → Shared → Prop} {E : Value → Shared → Prop} {h : Heap} {g d o} {tk : Nat} {h₀ : Heap} {L : Addr} {m : Str → Option Value} (_F : Fr h₀ L h m) (f : List Value → Nat → List (Addr × Obj)) {pv : List Value} {k : Nat} (_N : News h₀ L h (f pv k)) (ls : List Lt)
    (h1 : wpAny M A t (GotLn h₀ L m f ls ⟨h, g, d, tk, o⟩) E ⟨h, g, d, tk, o⟩)
    (h2 : ∀ (ln : List Ln) k h' tk', tk ≤ tk' → ln.map (·.l) = ls → (∀ x ∈ ln, 0 < x.t ∧ x.t < tk') → Fr h₀ L h' m → News h₀ L h' (f (lnV ln) k) → Q .next ⟨h', g, d, tk', o⟩) : wpAny M A t Q E ⟨h, g, d, tk, o⟩ :=
  wpAny_toksQ (wpAny_mono h1 (fun _ _ ⟨ln, k, h', tk', e1, e2, e, ht, F', N'⟩ => by subst e1; subst e2; exact fun le => h2 ln k h' tk' le e ht F' N') fun _ _ e => e)
/-- the line in the ledger behind three others -/
theorem upd3 {P : Addr} {o o' : Obj} {x y z : Addr × Obj} {r : List (Addr × Obj)} (h1 : @Ne Nat x.1 P) (h2 : @Ne Nat y.1 P) (h3 : @Ne Nat z.1 P) (h : ∀ q ∈ r, q.1 ≠ P) : Upd P o o' (x :: y :: z :: (P, o) :: r) (x :: y :: z :: (P, o') :: r) :=
  .tail h1 (.tail h2 (.tail h3 (.head h)))
theorem rep_snoc (i : Nat) : List.replicate i Value.none ++ [Value.none] = List.replicate (i + 1) Value.none := by
  rw [← List.replicate_succ']
theorem at_none (i : Nat) : ∀ v ∈ List.replicate i Value.none, isAt v = true := fun v hv => by rw [List.eq_of_mem_replicate hv]; rfl
theorem flat_none (i : Nat) : (List.replicate i [Value.none]).flatten = List.replicate i Value.none := by
  induction i with
  | zero => rfl
  | succ i ih => rw [List.replicate_succ, List.flatten_cons, ih, List.replicate_succ]; rfl
section PartTold
structure GotSt (P : Heap → Nat → Prop) (s : Shared) (fl : Flow) (s' : Shared) : Prop where
  ex : ∃ (h' : Heap) (tk : Nat), fl = .next ∧ s' = { s with heap := h', toks := tk } ∧ P h' tk
theorem got_st {P : Heap → Nat → Prop} {h h' : Heap} {g d o} {tk tk' : Nat} (hP : P h' tk') : GotSt P ⟨h, g, d, tk, o⟩ .next ⟨h', g, d, tk', o⟩ := ⟨h', tk', rfl, rfl, hP⟩
/-- a statement told by what holds behind it -/
theorem cut_st {M : Model} {A : Around} {t : Sem Flow} {Q : Flow → Shared → Prop} {E : Value → Shared → Prop} {h : Heap} {g d o} {tk : Nat} (P : Heap → Nat → Prop)
    (h1 : wpAny M A t (GotSt P ⟨h, g, d, tk, o⟩) E ⟨h, g, d, tk, o⟩)
    (h2 : ∀ h' tk', tk ≤ tk' → P h' tk' → Q .next ⟨h', g, d, tk', o⟩) : wpAny M A t Q E ⟨h, g, d, tk, o⟩ :=
  wpAny_toksQ (wpAny_mono h1 (fun _ _ ⟨h', tk', e1, e2, hP⟩ => by subst e1; subst e2; exact fun le => h2 h' tk' le hP) fun _ _ e => e)
theorem cut_stF {M : Model} {A : Around} {t : Sem Flow} {Q : Flow → Shared → Prop} {E : Value → Shared → Prop} {h : Heap} {g d o} {tk : Nat} {h₀ : Heap} {L : Addr} {m : Str → Option Value} (_F : Fr h₀ L h m) (P : Heap → Addr → (Str → Option Value) → Heap → Nat → Prop)
    (h1 : wpAny M A t (GotSt (P h₀ L m) ⟨h, g, d, tk, o⟩) E ⟨h, g, d, tk, o⟩)
    (h2 : ∀ h' tk', tk ≤ tk' → P h₀ L m h' tk' → Q .next ⟨h', g, d, tk', o⟩) : wpAny M A t Q E ⟨h, g, d, tk, o⟩ := cut_st _ h1 h2
theorem off_obj {h₀ h : Heap} {L c : Addr} {o : Obj} {news : List (Addr × Obj)} (N : News h₀ L h news) (hm : (c, o) ∈ news) {q : Addr × Obj} (hq : q ∈ news) (hne : q.2 ≠ o) : q.1 ≠ c := fun e => by
  have h1 := (N q hq).1
  rw [e, (N _ hm).1] at h1
  exact hne (Option.some.inj h1).symm
theorem row_tup (rs : List Rw) : ∀ (k : Nat) (q : Addr × Obj), q ∈ rowL k rs → q.2.cls = .type "tuple" := by
  induction rs with
  | nil =>
    intro k q h
    cases h
  | cons r rs ih =>
    intro k q h
    rcases List.mem_cons.mp h with h | h
    · rw [h]
    · exact ih _ _ h
/-- the table's part of the ledger -/
noncomputable abbrev tabL (w : World) (tb dtb R : Addr) (th : Tok) (nd kR : Nat) (rs : List Rw) : List (Addr × Obj) := (tb, instObj 281 dtb) :: (dtb, dictOf (hdrD w th R) nd) :: (R, listOf (rowV rs).toArray kR) :: rowL 0 rs
theorem tab_in {w : World} {tb dtb R : Addr} {th : Tok} {nd kR : Nat} {rs : List Rw} {news : List (Addr × Obj)} (h : ∀ q ∈ tabL w tb dtb R th nd kR rs, q ∈ news) : TabIn w R dtb tb th nd kR rs news :=
  ⟨h _ (List.mem_cons_of_mem _ (List.mem_cons_of_mem _ List.mem_cons_self)), h _ (List.mem_cons_of_mem _ List.mem_cons_self), h _ List.mem_cons_self, fun q hq => h q (List.mem_cons_of_mem _ (List.mem_cons_of_mem _ (List.mem_cons_of_mem _ hq)))⟩
theorem perm_led {h₀ h : Heap} {L : Addr} {tb dtb R P dx lx sx dsx Lf fr cr cl t y4 y3 y2 : Addr × Obj} {rl : List (Addr × Obj)} (N : News h₀ L h (tb :: dtb :: R :: P :: dx :: lx :: (rl ++ sx :: dsx :: Lf :: fr :: cr :: cl :: [t, y4, y3, y2]))) :
    News h₀ L h (P :: dx :: lx :: sx :: dsx :: Lf :: fr :: cr :: cl :: t :: y4 :: y3 :: y2 :: tb :: dtb :: R :: rl) := by
  refine List.forall_mem_cons.mpr ⟨N _ (List.mem_cons_of_mem _ (List.mem_cons_of_mem _ (List.mem_cons_of_mem _ List.mem_cons_self))), ?_⟩
  refine List.forall_mem_cons.mpr ⟨N _ (List.mem_cons_of_mem _ (List.mem_cons_of_mem _ (List.mem_cons_of_mem _ (List.mem_cons_of_mem _ List.mem_cons_self)))), ?_⟩
  refine List.forall_mem_cons.mpr ⟨N _ (List.mem_cons_of_mem _ (List.mem_cons_of_mem _ (List.mem_cons_of_mem _ (List.mem_cons_of_mem _ (List.mem_cons_of_mem _ List.mem_cons_self))))), ?_⟩
  refine List.forall_mem_cons.mpr ⟨N _ (List.mem_cons_of_mem _ (List.mem_cons_of_mem _ (List.mem_cons_of_mem _ (List.mem_cons_of_mem _ (List.mem_cons_of_mem _ (List.mem_cons_of_mem _ (List.mem_append_right _ List.mem_cons_self))))))), ?_⟩
  refine List.forall_mem_cons.mpr ⟨N _ (List.mem_cons_of_mem _ (List.mem_cons_of_mem _ (List.mem_cons_of_mem _ (List.mem_cons_of_mem _ (List.mem_cons_of_mem _ (List.mem_cons_of_mem _ (List.mem_append_right _ (List.mem_cons_of_mem _ List.mem_cons_self)))))))), ?_⟩
  refine List.forall_mem_cons.mpr ⟨N _ (List.mem_cons_of_mem _ (List.mem_cons_of_mem _ (List.mem_cons_of_mem _ (List.mem_cons_of_mem _ (List.mem_cons_of_mem _ (List.mem_cons_of_mem _ (List.mem_append_right _ (List.mem_cons_of_mem _ (List.mem_cons_of_mem _ List.mem_cons_self))))))))), ?_⟩
  refine List.forall_mem_cons.mpr ⟨N _ (List.mem_cons_of_mem _ (List.mem_cons_of_mem _ (List.mem_cons_of_mem _ (List.mem_cons_of_mem _ (List.mem_cons_of_mem _ (List.mem_cons_of_mem _ (List.mem_append_right _ (List.mem_cons_of_mem _ (List.mem_cons_of_mem _ (List.mem_cons_of_mem _ List.mem_cons_self)))))))))), ?_⟩
  refine List.forall_mem_cons.mpr ⟨N _ (List.mem_cons_of_mem _ (List.mem_cons_of_mem _ (List.mem_cons_of_mem _ (List.mem_cons_of_mem _ (List.mem_cons_of_mem _ (List.mem_cons_of_mem _ (List.mem_append_right _ (List.mem_cons_of_mem _ (List.mem_cons_of_mem _ (List.mem_cons_of_mem _ (List.mem_cons_of_mem _ List.mem_cons_self))))))))))), ?_⟩
  refine List.forall_mem_cons.mpr ⟨N _ (List.mem_cons_of_mem _ (List.mem_cons_of_mem _ (List.mem_cons_of_mem _ (List.mem_cons_of_mem _ (List.mem_cons_of_mem _ (List.mem_cons_of_mem _ (List.mem_append_right _ (List.mem_cons_of_mem _ (List.mem_cons_of_mem _ (List.mem_cons_of_mem _ (List.mem_cons_of_mem _ (List.mem_cons_of_mem _ List.mem_cons_self)))))))))))), ?_⟩
  refine List.forall_mem_cons.mpr ⟨N _ (List.mem_cons_of_mem _ (List.mem_cons_of_mem _ (List.mem_cons_of_mem _ (List.mem_cons_of_mem _ (List.mem_cons_of_mem _ (List.mem_cons_of_mem _ (List.mem_append_right _ (List.mem_cons_of_mem _ (List.mem_cons_of_mem _ (List.mem_cons_of_mem _ (List.mem_cons_of_mem _ (List.mem_cons_of_mem _ (List.mem_cons_of_mem _ List.mem_cons_self))))))))))))), ?_⟩
  refine List.forall_mem_cons.mpr ⟨N _ (List.mem_cons_of_mem _ (List.mem_cons_of_mem _ (List.mem_cons_of_mem _ (List.mem_cons_of_mem _ (List.mem_cons_of_mem _ (List.mem_cons_of_mem _ (List.mem_append_right _ (List.mem_cons_of_mem _ (List.mem_cons_of_mem _ (List.mem_cons_of_mem _ (List.mem_cons_of_mem _ (List.mem_cons_of_mem _ (List.mem_cons_of_mem _ (List.mem_cons_of_mem _ List.mem_cons_self)))))))))))))), ?_⟩
  refine List.forall_mem_cons.mpr ⟨N _ (List.mem_cons_of_mem _ (List.mem_cons_of_mem _ (List.mem_cons_of_mem _ (List.mem_cons_of_mem _ (List.mem_cons_of_mem _ (List.mem_cons_of_mem _ (List.mem_append_right _ (List.mem_cons_of_mem _ (List.mem_cons_of_mem _ (List.mem_cons_of_mem _ (List.mem_cons_of_mem _ (List.mem_cons_of_mem _ (List.mem_cons_of_mem _ (List.mem_cons_of_mem _ (List.mem_cons_of_mem _ List.mem_cons_self))))))))))))))), ?_⟩
  refine List.forall_mem_cons.mpr ⟨N _ (List.mem_cons_of_mem _ (List.mem_cons_of_mem _ (List.mem_cons_of_mem _ (List.mem_cons_of_mem _ (List.mem_cons_of_mem _ (List.mem_cons_of_mem _ (List.mem_append_right _ (List.mem_cons_of_mem _ (List.mem_cons_of_mem _ (List.mem_cons_of_mem _ (List.mem_cons_of_mem _ (List.mem_cons_of_mem _ (List.mem_cons_of_mem _ (List.mem_cons_of_mem _ (List.mem_cons_of_mem _ (List.mem_cons_of_mem _ List.mem_cons_self)))))))))))))))), ?_⟩
  refine List.forall_mem_cons.mpr ⟨N _ List.mem_cons_self, ?_⟩
  refine List.forall_mem_cons.mpr ⟨N _ (List.mem_cons_of_mem _ List.mem_cons_self), ?_⟩
  refine List.forall_mem_cons.mpr ⟨N _ (List.mem_cons_of_mem _ (List.mem_cons_of_mem _ List.mem_cons_self)), ?_⟩
  exact fun q hq => N q (List.mem_cons_of_mem _ (List.mem_cons_of_mem _ (List.mem_cons_of_mem _ (List.mem_cons_of_mem _ (List.mem_cons_of_mem _ (List.mem_cons_of_mem _ (List.mem_append_left _ hq)))))))
theorem cls_ne {o o' : Obj} {x y : String} (h : o.cls = .type x) (h' : o'.cls = .type y) (hxy : x ≠ y) : o ≠ o' := fun e => hxy (Value.type.inj (by rw [← h, ← h', e]))
theorem cls_ref {o o' : Obj} {x : Addr} {y : String} (h : o.cls = .ref x) (h' : o'.cls = .type y) : o ≠ o' := fun e => by
  have : Value.ref x = Value.type y := by rw [← h, ← h', e]
  cases this
section
variable {h₀ h : Heap} {L : Addr} {w : World} {P dx lx sx dsx Ps Lf fr cr cl tb dtb R c4 c3 c2 : Addr} {fd : FuncData} {oc ocl o4 o3 oL : Obj} {kL kP nd kR : Nat} {ln : Int} {t1 t2 t3 t4 t5 t6 u1 u2 u3 u4 u5 u6 u7 th : Tok} {cs : List Ch} {vT : Array Value} {rs : List Rw}
theorem told_led (N : News h₀ L h ((tb, instObj 281 dtb) :: (dtb, dictOf (hdrD w th R) nd) :: (R, listOf (rowV rs).toArray kR) :: (P, listOf #[] kP) :: (dx, dictOf (lexD w ln (.ref sx) P t1 t2 t3 t4 t5 t6) 4) :: (lx, instObj 76 dx) :: (rowL 0 rs ++ (sx, instObj 76 dsx) :: (dsx, dictOf (strD w Ps fr u1 u2 u3 u4 u5 u6 u7) 5) :: (Lf, listOf (chV cs).toArray kL) :: (fr, fnO fd) :: (cr, oc) :: (cl, ocl) :: [(287, tabObj vT), (c4, o4), (c3, o3), (c2, oL)]))) :
    News h₀ L h (lexLed w P dx lx sx dsx Ps Lf fr cr cl fd oc ocl #[] kP ln t1 t2 t3 t4 t5 t6 u1 u2 u3 u4 u5 u6 u7 cs kL ((287, tabObj vT) :: (c4, o4) :: (c3, o3) :: (c2, oL) :: tabL w tb dtb R th nd kR rs)) :=
  perm_led N
theorem told_ne (X : LexNe P dx lx sx dsx Lf fr cr cl [(287, tabObj vT), (c4, o4), (c3, o3), (c2, oL)])
    (N : News h₀ L h (lexLed w P dx lx sx dsx Ps Lf fr cr cl fd oc ocl #[] kP ln t1 t2 t3 t4 t5 t6 u1 u2 u3 u4 u5 u6 u7 cs kL ((287, tabObj vT) :: (c4, o4) :: (c3, o3) :: (c2, oL) :: tabL w tb dtb R th nd kR rs)))
    (hR : @Ne Nat P R) (hRL : @Ne Nat Lf R) (hP : ∀ q ∈ rowL 0 rs, q.1 ≠ P) : LexNe P dx lx sx dsx Lf fr cr cl ((287, tabObj vT) :: (c4, o4) :: (c3, o3) :: (c2, oL) :: tabL w tb dtb R th nd kR rs) := by
  have mP : (P, listOf #[] kP) ∈ lexLed w P dx lx sx dsx Ps Lf fr cr cl fd oc ocl #[] kP ln t1 t2 t3 t4 t5 t6 u1 u2 u3 u4 u5 u6 u7 cs kL ((287, tabObj vT) :: (c4, o4) :: (c3, o3) :: (c2, oL) :: tabL w tb dtb R th nd kR rs) := List.mem_cons_self
  have mD : (dx, dictOf (lexD w ln (.ref sx) P t1 t2 t3 t4 t5 t6) 4) ∈ lexLed w P dx lx sx dsx Ps Lf fr cr cl fd oc ocl #[] kP ln t1 t2 t3 t4 t5 t6 u1 u2 u3 u4 u5 u6 u7 cs kL ((287, tabObj vT) :: (c4, o4) :: (c3, o3) :: (c2, oL) :: tabL w tb dtb R th nd kR rs) := List.mem_cons_of_mem _ List.mem_cons_self
  have mL : (Lf, listOf (chV cs).toArray kL) ∈ lexLed w P dx lx sx dsx Ps Lf fr cr cl fd oc ocl #[] kP ln t1 t2 t3 t4 t5 t6 u1 u2 u3 u4 u5 u6 u7 cs kL ((287, tabObj vT) :: (c4, o4) :: (c3, o3) :: (c2, oL) :: tabL w tb dtb R th nd kR rs) := List.mem_cons_of_mem _ (List.mem_cons_of_mem _ (List.mem_cons_of_mem _ (List.mem_cons_of_mem _ (List.mem_cons_of_mem _ List.mem_cons_self))))
  have mT : ∀ q ∈ tabL w tb dtb R th nd kR rs, q ∈ lexLed w P dx lx sx dsx Ps Lf fr cr cl fd oc ocl #[] kP ln t1 t2 t3 t4 t5 t6 u1 u2 u3 u4 u5 u6 u7 cs kL ((287, tabObj vT) :: (c4, o4) :: (c3, o3) :: (c2, oL) :: tabL w tb dtb R th nd kR rs) := fun q hq => by
    exact List.mem_append_right [_, _, _, _, _, _, _, _, _, _, _, _, _] hq
  have tup : ∀ q ∈ rowL 0 rs, ∀ o : Obj, o.cls ≠ .type "tuple" → q.2 ≠ o := fun q hq o ho e => ho (by rw [← e]; exact row_tup rs _ q hq)
  have r4 : ∀ {a : Addr}, (∀ q ∈ [((287 : Addr), tabObj vT), (c4, o4), (c3, o3), (c2, oL)], q.1 ≠ a) → (∀ q ∈ tabL w tb dtb R th nd kR rs, q.1 ≠ a) → ∀ q ∈ (287, tabObj vT) :: (c4, o4) :: (c3, o3) :: (c2, oL) :: tabL w tb dtb R th nd kR rs, q.1 ≠ a := by
    intro a h1 h2 q hq
    simp only [List.mem_cons, List.not_mem_nil, or_false, forall_eq_or_imp, forall_eq] at h1
    rcases List.mem_cons.mp hq with rfl | hq
    · exact h1.1
    rcases List.mem_cons.mp hq with rfl | hq
    · exact h1.2.1
    rcases List.mem_cons.mp hq with rfl | hq
    · exact h1.2.2.1
    rcases List.mem_cons.mp hq with rfl | hq
    · exact h1.2.2.2
    · exact h2 q hq
  refine ⟨X.L, X.D, X.Q, r4 X.rL ?_, r4 X.rD ?_, r4 X.rP ?_⟩
  · intro q hq
    have hm := mT q hq
    rcases List.mem_cons.mp hq with rfl | hq
    · exact off_obj N mL hm (cls_ref rfl rfl)
    rcases List.mem_cons.mp hq with rfl | hq
    · exact off_obj N mL hm (cls_ne rfl rfl (by decide))
    rcases List.mem_cons.mp hq with rfl | hq
    · exact Ne.symm hRL
    · exact off_obj N mL hm (tup q hq _ (fun e => absurd (Value.type.inj e) (by decide)))
  · intro q hq
    have hm := mT q hq
    rcases List.mem_cons.mp hq with rfl | hq
    · exact off_obj N mD hm (cls_ref rfl rfl)
    rcases List.mem_cons.mp hq with rfl | hq
    · exact off_obj N mD hm (fun e => absurd (show (1 : Nat) = 4 from congrArg Array.size (Data.dict.inj (congrArg Obj.data e)).1) (by decide))
    rcases List.mem_cons.mp hq with rfl | hq
    · exact off_obj N mD hm (cls_ne rfl rfl (by decide))
    · exact off_obj N mD hm (tup q hq _ (fun e => absurd (Value.type.inj e) (by decide)))
  · intro q hq
    have hm := mT q hq
    rcases List.mem_cons.mp hq with rfl | hq
    · exact off_obj N mP hm (cls_ref rfl rfl)
    rcases List.mem_cons.mp hq with rfl | hq
    · exact off_obj N mP hm (cls_ne rfl rfl (by decide))
    rcases List.mem_cons.mp hq with rfl | hq
    · exact Ne.symm hR
    · exact hP q hq
end
theorem row_data (rs : List Rw) : ∀ (k : Nat) (q : Addr × Obj), q ∈ rowL k rs → ∀ v, q.2.data ≠ .cell v := by
  induction rs with
  | nil =>
    intro k q h
    cases h
  | cons r rs ih =>
    intro k q h
    rcases List.mem_cons.mp h with h | h
    · rw [h]
      intro v e
      cases e
    · exact ih _ _ h
theorem tab_data {w : World} {tb dtb R : Addr} {th : Tok} {nd kR : Nat} {rs : List Rw} : ∀ q ∈ tabL w tb dtb R th nd kR rs, ∀ v, q.2.data ≠ .cell v := by
  intro q hq v e
  rcases List.mem_cons.mp hq with rfl | hq
  · cases e
  rcases List.mem_cons.mp hq with rfl | hq
  · cases e
  rcases List.mem_cons.mp hq with rfl | hq
  · cases e
  · exact row_data rs _ q hq v e
theorem tS_at {l : List Nat} (h : ∀ x ∈ l, x < 128) (t : Tok) : isAt (.str (tS l) t) = true := by
  show Array.all _ _ = true
  rw [Array.all_eq_true']
  intro x hx
  have := h x (by simpa [tS] using hx)
  simp
  omega
end PartTold
section PartGtok4
theorem four_in {h₀ hh : Heap} {L : Addr} {x1 x2 x3 x4 a b c d e f g i j : Addr × Obj} {r : List (Addr × Obj)} (N : News h₀ L hh (x1 :: x2 :: x3 :: x4 :: a :: b :: c :: d :: e :: f :: g :: i :: j :: r)) : News h₀ L hh (a :: b :: c :: d :: e :: f :: g :: i :: j :: x1 :: x2 :: x3 :: x4 :: r) := by
  refine List.forall_mem_cons.mpr ⟨N _ (List.mem_cons_of_mem _ (List.mem_cons_of_mem _ (List.mem_cons_of_mem _ (List.mem_cons_of_mem _ List.mem_cons_self)))), ?_⟩
  refine List.forall_mem_cons.mpr ⟨N _ (List.mem_cons_of_mem _ (List.mem_cons_of_mem _ (List.mem_cons_of_mem _ (List.mem_cons_of_mem _ (List.mem_cons_of_mem _ List.mem_cons_self))))), ?_⟩
  refine List.forall_mem_cons.mpr ⟨N _ (List.mem_cons_of_mem _ (List.mem_cons_of_mem _ (List.mem_cons_of_mem _ (List.mem_cons_of_mem _ (List.mem_cons_of_mem _ (List.mem_cons_of_mem _ List.mem_cons_self)))))), ?_⟩
  refine List.forall_mem_cons.mpr ⟨N _ (List.mem_cons_of_mem _ (List.mem_cons_of_mem _ (List.mem_cons_of_mem _ (List.mem_cons_of_mem _ (List.mem_cons_of_mem _ (List.mem_cons_of_mem _ (List.mem_cons_of_mem _ List.mem_cons_self))))))), ?_⟩
  refine List.forall_mem_cons.mpr ⟨N _ (List.mem_cons_of_mem _ (List.mem_cons_of_mem _ (List.mem_cons_of_mem _ (List.mem_cons_of_mem _ (List.mem_cons_of_mem _ (List.mem_cons_of_mem _ (List.mem_cons_of_mem _ (List.mem_cons_of_mem _ List.mem_cons_self)))))))), ?_⟩
  refine List.forall_mem_cons.mpr ⟨N _ (List.mem_cons_of_mem _ (List.mem_cons_of_mem _ (List.mem_cons_of_mem _ (List.mem_cons_of_mem _ (List.mem_cons_of_mem _ (List.mem_cons_of_mem _ (List.mem_cons_of_mem _ (List.mem_cons_of_mem _ (List.mem_cons_of_mem _ List.mem_cons_self))))))))), ?_⟩
  refine List.forall_mem_cons.mpr ⟨N _ (List.mem_cons_of_mem _ (List.mem_cons_of_mem _ (List.mem_cons_of_mem _ (List.mem_cons_of_mem _ (List.mem_cons_of_mem _ (List.mem_cons_of_mem _ (List.mem_cons_of_mem _ (List.mem_cons_of_mem _ (List.mem_cons_of_mem _ (List.mem_cons_of_mem _ List.mem_cons_self)))))))))), ?_⟩
  refine List.forall_mem_cons.mpr ⟨N _ (List.mem_cons_of_mem _ (List.mem_cons_of_mem _ (List.mem_cons_of_mem _ (List.mem_cons_of_mem _ (List.mem_cons_of_mem _ (List.mem_cons_of_mem _ (List.mem_cons_of_mem _ (List.mem_cons_of_mem _ (List.mem_cons_of_mem _ (List.mem_cons_of_mem _ (List.mem_cons_of_mem _ List.mem_cons_self))))))))))), ?_⟩
  refine List.forall_mem_cons.mpr ⟨N _ (List.mem_cons_of_mem _ (List.mem_cons_of_mem _ (List.mem_cons_of_mem _ (List.mem_cons_of_mem _ (List.mem_cons_of_mem _ (List.mem_cons_of_mem _ (List.mem_cons_of_mem _ (List.mem_cons_of_mem _ (List.mem_cons_of_mem _ (List.mem_cons_of_mem _ (List.mem_cons_of_mem _ (List.mem_cons_of_mem _ List.mem_cons_self)))))))))))), ?_⟩
  refine List.forall_mem_cons.mpr ⟨N _ List.mem_cons_self, ?_⟩
  refine List.forall_mem_cons.mpr ⟨N _ (List.mem_cons_of_mem _ List.mem_cons_self), ?_⟩
  refine List.forall_mem_cons.mpr ⟨N _ (List.mem_cons_of_mem _ (List.mem_cons_of_mem _ List.mem_cons_self)), ?_⟩
  refine List.forall_mem_cons.mpr ⟨N _ (List.mem_cons_of_mem _ (List.mem_cons_of_mem _ (List.mem_cons_of_mem _ List.mem_cons_self))), ?_⟩
  exact fun q hq => N q (List.mem_cons_of_mem _ (List.mem_cons_of_mem _ (List.mem_cons_of_mem _ (List.mem_cons_of_mem _ (List.mem_cons_of_mem _ (List.mem_cons_of_mem _ (List.mem_cons_of_mem _ (List.mem_cons_of_mem _ (List.mem_cons_of_mem _ (List.mem_cons_of_mem _ (List.mem_cons_of_mem _ (List.mem_cons_of_mem _ (List.mem_cons_of_mem _ hq)))))))))))))
theorem four_out {h₀ hh : Heap} {L : Addr} {x1 x2 x3 x4 a b c d e f g i j : Addr × Obj} {r : List (Addr × Obj)} (N : News h₀ L hh (a :: b :: c :: d :: e :: f :: g :: i :: j :: x1 :: x2 :: x3 :: x4 :: r)) : News h₀ L hh (x1 :: x2 :: x3 :: x4 :: a :: b :: c :: d :: e :: f :: g :: i :: j :: r) := by
  refine List.forall_mem_cons.mpr ⟨N _ (List.mem_cons_of_mem _ (List.mem_cons_of_mem _ (List.mem_cons_of_mem _ (List.mem_cons_of_mem _ (List.mem_cons_of_mem _ (List.mem_cons_of_mem _ (List.mem_cons_of_mem _ (List.mem_cons_of_mem _ (List.mem_cons_of_mem _ List.mem_cons_self))))))))), ?_⟩
  refine List.forall_mem_cons.mpr ⟨N _ (List.mem_cons_of_mem _ (List.mem_cons_of_mem _ (List.mem_cons_of_mem _ (List.mem_cons_of_mem _ (List.mem_cons_of_mem _ (List.mem_cons_of_mem _ (List.mem_cons_of_mem _ (List.mem_cons_of_mem _ (List.mem_cons_of_mem _ (List.mem_cons_of_mem _ List.mem_cons_self)))))))))), ?_⟩
  refine List.forall_mem_cons.mpr ⟨N _ (List.mem_cons_of_mem _ (List.mem_cons_of_mem _ (List.mem_cons_of_mem _ (List.mem_cons_of_mem _ (List.mem_cons_of_mem _ (List.mem_cons_of_mem _ (List.mem_cons_of_mem _ (List.mem_cons_of_mem _ (List.mem_cons_of_mem _ (List.mem_cons_of_mem _ (List.mem_cons_of_mem _ List.mem_cons_self))))))))))), ?_⟩
  refine List.forall_mem_cons.mpr ⟨N _ (List.mem_cons_of_mem _ (List.mem_cons_of_mem _ (List.mem_cons_of_mem _ (List.mem_cons_of_mem _ (List.mem_cons_of_mem _ (List.mem_cons_of_mem _ (List.mem_cons_of_mem _ (List.mem_cons_of_mem _ (List.mem_cons_of_mem _ (List.mem_cons_of_mem _ (List.mem_cons_of_mem _ (List.mem_cons_of_mem _ List.mem_cons_self)))))))))))), ?_⟩
  refine List.forall_mem_cons.mpr ⟨N _ List.mem_cons_self, ?_⟩
  refine List.forall_mem_cons.mpr ⟨N _ (List.mem_cons_of_mem _ List.mem_cons_self), ?_⟩
  refine List.forall_mem_cons.mpr ⟨N _ (List.mem_cons_of_mem _ (List.mem_cons_of_mem _ List.mem_cons_self)), ?_⟩
  refine List.forall_mem_cons.mpr ⟨N _ (List.mem_cons_of_mem _ (List.mem_cons_of_mem _ (List.mem_cons_of_mem _ List.mem_cons_self))), ?_⟩
  refine List.forall_mem_cons.mpr ⟨N _ (List.mem_cons_of_mem _ (List.mem_cons_of_mem _ (List.mem_cons_of_mem _ (List.mem_cons_of_mem _ List.mem_cons_self)))), ?_⟩
  refine List.forall_mem_cons.mpr ⟨N _ (List.mem_cons_of_mem _ (List.mem_cons_of_mem _ (List.mem_cons_of_mem _ (List.mem_cons_of_mem _ (List.mem_cons_of_mem _ List.mem_cons_self))))), ?_⟩
  refine List.forall_mem_cons.mpr ⟨N _ (List.mem_cons_of_mem _ (List.mem_cons_of_mem _ (List.mem_cons_of_mem _ (List.mem_cons_of_mem _ (List.mem_cons_of_mem _ (List.mem_cons_of_mem _ List.mem_cons_self)))))), ?_⟩
  refine List.forall_mem_cons.mpr ⟨N _ (List.mem_cons_of_mem _ (List.mem_cons_of_mem _ (List.mem_cons_of_mem _ (List.mem_cons_of_mem _ (List.mem_cons_of_mem _ (List.mem_cons_of_mem _ (List.mem_cons_of_mem _ List.mem_cons_self))))))), ?_⟩
  refine List.forall_mem_cons.mpr ⟨N _ (List.mem_cons_of_mem _ (List.mem_cons_of_mem _ (List.mem_cons_of_mem _ (List.mem_cons_of_mem _ (List.mem_cons_of_mem _ (List.mem_cons_of_mem _ (List.mem_cons_of_mem _ (List.mem_cons_of_mem _ List.mem_cons_self)))))))), ?_⟩
  exact fun q hq => N q (List.mem_cons_of_mem _ (List.mem_cons_of_mem _ (List.mem_cons_of_mem _ (List.mem_cons_of_mem _ (List.mem_cons_of_mem _ (List.mem_cons_of_mem _ (List.mem_cons_of_mem _ (List.mem_cons_of_mem _ (List.mem_cons_of_mem _ (List.mem_cons_of_mem _ (List.mem_cons_of_mem _ (List.mem_cons_of_mem _ (List.mem_cons_of_mem _ hq)))))))))))))
section
variable {n₀ : Nat} {w : World} {A₀ A : Around} {base h₀ : Heap} {env : Env} {outer : List Env} {L : Addr} {m : Str → Option Value} {mg mb : Str → Option Value} {mean : ExcName → Option Value} {loose : List Str} {p : Program} {s : Shared}
    {Q : Value → Shared → Prop} {E : Value → Shared → Prop} {rest : List (Addr × Obj)} {P dx lx sx dsx Ps Lf fr cr cl : Addr} {fd : FuncData} {oc ocl : Obj} {cs : List Ch} {k kP : Nat} {ln : Int} {t1 t2 t3 t4 t5 t6 u1 u2 u3 u4 u5 u6 u7 : Tok} {x1 x2 x3 x4 : Addr × Obj}
/-- get_token, four more ahead in the ledger -/
theorem gtok4 (C : Cx n₀ w A₀ A base h₀ env outer L m mg mb mean loose p s.heap) (hn₀ : n₀ ≤ 400) (R : RdOk w fr cr cl Lf fd oc ocl) (X : LexNe P dx lx sx dsx Lf fr cr cl rest)
    (hx1 : @Ne Nat x1.1 Lf ∧ @Ne Nat x1.1 dx ∧ @Ne Nat x1.1 P) (hx2 : @Ne Nat x2.1 Lf ∧ @Ne Nat x2.1 dx ∧ @Ne Nat x2.1 P) (hx3 : @Ne Nat x3.1 Lf ∧ @Ne Nat x3.1 dx ∧ @Ne Nat x3.1 P) (hx4 : @Ne Nat x4.1 Lf ∧ @Ne Nat x4.1 dx ∧ @Ne Nat x4.1 P)
    (N : News h₀ L s.heap (x1 :: x2 :: x3 :: x4 :: lexLed w P dx lx sx dsx Ps Lf fr cr cl fd oc ocl #[] kP ln t1 t2 t3 t4 t5 t6 u1 u2 u3 u4 u5 u6 u7 cs k rest)) (G : Good cs ln)
    (h : ∀ h' tk u cs' k' ln' t5' zs, lexT (cs.map (·.c)) = (zs, cs'.map (·.c)) → ln' + nls (cs'.map (·.c)) = ln + nls (cs.map (·.c)) → Good cs' ln' → Fr h₀ L h' m → News h₀ L h' (x1 :: x2 :: x3 :: x4 :: lexLed w P dx lx sx dsx Ps Lf fr cr cl fd oc ocl #[] kP ln' t1 t2 t3 t4 t5' t6 u1 u2 u3 u4 u5 u6 u7 cs' k' rest) → Q (.str ⟨zs.toArray⟩ u) { s with heap := h', toks := tk }) :
    wpAny (model PySem.Challenge.rw_to0065_01.row.prog w) A (call (.ref 66) [.ref lx]) Q E s := by
  have X1 : LexNe P dx lx sx dsx Lf fr cr cl (x1 :: x2 :: x3 :: x4 :: rest) := ⟨X.L, X.D, X.Q,
    List.forall_mem_cons.mpr ⟨hx1.1, List.forall_mem_cons.mpr ⟨hx2.1, List.forall_mem_cons.mpr ⟨hx3.1, List.forall_mem_cons.mpr ⟨hx4.1, X.rL⟩⟩⟩⟩,
    List.forall_mem_cons.mpr ⟨hx1.2.1, List.forall_mem_cons.mpr ⟨hx2.2.1, List.forall_mem_cons.mpr ⟨hx3.2.1, List.forall_mem_cons.mpr ⟨hx4.2.1, X.rD⟩⟩⟩⟩,
    List.forall_mem_cons.mpr ⟨hx1.2.2, List.forall_mem_cons.mpr ⟨hx2.2.2, List.forall_mem_cons.mpr ⟨hx3.2.2, List.forall_mem_cons.mpr ⟨hx4.2.2, X.rP⟩⟩⟩⟩⟩
  have N1 : News h₀ L s.heap (lexLed w P dx lx sx dsx Ps Lf fr cr cl fd oc ocl #[] kP ln t1 t2 t3 t4 t5 t6 u1 u2 u3 u4 u5 u6 u7 cs k (x1 :: x2 :: x3 :: x4 :: rest)) := four_in N
  refine gtok_c C hn₀ R X1 N1 G ?_
  intro h' tk u cs' k' ln' t5' zs e1 e2 G' F' N'
  have N2 : News h₀ L h' (x1 :: x2 :: x3 :: x4 :: lexLed w P dx lx sx dsx Ps Lf fr cr cl fd oc ocl #[] kP ln' t1 t2 t3 t4 t5' t6 u1 u2 u3 u4 u5 u6 u7 cs' k' rest) := four_out N'
  exact h h' tk u cs' k' ln' t5' zs e1 e2 G' F' N2
end
theorem upd4 {P : Addr} {o o' : Obj} {x1 x2 x3 x4 : Addr × Obj} {r : List (Addr × Obj)} (h1 : @Ne Nat x1.1 P) (h2 : @Ne Nat x2.1 P) (h3 : @Ne Nat x3.1 P) (h4 : @Ne Nat x4.1 P) (h : ∀ q ∈ r, q.1 ≠ P) : Upd P o o' (x1 :: x2 :: x3 :: x4 :: (P, o) :: r) (x1 :: x2 :: x3 :: x4 :: (P, o') :: r) :=
  .tail h1 (.tail h2 (.tail h3 (.tail h4 (.head h))))
end PartGtok4
section PartMatrix
noncomputable abbrev matV (m : Int × Int × Int × Int) (t1 t2 t3 t4 : Tok) : List Value := [.int m.1 t1, .int m.2.1 t2, .int m.2.2.1 t3, .int m.2.2.2 t4]
theorem mat_map {M m : Str → Option Value} {v1 v2 v3 v4 : Value} (h1 : M "p" = some v1) (h2 : M "q" = some v2) (h3 : M "r" = some v3) (h4 : M "s" = some v4) (hm : ∀ y : Str, y ≠ "p" → y ≠ "q" → y ≠ "r" → y ≠ "s" → y ≠ "letter" → M y = m y) :
    M = fun y : Str => if y = "p" then some v1 else if y = "q" then some v2 else if y = "r" then some v3 else if y = "s" then some v4 else if y = "letter" then M "letter" else m y := by
  funext y
  by_cases e1 : y = "p"
  · rw [if_pos e1, e1]; exact h1
  rw [if_neg e1]
  by_cases e2 : y = "q"
  · rw [if_pos e2, e2]; exact h2
  rw [if_neg e2]
  by_cases e3 : y = "r"
  · rw [if_pos e3, e3]; exact h3
  rw [if_neg e3]
  by_cases e4 : y = "s"
  · rw [if_pos e4, e4]; exact h4
  rw [if_neg e4]
  by_cases e5 : y = "letter"
  · rw [if_pos e5, e5]
  · rw [if_neg e5]; exact hm y e1 e2 e3 e4 e5
theorem matL_succ {ls : List Lt} {i : Nat} {l : Lt} (h : ls[i]? = some l) : matL (ls.take (i + 1)) = matS (matL (ls.take i)) l := by
  unfold matL
  rw [List.take_add_one, h, List.foldl_append]
  rfl
section
variable {n₀ : Nat} {w : World} {A₀ A : Around} {base h₀ : Heap} {env : Env} {outer : List Env} {L : Addr} {m : Str → Option Value} {mg mb : Str → Option Value} {mean : ExcName → Option Value} {loose : List Str} {p : Program} {s : Shared}
    {Q : Value → Shared → Prop} {E : Value → Shared → Prop} {rest : List (Addr × Obj)}
theorem matrix_str {ls : List Lt} {t : Tok} (C : Cx n₀ w A₀ A base h₀ env outer L m mg mb mean loose p s.heap) (hn₀ : n₀ ≤ 800)
    (N : News h₀ L s.heap rest)
    (h : ∀ D t1 t2 t3 t4 k h' tk, Fr h₀ L h' m → News h₀ L h' ((D, listOf (matV (matL ls) t1 t2 t3 t4).toArray k) :: rest) → Q (.ref D) { s with heap := h', toks := tk }) :
    wpAny (model PySem.Challenge.rw_to0065_01.row.prog w) A (call (.ref 320) [.str (sgS ls) t]) Q E s := by
  walk_at "cx_fill"
  w_strict (
    refine wpAny_call ?_
    refine' Cx.code (binds := [("letters", .str (sgS ls) t)]) (by assumption) (by assumption) ?k6 ?k7 (by walk_at "om") ?k9 ?kB ?_ ?c2 ?c3 ?c4 ?c5
    case k6 => k_is
    case k7 => k_is
    case k9 => first | exact binds_K (by k_in) rfl (by k_is) rfl rfl rfl | exact BindsTo.of_eq (by kernel_rfl)
    case c5 => decide
    case kB => exact locs rfl
    case c2 => exact rfl
    case c3 => exact rfl
    case c4 => exact rfl
    k_whole
    intro g' L' h' tk' FG' N' C'
    have F' := Cx.F C'
    have B' := Cx.B C'
    have X' := Cx.X C'
    have T' := Cx.T C'
    (try dsimp only)
    (try k_lift B')
    (try k_fold)
    iterate 29 (walk_at "go1")
    rename Fr _ _ _ _ => lF'
    refine For_invVF lF' (by rfl) (by rfl) ?_
    walk_at "go1"
    rename News g' L' _ _ => NN
    refine iter_str (fun i m₁ nx => ∃ t1 t2 t3 t4 u, m₁ = (fun y : Str => if y = "p" then some (.int (matL (ls.take i)).1 t1) else if y = "q" then some (.int (matL (ls.take i)).2.1 t2) else if y = "r" then some (.int (matL (ls.take i)).2.2.1 t3) else if y = "s" then some (.int (matL (ls.take i)).2.2.2 t4) else if y = "letter" then u else List.lookup y (List.reverse (α := Str × Value) [("letters", .str (sgS ls) t)])) ∧ nx = rest) (Cx.hh (by assumption)) (sgS_ascii ls) (by assumption) (news_tl NN) ⟨_, _, _, _, _, mat_map rfl rfl rfl rfl (fun y h1 h2 h3 h4 h5 => by simp only [if_neg h1, if_neg h2, if_neg h3, if_neg h4]), rfl⟩ ?_ ?_
    · rintro I i c tt m₁ nx h2 tk2 o hci ⟨t1, t2, t3, t4, u, rfl, rfl⟩ off F2 N2
      obtain ⟨l, hl, hlc⟩ := sgS_get hci
      rw [hlc] at F2
      replace F2 : Fr g' L' h2 _ := F2
      replace N2 : News g' L' h2 _ := N2
      have hm := matL_succ hl
      generalize matL (List.take i ls) = mm at *
      generalize matL (List.take (i + 1) ls) = m2 at *
      revert mm m2
      refine keepP ?_
      set_option tactic.hygienic false in intros
      subst hm
      cases l with
      | a =>
        iterate 24 (walk_at "go1")
        rename Fr g' L' _ _ => FX
        rename News g' L' _ _ => NX
        refine unpackItemsN_ FX NX (News.isTup NX List.mem_cons_self) (Cx.hh C') (by rfl) ?_
        intro h3 F3 N3
        iterate 9 (walk_at "go1")
        rename Fr g' L' _ _ => FY
        rename News g' L' _ _ => NY
        exact ⟨_, _, _, _, rfl, FY, news_tl NY, off, _, _, _, _, _, mat_map rfl rfl rfl rfl (fun y h1 h2 h3 h4 h5 => by simp only [if_neg h1, if_neg h2, if_neg h3, if_neg h4, if_neg h5]), rfl⟩
      | A =>
        iterate 33 (walk_at "go1")
        rename Fr g' L' _ _ => FX
        rename News g' L' _ _ => NX
        refine unpackItemsN_ FX NX (News.isTup NX List.mem_cons_self) (Cx.hh C') (by rfl) ?_
        intro h3 F3 N3
        iterate 10 (walk_at "go1")
        rename Fr g' L' _ _ => FY
        rename News g' L' _ _ => NY
        exact ⟨_, _, _, _, rfl, FY, news_tl NY, off, _, _, _, _, _, mat_map rfl rfl rfl rfl (fun y h1 h2 h3 h4 h5 => by simp only [if_neg h1, if_neg h2, if_neg h3, if_neg h4, if_neg h5]), rfl⟩
      | b =>
        iterate 42 (walk_at "go1")
        rename Fr g' L' _ _ => FX
        rename News g' L' _ _ => NX
        refine unpackItemsN_ FX NX (News.isTup NX List.mem_cons_self) (Cx.hh C') (by rfl) ?_
        intro h3 F3 N3
        iterate 11 (walk_at "go1")
        rename Fr g' L' _ _ => FY
        rename News g' L' _ _ => NY
        exact ⟨_, _, _, _, rfl, FY, news_tl NY, off, _, _, _, _, _, mat_map rfl rfl rfl rfl (fun y h1 h2 h3 h4 h5 => by simp only [if_neg h1, if_neg h2, if_neg h3, if_neg h4, if_neg h5]), rfl⟩
      | B =>
        iterate 42 (walk_at "go1")
        rename Fr g' L' _ _ => FX
        rename News g' L' _ _ => NX
        refine unpackItemsN_ FX NX (News.isTup NX List.mem_cons_self) (Cx.hh C') (by rfl) ?_
        intro h3 F3 N3
        iterate 11 (walk_at "go1")
        rename Fr g' L' _ _ => FY
        rename News g' L' _ _ => NY
        exact ⟨_, _, _, _, rfl, FY, news_tl NY, off, _, _, _, _, _, mat_map rfl rfl rfl rfl (fun y h1 h2 h3 h4 h5 => by simp only [if_neg h1, if_neg h2, if_neg h3, if_neg h4, if_neg h5]), rfl⟩
    · rintro m₁ nx h2 tk2 ⟨t1, t2, t3, t4, u, rfl, rfl⟩ F2 N2
      replace F2 : Fr g' L' h2 _ := F2
      replace N2 : News g' L' h2 _ := N2
      have e : matL (List.take (sgS ls).cps.size ls) = matL ls := by rw [sgS_size, List.take_length]
      simp only [e] at F2
      try dsimp only
      iterate 15 (walk_at "go1")
      rename Fr h₀ L _ _ => FZ
      rename News h₀ L _ _ => NZ
      exact h _ _ _ _ _ _ _ _ FZ NZ)
theorem matrix_list {rs : List Rw} {D : Addr} {k : Nat} (C : Cx n₀ w A₀ A base h₀ env outer L m mg mb mean loose p s.heap) (hn₀ : n₀ ≤ 800)
    (N : News h₀ L s.heap ((D, listOf (keyV rs).toArray k) :: rest))
    (h : ∀ D' t1 t2 t3 t4 k' h' tk, Fr h₀ L h' m → News h₀ L h' ((D', listOf (matV (matL (rs.map (·.l))) t1 t2 t3 t4).toArray k') :: (D, listOf (keyV rs).toArray k) :: rest) → Q (.ref D') { s with heap := h', toks := tk }) :
    wpAny (model PySem.Challenge.rw_to0065_01.row.prog w) A (call (.ref 320) [.ref D]) Q E s := by
  walk_at "cx_fill"
  w_strict (
    refine wpAny_call ?_
    refine' Cx.code (binds := [("letters", .ref D)]) (by assumption) (by assumption) ?k6 ?k7 (by walk_at "om") ?k9 ?kB ?_ ?c2 ?c3 ?c4 ?c5
    case k6 => k_is
    case k7 => k_is
    case k9 => first | exact binds_K (by k_in) rfl (by k_is) rfl rfl rfl | exact BindsTo.of_eq (by kernel_rfl)
    case c5 => decide
    case kB => exact locs rfl
    case c2 => exact rfl
    case c3 => exact rfl
    case c4 => exact rfl
    k_whole
    intro g' L' h' tk' FG' N' C'
    have F' := Cx.F C'
    have B' := Cx.B C'
    have X' := Cx.X C'
    have T' := Cx.T C'
    (try dsimp only)
    (try k_lift B')
    (try k_fold)
    iterate 29 (walk_at "go1")
    rename Fr _ _ _ _ => lF'
    (with_unfolding_all refine' For_turns lF' ?_)
    k_whole
    walk_at "go1"
    rename News g' L' _ _ => NN
    rename Fr g' L' _ _ => FF
    refine iter_listTurns (lo := listOf (keyV rs).toArray k) (Cx.hh C') FF NN (by k_mem) rfl rfl ?_
    intro I l1
    refine items_inv (fun i m₁ => ∃ t1 t2 t3 t4 u, m₁ = (fun y : Str => if y = "p" then some (.int (matL ((rs.map (·.l)).take i)).1 t1) else if y = "q" then some (.int (matL ((rs.map (·.l)).take i)).2.1 t2) else if y = "r" then some (.int (matL ((rs.map (·.l)).take i)).2.2.1 t3) else if y = "s" then some (.int (matL ((rs.map (·.l)).take i)).2.2.2 t4) else if y = "letter" then u else List.lookup y (List.reverse (α := Str × Value) [("letters", .ref D)]))) _ 0 _ ?_ (by k_subL) ?_ ?_
    · exact ⟨_, _, _, _, _, mat_map rfl rfl rfl rfl (fun y h1 h2 h3 h4 h5 => by simp only [if_neg h1, if_neg h2, if_neg h3, if_neg h4])⟩
    · rintro j av v m₁ h2 tk2 ha hv ⟨t1, t2, t3, t4, u, rfl⟩ F2
      replace F2 : Fr g' L' h2 _ := F2
      obtain ⟨l, lt, hl, rfl⟩ : ∃ (l : Lt) (lt : Tok), (rs.map (·.l))[0 + j]? = some l ∧ v = .str l.str lt := by
        rw [List.getElem?_map] at ha
        rw [Nat.zero_add, List.getElem?_map]
        cases e : rs[j]? with
        | none => rw [List.getElem?_map, e] at ha; cases ha
        | some r =>
          rw [List.getElem?_map, e] at ha
          have ea := Option.some.inj ha
          subst ea
          exact ⟨r.l, r.t, rfl, hv⟩
      have hm := matL_succ hl
      ktu_objs
      generalize matL (List.take (0 + j) (rs.map (·.l))) = mm at *
      generalize matL (List.take (0 + j + 1) (rs.map (·.l))) = m2 at *
      revert mm m2
      refine keepP ?_
      set_option tactic.hygienic false in intros
      subst hm
      cases l with
      | a =>
        iterate 27 (walk_at "go1")
        rename Fr g' L' _ _ => FX
        rename News g' L' _ _ => NX
        refine unpackItemsN_ FX NX (News.isTup NX List.mem_cons_self) (Cx.hh C') (by rfl) ?_
        intro h3 F3 N3
        iterate 10 (walk_at "go1")
        rename Fr g' L' _ _ => FY
        rename News g' L' _ _ => NY
        exact ⟨_, _, _, _, rfl, FY, news_tl NY, off_hd l1, rfl, _, _, _, _, _, mat_map rfl rfl rfl rfl (fun y h1 h2 h3 h4 h5 => by simp only [if_neg h1, if_neg h2, if_neg h3, if_neg h4, if_neg h5])⟩
      | A =>
        iterate 36 (walk_at "go1")
        rename Fr g' L' _ _ => FX
        rename News g' L' _ _ => NX
        refine unpackItemsN_ FX NX (News.isTup NX List.mem_cons_self) (Cx.hh C') (by rfl) ?_
        intro h3 F3 N3
        iterate 11 (walk_at "go1")
        rename Fr g' L' _ _ => FY
        rename News g' L' _ _ => NY
        exact ⟨_, _, _, _, rfl, FY, news_tl NY, off_hd l1, rfl, _, _, _, _, _, mat_map rfl rfl rfl rfl (fun y h1 h2 h3 h4 h5 => by simp only [if_neg h1, if_neg h2, if_neg h3, if_neg h4, if_neg h5])⟩
      | b =>
        iterate 45 (walk_at "go1")
        rename Fr g' L' _ _ => FX
        rename News g' L' _ _ => NX
        refine unpackItemsN_ FX NX (News.isTup NX List.mem_cons_self) (Cx.hh C') (by rfl) ?_
        intro h3 F3 N3
        iterate 12 (walk_at "go1")
        rename Fr g' L' _ _ => FY
        rename News g' L' _ _ => NY
        exact ⟨_, _, _, _, rfl, FY, news_tl NY, off_hd l1, rfl, _, _, _, _, _, mat_map rfl rfl rfl rfl (fun y h1 h2 h3 h4 h5 => by simp only [if_neg h1, if_neg h2, if_neg h3, if_neg h4, if_neg h5])⟩
      | B =>
        iterate 45 (walk_at "go1")
        rename Fr g' L' _ _ => FX
        rename News g' L' _ _ => NX
        refine unpackItemsN_ FX NX (News.isTup NX List.mem_cons_self) (Cx.hh C') (by rfl) ?_
        intro h3 F3 N3
        iterate 12 (walk_at "go1")
        rename Fr g' L' _ _ => FY
        rename News g' L' _ _ => NY
        exact ⟨_, _, _, _, rfl, FY, news_tl NY, off_hd l1, rfl, _, _, _, _, _, mat_map rfl rfl rfl rfl (fun y h1 h2 h3 h4 h5 => by simp only [if_neg h1, if_neg h2, if_neg h3, if_neg h4, if_neg h5])⟩
    · rintro m₁ h2 tk2 ⟨t1, t2, t3, t4, u, rfl⟩ F2 N2
      replace F2 : Fr g' L' h2 _ := F2
      replace N2 : News g' L' h2 _ := N2
      have e : ∀ n, n = rs.length → matL (List.take (0 + n) (rs.map (·.l))) = matL (rs.map (·.l)) := by
        intro n hn
        rw [Nat.zero_add, hn, List.take_of_length_le (by rw [List.length_map]; exact Nat.le_refl _)]
      rw [e _ (by simp)] at F2
      iterate 15 (walk_at "go1")
      rename Fr h₀ L _ _ => FZ
      rename News h₀ L _ _ => NZ
      exact h _ _ _ _ _ _ _ _ FZ (news_2nd NZ))
end
end PartMatrix
section PartCompE
section
variable {prog : Program} {w : World} {A : Around} {E : Value → Shared → Prop} {s : Shared} {h₀ : Heap} {L : Addr} {m : Str → Option Value} {env : Env}
/-- a comprehension over what makes an iterator of its own, one object -/
inductive CompWalk (prog : Program) (w : World) (A : Around) (h₀ : Heap) (L : Addr) (m : Str → Option Value) (env : Env) (elt : Expr) (x : Str) (scope : Scope) (cl : List (Str × Addr)) (Fin : Shared → List Value → List (Addr × Obj) → Prop) (xv : Value) (s₁ : Shared) : Prop
  | mk (n : Nat) (P : Nat → Value → Prop) (St : Nat → Heap → Prop) (o : Obj) (news : List (Addr × Obj)) (F : Fr h₀ L s₁.heap m) (N : News h₀ L s₁.heap news) (hn : n ≤ sizeLine)
      (make : ∀ (Q : Value → Shared → Prop) (E : Value → Shared → Prop), Q (.ref s₁.heap.objs.size) { s₁ with heap := s₁.heap.push o } → wpAny (model prog w) A (pyIter xv) Q E s₁)
      (W : Walks prog w A s₁.heap.objs.size [s₁.heap.objs.size] [s₁.heap.objs.size] n P St) (h0 : St 0 (s₁.heap.push o))
      (lies : ∀ i h, St i h → ∃ q, h.get? s₁.heap.objs.size = some q ∧ ∀ g : Heap, g.get? s₁.heap.objs.size = some q → St i g)
      (rest : ∀ g, LCg.CompRest prog w A h₀ L m env elt x scope cl { s₁ with heap := g } (fun _ => True) P (Fin { s₁ with heap := g }) n 0 [] news)
theorem comp_ran {elt : Expr} {x : Str} {scope : Scope} {cl : List (Str × Addr)} {Fin : Shared → List Value → List (Addr × Obj) → Prop} {r : Addr} {a b c : Int} {t u v : Tok} {n : Nat} {news : List (Addr × Obj)} (hh : A.handled = none) (F : Fr h₀ L s.heap m) (N : News h₀ L s.heap news)
    (hr : IsRange s.heap r a b c t u v) (hs : Builtin.Range.small a b c = true) (hn : Builtin.Range.rangeSize a b c = ((n : Nat) : Int)) (hz : n ≤ sizeLine)
    (h : ∀ g, LCg.CompRest prog w A h₀ L m env elt x scope cl { s with heap := g } (fun _ => True) (fun i v => ∃ t, v = .int (a + (i : Int) * c) t) (Fin { s with heap := g }) n 0 [] news) : CompWalk prog w A h₀ L m env elt x scope cl Fin (.ref r) s :=
  .mk n _ _ _ news F N hz (fun _ _ q => wpAny_pyIter_range hr hs q) (Walks.range hh s.heap.objs.size a c n) (by
    refine (Heap.get?_push_size _ rfl).trans ?_
    rw [hn, Int.ofNat_zero, Int.zero_mul, Int.add_zero, Int.sub_zero]) (fun _ _ st => ⟨_, st, fun _ e => e⟩) h
theorem ListComp_W {elt iter : Expr} {x : Str} {px : Pos} {scope : Scope} {cl : List (Str × Addr)} {pos : Pos} {Q : Value → Shared → Prop} (_F₀ : Fr h₀ L s.heap m)
    (hclos : closureFor scope env = pure cl) (hcell : ∀ y ∈ scope.names, y.2 ≠ .cell) (hkind : scope.kind = .function)
    (hnames : ∀ y ∈ scope.names, y.2 = .local → scope.names.lookup y.1 = some .local) (hx : scope.names.lookup x = some .local)
    (h : wpAny (model prog w) A (eval iter env) (CompWalk prog w A h₀ L m env elt x scope cl (fun s₂ => LCg.FinE h₀ L m s₂ Q)) E s)
    (hs : ∀ x, foldedSetIterable iter env x = pure x := by intro _; rfl) :
    wpAny (model prog w) A (eval (.ListComp elt [⟨.Name x px, iter, [], 0⟩] scope pos) env) Q E s := by
  refine wpAny_comprehension_free (use := none) rfl hs hclos hkind hnames (wpAny_mono h (fun xv s₁ src => ?_) fun _ _ e => e)
  obtain ⟨n, P, St, o, news, F, N, hn, make, W, h0, lies, rest⟩ := src
  have lt : ∀ p ∈ news, p.1 ≠ s₁.heap.objs.size := fun p hp => Nat.ne_of_lt (Heap.lt_size (N p hp).1)
  refine make _ _ (LCg.block_U (S := fun _ => True) W hn (fun i h st => (lies i h st).imp fun _ q => q.1) (fun i h h' q _ st e e' _ _ _ => ?_) hcell hkind hx h0 (fun b hb => ?_) (F.push o) (N.grown fun _ _ e => Heap.get?_push_of_some _ e)
    (Nat.ne_of_lt F.ns.lt) (next_is_new F) lt trivial (rest _) fun D C h tk mC ys nw F₁ N₁ oD hC nC _ cL _ cD oC fin => ?_)
  · obtain ⟨q₁, e₁, k⟩ := lies i h st
    exact k h' (e'.trans (e.symm.trans e₁))
  · rw [List.mem_singleton.mp hb, Heap.size_push]
    exact Nat.lt_succ_self _
  · obtain ⟨ob, eC, pC⟩ := LCg.ns_obj hC
    exact comp_leave F₁ (r := (D, LCg.lst ys) :: nw) (by
      rintro p (_ | ⟨_, q⟩)
      · exact ⟨eC, cL, nC⟩
      · exact N₁ p q) (by
      rintro p (_ | ⟨_, q⟩)
      · exact Ne.symm cD
      · exact oC p q) pC fun g F₂ N₂ => fin D g tk F₂ N₂ oD
/-- y = [elt for a, b in enumerate(a list of the ledger)] -/
inductive CompEnum (prog : Program) (w : World) (A : Around) (h₀ : Heap) (L : Addr) (m : Str → Option Value) (env : Env) (elt : Expr) (a b : Str) (scope : Scope) (cl : List (Str × Addr)) (y : Str) (Q : Flow → Shared → Prop) (xv : Value) (s₁ : Shared) : Prop
  | mk (e it l : Addr) (vs : List Value) (k : Nat) (news : List (Addr × Obj)) (J : Nat → List Value → Prop)
    (c1 : xv = .ref e) (c2 : A.handled = none) (c3 : Fr h₀ L s₁.heap m) (c4 : News h₀ L s₁.heap news) (c5 : (l, listOf vs.toArray k) ∈ news) (c6 : vs.length ≤ sizeLine) (c7 : IsEnum s₁.heap e it 0 .none) (c8 : s₁.heap.IsListIter it l 0) (c9 : e ≠ it) (c10 : h₀.get? e = none) (c11 : h₀.get? it = none) (c12 : L ≠ e) (c13 : L ≠ it) (c14 : (∀ p ∈ news, p.1 ≠ e ∧ p.1 ≠ it)) (c15 : J 0 []) (c16 : (∀ oe oi C oC D m₂ i v t ys h tk (E' : Value → Shared → Prop), vs[i]? = some v → J i ys → LCg.NsObj oC m₂ → m₂ a = some (.int i t) → m₂ b = some v → Fr h₀ L h m → News h₀ L h ((e, oe) :: (it, oi) :: (C, oC) :: (D, LCg.lst ys) :: news) →
      (∀ q ∈ news, q.1 ≠ C ∧ q.1 ≠ D) → (@Ne Nat C D) → 
      wpAny (model prog w) A (eval elt (compEnvC scope cl C env)) (fun z s₂ => ∃ h' tk', s₂ = { s₁ with heap := h', toks := tk' } ∧ Fr h₀ L h' m ∧ News h₀ L h' ((e, oe) :: (it, oi) :: (C, oC) :: (D, LCg.lst ys) :: news) ∧ J (i + 1) (ys ++ [z])) E' { s₁ with heap := h, toks := tk })) (c17 : (∀ D ys h tk, J vs.length ys → Fr h₀ L h (fun z => if z = y then some (.ref D) else m z) → News h₀ L h ((D, LCg.lst ys) :: news) → LCg.Off1 D news → Q .next { s₁ with heap := h, toks := tk })) : CompEnum prog w A h₀ L m env elt a b scope cl y Q xv s₁
theorem comp_enum {elt : Expr} {a b : Str} {scope : Scope} {cl : List (Str × Addr)} {y : Str} {Q : Flow → Shared → Prop} {l : Addr} {vs : List Value} {k : Nat} {news : List (Addr × Obj)} (J : Nat → List Value → Prop)
    (hh : A.handled = none) (F : Fr h₀ L s.heap m) (N : News h₀ L s.heap news) (hm : (l, listOf vs.toArray k) ∈ news) (hz : vs.length ≤ sizeLine) (h0 : J 0 [])
    (turn : ∀ s₁ : Shared, (∃ h, s₁ = { s with heap := h }) → ∀ e it oe oi C oC D m₂ i v t ys h tk (E' : Value → Shared → Prop), vs[i]? = some v → J i ys → LCg.NsObj oC m₂ → m₂ a = some (.int i t) → m₂ b = some v → Fr h₀ L h m → News h₀ L h ((e, oe) :: (it, oi) :: (C, oC) :: (D, LCg.lst ys) :: news) →
      (∀ q ∈ news, q.1 ≠ C ∧ q.1 ≠ D) → (@Ne Nat C D) → 
      wpAny (model prog w) A (eval elt (compEnvC scope cl C env)) (fun z s₂ => ∃ h' tk', s₂ = { s₁ with heap := h', toks := tk' } ∧ Fr h₀ L h' m ∧ News h₀ L h' ((e, oe) :: (it, oi) :: (C, oC) :: (D, LCg.lst ys) :: news) ∧ J (i + 1) (ys ++ [z])) E' { s₁ with heap := h, toks := tk })
    (done : ∀ D ys h tk, J vs.length ys → Fr h₀ L h (fun z => if z = y then some (.ref D) else m z) → News h₀ L h ((D, LCg.lst ys) :: news) → LCg.Off1 D news → Q .next { s with heap := h, toks := tk }) :
    wpAny (model prog w) A (call (.type "enumerate") [.ref l]) (CompEnum prog w A h₀ L m env elt a b scope cl y Q) E s := by
  have ax := N _ hm
  have lL : L < s.heap.objs.size := F.ns.lt
  have lN : ∀ p ∈ news, p.1 < s.heap.objs.size := fun p hp => Heap.lt_size (N p hp).1
  refine call_enumerate_list (items := vs.toArray) ⟨_, ax.1, rfl, k, rfl⟩ fun g hE hI size keep => ?_
  have none : ∀ a, s.heap.objs.size ≤ a → h₀.get? a = none := fun a ha => Option.eq_none_iff_forall_ne_some.mpr fun o e => Nat.lt_irrefl _ (Nat.lt_of_lt_of_le (Heap.lt_size (F.keep a o e)) ha)
  exact .mk _ _ l vs k news J rfl hh (F.keeps keep) (N.grown keep) hm hz hE hI (Nat.succ_ne_self _) (none _ (Nat.le_succ _)) (none _ (Nat.le_refl _)) (Nat.ne_of_lt (Nat.lt_succ_of_lt lL)) (Nat.ne_of_lt lL)
    (fun p hp => ⟨Nat.ne_of_lt (Nat.lt_succ_of_lt (lN p hp)), Nat.ne_of_lt (lN p hp)⟩) h0 (fun oe oi C oC D m₂ i v t ys h tk E' => turn _ ⟨g, rfl⟩ _ _ oe oi C oC D m₂ i v t ys h tk E') done
/-- what holds ahead of each turn over enumerate(list) -/
inductive EnumInv (h₀ : Heap) (L : Addr) (m : Str → Option Value) (vs : List Value) (J : Nat → List Value → Prop) (e it l C D : Addr) (news : List (Addr × Obj)) (g : Array GenState) (d : Drawn) (o : OsState) : Nat → Shared → Prop
  | mk (h : Heap) (tk i : Nat) (oe oi oC : Obj) (ys : List Value) (mC : Str → Option Value) (hi : i ≤ vs.length) (hl : ys.length = i) (pE : ∀ g : Heap, g.get? e = some oe → ∃ old, IsEnum g e it i old) (pI : ∀ g : Heap, g.get? it = some oi → g.IsListIter it l i)
      (pC : LCg.NsObj oC mC) (F : Fr h₀ L h m) (N : News h₀ L h ((e, oe) :: (it, oi) :: (C, oC) :: (D, LCg.lst ys) :: news)) (hJ : J i ys) : EnumInv h₀ L m vs J e it l C D news g d o (vs.length + 1 - i) ⟨h, g, d, tk, o⟩
theorem compE_loop {elt iter : Expr} {a b : Str} {pa pb tp : Pos} {kk : Nat} {scope : Scope} {cl : List (Str × Addr)} {pos : Pos} {R : Result → Shared → Prop} {vs : List Value} {J : Nat → List Value → Prop} {e it l C D : Addr} {k n : Nat} {news : List (Addr × Obj)} {s₁ s₃ : Shared}
    (hkind : scope.kind = .function) (hxa : scope.names.lookup a = some .local) (hxb : scope.names.lookup b = some .local) (hab : ¬ a = b) (hh : A.handled = none) (hz : vs.length ≤ sizeLine) (hm : (l, listOf vs.toArray k) ∈ news)
    (nei : e ≠ it) (neC : e ≠ C) (neD : e ≠ D) (niC : it ≠ C) (niD : it ≠ D) (nCD : C ≠ D) (off : ∀ p ∈ news, p.1 ≠ e ∧ p.1 ≠ it ∧ p.1 ≠ C ∧ p.1 ≠ D)
    (turn : ∀ oe oi oC m₂ i v t ys h tk (E' : Value → Shared → Prop), vs[i]? = some v → J i ys → LCg.NsObj oC m₂ → m₂ a = some (.int i t) → m₂ b = some v → Fr h₀ L h m → News h₀ L h ((e, oe) :: (it, oi) :: (C, oC) :: (D, LCg.lst ys) :: news) →
      wpAny (model prog w) A (eval elt (compEnvC scope cl C env)) (fun z s₂ => ∃ h' tk', s₂ = { s₁ with heap := h', toks := tk' } ∧ Fr h₀ L h' m ∧ News h₀ L h' ((e, oe) :: (it, oi) :: (C, oC) :: (D, LCg.lst ys) :: news) ∧ J (i + 1) (ys ++ [z])) E' { s₁ with heap := h, toks := tk })
    (fin : ∀ ys oC mC h tk, J vs.length ys → Fr h₀ L h m → News h₀ L h ((C, oC) :: (D, LCg.lst ys) :: news) → LCg.NsObj oC mC → R (.ok .next) { s₁ with heap := h, toks := tk })
    (h₃ : EnumInv h₀ L m vs J e it l C D news s₁.gens s₁.drawn s₁.os n s₃) :
      codeAny (model prog w) A (.compLoop (.ListComp elt [⟨.Tuple [.Name a pa, .Name b pb] kk tp, iter, [], 0⟩] scope pos) 0 (.ref e) (.ref D) (compEnvC scope cl C env)) R s₃ := by
  refine kcp_loop (EnumInv h₀ L m vs J e it l C D news s₁.gens s₁.drawn s₁.os) ?_ n h₃
  rintro _ _ ⟨h, tk, i, oe, oi, oC, ys, mC, hi, hl, pE, pI, pC, F, N, hJ⟩
  obtain ⟨old, xE⟩ := pE h (N (e, oe) List.mem_cons_self).1
  have xI := pI h (N (it, oi) (List.mem_cons_of_mem _ List.mem_cons_self)).1
  have xC := (N (C, oC) (List.mem_cons_of_mem _ (List.mem_cons_of_mem _ List.mem_cons_self))).1
  have xl : h.IsList l vs.toArray := ⟨_, (N _ (List.mem_cons_of_mem _ (List.mem_cons_of_mem _ (List.mem_cons_of_mem _ (List.mem_cons_of_mem _ hm))))).1, rfl, k, rfl⟩
  cases hv : vs[i]? with
  | none =>
    obtain rfl : i = vs.length := Nat.le_antisymm hi (List.getElem?_eq_none_iff.mp hv)
    refine wpAny_pyNext_enum_end hh xE xI xl (by rw [List.getElem?_toArray]; exact hv) fun g ext => ?_
    obtain ⟨F₁, N₁⟩ := led_front (h' := g) (fr := [(e, oe), (it, oi)]) (fr' := []) (r := (C, oC) :: (D, LCg.lst ys) :: news) F N (fun _ q => nomatch q) (by
      rintro p (_ | ⟨_, _ | ⟨_, q⟩⟩) (r | ⟨_, r | ⟨_, r⟩⟩)
      · exact neC rfl
      · exact niC rfl
      · cases r
      · exact neD rfl
      · exact niD rfl
      · cases r
      · exact (off _ q).1 rfl
      · exact (off _ q).2.1 rfl
      · cases r) (fun b o q x => ext b o (fun r => q (r ▸ List.mem_cons_of_mem _ List.mem_cons_self)) x) fun _ q => nomatch q
    exact fin ys oC mC g tk hJ F₁ N₁ pC
  | some v =>
    have lt : i < vs.length := (List.getElem?_eq_some_iff.mp hv).1
    have hT : e ≠ h.objs.size := Nat.ne_of_lt (Heap.lt_size xE)
    refine wpAny_pyNext_enum_item xE xI xl (by rw [List.getElem?_toArray]; exact hv) nei fun g₁ xE₁ xI₁ xT₁ _ keep₁ => ?_
    refine wpAny_letOwnedTupleGo_enum xE₁ fun g₂ xE₂ but₂ => ?_
    have k₂ := but₂.extBut
    have keep : ∀ b o, b ≠ e → b ≠ it → h.get? b = some o → g₂.get? b = some o := fun b o h1 h2 x => k₂ b o h1 (keep₁ b o h1 h2 x)
    refine kcp_assign (env := compEnvC scope cl C env) hh ⟨_, k₂ _ _ (Ne.symm hT) xT₁, rfl, _, rfl⟩ (lookup_relabel_local hxa) (lookup_relabel_local hxb) (by simp [compEnvC, relabel, hkind]) (pC.ns (keep _ _ (Ne.symm neC) (Ne.symm niC) xC)) fun g₃ tk₃ nC k₃ => ?_
    obtain ⟨oC₃, eC₃, pC₃⟩ := LCg.ns_obj nC
    obtain ⟨oi₃, xi, pi⟩ := xI₁.extBut k₂ (Ne.symm nei)
    obtain ⟨oe₃, xe, pe⟩ : ∃ o : Obj, g₂.get? e = some o ∧ ∀ g : Heap, g.get? e = some o → IsEnum g e it ((i + 1 : Nat) : Int) v := ⟨_, xE₂, fun g x => by rw [Int.natCast_add]; exact x⟩
    obtain ⟨F₃, N₃⟩ := led_front (h' := g₃) (fr := [(e, oe), (it, oi), (C, oC)]) (fr' := [(e, oe₃), (it, oi₃), (C, oC₃)]) (r := (D, LCg.lst ys) :: news) F N (by
      rintro p (_ | ⟨_, _ | ⟨_, _ | ⟨_, q⟩⟩⟩)
      · exact List.mem_cons_self
      · exact List.mem_cons_of_mem _ List.mem_cons_self
      · exact List.mem_cons_of_mem _ (List.mem_cons_of_mem _ List.mem_cons_self)
      · cases q) (by
      rintro p (_ | ⟨_, q⟩) (r | ⟨_, r | ⟨_, r | ⟨_, r⟩⟩⟩)
      · exact neD rfl
      · exact niD rfl
      · exact nCD rfl
      · cases r
      · exact (off _ q).1 rfl
      · exact (off _ q).2.1 rfl
      · exact (off _ q).2.2.1 rfl
      · cases r) (fun b o q x => k₃ b o (fun r => q (r ▸ List.mem_cons_of_mem _ (List.mem_cons_of_mem _ List.mem_cons_self))) (keep b o (fun r => q (r ▸ List.mem_cons_self)) (fun r => q (r ▸ List.mem_cons_of_mem _ List.mem_cons_self)) x)) (by
      rintro p (_ | ⟨_, _ | ⟨_, _ | ⟨_, q⟩⟩⟩)
      · exact k₃ e _ neC xe
      · exact k₃ it _ niC xi
      · exact eC₃
      · cases q)
    refine wpAny_mono (turn oe₃ oi₃ oC₃ _ i v tk ys g₃ tk₃ _ hv hJ pC₃ (by simp [hab]) (if_pos rfl) F₃ N₃) (fun z _ q => ?_) fun _ _ e => e
    obtain ⟨g₄, tk₄, rfl, F₄, N₄, hJ₄⟩ := q
    refine append_K (D := D) F₄ N₄ (.tail neD (.tail niD (.tail nCD (.head fun p q => (off p q).2.2.2)))) (fun g₅ F₅ N₅ => ?_) ?_
    · exact ⟨vs.length + 1 - (i + 1), Nat.sub_lt_sub_left (Nat.lt_succ_of_lt lt) (Nat.lt_succ_self i),
        .mk g₅ tk₄ (i + 1) oe₃ oi₃ oC₃ (ys ++ [z]) _ lt (by rw [List.length_append, hl]; rfl) (fun g x => ⟨v, pe g x⟩) (fun g x => ⟨oi₃, x, pi⟩) pC₃ F₅ (LCg.lst_snoc ys z ▸ N₅) hJ₄⟩
    · rw [List.size_toArray, hl]
      exact Nat.le_trans hi hz
theorem Assign_ListComp_E {elt iter : Expr} {a b y : Str} {pa pb tp py : Pos} {kk : Nat} {scope : Scope} {cl : List (Str × Addr)} {pos spos : Pos} {Q : Flow → Shared → Prop} (_F₀ : Fr h₀ L s.heap m) (hLe : env.locals = L)
    (hsw : swapsWith (.ListComp elt [⟨.Tuple [.Name a pa, .Name b pb] kk tp, iter, [], 0⟩] scope pos) (some (.Name y py)) spos.line env = pure true)
    (hclos : closureFor scope env = pure cl) (hcell : ∀ z ∈ scope.names, z.2 ≠ .cell) (hkind : scope.kind = .function)
    (hnames : ∀ z ∈ scope.names, z.2 = .local → scope.names.lookup z.1 = some .local) (hxa : scope.names.lookup a = some .local) (hxb : scope.names.lookup b = some .local) (hab : ¬ a = b)
    (hy : env.kindOf y = some .local) (hp : (env.scope.kind == .class || (env.scope.kind == .module && env.locals != env.globals)) = false)
    (h : wpAny (model prog w) A (eval iter env) (CompEnum prog w A h₀ L m env elt a b scope cl y Q) E s)
    (hs : ∀ x, foldedSetIterable iter env x = pure x := by intro _; rfl) :
    wpAny (model prog w) A (exec (.Assign [.Name y py] (.ListComp elt [⟨.Tuple [.Name a pa, .Name b pb] kk tp, iter, [], 0⟩] scope pos) spos) env) Q E s := by
  subst hLe
  rw [exec_Assign_Name_used _ _ _ _ hsw]
  refine wpAny_bind (wpAny_standAt (wpAny_bind (wpAny_bind (wpAny_mono (wpAny_comprehension_free (e := .ListComp elt [⟨.Tuple [.Name a pa, .Name b pb] kk tp, iter, [], 0⟩] scope pos) (use := some (assign (.Name y py) env)) (Q := fun _ s' => Q .next s') rfl hs hclos hkind hnames
    (wpAny_mono h (fun xv s₁ src => ?_) fun _ _ e => e)) (fun _ _ q => wpAny_pure (wpAny_pure q)) fun _ _ e => e))))
  obtain ⟨e, it, l, vs, k, news, J, rfl, hh, F, N, hm, hz, xE, xI, nei, e₀, i₀, nLe, nLi, offE, hj, turn, done⟩ := src
  refine wpAny_pyIter_enum xE (comp_lay hcell hkind F N fun C D g oC mC eD eC top pC F₁ N₁ => ?_)
  obtain ⟨oi, xi, pi⟩ := xI
  have lE : e < D := eD ▸ Heap.lt_size xE
  have lI : it < D := eD ▸ Heap.lt_size xi
  have lC : D < C := eC ▸ Nat.lt_succ_self D
  have lN : ∀ p ∈ news, p.1 < D := fun p hp => eD ▸ Heap.lt_size (N p hp).1
  have loop := compE_loop (elt := elt) (iter := iter) (pa := pa) (pb := pb) (tp := tp) (kk := kk) (cl := cl) (pos := pos) (env := env) (R := compPost (model prog w) A E (some (assign (.Name y py) env)) (fun _ s' => Q .next s') (.ref D) C) (s₁ := s₁)
    hkind hxa hxb hab hh hz hm nei (Nat.ne_of_lt (Nat.lt_trans lE lC)) (Nat.ne_of_lt lE) (Nat.ne_of_lt (Nat.lt_trans lI lC)) (Nat.ne_of_lt lI) (Nat.ne_of_gt lC)
    (fun p hp => ⟨(offE p hp).1, (offE p hp).2, Nat.ne_of_lt (Nat.lt_trans (lN p hp) lC), Nat.ne_of_lt (lN p hp)⟩)
    (fun oe oi oC m₂ i v t ys h tk E' a1 a2 a3 a4 a5 a6 a7 => turn oe oi C oC D m₂ i v t ys h tk E' a1 a2 a3 a4 a5 a6 a7 (fun p hp => ⟨Nat.ne_of_lt (Nat.lt_trans (lN p hp) lC), Nat.ne_of_lt (lN p hp)⟩) (Nat.ne_of_gt lC))
    (fun ys oC mC h tk hJ F₂ N₂ pC => wpAny_assign_Name (wpAny_storeName_local hy F₂.ns (fun g₁ n₁ but => comp_leave (F₂.set n₁ but) (fun p hp => ⟨but.extBut _ _ (N₂ p hp).2.1 (N₂ p hp).1, (N₂ p hp).2⟩) (by
      rintro p (_ | ⟨_, q⟩)
      · exact Nat.ne_of_lt lC
      · exact Nat.ne_of_lt (Nat.lt_trans (lN p q) lC)) pC fun g₂ F₃ N₃ => done D ys g₂ _ hJ F₃ N₃ (LCg.Off3.of (I := D) (C := D) fun p hp => ⟨Nat.ne_of_lt (lN p hp), Nat.ne_of_lt (lN p hp), Nat.ne_of_lt (lN p hp)⟩).one) hp))
    (.mk g s₁.toks 0 _ oi oC [] _ (Nat.zero_le _) rfl (fun _ x => ⟨_, x⟩) (fun _ x => ⟨oi, x, pi⟩) pC F₁ (by
      rintro p (_ | ⟨_, _ | ⟨_, q⟩⟩)
      · exact ⟨top _ _ xE, Ne.symm nLe, e₀⟩
      · exact ⟨top _ _ xi, Ne.symm nLi, i₀⟩
      · exact N₁ p q) hj)
  exact codeAny_compStart_list loop (wpAny_pyIter_enum (top _ _ xE) loop)
end
section
variable {prog : Program} {w : World} {A : Around} {s : Shared} {h₀ : Heap} {L : Addr} {m : Str → Option Value} {env : Env} {elt : Expr} {x : Str} {scope : Scope} {cl : List (Str × Addr)} {S : List (Addr × Obj) → Prop} {P : Nat → Value → Prop} {Fin : List Value → List (Addr × Obj) → Prop} {news : List (Addr × Obj)}
/-- behind one element, the ledger as before -/
noncomputable def EltI (h₀ : Heap) (L : Addr) (m : Str → Option Value) (s₁ : Shared) (nx : List (Addr × Obj)) (J : Value → Prop) (y : Value) (s₂ : Shared) : Prop :=
  ∃ h' tk, s₂ = { s₁ with heap := h', toks := tk } ∧ Fr h₀ L h' m ∧ News h₀ L h' nx ∧ J y
/-- a comprehension that leaves the ledger as it is -/
theorem comp_inv (J : Nat → List Value → Prop) {n : Nat} (hS : S news) (h0 : J 0 [])
    (turn : ∀ i v I oI C oC D m₂ ys h tk (E' : Value → Shared → Prop), i < n → P i v → J i ys → LCg.NsObj oC m₂ → m₂ x = some v → Fr h₀ L h m → News h₀ L h ((I, oI) :: (C, oC) :: (D, LCg.lst ys) :: news) → LCg.Off3 I C D news → ((@Ne Nat I C) ∧ (@Ne Nat I D) ∧ (@Ne Nat C D)) →
      wpAny (model prog w) A (eval elt (compEnvC scope cl C env)) (EltI h₀ L m { s with heap := h, toks := tk } ((I, oI) :: (C, oC) :: (D, LCg.lst ys) :: news) fun y => J (i + 1) (ys ++ [y])) E' { s with heap := h, toks := tk })
    (fin : ∀ ys, J n ys → Fin ys news) : LCg.CompRest prog w A h₀ L m env elt x scope cl s S P Fin n 0 [] news := by
  have key : ∀ (k i : Nat) (ys : List Value), i + k = n → J i ys → LCg.CompRest prog w A h₀ L m env elt x scope cl s S P Fin k i ys news := by
    intro k
    induction k with
    | zero =>
      intro i ys hi hJ
      have e : i = n := by omega
      subst e
      exact LCg.CompRest.zero (fin ys hJ)
    | succ k ih =>
      intro i ys hi hJ
      refine LCg.CompRest.succ fun v I oI C oC D m₂ h tk E' hv hC hx F N off ne => ?_
      refine wpAny_mono (turn i v I oI C oC D m₂ ys h tk E' (by omega) hv hJ hC hx F N off ne) (fun y s₂ hq => ?_) fun _ _ e => e
      obtain ⟨h', tk', e, F', N', hJ'⟩ := hq
      exact ⟨h', tk', news, e, F', N', off, hS, ih (i + 1) _ (by omega) hJ'⟩
  exact key n 0 [] (by omega) h0
end
end PartCompE
section PartVals
theorem rng1 {n : Nat} (hn : n ≤ 100000) : Builtin.Range.small 0 n 1 = true ∧ Builtin.Range.rangeSize 0 (n : Int) 1 = (n : Int) := by
  have hs : Builtin.Range.rangeSize 0 (n : Int) 1 = (n : Int) := by
    rw [Builtin.Range.rangeSize, if_pos (by omega)]
    split <;> omega
  refine ⟨?_, hs⟩
  unfold Builtin.Range.small
  rw [hs]
  have f : ∀ i : Int, 0 ≤ i → i ≤ 200000 → Builtin.Range.rangeFitsLong i = true := fun i h1 h2 => by
    unfold Builtin.Range.rangeFitsLong
    rw [Bool.and_eq_true, decide_eq_true_eq, decide_eq_true_eq]
    constructor <;> omega
  rw [f 0 (by omega) (by omega), f 1 (by omega) (by omega), f (n : Int) (by omega) (by omega), if_pos (by omega), f ((n : Int) + (1 - 1)) (by omega) (by omega)]
  simp
/-- the numbers' texts, from nought on -/
noncomputable def numD (i : Nat) : List PyData := (List.range i).map fun k => PyData.str (numS k)
structure NumJ (i : Nat) (ys : List Value) : Prop where
  a : ys.map atD = numD i
  b : ∀ v ∈ ys, isAt v = true
theorem num_at (k : Nat) (t : Tok) : isAt (.str (numS k) t) = true := strOk_num k
theorem NumJ.nil : NumJ 0 [] := ⟨rfl, by simp⟩
theorem NumJ.snoc {i : Nat} {ys : List Value} (h : NumJ i ys) (t : Tok) : NumJ (i + 1) (ys ++ [.str (numS i) t]) := by
  refine ⟨?_, ?_⟩
  · rw [List.map_append, h.a]
    unfold numD
    rw [List.range_succ, List.map_append]
    rfl
  · intro v hv
    rcases List.mem_append.mp hv with hv | hv
    · exact h.b v hv
    · rw [List.mem_singleton.mp hv]
      exact num_at i t
theorem valV_num (rs : List Rw) : NumJ rs.length (valV 0 rs) := by
  refine ⟨?_, at_valV rs 0⟩
  refine List.ext_getElem? fun i => ?_
  unfold numD
  rw [List.getElem?_map, List.getElem?_map]
  by_cases h : i < rs.length
  · have e := valV_get (k := 0) (List.getElem?_eq_getElem h)
    rw [e, List.getElem?_range h, Nat.zero_add]
    rfl
  · have hl : (valV 0 rs).length = rs.length := by
      have := congrArg List.length (valV_range rs)
      rw [List.length_map, List.length_range'] at this
      exact this.symm
    rw [List.getElem?_eq_none (by rw [hl]; omega), List.getElem?_eq_none (by rw [List.length_range]; omega)]
    rfl
theorem num_same {i : Nat} {ys zs : List Value} (h : NumJ i ys) (h' : NumJ i zs) : false = true ↔ ys.map atD ≠ zs.map atD := by
  rw [h.a, h'.a]
  simp
section
variable {prog : Program} {w : World} {A : Around} {s : Shared} {h₀ : Heap} {L : Addr} {m : Str → Option Value} {env : Env} {ct elt : Expr} {x : Str} {scope : Scope} {cl : List (Str × Addr)} {S : List (Addr × Obj) → Prop} {P : Nat → Value → Prop} {Fin : List Value → List (Addr × Obj) → Prop} {news : List (Addr × Obj)}
/-- a comprehension with a test that leaves the ledger as it is -/
theorem comp_invT (b : Nat → Bool) (J : Nat → List Value → Prop) {n : Nat} (hS : S news) (h0 : J 0 []) (hno : ∀ i ys, b i = false → J i ys → J (i + 1) ys)
    (test : ∀ i v I oI C oC D m₂ ys h tk (E' : Value → Shared → Prop) (Q' : Bool → Shared → Prop), i < n → P i v → LCg.NsObj oC m₂ → m₂ x = some v → Fr h₀ L h m → News h₀ L h ((I, oI) :: (C, oC) :: (D, LCg.lst ys) :: news) → LCg.Off3 I C D news → ((@Ne Nat I C) ∧ (@Ne Nat I D) ∧ (@Ne Nat C D)) →
      (∀ h' tk', Fr h₀ L h' m → News h₀ L h' ((I, oI) :: (C, oC) :: (D, LCg.lst ys) :: news) → Q' (b i) { s with heap := h', toks := tk' }) →
      wpAny (model prog w) A (isTrue ct (compEnvC scope cl C env) (eval ct (compEnvC scope cl C env))) Q' E' { s with heap := h, toks := tk })
    (turn : ∀ i v I oI C oC D m₂ ys h tk (E' : Value → Shared → Prop), i < n → b i = true → P i v → J i ys → LCg.NsObj oC m₂ → m₂ x = some v → Fr h₀ L h m → News h₀ L h ((I, oI) :: (C, oC) :: (D, LCg.lst ys) :: news) → LCg.Off3 I C D news → ((@Ne Nat I C) ∧ (@Ne Nat I D) ∧ (@Ne Nat C D)) →
      wpAny (model prog w) A (eval elt (compEnvC scope cl C env)) (EltI h₀ L m { s with heap := h, toks := tk } ((I, oI) :: (C, oC) :: (D, LCg.lst ys) :: news) fun y => J (i + 1) (ys ++ [y])) E' { s with heap := h, toks := tk })
    (fin : ∀ ys, J n ys → Fin ys news) : LCt.CompRestT prog w A h₀ L m env ct elt x scope cl s S P Fin n 0 [] news := by
  have key : ∀ (k i : Nat) (ys : List Value), i + k = n → J i ys → LCt.CompRestT prog w A h₀ L m env ct elt x scope cl s S P Fin k i ys news := by
    intro k
    induction k with
    | zero =>
      intro i ys hi hJ
      have e : i = n := by omega
      subst e
      exact LCt.CompRestT.zero (fin ys hJ)
    | succ k ih =>
      intro i ys hi hJ
      refine LCt.CompRestT.succ fun v I oI C oC D m₂ h tk E' hv hC hx F N off ne => ?_
      refine test i v I oI C oC D m₂ ys h tk E' _ (by omega) hv hC hx F N off ne fun h1 tk1 F1 N1 => ?_
      cases hb : b i with
      | true =>
        rw [if_pos rfl]
        refine wpAny_mono (turn i v I oI C oC D m₂ ys h1 tk1 E' (by omega) hb hv hJ hC hx F1 N1 off ne) (fun y s₂ hq => ?_) fun _ _ e => e
        obtain ⟨h', tk', e, F', N', hJ'⟩ := hq
        exact ⟨h', tk', news, e, F', N', off, hS, ih (i + 1) _ (by omega) hJ'⟩
      | false =>
        rw [if_neg (by exact Bool.false_ne_true)]
        exact ⟨h1, tk1, news, rfl, F1, N1, off, hS, ih (i + 1) ys (by omega) (hno i ys hb hJ)⟩
  exact key n 0 [] (by omega) h0
end
/-- the numbers' texts that a test lets through -/
structure SelJ (b : Nat → Bool) (i : Nat) (ys : List Value) : Prop where
  a : ys.map atD = ((List.range i).filter b).map fun k => PyData.str (numS k)
  b : ∀ v ∈ ys, isAt v = true
theorem SelJ.nil {b : Nat → Bool} : SelJ b 0 [] := ⟨rfl, by simp⟩
theorem SelJ.no {b : Nat → Bool} {i : Nat} {ys : List Value} (hb : b i = false) (h : SelJ b i ys) : SelJ b (i + 1) ys := by
  refine ⟨?_, h.b⟩
  rw [h.a, List.range_succ, List.filter_append]
  simp [hb]
theorem SelJ.yes {b : Nat → Bool} {i : Nat} {ys : List Value} (hb : b i = true) (h : SelJ b i ys) (t : Tok) : SelJ b (i + 1) (ys ++ [.str (numS i) t]) := by
  refine ⟨?_, ?_⟩
  · rw [List.map_append, h.a, List.range_succ, List.filter_append]
    simp [hb, atD]
  · intro v hv
    rcases List.mem_append.mp hv with hv | hv
    · exact h.b v hv
    · rw [List.mem_singleton.mp hv]
      exact num_at i t
theorem plV_sel {rs : List Rw} {l : Lt} (hl : l.low = .a) (h : ∀ r ∈ rs, r.l ≠ l.other) : SelJ (fun i => (rs[i]?).any fun r => decide (r.l = l)) rs.length (plV l.other rs) := by
  have e : ∀ i ∈ List.range' 0 rs.length, rowB l.other rs i = (rs[i]?).any fun r => decide (r.l = l) := by
    intro i hi
    rw [List.mem_range'_1] at hi
    have hi' : i < rs.length := by omega
    unfold rowB
    rw [List.getElem?_eq_getElem hi']
    have hr := h _ (List.getElem_mem hi')
    revert hr
    simp only [Option.any_some]
    generalize rs[i].l = x
    intro hr
    rw [decide_eq_decide]
    have hl' : l = .a ∨ l = .A := by cases l <;> simp_all
    rcases hl' with rfl | rfl <;> cases x <;> simp_all
  have hv : ∀ i ∈ List.range' 0 rs.length, ∃ u, ((valV 0 rs)[i]?).getD .none = .str (numS i) u := by
    intro i hi
    rw [List.mem_range'_1] at hi
    have hi' : i < rs.length := by omega
    have := valV_get (k := 0) (List.getElem?_eq_getElem hi')
    rw [Nat.zero_add] at this
    exact ⟨_, by rw [this]; rfl⟩
  refine ⟨?_, ?_⟩
  · show ((((List.range' 0 rs.length).filter fun i => rowB l.other rs i).map fun i => ((valV 0 rs)[i]?).getD .none).map atD) = _
    rw [List.filter_congr e, List.map_map, ← List.range_eq_range']
    refine List.map_congr_left fun i hi => ?_
    obtain ⟨u, hu⟩ := hv i (by rw [← List.range_eq_range']; exact (List.mem_filter.mp hi).1)
    show atD (((valV 0 rs)[i]?).getD .none) = _
    rw [hu]
    rfl
  · intro v hv'
    obtain ⟨i, hi, rfl⟩ := List.mem_map.mp hv'
    obtain ⟨u, hu⟩ := hv i (List.mem_filter.mp hi).1
    rw [hu]
    exact num_at i u
end PartVals
/-- a name of a cell is set -/
theorem set_cell {M : Model} {A : Around} {E : Value → Shared → Prop} {s : Shared} {h₀ : Heap} {L a : Addr} {m : Str → Option Value} {cn : Str} {cs : Scope} {ccd : Value} {cl : List (Str × Addr)} {x : Str} {v : Value} {rest : List (Addr × Obj)} {c : Addr} {o : Obj} {v₀ : Option Value} {Q : Unit → Shared → Prop}
    (F : Fr h₀ L s.heap m) (N : News h₀ L s.heap ((c, o) :: rest)) (off : ∀ q ∈ rest, q.1 ≠ c) (hd : o.data = .cell v₀) (hc : cl.lookup x = some c)
    (h : ∀ h' o', Fr h₀ L h' m → News h₀ L h' ((c, o') :: rest) → o'.data = .cell (some v) → Q () { s with heap := h' })
    (hk : cs.kind = .function) (hx : (envX cn cs L a ccd cl).kindOf x = some .cell) : wpAny M A (storeName (envX cn cs L a ccd cl) x v) Q E s :=
  storeX_C F N hc (.head off) hd h hk hx
/-- what is no cell does not stand where a cell stands -/
theorem off_cell {h₀ h : Heap} {L c : Addr} {o : Obj} {news : List (Addr × Obj)} {v₀ : Option Value} (N : News h₀ L h news) (hm : (c, o) ∈ news) (hd : o.data = .cell v₀) {q : Addr × Obj} (hq : q ∈ news) (hne : ∀ v, q.2.data ≠ .cell v) : q.1 ≠ c := fun e => by
  have h1 := (N q hq).1
  rw [e, (N _ hm).1] at h1
  exact hne v₀ (by rw [← Option.some.inj h1]; exact hd)
theorem four_ints {ys : List Value} {xs : List (Int × Tok)} (e : ys = xs.map fun x => Value.int x.1 x.2) (h : xs.length = 4) : ∃ a b c d ta tb tc td, ys = [.int a ta, .int b tb, .int c tc, .int d td] := by
  match xs, h with
  | [x, y, z, u], _ => exact ⟨x.1, y.1, z.1, u.1, x.2, y.2, z.2, u.2, e⟩
theorem rng4 {i n : Nat} (hi : i < 4) (hn : n ≤ 63) : Builtin.Range.small i n 4 = true ∧ Builtin.Range.rangeSize i n 4 = (((Builtin.Range.rangeSize i n 4).toNat : Nat) : Int) ∧ (Builtin.Range.rangeSize i n 4).toNat ≤ 63 ∧ ∀ j, j < (Builtin.Range.rangeSize i n 4).toNat → i + 4 * j < n := by
  have h : ∀ i, i < 4 → ∀ n, n ≤ 63 → Builtin.Range.small (i : Nat) (n : Nat) 4 = true ∧ Builtin.Range.rangeSize (i : Nat) (n : Nat) 4 = (((Builtin.Range.rangeSize (i : Nat) (n : Nat) 4).toNat : Nat) : Int) ∧ (Builtin.Range.rangeSize (i : Nat) (n : Nat) 4).toNat ≤ 63 ∧ ∀ j, j < (Builtin.Range.rangeSize (i : Nat) (n : Nat) 4).toNat → i + 4 * j < n := by decide +kernel
  exact h i hi n hn
theorem rngOf {vs : List Value} {ns : List Int} (hI : IntsAre vs ns) (hn : ns.length ≤ 63) {i : Nat} (hi : i < 4) : Builtin.Range.small i ns.length 4 = true ∧ Builtin.Range.rangeSize i ns.length 4 = (((Builtin.Range.rangeSize i ns.length 4).toNat : Nat) : Int) ∧ (Builtin.Range.rangeSize i ns.length 4).toNat ≤ sizeLine ∧ ∀ j, j < (Builtin.Range.rangeSize i ns.length 4).toNat → ∃ n t, (i : Int) + (j : Int) * 4 < 64 ∧ vs[((i : Int) + (j : Int) * 4).toNat]? = some (.int n t) := by
  obtain ⟨r1, r2, r3, r4⟩ := rng4 hi hn
  refine ⟨r1, r2, Nat.le_trans r3 (Nat.le_of_ble_eq_true rfl), fun j hj => ?_⟩
  have h : i + 4 * j < vs.length := by
    rw [hI.length]
    exact r4 j hj
  have e : ((i : Int) + (j : Int) * 4).toNat = i + 4 * j := by omega
  obtain ⟨n, t, e1, _⟩ := hI.at (i + 4 * j) _ (List.getElem?_eq_getElem h)
  exact ⟨n, t, by have := hI.length; omega, by rw [e, List.getElem?_eq_getElem h, e1]⟩
theorem ints_snoc {y : Int} {t : Tok} : ∀ {vs : List Value} {ys : List Int}, IntsAre vs ys → IntsAre (vs ++ [.int y t]) (ys ++ [y])
  | _, _, .nil => .cons y t .nil
  | _, _, .cons z u r => .cons z u (ints_snoc r)
/-- a name was set, the rest kept -/
structure GotA (h₀ : Heap) (L : Addr) (m : Str → Option Value) (news : List (Addr × Obj)) (y : Str) (P : Value → Nat → Prop) (s : Shared) (fl : Flow) (s' : Shared) : Prop where
  ex : ∃ h' tk v, fl = .next ∧ s' = { s with heap := h', toks := tk } ∧ P v tk ∧ Fr h₀ L h' (fun z => if z = y then some v else m z) ∧ News h₀ L h' news
theorem got_a {h₀ : Heap} {L : Addr} {m : Str → Option Value} {news nx : List (Addr × Obj)} {y : Str} {P : Value → Nat → Prop} {v : Value} {h h' : Heap} {g d o} {tk tk' : Nat} (F : Fr h₀ L h' (fun z => if z = y then some v else m z)) (N : News h₀ L h' nx) (hP : P v tk') (hs : ∀ q ∈ news, q ∈ nx) :
    GotA h₀ L m news y P ⟨h, g, d, tk, o⟩ .next ⟨h', g, d, tk', o⟩ := ⟨h', tk', v, rfl, rfl, hP, F, news_sub N hs⟩
theorem cut_asg {M : Model} {A : Around} {t : Sem Flow} {Q : Flow → Shared → Prop} {E : Value → Shared → Prop} {h : Heap} {g d o} {tk : Nat} {h₀ : Heap} {L : Addr} {m : Str → Option Value} {news : List (Addr × Obj)} (_F : Fr h₀ L h m) (_N : News h₀ L h news) (y : Str) (P : Value → Nat → Prop)
    (h1 : wpAny M A t (GotA h₀ L m news y P ⟨h, g, d, tk, o⟩) E ⟨h, g, d, tk, o⟩)
    (h2 : ∀ h' tk' v, tk ≤ tk' → P v tk' → Fr h₀ L h' (fun z => if z = y then some v else m z) → News h₀ L h' news → Q .next ⟨h', g, d, tk', o⟩) : wpAny M A t Q E ⟨h, g, d, tk, o⟩ :=
  wpAny_toksQ (wpAny_mono h1 (fun _ _ ⟨h', tk', v, e1, e2, hP, F', N'⟩ => by subst e1; subst e2; exact fun le => h2 h' tk' v le hP F' N') fun _ _ e => e)
theorem wordL_code (w : List Lt) : sgS w = tS (w.map Lt.code) := rfl
theorem six_last {h₀ h : Heap} {L : Addr} {x1 x2 x3 x4 x5 x6 : Addr × Obj} (N : News h₀ L h [x1, x2, x3, x4, x5, x6]) : News h₀ L h [x6, x1, x2, x3, x4, x5] := news_sub N fun q hq => by
  simp only [List.mem_cons] at hq ⊢
  grind
theorem lex_cell {h₀ h : Heap} {L : Addr} {x1 x2 x3 x4 x5 x6 x7 x8 x9 x0 y1 y2 y3 y4 y5 : Addr × Obj} (N : News h₀ L h [x1, x2, x3, x4, x5, x6, x7, x8, x9, x0, y1, y2, y3, y4, y5]) : News h₀ L h [y4, x1, x2, x3, x4, x5, x6, x7, x8, x9, x0, y1, y2, y3, y5] := news_sub N fun q hq => by
  simp only [List.mem_cons] at hq ⊢
  grind
theorem lex_keep {h₀ h : Heap} {L : Addr} {x1 x2 x3 x4 x5 x6 x7 x8 x9 x0 y1 y2 y3 y4 y5 : Addr × Obj} (N : News h₀ L h [y4, x1, x2, x3, x4, x5, x6, x7, x8, x9, x0, y1, y2, y3, y5]) : News h₀ L h [x1, x2, x3, x4, x5, x6, x7, x8, x9, x0, y2, y3, y4] := news_sub N fun q hq => by
  simp only [List.mem_cons] at hq ⊢
  grind
theorem keep4 {a : Addr} {x0 y1 y2 y3 y4 y5 : Addr × Obj} {o : Obj} (h : ∀ q ∈ [x0, y1, y2, y3, y4, y5], q.1 ≠ a) : ∀ q ∈ [x0, y2, y3, (y4.1, o)], q.1 ≠ a := by
  simp only [List.mem_cons, List.not_mem_nil, or_false, forall_eq_or_imp, forall_eq] at h ⊢
  exact ⟨h.1, h.2.2.1, h.2.2.2.1, h.2.2.2.2.1⟩
theorem good_text {cs : List Ch} {wd lt : List Lt} (h : cs.map (·.c) = textT wd lt) (h1 : wd.length = 3) (h2 : lt.length ≤ 15) : Good cs 1 := by
  have hl := congrArg List.length h
  rw [List.length_map] at hl
  have := text_len wd lt
  refine ⟨fun x hx => ?_, by decide, by omega⟩
  exact text_lt wd lt x.c (h ▸ List.mem_map_of_mem hx)
theorem at_sgS (w : List Lt) (t : Tok) : isAt (.str (sgS w) t) = true := by
  show Array.all _ _ = true
  have h := sgS_ascii w
  rw [Array.all_eq_true'] at h ⊢
  intro x hx
  have := h x hx
  simp at this ⊢
  omega
theorem at_two (x y : List Lt) (t u : Tok) : ∀ v ∈ [Value.str (sgS x) t, .str (sgS y) u], isAt v = true := List.forall_mem_cons.mpr ⟨at_sgS x t, List.forall_mem_cons.mpr ⟨at_sgS y u, by simp⟩⟩
theorem told_drop {h₀ h : Heap} {L : Addr} {x a b : Addr × Obj} {r : List (Addr × Obj)} (N : News h₀ L h (x :: a :: b :: r)) : News h₀ L h (x :: r) := news_sub N fun q hq => (List.mem_cons.mp hq).elim (fun e => e ▸ List.mem_cons_self) fun e => List.mem_cons_of_mem _ (List.mem_cons_of_mem _ (List.mem_cons_of_mem _ e))
theorem tx_e : Str.ofString "" = tS [] := by decide +kernel
theorem at_e (t : Tok) : isAt (.str (Str.ofString "") t) = true := by rw [tx_e]; exact tS_at (by simp) t
theorem at_3 (t : Tok) : isAt (.str (Str.ofString ". \"\\\"") t) = true := by rw [tx_3]; exact tS_at (by decide) t
theorem at_4 (t : Tok) : isAt (.str (Str.ofString "\" x") t) = true := by rw [tx_4]; exact tS_at (by decide) t
theorem told_at1 (lt : List Lt) (b1 b2 b3 b4 b5 tn : Tok) : ∀ v ∈ [Value.none, .none, .str (Str.ofString "") b1, .str (sgS lt) b2, .str (tS tok3) b3, .str (tS tok4) b4, .str (tS []) b5, .int 2 tn], isAt v = true :=
  List.forall_mem_cons.mpr ⟨rfl, List.forall_mem_cons.mpr ⟨rfl, List.forall_mem_cons.mpr ⟨at_e _, List.forall_mem_cons.mpr ⟨at_sgS _ _, List.forall_mem_cons.mpr ⟨tS_at (by decide) _, List.forall_mem_cons.mpr ⟨tS_at (by decide) _, List.forall_mem_cons.mpr ⟨tS_at (by simp) _, List.forall_mem_cons.mpr ⟨rfl, by simp⟩⟩⟩⟩⟩⟩⟩⟩
theorem told_at2 (lt : List Lt) (b1 b2 b3 b4 b5 tn : Tok) : ∀ v ∈ [Value.none, .none, .str (Str.ofString "") b1, .str (sgS lt) b2, .str (Str.ofString ". \"\\\"") b3, .str (Str.ofString "\" x") b4, .str (Str.ofString "") b5, .int 2 tn], isAt v = true :=
  List.forall_mem_cons.mpr ⟨rfl, List.forall_mem_cons.mpr ⟨rfl, List.forall_mem_cons.mpr ⟨at_e _, List.forall_mem_cons.mpr ⟨at_sgS _ _, List.forall_mem_cons.mpr ⟨at_3 _, List.forall_mem_cons.mpr ⟨at_4 _, List.forall_mem_cons.mpr ⟨at_e _, List.forall_mem_cons.mpr ⟨rfl, by simp⟩⟩⟩⟩⟩⟩⟩⟩
theorem told_same (lt : List Lt) (b1 b2 b3 b4 b5 tn c1 c2 c3 c4 c5 cn : Tok) : false = true ↔ [Value.none, .none, .str (Str.ofString "") b1, .str (sgS lt) b2, .str (tS tok3) b3, .str (tS tok4) b4, .str (tS []) b5, .int 2 tn].map atD ≠ [Value.none, .none, .str (Str.ofString "") c1, .str (sgS lt) c2, .str (Str.ofString ". \"\\\"") c3, .str (Str.ofString "\" x") c4, .str (Str.ofString "") c5, .int 2 cn].map atD := by
  rw [tx_3, tx_4, tx_e]
  simp [atD]
theorem led_in {α : Type} {x y z u : α} {r : List α} {q : α} (h : q ∈ x :: y :: z :: r) : q ∈ x :: y :: z :: u :: r := by
  simp only [List.mem_cons] at h ⊢
  rcases h with h | h | h | h
  · exact .inl h
  · exact .inr (.inl h)
  · exact .inr (.inr (.inl h))
  · exact .inr (.inr (.inr (.inr h)))
theorem names_cell {h₀ h : Heap} {L : Addr} {d t y4 y3 : Addr × Obj} {r : List (Addr × Obj)} (N : News h₀ L h (d :: t :: y4 :: y3 :: r)) : News h₀ L h (y3 :: d :: y4 :: t :: r) := news_sub N fun q hq => by
  simp only [List.mem_cons] at hq ⊢
  grind
theorem names_out {h₀ h : Heap} {L : Addr} {d t y4 y3 : Addr × Obj} {r : List (Addr × Obj)} (N : News h₀ L h (y3 :: d :: y4 :: t :: r)) : News h₀ L h (d :: y3 :: y4 :: t :: r) := news_sub N fun q hq => by
  simp only [List.mem_cons] at hq ⊢
  grind
theorem mat_at (m : Int × Int × Int × Int) (t1 t2 t3 t4 : Tok) : ∀ v ∈ matV m t1 t2 t3 t4, isAt v = true :=
  List.forall_mem_cons.mpr ⟨rfl, List.forall_mem_cons.mpr ⟨rfl, List.forall_mem_cons.mpr ⟨rfl, List.forall_mem_cons.mpr ⟨rfl, by simp⟩⟩⟩⟩
theorem cnt_b {n : Nat} (h : n ≤ 100) : -10000 ≤ (n : Int) ∧ (n : Int) ≤ 10000 := by omega
theorem cnt_b2 {n m : Nat} (h : n ≤ 100) (h' : m ≤ 100) : -10000 ≤ (n : Int) + m ∧ (n : Int) + m ≤ 10000 := by omega
theorem size_cell {h₀ h : Heap} {L : Addr} {d t y4 y3 : Addr × Obj} {r : List (Addr × Obj)} (N : News h₀ L h (d :: y3 :: y4 :: t :: r)) : News h₀ L h (y4 :: d :: y3 :: t :: r) := news_sub N fun q hq => by
  simp only [List.mem_cons] at hq ⊢
  grind
theorem sizeL_low (d : Int) : (sizeL d).low = .a := by
  unfold sizeL
  split <;> rfl
theorem j_snoc {xs : List (Int × Tok)} {i : Nat} {n : Int} {t : Tok} (h : xs.length = i) : ∃ ys : List (Int × Tok), xs.map (fun x => Value.int x.1 x.2) ++ [.int n t] = ys.map (fun x => Value.int x.1 x.2) ∧ ys.length = i + 1 :=
  ⟨xs ++ [(n, t)], by rw [List.map_append]; rfl, by rw [List.length_append, h]; rfl⟩
theorem drop1 {h₀ h : Heap} {L : Addr} {x a : Addr × Obj} {r : List (Addr × Obj)} (N : News h₀ L h (x :: a :: r)) : News h₀ L h (x :: r) := news_sub N fun q hq => by
  simp only [List.mem_cons] at hq ⊢
  grind
theorem with_cx {w : World} {A₀ : Around} {base h₀ : Heap} {env : Env} {outer : List Env} {L : Addr} {m mg mb : Str → Option Value} {mean : ExcName → Option Value} {loose : List Str} {p : Program} {s : Shared} {M : Model} {α : Type} {t : Sem α} {Q : α → Shared → Prop} {E : Value → Shared → Prop}
    (B : Below A₀ base outer h₀) (F : Fr h₀ L s.heap m) (X : (hd.heap_39 w.params).In h₀) (T : Top p loose mean mg mb h₀) (hf : env.frame = some L) (hke : env.scope.kind = .function) (h1 : (A₀.deeper env).depth < 320) (h2 : (A₀.deeper env).units < 320) (h3 : (A₀.deeper env).handled = none)
    (k : Cx 320 w A₀ (A₀.deeper env) base h₀ env outer L m mg mb mean loose p s.heap → wpAny M (A₀.deeper env) t Q E s) : wpAny M (A₀.deeper env) t Q E s :=
  k ⟨B, F, X, T, Around.frames_deeper (Below.stack B), hf, hke, h1, h2, h3⟩
theorem lay35 : True := by
  k_with "z callWith ref" => (k_here; (fail_if_success (with_reducible show wpAny _ _ (callWith _ (Prod.fst _) _ _ _) _ _ _)); k_dflt (refine' callWith_K ?x9a ?x9b ?_; (case x9a => k_asm); (case x9b => k_is); k_whole))
  exact True.intro
theorem lawX : PySem.Challenge.rw_to0065_01.Holds := hd rfl rfl rfl (by
  w_strict (
    k_go0
    (all_goals try k_fold)
    walk_at "go1"
    rename CellsAre _ _ _ => hZ
    clear hZ
    rename Dflts _ _ _ _ _ _ => hZ
    clear hZ
    rename ReadsAllW _ _ _ _ _ _ => hZ
    clear hZ
    rename Reads _ _ _ _ => hZ
    clear hZ
    rename Well _ _ _ _ => hZ
    clear hZ
    rename ReadsAll _ _ _ _ => hZ
    clear hZ
    rename TabsAt _ _ => hZ
    clear hZ
    rename TopW _ _ _ => hZ
    clear hZ
    rename TopE _ _ _ _ => hZ
    clear hZ
    rename Tables _ _ _ _ => hZ
    clear hZ
    rename LooseAre _ _ _ => hZ
    clear hZ
    rename Ground _ _ _ _ _ _ _ _ _ => hZ
    clear hZ
    rename Heap.CodeRec _ _ _ => hZ
    clear hZ
    rename Heap.IsList _ _ _ => hSc
    rename IntsAre _ _ => hI
    rename News _ _ _ _ => hN0
    rename Fr _ _ _ _ => hF0
    rename Below _ _ _ _ => hB0
    rename Top _ _ _ _ _ _ => hT0
    revert hT0
    rename Top _ _ _ _ _ _ => hZ
    clear hZ
    intro hT0
    rename Frag.In _ _ => hX0
    rename CodeHd _ _ _ => hCH
    rename ¬ (_ < _) => hcond
    rename 287 < _ => hl0
    rename _ = Data.cell _ => hcS
    replace hcS : Obj.data _ = Data.cell (some (.ref _)) := hcS
    revert hcS
    rename _ = Data.cell _ => hcL
    replace hcL : Obj.data _ = Data.cell none := hcL
    revert hcL
    rename _ = Data.cell _ => hcN
    replace hcN : Obj.data _ = Data.cell none := hcN
    revert hcN
    rename _ = Data.cell _ => hcZ
    replace hcZ : Obj.data _ = Data.cell none := hcZ
    intro hcN hcL hcS
    rename_i o4 o3 o2 o1 qZ1 qZ2 qZ3
    rename World => w
    rename Shared => s1
    rename Shared.gens _ = _ => hgens
    refine with_cx hB0 hF0 hX0 hT0 (by rfl) (by rfl) (Nat.le_of_ble_eq_true rfl) (Nat.le_of_ble_eq_true rfl) (by rfl) ?_
    intro C
    clear hB0
    have hF1 : Fr _ _ _ (fun _ : Str => (none : Option Value)) := hF0
    replace C := Cx.upd C hF1
    clear hF0
    refine gE fun Ez hEz => ?_
    refine gQ fun Qf hQf => ?_
    skip
    (with_unfolding_all refine' Assign_ListComp_E hF1 (by rfl) (by with_unfolding_all rfl) ?c1 ?c2 ?c3 ?c4 ?c5 ?c6 ?c7 ?c8 ?c9 ?cM ?cS)
    case c1 => with_unfolding_all rfl
    case c2 => decide
    case c3 => rfl
    case c4 => decide
    case c5 => rfl
    case c6 => rfl
    case c7 => decide
    case c8 => rfl
    case c9 => rfl
    case cS => first | (intro _; rfl) | (intro _; with_unfolding_all rfl)
    case cM =>
      iterate 16 (walk_at "go1")
      rename Fr _ _ _ _ => FF
      rename News _ _ _ _ => NN
      refine comp_enum (vs := [.int 12 _, .int 4 _, .int 10 _, .int 0 _]) (fun i ys => ∃ xs : List (Int × Tok), ys = xs.map (fun x => Value.int x.1 x.2) ∧ xs.length = i) (by rfl) FF NN List.mem_cons_self (Nat.le_of_ble_eq_true rfl) ⟨[], rfl, rfl⟩ ?_ ?_
      · rintro s₁' ⟨g1, rfl⟩ e it oe oi C oC D m₂ i v t ys h tk E' hv ⟨xs, rfl, hxs⟩ hC hk hc F2 N2 hoff hne
        obtain ⟨cv, ct, rfl⟩ : ∃ (cv : Int) (ct : Tok), v = .int cv ct := by
          match i, hv with
          | 0, hv => exact ⟨_, _, (Option.some.inj hv).symm⟩
          | 1, hv => exact ⟨_, _, (Option.some.inj hv).symm⟩
          | 2, hv => exact ⟨_, _, (Option.some.inj hv).symm⟩
          | 3, hv => exact ⟨_, _, (Option.some.inj hv).symm⟩
          | n + 4, hv => cases hv
        iterate 6 (walk_at "go1")
        try dsimp only
        refine gQ fun Qy hQy => ?_
        (with_unfolding_all refine' ListComp_W F2 ?d1 ?d2 ?d3 ?d4 ?d5 ?dM ?dS)
        case d1 => with_unfolding_all rfl
        case d2 => decide
        case d3 => rfl
        case d4 => decide
        case d5 => rfl
        case dS => first | (intro _; rfl) | (intro _; with_unfolding_all rfl)
        case dM =>
          iterate 16 (walk_at "go1")
          walk_at "go1"
          rename IsRange _ _ _ _ _ _ _ _ => hR
          rename Fr _ _ _ _ => F3
          rename News _ _ _ _ => N3
          have hlen := IntsAre.length hI
          have hi4 : i < 4 := (List.getElem?_eq_some_iff.mp hv).1
          obtain ⟨r1, r2, r3, r4⟩ := rngOf hI (by walk_at "om") hi4
          refine comp_ran (by rfl) F3 N3 hR r1 r2 r3 ?_
          intro g2
          refine comp_inv (fun j ys => ∃ zs, IntsAre ys zs) trivial ⟨[], .nil⟩ ?_ ?_
          · rintro j v I oI C2 oC2 D2 m₃ ys2 h4 tk4 E2 hj ⟨tj, rfl⟩ ⟨zs, hzs⟩ hC2 hx2 F4 N4 off4 ne4
            obtain ⟨jn, jt, hj63, hjv⟩ := r4 j hj
            walk_at "go1"
            k_dflt (refine' lcf_cell N4 ?jc ?jm ?jd ?_ ?ja ?jb)
            case ja => rfl
            case jb => rfl
            case jc => rfl
            case jm => k_mem
            case jd => exact hcS
            walk_at "go1"
            refine item_litK (hSc.at fun o e => F4.keep _ o e) (by walk_at "om") (by walk_at "om") hjv ?_ (by with_unfolding_all rfl)
            exact ⟨_, _, rfl, F4, N4, _, ints_snoc hzs⟩
          · rintro ys ⟨zs, hzs⟩
            (unfold LCg.FinE; intro D' h5 tk5 F5 N5 o5)
            iterate 2 (walk_at "go1")
            refine sumK (by rfl) F5 N5 (isList_mem N5 (by k_mem)) hzs ?_
            intro h6 tk6 t6 F6 N6
            walk_at "go1"
            exact ⟨_, _, rfl, F6, news_tl N6, j_snoc hxs⟩
      · intro D ys h2 tk2 ⟨xs, exs, hxs⟩ F2 N2 o2
        obtain ⟨a, b, c, d, ta, tb, tc, td, rfl⟩ := four_ints exs hxs
        replace N2 := drop1 N2
        replace C := Cx.upd C F2
        obtain ⟨_, oD4, oD3, oD2, oD1, oDt, _⟩ := o2
        clear exs hxs
        clear NN FF hSc hI hcond
        iterate 11 (walk_at "go1")
        refine words_c (k := 4) C (by walk_at "om") N2 ?_
        intro T' t1 t2 h3 tk3 _ _ F3 N3
        iterate 10 (walk_at "go1")
        rename Fr _ _ _ _ => F4
        rename News _ _ _ _ => N4
        replace N4 := news_tl N4
        have hPL := plain_law a b c d
        generalize wordL a 3 = wd at *
        generalize latL (piecesL d) wd [b, c] 2 = lt at *
        revert wd lt
        refine keepP ?_
        set_option tactic.hygienic false in intros
        refine cut_asg F4 N4 "side" (fun v _ => ∃ t, v = .int (1 - Int.fmod d 2 * 2) t) ?_ ?_
        · refine gQ fun Qz hQz => ?_
          iterate 15 (walk_at "go1")
          (try walk_at "oq"); (try walk_at "oq"); (try dsimp only)
          exact got_a (by assumption) (by assumption) ⟨_, rfl⟩ (fun q hq => hq)
        intro h5 tk5 v5 le5 ⟨t5, e5⟩ F5 N5
        subst e5
        clear F4 N4
        iterate 2 (walk_at "go1")
        rename Fr _ _ _ _ => F6
        rename News _ _ _ _ => N6
        refine cut_asg F6 N6 "lone" (fun v _ => ∃ t, v = .int (loneN b c) t) ?_ ?_
        · iterate 5 (walk_at "go1")
          try dsimp only
          refine gQ fun Qy hQy => ?_
          k_dflt (refine LCt.ListComp_T (F₀ := by k_asm) (by with_unfolding_all rfl) (by decide) (by rfl) (by decide) (by rfl) ?_)
          iterate 9 (walk_at "go1")
          refine LCt.CompSrcT.ledger (its := [Value.int b tb, .int c tc].toArray) (k := 0) (by rfl) (by k_asm) (by k_asm) (by k_mem) (by exact Nat.le_of_ble_eq_true rfl) ?_
          intro g
          refine comp_test (fun i => decide (Int.fmod ([b, c].getD i 0) 4 < 2)) (fun i => [Value.int b tb, .int c tc].getD i .none) (.inr ⟨_, by k_mem, rfl, _, rfl⟩) ?_ ?_ 2 0 [] ?_
          · rintro i v I oI C1 oC D1 oD m₂ h tk E' Q' hv hoC hx F N kk
            obtain ⟨cv, ct, rfl, hcv⟩ : ∃ cv ct, v = .int cv ct ∧ [b, c].getD i 0 = cv := by
              match i, hv with
              | 0, hv => exact ⟨_, _, (Option.some.inj hv).symm, rfl⟩
              | 1, hv => exact ⟨_, _, (Option.some.inj hv).symm, rfl⟩
              | n + 2, hv => cases hv
            dsimp only at kk
            rw [hcv] at kk
            iterate 8 (walk_at "go1")
            exact kk _ _ (by assumption) (by assumption)
          · rintro i v I oI C1 oC D1 oD m₂ h tk E' Q' hv hoC hx F N kk
            obtain rfl : v = [Value.int b tb, .int c tc].getD i .none := by
              match i, hv with
              | 0, hv => exact (Option.some.inj hv).symm
              | 1, hv => exact (Option.some.inj hv).symm
              | n + 2, hv => cases hv
            walk_at "go1"
            exact kk _ _ (by assumption) (by assumption)
          · (unfold LCg.FinE; intro D1 h6 tk6 F7 N7 o7)
            rw [List.nil_append] at N7
            iterate 2 (walk_at "go1")
            refine len_led (N := N7) (by k_mem) (loneN_eq b c _) (loneN_le b c) ?_
            walk_at "go1"
            (try walk_at "oq"); (try walk_at "oq"); (try dsimp only)
            exact got_a (by assumption) (by assumption) ⟨_, rfl⟩ (fun q hq => List.mem_cons_of_mem _ (List.mem_cons_of_mem _ hq))
        intro h7 tk7 v7 le7 ⟨t7, e7⟩ F7 N7
        subst e7
        clear F6 N6
        have hwn := hPL.wn
        have hln := hPL.ln
        have hwne : wd ≠ [] := fun e => by rw [e] at hwn; cases hwn
        have hlne : lt ≠ [] := fun e => by rw [e] at hln; exact absurd hln.1 (by decide)
        iterate 2 (walk_at "go1")
        refine cut_lexN F7 N7 (textT wd lt) ?_ ?_
        · refine gQ fun Qz hQz => ?_
          iterate 17 (walk_at "go1")
          rename Fr _ _ _ _ => F8
          rename News _ _ _ _ => N8
          refine join_strF (by rfl) F8 N8 (joinOk_signsN (N := 100) (S := 1) (by rw [sgS_len]; omega) (by decide) (by decide)) ?_
          intro h9 k9 t9 F9 N9
          rw [join_jb]
          clear F8 N8
          have hj1 := jb_len wd
          have hj2 := jb_len lt
          skip
          rw [tx_q]
          refine PyProof.Rows.add_str ?_ (by rw [tS_len, tS_len, sizeLine_eq]; simp only [List.length_append, List.length_cons, List.length_nil]; omega)
          intro ta1 ka1
          rw [tS_app]
          walk_at "go1"
          rw [tx_qb]
          refine PyProof.Rows.add_str ?_ (by rw [tS_len, tS_len, sizeLine_eq]; simp only [List.length_append, List.length_cons, List.length_nil]; omega)
          intro ta2 ka2
          rw [tS_app]
          iterate 7 (walk_at "go1")
          refine join_strF (by rfl) (by assumption) N9 (joinOk_signsN (N := 100) (S := 1) (by rw [sgS_len]; omega) (by decide) (by decide)) ?_
          intro h10 k10 t10 F10 N10
          rw [join_jb]
          clear F9 N9
          skip
          refine PyProof.Rows.add_str ?_ (by rw [tS_len, tS_len, sizeLine_eq]; simp only [List.length_append, List.length_cons, List.length_nil]; omega)
          intro ta3 ka3
          rw [tS_app]
          walk_at "go1"
          rw [tx_tail]
          have htl := text_len wd lt
          refine PyProof.Rows.add_str ?_ (by rw [tS_len, tS_len, sizeLine_eq]; simp only [tailT, List.length_append, List.length_cons, List.length_nil]; omega)
          intro ta4 ka4
          rw [tS_app]
          iterate 2 (walk_at "go1")
          refine wpAny_toksQ (lexer_c (z := tS (textT wd lt)) (Cx.upd C (by assumption)) (by walk_at "om") hCH (six_last N10) ?_ (by rw [tS_len]; omega) (text_ascii wd lt) ?_)
          · intro q hq
            simp only [List.mem_cons, List.not_mem_nil, or_false] at hq
            rcases hq with rfl | rfl | rfl | rfl | rfl
            · exact Ne.symm oDt
            · exact Nat.ne_of_gt (by show 287 < _ + 1 + 1 + 1 + 1; omega)
            · exact Nat.ne_of_gt (by show 287 < _ + 1 + 1 + 1; omega)
            · exact Nat.ne_of_gt (by show 287 < _ + 1 + 1; omega)
            · exact Nat.ne_of_gt (by show 287 < _ + 1; omega)
          · intro lx dx P sx dsx Ps fr cr cl Lf fd oc ocl vT kL t1' t2' t3' t4' t5' t6' u1 u2 u3 u4 u5 u6 u7 cs h11 tk11 hRd hcs hNe hCC F11 N11 le11
            k_dflt (refine' set_cell (F := F11) (N := lex_cell N11) ?so hcL ?sc ?_ ?sa ?sb)
            case sa => rfl
            case sb => rfl
            case sc => rfl
            case so =>
              intro q hq
              have hq0 := hq
              have off := fun (hne : ∀ v, q.2.data ≠ .cell v) => off_cell (lex_cell N11) List.mem_cons_self hcL (List.mem_cons_of_mem _ hq0) hne
              simp only [List.mem_cons, List.not_mem_nil, or_false] at hq
              rcases hq with rfl | rfl | rfl | rfl | rfl | rfl | rfl | rfl | rfl | rfl | rfl | rfl | rfl | rfl
              · exact off (fun v e => by cases e)
              · exact off (fun v e => by cases e)
              · exact off (fun v e => by cases e)
              · exact off (fun v e => by cases e)
              · exact off (fun v e => by cases e)
              · exact off (fun v e => by cases e)
              · exact off (fun v e => by cases e)
              · exact Ne.symm (hCC _ (List.mem_cons_of_mem _ (List.mem_cons_of_mem _ (List.mem_cons_of_mem _ (List.mem_cons_of_mem _ List.mem_cons_self))))).1
              · exact Ne.symm (hCC _ (List.mem_cons_of_mem _ (List.mem_cons_of_mem _ (List.mem_cons_of_mem _ (List.mem_cons_of_mem _ List.mem_cons_self))))).2
              · exact Nat.ne_of_lt (by show 287 < _ + 1 + 1; omega)
              · exact off (fun v e => by cases e)
              · exact Nat.ne_of_gt (by show _ + 1 + 1 < _ + 1 + 1 + 1 + 1; omega)
              · exact Nat.ne_of_gt (by show _ + 1 + 1 < _ + 1 + 1 + 1; omega)
              · exact Nat.ne_of_lt (by show _ + 1 < _ + 1 + 1; omega)
            intro h12 oLx F12 N12 hLx
            rw [tS_cps] at hcs
            walk_at "go1"
            refine lex_s F12 (lex_keep N12) hRd ⟨hNe.L, hNe.D, hNe.Q, keep4 hNe.rL, keep4 hNe.rD, keep4 hNe.rP⟩ hLx (good_text hcs hPL.wn hPL.ln.2) hcs ?_ (fun q hq => hq)
            rw [nls_text]
            rfl
        clear F7 N7 hcL oD4 oD3 oD2 oD1 oDt
        intro lx dx P sx dsx Ps fr cr cl Lf fd oc ocl oL vT kL kP t1' t2' t3' t4' t5' t6' u1 u2 u3 u4 u5 u6 u7 cs ln h12 tk12 le12 hRd hNe hLx G0 hcs hln0 F12 N12
        iterate 2 (walk_at "go1")
        refine cut_lexL F12 N12 rest2 ?_ ?_
        · refine gQ fun Qz hQz => ?_
          iterate 7 (walk_at "go1")
          k_dflt (refine' callWith_K0 (Frag.In.keeps (Cx.X C) (Fr.keep F12)) ?kw ?_)
          case kw => k_is
          try dsimp only
          refine gtok_c (Cx.upd C F12) (by walk_at "om") hRd hNe N12 G0 ?_
          intro h13 tk13 ug1 cs1 kg1 ln1 tg1 zs1 hlex1 hnl1 G1 F13 N13
          rw [hcs, lex_1 hwne] at hlex1
          obtain ⟨ez1, ecs1⟩ := Prod.mk.inj hlex1
          subst ez1
          iterate 4 (walk_at "go1")
          k_dflt (refine' callWith_K0 (Frag.In.keeps (Cx.X C) (Fr.keep F13)) ?kw ?_)
          case kw => k_is
          try dsimp only
          refine gtok_c (Cx.upd C F13) (by walk_at "om") hRd hNe N13 G1 ?_
          intro h14 tk14 ug2 cs2 kg2 ln2 tg2 zs2 hlex2 hnl2 G2 F14 N14
          rw [← ecs1, lex_2 hlne] at hlex2
          obtain ⟨ez2, ecs2⟩ := Prod.mk.inj hlex2
          subst ez2
          iterate 9 (walk_at "go1")
          rename Fr _ _ _ _ => F15
          rename News _ _ _ _ => N15
          refine ne_at (vs := [.str (sgS wd) ug1, .str (sgS lt) ug2]) (us := [.str (sgS wd) t1, .str (sgS lt) t2]) (n := 0) (k := 0) N15 (by k_mem) (by k_mem) (C.room (by walk_at "om")) (at_two wd lt ug1 ug2) (at_two wd lt t1 t2) false (by simp [atD]) ?_
          walk_at "go1"
          refine PySem.W.ite_neg Bool.false_ne_true ?_
          walk_at "go1"
          refine lex_s F15 N15 hRd hNe hLx G2 ecs2.symm ?_ (fun q hq => List.mem_cons_of_mem _ (List.mem_cons_of_mem _ hq))
          rw [← ecs2] at hnl2
          rw [hcs] at hnl1
          omega
        clear F12 N12 hRd hNe hLx G0 hcs hln0
        intro lx dx P sx dsx Ps fr cr cl Lf fd oc ocl oL vT kL kP t1' t2' t3' t4' t5' t6' u1 u2 u3 u4 u5 u6 u7 cs ln h13 tk13 le13 hRd hNe hLx G0 hcs hln0 F13 N13
        iterate 2 (walk_at "go1")
        have h0 : 0 < tk13 := by omega
        refine cut_asg F13 N13 "plait" (fun v tk => ∃ t, v = .str (sgS (plaitL wd lt)) t) ?_ ?_
        · refine gQ fun Qz hQz => ?_
          iterate 7 (walk_at "go1")
          try dsimp only
          refine gQ fun Qy hQy => ?_
          (with_unfolding_all refine' ListComp_S F13 ?d1 ?d2 ?d3 ?d4 ?d5 ?dM ?dS)
          case d1 => with_unfolding_all rfl
          case d2 => decide
          case d3 => rfl
          case d4 => decide
          case d5 => rfl
          case dS => first | (intro _; rfl) | (intro _; with_unfolding_all rfl)
          case dM =>
            iterate 9 (walk_at "go1")
            refine PyProof.Rows.slice_strK_nn (hsz := ?hzS) (s := ⟨_, _, _, _, _⟩) F13 N13 (by decide) ?_
            case hzS => rw [sgS_len, hwn]; decide
            intro h14 t14 k14 F14 N14
            rw [sgS_rev]
            refine ⟨_, _, _, (fun i ys nw tk => nw = _ ∧ ∃ xs : List (Lt × Tok), ys = ltV xs ∧ xs.map (·.1) = (wd.reverse.take i).map Lt.other), rfl, sgS_ascii _, ?_, by rfl, F14, N14, ⟨rfl, [], rfl, rfl⟩, ?_, ?_⟩
            · show (sgS wd.reverse).length ≤ sizeLine
              rw [sgS_len, List.length_reverse, hwn]
              decide
            · rintro I oI C1 oC D1 m₂ i c ys nw h tk E' hci ⟨rfl, xs, rfl, hxs⟩ hC hx F N off ne lI lD lC
              obtain ⟨l, hl, hlc⟩ := sgS_get hci
              rw [hlc] at hx
              iterate 8 (walk_at "go1")
              refine other_c (Cx.upd C (by assumption)) (by walk_at "om") N ?_
              intro h15 tk15 u15 F15 N15
              refine ⟨h15, tk15, _, rfl, F15, N15, off, rfl, xs ++ [(l.other, u15)], ltV_snoc xs _ _, ?_⟩
              rw [List.map_append, hxs, List.take_add_one, hl, List.map_append]
              rfl
            · rintro D1 ys nw h tk ⟨rfl, xs, rfl, hxs⟩ F N o1
              iterate 2 (walk_at "go1")
              have hxl : xs.length ≤ 3 := by
                have := congrArg List.length hxs
                rw [List.length_map, List.length_map, List.length_take] at this
                rw [this]
                exact Nat.le_trans (Nat.min_le_right _ _) (by rw [List.length_reverse, hwn]; exact Nat.le_refl _)
              refine join_ltV N (by k_mem) (Nat.le_trans hxl (by decide)) ?_
              intro t16 k16
              walk_at "go1"
              refine PyProof.Rows.add_str ?_ ?hzA
              case hzA =>
                rw [sgS_len, sgS_len, sizeLine_eq, List.length_map]
                omega
              intro t17 k17
              rw [plait_full hxs]
              walk_at "go1"
              (try walk_at "oq"); (try walk_at "oq"); (try dsimp only)
              exact got_a (by assumption) (by assumption) ⟨_, rfl⟩ (fun q hq => List.mem_cons_of_mem _ hq)
        intro h14 tk14 v14 le14 ⟨t14, e14⟩ F14 N14
        subst e14
        clear F13 N13
        iterate 2 (walk_at "go1")
        have hpl : (plaitL wd lt).length ≤ 18 := by
          unfold plaitL
          rw [List.length_append, List.length_map, List.length_reverse]
          omega
        have hoP := lex_offP (w := w) (Ps := Ps) (fd := fd) (oc := oc) (ocl := ocl) (kL := kL) (ln := ln) (t1 := t1') (t2 := t2') (t3 := t3') (t4 := t4') (t5 := t5') (t6 := t6') (u1 := u1) (u2 := u2) (u3 := u3) (u4 := u4) (u5 := u5) (u6 := u6) (u7 := u7) (cs := cs) hNe
        refine cut_ln F14 (fun pv kP => lexLed w P dx lx sx dsx Ps Lf fr cr cl fd oc ocl pv.toArray kP ln t1' t2' t3' t4' t5' t6' u1 u2 u3 u4 u5 u6 u7 cs kL [(287, tabObj vT), (_, o4), (_, o3), (_, oL)]) (pv := []) N14 (plaitL wd lt) ?_ ?_
        · refine gQ fun Qz hQz => ?_
          iterate 2 (walk_at "go1")
          try dsimp only
          refine gQ fun Qy hQy => ?_
          (with_unfolding_all refine' ListComp_S F14 ?d1 ?d2 ?d3 ?d4 ?d5 ?dM ?dS)
          case d1 => with_unfolding_all rfl
          case d2 => decide
          case d3 => rfl
          case d4 => decide
          case d5 => rfl
          case dS => first | (intro _; rfl) | (intro _; with_unfolding_all rfl)
          case dM =>
            walk_at "go1"
            refine ⟨_, _, _, (fun i ys nw tk => 0 < tk ∧ ∃ (sl : List Ln) (k : Nat), nw = lexLed w P dx lx sx dsx Ps Lf fr cr cl fd oc ocl (lnV sl).toArray k ln t1' t2' t3' t4' t5' t6' u1 u2 u3 u4 u5 u6 u7 cs kL [(287, tabObj vT), (_, o4), (_, o3), (_, oL)] ∧ sl.map (·.l) = (plaitL wd lt).take i ∧ (∀ x ∈ sl, 0 < x.t ∧ x.t < tk) ∧ ys = List.replicate i Value.none), rfl, sgS_ascii _, ?_, by rfl, F14, N14, ⟨?_, [], kP, rfl, rfl, (by simp), rfl⟩, ?_, ?_⟩
            · show (sgS (plaitL wd lt)).length ≤ sizeLine
              rw [sgS_len, sizeLine_eq]
              omega
            · have h1 : 0 < tk14 := by omega
              exact h1
            · rintro I oI C1 oC D1 m₂ i c ys nw h tk E' hci ⟨htk, sl, k, rfl, hsl, hts, rfl⟩ hC hx F N off ne lI lD lC
              obtain ⟨l, hl, hlc⟩ := sgS_get hci
              rw [hlc] at hx
              iterate 9 (walk_at "go1")
              have lP : @LT.lt Nat _ P I := lI _ List.mem_cons_self
              have hsz : sl.length ≤ 18 := by
                have := congrArg List.length hsl
                rw [List.length_map, List.length_take] at this
                omega
              refine u_push (its := (lnV sl).toArray) (Cx.upd C F) (by walk_at "om") N (upd3 (Nat.ne_of_gt lP) (Nat.ne_of_gt (Nat.lt_trans lP (Nat.lt_trans lD lC))) (Nat.ne_of_gt (Nat.lt_trans lP lD)) hoP) (by k_mem) (by k_mem) hNe.Q.1 hNe.Q.2.2.1 (by rw [List.size_toArray, List.length_map]; omega) ?_
              intro h15 tk15 le15 F15 N15
              rw [push_ln] at N15
              refine ⟨h15, tk15, _, rfl, F15, N15, ⟨off.1, off.2⟩, ?_, sl ++ [⟨l, tk⟩], k + 1, rfl, ?_, ?_, rep_snoc i⟩
              · dsimp only at le15
                omega
              · rw [List.map_append, hsl, List.take_add_one, hl]
                rfl
              · intro x hx
                dsimp only at le15
                have htl : tk < tk15 := by omega
                rcases List.mem_append.mp hx with hx | hx
                · exact ⟨(hts x hx).1, Nat.lt_trans (hts x hx).2 htl⟩
                · rw [List.mem_singleton.mp hx]
                  exact ⟨htk, htl⟩
            · rintro D1 ys nw h tk ⟨htk, sl, k, rfl, hsl, hts, rfl⟩ F N o1
              try (walk_at "oq"; try dsimp only)
              refine wpAny_toksQ ?_
              iterate 12 (walk_at "go1")
              refine PyProof.Rows.len_str (by rw [sgS_len]; omega) ?_
              rw [sgS_len]
              skip
              rename Fr _ _ _ _ => F16
              rename News _ _ _ _ => N16
              refine PySem.W.KMa.mul (vs := [Value.none]) (ws := List.replicate (plaitL wd lt).length Value.none) F16 N16 (isList_mem N16 (by k_mem)) (by walk_at "om") (by walk_at "om") ?_ (by rw [Int.toNat_natCast]; exact flat_none _) ?_
              · rw [Int.toNat_natCast]
                simp only [List.length_cons, List.length_nil]
                omega
              intro D2 h17 F17 N17 _
              walk_at "go1"
              refine ne_at (vs := List.replicate (sgS (plaitL wd lt)).cps.size Value.none) (us := List.replicate (plaitL wd lt).length Value.none) N17 (by k_mem) (by k_mem) (C.room (by walk_at "om")) (at_none _) (at_none _) false (by rw [sgS_size]; simp) ?_
              walk_at "go1"
              refine PySem.W.ite_neg Bool.false_ne_true ?_
              refine wpAny_execs_nil ?_
              (try walk_at "oq"); (try walk_at "oq"); (try dsimp only)
              (try walk_at "oq"); (try walk_at "oq"); (try dsimp only)
              refine got_ln sl F17 N17 (fun q hq => List.mem_cons_of_mem _ (List.mem_cons_of_mem _ (List.mem_cons_of_mem _ hq))) ?_ ?_
              · rw [hsl, sgS_size, List.take_length]
              · intro x hx
                exact ⟨(hts x hx).1, Nat.lt_of_lt_of_le (hts x hx).2 (by first | omega | (dsimp only at *; omega))⟩
        clear N14 F14
        intro lnL kP h15 tk15 le15 hlnL htL F15 N15
        iterate 15 (walk_at "go1")
        refine PyProof.Rows.len_str (by rw [sgS_len]; omega) ?_
        rw [sgS_len]
        iterate 2 (walk_at "go1")
        obtain ⟨N₀, T, hrun, hmat, hexp, hnil, hno⟩ := hPL.ex
        have hlnl : lnL.length = (plaitL wd lt).length := by rw [← hlnL, List.length_map]
        rw [← hlnl]
        rename Fr _ _ _ _ => F16
        rename News _ _ _ _ => N16
        refine wpAny_toksQ (undone_c (ln := lnL) (T := T) (N₀ := N₀) (Cx.upd C F16) (by walk_at "om") N16 (fun q hq => hoP q (List.mem_cons_of_mem _ (List.mem_cons_of_mem _ hq))) hNe.Q.1 hNe.Q.2.2.1 (by walk_at "om") ?_ (by rw [hlnL]; exact hrun) ?_)
        · intro x hx
          exact ⟨(htL x hx).1, Nat.lt_of_lt_of_le (htL x hx).2 (by first | omega | (dsimp only; omega))⟩
        intro tb dtb R th nd rs kR kP2 h17 tk17 hrs hrz hrt hPR hRr hPr F17 N17 le17
        iterate 12 (walk_at "go1")
        rename Fr _ _ _ _ => F18
        rename News _ _ _ _ => N18
        replace N18 := told_led N18
        have hNe2 := told_ne hNe N18 hPR (hRr _ (List.mem_append_right _ (List.mem_cons_of_mem _ (List.mem_cons_of_mem _ List.mem_cons_self)))) (fun q hq => hPr q (List.mem_append_left _ hq))
        clear hPr hRr hoP
        refine cut_stF F18 (fun h₀ L m h' tk' => ∃ (Dt : Addr) (k kP' kL' : Nat) (tn a1 a2 a3 a4 a5 : Tok), Fr h₀ L h' (fun z => if z = "told" then some (.ref Dt) else m z) ∧
          News h₀ L h' ((Dt, listOf [Value.none, .none, .str (Str.ofString "") a1, .str (sgS lt) a2, .str (tS tok3) a3, .str (tS tok4) a4, .str (tS []) a5].toArray k) :: lexLed w P dx lx sx dsx Ps Lf fr cr cl fd oc ocl #[] kP' 2 t1' t2' t3' t4' tn t6' u1 u2 u3 u4 u5 u6 u7 [] kL' ((287, tabObj vT) :: (L + 1 + 1 + 1 + 1, o4) :: (L + 1 + 1 + 1, o3) :: (L + 1 + 1, oL) :: tabL w tb dtb R th nd kR rs))) ?_ ?_
        · have hoP := lex_offP (w := w) (Ps := Ps) (fd := fd) (oc := oc) (ocl := ocl) (kL := kL) (ln := ln) (t1 := t1') (t2 := t2') (t3 := t3') (t4 := t4') (t5 := t5') (t6 := t6') (u1 := u1) (u2 := u2) (u3 := u3) (u4 := u4) (u5 := u5) (u6 := u6) (u7 := u7) (cs := cs) hNe2
          iterate 12 (walk_at "go1")
          refine u_push (its := #[]) (Cx.upd C F18) (by walk_at "om") N18 (.head hoP) (by k_mem) (by k_mem) hNe.Q.1 hNe.Q.2.2.1 (by decide) ?_
          intro h19 tk19 le19 F19 N19
          iterate 9 (walk_at "go1")
          refine u_push (Cx.upd C F19) (by walk_at "om") N19 (.head hoP) (by k_mem) (by k_mem) hNe.Q.1 hNe.Q.2.2.1 (Nat.le_of_ble_eq_true rfl) ?_
          intro h20 tk20 le20 F20 N20
          replace N20 : News _ _ h20 ((P, listOf [Value.str (Str.ofString "") _, .str (sgS lt) t2].toArray _) :: _) := N20
          iterate 2 (walk_at "go1")
          rename Fr _ _ _ _ => F21
          rename News _ _ _ _ => N21
          try dsimp only
          refine gQ fun Qy hQy => ?_
          (with_unfolding_all refine' LCg.ListComp_U F21 ?e1 ?e2 ?e3 ?e4 ?e5 ?eM ?eS)
          case e1 => with_unfolding_all rfl
          case e2 => decide
          case e3 => rfl
          case e4 => decide
          case e5 => rfl
          case eS => first | (intro _; rfl) | (intro _; with_unfolding_all rfl)
          case eM =>
            iterate 7 (walk_at "go1")
            rename (_ < _) ∧ _ => lN
            rename IsRange _ _ _ _ _ _ _ _ => hR5
            rename Fr _ _ _ _ => F22
            rename News _ _ _ _ => N22
            refine LCg.CompSrc.range (n := 5) (by rfl) F22 N22 hR5 (by decide) (by decide) (Nat.le_of_ble_eq_true rfl) ?_
            intro g5
            clear F22 N22 hR5
            refine LCg.CompRest.succ ?_
            intro v I oI C1 oC D1 m₂ h tk E' hv hC hx Fi Ni off ne
            have hP3 := off.2.1
            have hD3 := off.2.2.1
            have hL3 := off.2.2.2.2.2.2.1
            iterate 4 (walk_at "go1")
            k_dflt (refine' callWith_K0 (Frag.In.keeps (Cx.X C) (Fr.keep Fi)) ?kw ?_)
            case kw => k_is
            (try dsimp only)
            refine u_pop (vs := [.str (sgS lt) t2]) (Cx.upd C Fi) (by walk_at "om") Ni (upd4 (Ne.symm hP3.1) (Ne.symm hP3.2.1) (Ne.symm hP3.2.2) (Nat.ne_of_gt lN.1) hoP) (by k_mem) (by k_mem) hNe.Q.1 hNe.Q.2.2.1 (Nat.le_of_ble_eq_true rfl) ?_
            intro h23 tk23 le23 F23 N23
            refine ⟨_, _, _, rfl, F23, N23, ⟨off.1, off.2.1, off.2.2.1, off.2.2.2.1, off.2.2.2.2.1, off.2.2.2.2.2.1, off.2.2.2.2.2.2.1, off.2.2.2.2.2.2.2⟩, trivial, ?_⟩
            clear hv hC hx Fi Ni off ne hP3 hD3 hL3
            refine LCg.CompRest.succ ?_
            intro v I oI C1 oC D1 m₂ h tk E' hv hC hx Fi Ni off ne
            have hP3 := off.2.1
            have hD3 := off.2.2.1
            have hL3 := off.2.2.2.2.2.2.1
            iterate 4 (walk_at "go1")
            k_dflt (refine' callWith_K0 (Frag.In.keeps (Cx.X C) (Fr.keep Fi)) ?kw ?_)
            case kw => k_is
            (try dsimp only)
            refine u_pop (vs := []) (Cx.upd C Fi) (by walk_at "om") Ni (upd4 (Ne.symm hP3.1) (Ne.symm hP3.2.1) (Ne.symm hP3.2.2) (Nat.ne_of_gt lN.1) hoP) (by k_mem) (by k_mem) hNe.Q.1 hNe.Q.2.2.1 (Nat.le_of_ble_eq_true rfl) ?_
            intro h24 tk24 le24 F24 N24
            refine ⟨_, _, _, rfl, F24, N24, ⟨off.1, off.2.1, off.2.2.1, off.2.2.2.1, off.2.2.2.2.1, off.2.2.2.2.2.1, off.2.2.2.2.2.2.1, off.2.2.2.2.2.2.2⟩, trivial, ?_⟩
            clear hv hC hx Fi Ni off ne hP3 hD3 hL3
            refine LCg.CompRest.succ ?_
            intro v I oI C1 oC D1 m₂ h tk E' hv hC hx Fi Ni off ne
            have hP3 := off.2.1
            have hD3 := off.2.2.1
            have hL3 := off.2.2.2.2.2.2.1
            iterate 4 (walk_at "go1")
            k_dflt (refine' callWith_K0 (Frag.In.keeps (Cx.X C) (Fr.keep Fi)) ?kw ?_)
            case kw => k_is
            (try dsimp only)
            refine gtok4 (Cx.upd C Fi) (by walk_at "om") hRd hNe2 ⟨Ne.symm hL3.1, Ne.symm hD3.1, Ne.symm hP3.1⟩ ⟨Ne.symm hL3.2.1, Ne.symm hD3.2.1, Ne.symm hP3.2.1⟩ ⟨Ne.symm hL3.2.2, Ne.symm hD3.2.2, Ne.symm hP3.2.2⟩ ⟨Nat.ne_of_gt lN.2.2.2.2.2.1, Nat.ne_of_gt lN.2.1, Nat.ne_of_gt lN.1⟩ Ni G0 ?_
            intro h25 tk25 ug3 cs3 kg3 ln3 tg3 zs3 hlex3 hnl3 G3 F25 N25
            rw [hcs, lex_3] at hlex3
            rw [hcs] at hnl3
            obtain ⟨ez3, ecs3⟩ := Prod.mk.inj hlex3
            subst ez3
            rw [← ecs3] at hnl3
            refine ⟨_, _, _, rfl, F25, N25, ⟨off.1, off.2.1, off.2.2.1, off.2.2.2.1, off.2.2.2.2.1, off.2.2.2.2.2.1, off.2.2.2.2.2.2.1, off.2.2.2.2.2.2.2⟩, trivial, ?_⟩
            clear hv hC hx Fi Ni off ne hP3 hD3 hL3
            refine LCg.CompRest.succ ?_
            intro v I oI C1 oC D1 m₂ h tk E' hv hC hx Fi Ni off ne
            have hP3 := off.2.1
            have hD3 := off.2.2.1
            have hL3 := off.2.2.2.2.2.2.1
            iterate 4 (walk_at "go1")
            k_dflt (refine' callWith_K0 (Frag.In.keeps (Cx.X C) (Fr.keep Fi)) ?kw ?_)
            case kw => k_is
            (try dsimp only)
            refine gtok4 (Cx.upd C Fi) (by walk_at "om") hRd hNe2 ⟨Ne.symm hL3.1, Ne.symm hD3.1, Ne.symm hP3.1⟩ ⟨Ne.symm hL3.2.1, Ne.symm hD3.2.1, Ne.symm hP3.2.1⟩ ⟨Ne.symm hL3.2.2, Ne.symm hD3.2.2, Ne.symm hP3.2.2⟩ ⟨Nat.ne_of_gt lN.2.2.2.2.2.1, Nat.ne_of_gt lN.2.1, Nat.ne_of_gt lN.1⟩ Ni G3 ?_
            intro h26 tk26 ug4 cs4 kg4 ln4 tg4 zs4 hlex4 hnl4 G4 F26 N26
            rw [← ecs3, lex_4] at hlex4
            rw [← ecs3] at hnl4
            obtain ⟨ez4, ecs4⟩ := Prod.mk.inj hlex4
            subst ez4
            rw [← ecs4] at hnl4
            refine ⟨_, _, _, rfl, F26, N26, ⟨off.1, off.2.1, off.2.2.1, off.2.2.2.1, off.2.2.2.2.1, off.2.2.2.2.2.1, off.2.2.2.2.2.2.1, off.2.2.2.2.2.2.2⟩, trivial, ?_⟩
            clear hv hC hx Fi Ni off ne hP3 hD3 hL3
            refine LCg.CompRest.succ ?_
            intro v I oI C1 oC D1 m₂ h tk E' hv hC hx Fi Ni off ne
            have hP3 := off.2.1
            have hD3 := off.2.2.1
            have hL3 := off.2.2.2.2.2.2.1
            iterate 4 (walk_at "go1")
            k_dflt (refine' callWith_K0 (Frag.In.keeps (Cx.X C) (Fr.keep Fi)) ?kw ?_)
            case kw => k_is
            (try dsimp only)
            refine gtok4 (Cx.upd C Fi) (by walk_at "om") hRd hNe2 ⟨Ne.symm hL3.1, Ne.symm hD3.1, Ne.symm hP3.1⟩ ⟨Ne.symm hL3.2.1, Ne.symm hD3.2.1, Ne.symm hP3.2.1⟩ ⟨Ne.symm hL3.2.2, Ne.symm hD3.2.2, Ne.symm hP3.2.2⟩ ⟨Nat.ne_of_gt lN.2.2.2.2.2.1, Nat.ne_of_gt lN.2.1, Nat.ne_of_gt lN.1⟩ Ni G4 ?_
            intro h27 tk27 ug5 cs5 kg5 ln5 tg5 zs5 hlex5 hnl5 G5 F27 N27
            rw [← ecs4, lex_5] at hlex5
            rw [← ecs4] at hnl5
            obtain ⟨ez5, ecs5⟩ := Prod.mk.inj hlex5
            subst ez5
            rw [← ecs5] at hnl5
            refine ⟨_, _, _, rfl, F27, N27, ⟨off.1, off.2.1, off.2.2.1, off.2.2.2.1, off.2.2.2.2.1, off.2.2.2.2.2.1, off.2.2.2.2.2.2.1, off.2.2.2.2.2.2.2⟩, trivial, ?_⟩
            clear hv hC hx Fi Ni off ne hP3 hD3 hL3
            refine LCg.CompRest.zero ?_
            (unfold LCg.FinE; intro D5 h28 tk28 F28 N28 o28)
            walk_at "go1"
            refine' kmk_add_lit (zs := [Value.none, .none, .str (Str.ofString "") _, .str (sgS lt) t2, .str (tS tok3) ug3, .str (tS tok4) ug4, .str (tS []) ug5]) F28 N28 ?za ?zb ?ze ?_ ?zz
            case za => exact isList_mem (n := 0) (its := [Value.none, .none].toArray) N28 (by k_mem)
            case zb => exact isList_mem N28 List.mem_cons_self
            case ze => exact rfl
            case zz => exact Nat.le_of_ble_eq_true rfl
            intro D6 h29 F29 N29 l29
            walk_at "go1"
            rename Fr _ _ _ _ => F30
            rename News _ _ _ _ => N30
            have e0 : nls [] = 0 := rfl
            have hln5 : ln5 = 2 := by omega
            have hcs5 : cs5 = [] := List.map_eq_nil_iff.mp ecs5.symm
            subst hln5
            subst hcs5
            (try walk_at "oq"); (try walk_at "oq"); (try dsimp only)
            exact got_st ⟨D6, 0, _, _, _, _, _, _, _, _, F30, told_drop N30⟩
        clear N18 F18
        rintro h19 tk19 le19 ⟨Dt, kt, kP3, kL3, tn, b1, b2, b3, b4, b5, F19, N19⟩
        iterate 2 (walk_at "go1")
        refine cut_stF F19 (fun h₀ L m h' tk' => Fr h₀ L h' m ∧ News h₀ L h' ((287, tabObj vT) :: (L + 1 + 1 + 1 + 1, o4) :: (L + 1 + 1 + 1, o3) :: tabL w tb dtb R th nd kR rs)) ?_ ?_
        · refine gQ fun Qz hQz => ?_
          iterate 11 (walk_at "go1")
          rename Fr _ _ _ _ => F30
          rename News _ _ _ _ => N30
          refine' kmk_add_lit (zs := [Value.none, .none, .str (Str.ofString "") b1, .str (sgS lt) b2, .str (tS tok3) b3, .str (tS tok4) b4, .str (tS []) b5, .int 2 tn]) F30 N30 ?za ?zb ?ze ?_ ?zz
          case za => exact isList_mem N30 (List.mem_cons_of_mem _ List.mem_cons_self)
          case zb => exact isList_mem (its := [Value.int 2 tn].toArray) N30 List.mem_cons_self
          case ze => exact rfl
          case zz => exact Nat.le_of_ble_eq_true rfl
          intro D6 h29 F29 N29 l29
          iterate 19 (walk_at "go1")
          rename Fr _ _ _ _ => F31
          rename News _ _ _ _ => N31
          rename (_ < _) ∧ _ => lZ
          refine ne_at (vs := [Value.none, .none, .str (Str.ofString "") b1, .str (sgS lt) b2, .str (tS tok3) b3, .str (tS tok4) b4, .str (tS []) b5, .int 2 tn]) (us := [Value.none, .none, .str (Str.ofString "") _, .str (sgS lt) t2, .str (Str.ofString ". \"\\\"") _, .str (Str.ofString "\" x") _, .str (Str.ofString "") _, .int 2 _]) N31 (List.mem_cons_of_mem _ List.mem_cons_self) List.mem_cons_self (C.room (by walk_at "om")) (told_at1 _ _ _ _ _ _ _) (told_at2 _ _ _ _ _ _ _) false (told_same _ _ _ _ _ _ _ _ _ _ _ _ _) ?_
          walk_at "go1"
          refine PySem.W.ite_neg Bool.false_ne_true ?_
          refine wpAny_execs_nil ?_
          (try walk_at "oq"); (try walk_at "oq"); (try dsimp only)
          (try walk_at "oq"); (try walk_at "oq"); (try dsimp only)
          refine got_st ⟨F31, news_sub N31 ?_⟩
          intro q hq
          refine List.mem_append_right [_, _, _, _] ?_
          exact List.mem_append_right [_, _, _, _, _, _, _, _, _] (led_in hq)
        clear F19 N19
        rintro h20 tk20 le20 ⟨F20, N20⟩
        iterate 2 (walk_at "go1")
        refine cut_stF F20 (fun h₀ L m h' tk' => ∃ (D7 : Addr) (k7 : Nat) (oN : Obj), oN.data = .cell (some (.ref D7)) ∧ Fr h₀ L h' m ∧ News h₀ L h' ((D7, listOf (keyV rs).toArray k7) :: (L + 1 + 1 + 1, oN) :: (L + 1 + 1 + 1 + 1, o4) :: (287, tabObj vT) :: tabL w tb dtb R th nd kR rs)) ?_ ?_
        · refine gQ fun Qz hQz => ?_
          iterate 4 (walk_at "go1")
          k_dflt (refine' callWith_K0 (Frag.In.keeps (Cx.X C) (Fr.keep F20)) ?kw ?_)
          case kw => k_is
          try dsimp only
          refine u_keys (Cx.upd C F20) (by walk_at "om") N20 (tab_in fun q hq => List.mem_append_right [_, _, _] hq) (by walk_at "om") ?_
          intro D7 h21 tk21 le21 F21 N21 o21
          skip
          k_dflt (refine' set_cell (F := F21) (N := names_cell N21) ?so hcN ?sc ?_ ?sa ?sb)
          case sa => rfl
          case sb => rfl
          case sc => rfl
          case so =>
            intro q hq
            have hq0 := hq
            have off := fun (hne : ∀ v, q.2.data ≠ .cell v) => off_cell (names_cell N21) List.mem_cons_self hcN (List.mem_cons_of_mem _ hq0) hne
            rcases List.mem_cons.mp hq with rfl | hq
            · exact off (fun v e => by cases e)
            rcases List.mem_cons.mp hq with rfl | hq
            · exact Nat.ne_of_gt (by show _ + 1 + 1 + 1 < _ + 1 + 1 + 1 + 1; omega)
            rcases List.mem_cons.mp hq with rfl | hq
            · exact Nat.ne_of_lt (by show 287 < _ + 1 + 1 + 1; omega)
            · exact off (tab_data q hq)
          intro h22 oN F22 N22 hoN
          (try walk_at "oq"); (try walk_at "oq"); (try dsimp only)
          refine got_st ⟨D7, _, oN, hoN, F22, names_out N22⟩
        clear F20 N20
        rintro h21 tk21 le21 ⟨D7, k7, oN, hoN, F21, N21⟩
        iterate 2 (walk_at "go1")
        have hr1k : rs.length ≤ 1000 := by omega
        refine cut_stF F21 (fun h₀ L m h' tk' => Fr h₀ L h' m ∧ News h₀ L h' ((D7, listOf (keyV rs).toArray k7) :: (L + 1 + 1 + 1, oN) :: (L + 1 + 1 + 1 + 1, o4) :: (287, tabObj vT) :: tabL w tb dtb R th nd kR rs)) ?_ ?_
        · refine gQ fun Qz hQz => ?_
          iterate 6 (walk_at "go1")
          k_dflt (refine' callWith_K0 (Frag.In.keeps (Cx.X C) (Fr.keep F21)) ?kw ?_)
          case kw => k_is
          try dsimp only
          refine u_values (Cx.upd C F21) (by walk_at "om") N21 (tab_in fun q hq => List.mem_append_right [_, _, _, _] hq) (by walk_at "om") ?_
          intro D8 h22 tk22 le22 F22 N22 o22
          skip
          try dsimp only
          refine gQ fun Qy hQy => ?_
          (with_unfolding_all refine' LCg.ListComp_U F22 ?e1 ?e2 ?e3 ?e4 ?e5 ?eM ?eS)
          case e1 => with_unfolding_all rfl
          case e2 => decide
          case e3 => rfl
          case e4 => decide
          case e5 => rfl
          case eS => first | (intro _; rfl) | (intro _; with_unfolding_all rfl)
          case eM =>
            iterate 13 (walk_at "go1")
            rename IsRange _ _ _ _ _ _ _ _ => hR5
            rename Fr _ _ _ _ => F23
            rename News _ _ _ _ => N23
            obtain ⟨rg1, rg2⟩ := rng1 (n := rs.length) (by walk_at "om")
            refine LCg.CompSrc.range (n := rs.length) (by rfl) F23 N23 hR5 rg1 rg2 (Nat.le_trans hr1k (Nat.le_of_ble_eq_true rfl)) ?_
            intro g5
            refine comp_inv (fun i ys => NumJ i ys) trivial .nil ?_ ?_
            · rintro i v I oI C1 oC D1 m₂ ys h tk E' hi ⟨ti, rfl⟩ hJ hC hx Fi Ni off ne
              rw [Int.zero_add] at hx
              walk_at "go1"
              k_dflt (refine' LCgL.ld_built Fi hX0 hT0 ?na ?nb ?nc ?_)
              case na => k_is
              case nb => boot_by_name
              case nc => decide
              iterate 2 (walk_at "go1")
              k_dflt (refine' LCgL.ld_own Ni ?nm hC hx ?_)
              case nm => k_mem
              iterate 2 (walk_at "go1")
              exact ⟨h, _, rfl, Fi, Ni, hJ.snoc _⟩
            · intro ys hJ
              (unfold LCg.FinE; intro D9 h24 tk24 F24 N24 o24)
              walk_at "go1"
              refine ne_at (vs := valV 0 rs) (us := ys) N24 (List.mem_cons_of_mem _ List.mem_cons_self) List.mem_cons_self (C.room (by walk_at "om")) (valV_num rs).b hJ.b false (num_same (valV_num rs) hJ) ?_
              iterate 11 (walk_at "go1")
              refine matrix_list (rs := rs) (k := k7) (Cx.upd C F24) (by walk_at "om") (news_tl (news_tl N24)) ?_
              intro D10 m1 m2 m3 m4 k10 h25 tk25 F25 N25
              iterate 7 (walk_at "go1")
              refine matrix_str (ls := plaitL wd lt) (Cx.upd C F25) (by walk_at "om") N25 ?_
              intro D11 m5 m6 m7 m8 k11 h26 tk26 F26 N26
              skip
              have hmm : matL (rs.map (·.l)) = matL (plaitL wd lt) := by rw [hrs]; exact hmat
              rw [hmm] at N26
              refine ne_at (vs := matV (matL (plaitL wd lt)) m1 m2 m3 m4) (us := matV (matL (plaitL wd lt)) m5 m6 m7 m8) N26 (List.mem_cons_of_mem _ List.mem_cons_self) List.mem_cons_self (C.room (by walk_at "om")) (mat_at _ _ _ _ _) (mat_at _ _ _ _ _) false (by simp [atD]) ?_
              walk_at "go1"
              refine PySem.W.ite_neg Bool.false_ne_true ?_
              walk_at "go1"
              refine PySem.W.ite_neg Bool.false_ne_true ?_
              refine wpAny_execs_nil ?_
              (try walk_at "oq"); (try walk_at "oq"); (try dsimp only)
              (try walk_at "oq"); (try walk_at "oq"); (try dsimp only)
              exact got_st ⟨F26, news_tl (news_tl N26)⟩
        clear F21 N21
        rintro h22 tk22 le22 ⟨F22, N22⟩
        iterate 2 (walk_at "go1")
        have hcnt : ∀ l, (rs.countP fun r => decide (r.l = l)) = cnt T l := by
          intro l
          rw [← hrs]
          unfold cnt
          rw [List.countP_map]
          rfl
        have hcl : ∀ l, cnt T l ≤ 100 := by
          intro l
          rw [← hcnt l]
          exact Nat.le_trans List.countP_le_length hrz
        dsimp only at le17
        have htk : ∀ (t : Nat) (l : Lt), tk22 ≤ t → TokOk rs l t := by
          intro t l hle
          refine ⟨?_, fun r hr => Nat.ne_of_gt (hrt r hr).1, fun r hr e => absurd e (Nat.ne_of_lt (Nat.lt_of_lt_of_le (hrt r hr).2 (by walk_at "om")))⟩
          have : 0 < t := by omega
          exact Nat.ne_of_gt this
        refine cut_asg F22 N22 "great" (fun v _ => ∃ t, v = .int ((cnt T .A : Int) + cnt T .B) t) ?_ ?_
        · refine gQ fun Qz hQz => ?_
          iterate 14 (walk_at "go1")
          refine u_count (l := .A) (Cx.upd C F22) (by walk_at "om") N22 List.mem_cons_self hr1k (htk _ _ (by first | omega | (dsimp only; omega))) ?_
          intro h23 tk23 uA le23 F23 N23
          rw [hcnt]
          iterate 10 (walk_at "go1")
          refine u_count (l := .B) (Cx.upd C F23) (by walk_at "om") N23 List.mem_cons_self hr1k (htk _ _ (by first | omega | (dsimp only; omega) | (dsimp only at *; omega))) ?_
          intro h24 tk24 uB le24 F24 N24
          rw [hcnt]
          iterate 2 (walk_at "go1")
          refine add_c (Cx.upd C F24) (by walk_at "om") N24 (cnt_b (hcl .A)) (cnt_b (hcl .B)) ?_
          intro h25 tk25 u25 F25 N25
          walk_at "go1"
          (try walk_at "oq"); (try walk_at "oq"); (try dsimp only)
          exact got_a (by assumption) (by assumption) ⟨_, rfl⟩ (fun q hq => hq)
        clear F22 N22
        intro h23 tk23 v23 le23 ⟨t23, e23⟩ F23 N23
        subst e23
        iterate 2 (walk_at "go1")
        refine cut_stF F23 (fun h₀ L m h' tk' => Fr h₀ L h' m ∧ News h₀ L h' ((D7, listOf (keyV rs).toArray k7) :: (L + 1 + 1 + 1, oN) :: (L + 1 + 1 + 1 + 1, o4) :: (287, tabObj vT) :: tabL w tb dtb R th nd kR rs)) ?_ ?_
        · iterate 19 (walk_at "go1")
          refine u_count (l := .a) (Cx.upd C F23) (by walk_at "om") N23 List.mem_cons_self hr1k (htk _ _ (by first | omega | (dsimp only; omega))) ?_
          intro h24 tk24 uA le24 F24 N24
          rw [hcnt]
          iterate 10 (walk_at "go1")
          refine u_count (l := .b) (Cx.upd C F24) (by walk_at "om") N24 List.mem_cons_self hr1k (htk _ _ (by first | omega | (dsimp only; omega) | (dsimp only at *; omega))) ?_
          intro h25 tk25 uB le25 F25 N25
          rw [hcnt]
          iterate 2 (walk_at "go1")
          refine add_c (Cx.upd C F25) (by walk_at "om") N25 (cnt_b (hcl .a)) (cnt_b (hcl .b)) ?_
          intro h26 tk26 u26 F26 N26
          iterate 4 (walk_at "go1")
          refine sub_c (Cx.upd C F26) (by walk_at "om") N26 (cnt_b2 (hcl .a) (hcl .b)) (cnt_b2 (hcl .A) (hcl .B)) ?_
          intro h27 tk27 u27 F27 N27
          iterate 4 (walk_at "go1")
          have hexp2 : ((cnt T .a : Int) + cnt T .b) - (cnt T .A + cnt T .B) = (1 - Int.fmod d 2 * 2) * loneN b c := hexp
          rw [hexp2]
          iterate 2 (walk_at "go1")
          refine PySem.W.ite_neg (by simp) ?_
          refine wpAny_execs_nil ?_
          (try walk_at "oq"); (try walk_at "oq"); (try dsimp only)
          (try walk_at "oq"); (try walk_at "oq"); (try dsimp only)
          exact got_st ⟨F27, N27⟩
        clear F23 N23
        rintro h24 tk24 le24 ⟨F24, N24⟩
        iterate 2 (walk_at "go1")
        iterate 6 (walk_at "go1")
        by_cases hl0 : loneN b c = 0
        · have hT := hnil hl0
          have hrs0 : rs = [] := List.map_eq_nil_iff.mp (hrs.trans hT)
          refine PySem.W.ite_pos (by rw [hl0]; rfl) ?_
          iterate 8 (walk_at "go1")
          rename Fr _ _ _ _ => F25
          rename News _ _ _ _ => N25
          refine eq_at (vs := keyV rs) (us := []) N25 (List.mem_cons_of_mem _ List.mem_cons_self) List.mem_cons_self (C.room (by walk_at "om")) (by rw [hrs0]; simp) (by simp) true (by rw [hrs0]; simp) ?_
          iterate 3 (walk_at "go1")
          · refine goodW_bool F25 hgens (raisesW_false (by wrow_none_raised)) ?_
            kernel_rfl
          · exact And.intro (GrownAt.of (ps := vT) N25 (by k_mem)) True.intro
        · refine PySem.W.ite_neg (by simpa using hl0) ?_
          refine wpAny_execs_nil ?_
          (try walk_at "oq"); (try walk_at "oq"); (try dsimp only)
          have hno' := hno hl0
          iterate 2 (walk_at "go1")
          refine cut_stF F24 (fun h₀ L m h' tk' => ∃ (oS : Obj) (tS : Tok), oS.data = .cell (some (.str (sizeL d).str tS)) ∧ Fr h₀ L h' m ∧ News h₀ L h' ((L + 1 + 1 + 1 + 1, oS) :: (D7, listOf (keyV rs).toArray k7) :: (L + 1 + 1 + 1, oN) :: (287, tabObj vT) :: tabL w tb dtb R th nd kR rs)) ?_ ?_
          · iterate 5 (walk_at "go1")
            have hso : ∀ q ∈ (D7, listOf (keyV rs).toArray k7) :: (s1.heap.objs.size + 1 + 1 + 1, oN) :: (287, tabObj vT) :: tabL w tb dtb R th nd kR rs, q.1 ≠ s1.heap.objs.size + 1 + 1 + 1 + 1 := by
              intro q hq
              have hq0 := hq
              have off := fun (hne : ∀ v, q.2.data ≠ .cell v) => off_cell (size_cell N24) List.mem_cons_self hcZ (List.mem_cons_of_mem _ hq0) hne
              rcases List.mem_cons.mp hq with rfl | hq
              · exact off (fun v e => by cases e)
              rcases List.mem_cons.mp hq with rfl | hq
              · exact Nat.ne_of_lt (by show _ + 1 + 1 + 1 < _ + 1 + 1 + 1 + 1; omega)
              rcases List.mem_cons.mp hq with rfl | hq
              · exact Nat.ne_of_lt (by show 287 < _ + 1 + 1 + 1 + 1; omega)
              · exact off (tab_data q hq)
            have hm0 := Int.fmod_nonneg_of_pos d (b := 2) (by decide)
            have hm1 := Int.fmod_lt_of_pos d (b := 2) (by decide)
            by_cases hd2 : Int.fmod d 2 = 0
            · have hsz : sizeL d = .a := if_pos hd2
              rw [hd2, hsz]
              iterate 4 (walk_at "go1")
              k_dflt (refine' set_cell (F := F24) (N := size_cell N24) ?so hcZ ?sc ?_ ?sa ?sb)
              case sa => rfl
              case sb => rfl
              case sc => rfl
              case so => exact hso
              intro h25 oS F25 N25 hoS
              rw [hd2] at F25
              (try walk_at "oq"); (try walk_at "oq"); (try dsimp only)
              exact got_st ⟨oS, _, hoS, F25, N25⟩
            · have hsz : sizeL d = .A := if_neg hd2
              have hd3 : Int.fmod d 2 = 1 := by omega
              rw [hd3, hsz]
              iterate 4 (walk_at "go1")
              k_dflt (refine' set_cell (F := F24) (N := size_cell N24) ?so hcZ ?sc ?_ ?sa ?sb)
              case sa => rfl
              case sb => rfl
              case sc => rfl
              case so => exact hso
              intro h25 oS F25 N25 hoS
              rw [hd3] at F25
              (try walk_at "oq"); (try walk_at "oq"); (try dsimp only)
              exact got_st ⟨oS, _, hoS, F25, N25⟩
          clear F24 N24
          rintro h25 tk25 le25 ⟨oS, tS, hoS, F25, N25⟩
          iterate 7 (walk_at "go1")
          iterate 9 (walk_at "go1")
          refine other_c (l := sizeL d) (Cx.upd C F25) (by walk_at "om") N25 ?_
          intro h26 tk26 u26 F26 N26
          iterate 2 (walk_at "go1")
          (try dsimp only)
          refine u_all (l := (sizeL d).other) (Cx.upd C F26) (by walk_at "om") N26 (tab_in fun q hq => List.mem_append_right [_, _, _, _] hq) (by walk_at "om") ?_
          intro D8 h27 tk27 le27 F27 N27 o27
          skip
          try dsimp only
          refine gQ fun Qy hQy => ?_
          k_dflt (refine LCt.ListComp_T (F₀ := F27) (by with_unfolding_all rfl) (by decide) (by rfl) (by decide) (by rfl) ?_)
          iterate 13 (walk_at "go1")
          rename IsRange _ _ _ _ _ _ _ _ => hR6
          rename Fr _ _ _ _ => F28
          rename News _ _ _ _ => N28
          obtain ⟨rg1, rg2⟩ := rng1 (n := rs.length) (by walk_at "om")
          refine LCt.CompSrcT.range (n := rs.length) (by rfl) F28 N28 hR6 rg1 rg2 (Nat.le_trans hr1k (Nat.le_of_ble_eq_true rfl)) ?_
          intro g6
          refine comp_invT (fun i => (rs[i]?).any fun r => decide (r.l = sizeL d)) (SelJ fun i => (rs[i]?).any fun r => decide (r.l = sizeL d)) trivial .nil (fun i ys hb h => h.no hb) ?_ ?_ ?_
          · rintro i v I oI C1 oC D1 m₂ ys h tk E' Q' hi ⟨ti, rfl⟩ hC hx Fi Ni off ne kk
            rw [Int.zero_add] at hx
            have hgi : (keyV rs)[i]? = some (.str rs[i].l.str rs[i].t) := by
              rw [List.getElem?_map, List.getElem?_eq_getElem hi]
              rfl
            iterate 2 (walk_at "go1")
            k_dflt (refine' lcf_cell Ni ?jc ?jm ?jd ?_ ?ja ?jb)
            case ja => rfl
            case jb => rfl
            case jc => rfl
            case jm => k_mem
            case jd => exact hoN
            skip
            k_dflt (refine' LCgL.ld_own Ni ?nm hC hx ?_)
            case nm => k_mem
            skip
            refine item_litK (vs := keyV rs) (isList_mem Ni (by k_mem)) (by walk_at "om") (by walk_at "om") (by rw [Int.toNat_natCast]; exact hgi) ?_ (by with_unfolding_all rfl)
            skip
            k_dflt (refine' lcf_cell Ni ?jc2 ?jm2 ?jd2 ?_ ?ja2 ?jb2)
            case ja2 => rfl
            case jb2 => rfl
            case jc2 => rfl
            case jm2 => k_mem
            case jd2 => exact hoS
            iterate 2 (walk_at "go1")
            have e : ((rs[i]?).any fun r => decide (r.l = sizeL d)) = (rs[i].l.str == (sizeL d).str) := by rw [List.getElem?_eq_getElem hi, Option.any_some, lt_beq]
            rw [← e]
            exact kk _ _ Fi Ni
          · rintro i v I oI C1 oC D1 m₂ ys h tk E' hi hb ⟨ti, rfl⟩ hJ hC hx Fi Ni off ne
            rw [Int.zero_add] at hx
            walk_at "go1"
            k_dflt (refine' LCgL.ld_built Fi hX0 hT0 ?na ?nb ?nc ?_)
            case na => k_is
            case nb => boot_by_name
            case nc => decide
            iterate 2 (walk_at "go1")
            k_dflt (refine' LCgL.ld_own Ni ?nm hC hx ?_)
            case nm => k_mem
            iterate 2 (walk_at "go1")
            exact ⟨h, _, rfl, Fi, Ni, hJ.yes hb _⟩
          · intro ys hJ
            (unfold LCg.FinE; intro D9 h28 tk28 F29 N29 o29)
            walk_at "go1"
            have hsel := plV_sel (rs := rs) (sizeL_low d) (fun r hr => hno' r.l (by have h := List.mem_map_of_mem (f := fun r : Rw => r.l) hr; rw [hrs] at h; exact h))
            refine eq_at (vs := plV (sizeL d).other rs) (us := ys) N29 (List.mem_cons_of_mem _ List.mem_cons_self) List.mem_cons_self (C.room (by walk_at "om")) hsel.b hJ.b true (by rw [hsel.a, hJ.a]; simp) ?_
            iterate 2 (walk_at "go1")
            · refine goodW_bool F29 hgens (raisesW_false (by wrow_none_raised)) ?_
              kernel_rfl
            · exact And.intro (GrownAt.of (ps := vT) N29 (by k_mem)) True.intro))
theorem lay36 : True := by
  k_with_none
  exact True.intro
theorem lay37 : True := by
  k_with "z k_all" => first | assumption | exact ne_of_lt_all (by assumption) (by first | omega | exact Nat.le_add_right _ _ | exact Nat.le_refl _)
  k_with "cx_fill" => ((have x9X := Cx.X (by assumption)); revert x9X; k_fill; intro x9X; (have x9F := Cx.F (by assumption)))
  k_with "go1" => (first | (k_unfold; (try dsimp only)) | walk1 | (dsimp only; walk1) | (leave1; walk_say "STEP leave1"; try dsimp only))
  k_with "z call builtin:list.pop" => (k_here; (refine' pop0 ?x9F ?x9N ?x9U ?x9z ?_; (case x9F => k_asm); (case x9N => k_asm); (case x9U => k_upd); (case x9z => first | assumption | omega); intro _ _ _))
  k_with "k_ledger" => first | assumption | exact news_tl (by assumption) | exact news_tl (news_tl (by assumption)) | exact news_tl (news_tl (news_tl (by assumption))) | exact news_tl (news_tl (news_tl (news_tl (by assumption))))
  k_with "z k_enter" => (
    (refine' Cx.code (Cx.upd ?x9a ?x9b) ?x9c ?x9d ?x9e ?x9f ?x9g ?x9h ?_ ?x9i ?x9j ?x9k ?x9l)
    case x9a => first | assumption | exact Cx.in1 (by assumption) | exact Cx.in1 (Cx.in1 (by assumption))
    case x9b => k_asm
    case x9c => k_asm
    case x9f => omega
    case x9d => k_is
    case x9e => k_is
    case x9g => first | exact binds_K (by k_in) rfl (by k_is) rfl rfl rfl | exact BindsTo.of_eq rfl
    case x9l => decide
    case x9h => exact locs rfl
    case x9i => exact rfl
    case x9j => exact rfl
    case x9k => exact rfl
    k_whole
    intro _ _ _ _ _ _ x9C
    have x9F := Cx.F x9C
    have x9B := Cx.B x9C
    have x9X := Cx.X x9C
    have x9T := Cx.T x9C
    (try dsimp only)
    (try k_lift x9B)
    (try k_fold))
  k_with "z assign Tuple" => (k_here; (with_reducible show wpAny _ _ (assign (Expr.Tuple _ _ _) _ (Value.ref _)) _ _ _); k_dflt (refine' unpackN_ ?x9F ?x9N ?x9T ?x9i ?x9j ?x9k ?_; (case x9F => k_asm); (case x9N => k_asm); (case x9T => first | with_reducible assumption | (refine News.isTup (by k_asm) (by k_mem))); (case x9i => exact Cx.hh (by assumption)); (case x9j => exact rfl); (case x9k => exact rfl)); intro _ _ _)
  k_with "pr" => with_reducible (first | assumption | exact an1 (by assumption) | exact an2 (by assumption) | exact an3 (by assumption) | exact an4 (by assumption) | exact an5 (by assumption) | exact an6 (by assumption) | exact an7 (by assumption) | exact an8 (by assumption) | exact an9 (by assumption) | exact al1 (by assumption) | exact al2 (by assumption) | exact al3 (by assumption))
  k_with "lts" => with_reducible (first | walk_at "pr" | exact Nat.lt_add_one _ | (refine Nat.lt_trans ?_ (by assumption); walk_at "pr") | (refine lt_pl ?_; walk_at "lts"))
  k_with "nes" => first | walk_at "pr" | (refine Ne.symm ?_; walk_at "pr") | (refine Nat.ne_of_lt ?_; walk_at "lts") | (refine Nat.ne_of_gt ?_; walk_at "lts")
  k_with "z k_ne" => first | walk_at "nes" | (dsimp only; walk_at "nes")
  k_with "lec" => with_reducible (first | exact Nat.le_refl _ | assumption | exact Nat.le_add_right _ _ | exact Nat.succ_le_succ (Nat.zero_le _) | exact Nat.succ_le_of_lt (by assumption) | (refine Nat.le_trans ?_ (by assumption); walk_at "lec") | (refine le_lt ?_ (by assumption); walk_at "lec") | (refine le_pl ?_; walk_at "lec"))
  k_with "ltc" => with_reducible (refine Nat.lt_of_succ_le ?_; walk_at "lec")
  k_with "om" => first | exact Nat.le_of_ble_eq_true rfl | exact le_plus (by with_reducible assumption) (Nat.le_of_ble_eq_true rfl) | exact Nat.le_trans (by with_reducible assumption) (Nat.le_of_ble_eq_true rfl) | walk_at "lec" | walk_at "ltc" | omega
  exact True.intro
theorem lay38 : True := by
  k_with "z call builtin:len" => (k_here; (with_reducible show wpAny _ _ (call (Value.builtin _) [Value.ref _]) _ _ _); k_dflt (refine' len_led ?x9i ?x9j ?x9k ?x9l ?_; (case x9i => k_asm); (case x9j => k_mem); (case x9k => first | exact List.length_map _ | exact rfl); (case x9l => assumption)))
  exact True.intro
theorem lay39 : True := by
  k_with "z storeName" => (k_here; (with_reducible show wpAny _ _ (storeName _ _ _) _ _ _); k_dflt (refine' store_t ?x9i ?x9j ?x9k ?x9l ?x9m ?_; (case x9i => k_asm); (case x9j => k_asm); (case x9k => exact rfl); (case x9l => exact rfl); (case x9m => exact rfl)); intro _ x9F _; (try dsimp only at x9F ⊢))
  k_with "z execs cons" => (k_here; (with_reducible refine gen_t ?_); intro _ x9l; (try dsimp only at x9l))
  exact True.intro
theorem lay40 : True := by
  k_with "upd" => first | (refine' Upd.head ?_; k_all) | (refine' Upd.tail ?_ (by walk_at "upd"); first | walk_at "nes" | k_ne)
  k_with "z execs cons" => (k_here; (fail_if_success (with_reducible refine gen_t ?_)); (with_reducible refine execs_consQ ?_); intro _ _ _)
  k_with "oq" => first | (with_reducible refine oqN (by assumption) ?_) | (with_reducible refine oqR (by assumption) ?_) | (with_reducible refine oqB (by assumption) ?_) | (with_reducible refine oqC (by assumption) ?_) | (with_reducible refine oqG (by assumption) ?_)
  k_with "go1" => first | ((first | (k_unfold; (try dsimp only)) | walk1 | (dsimp only; walk1) | (leave1; walk_say "STEP leave1"; try dsimp only)); (try (walk_at "oq"; try dsimp only))) | (walk_at "oq"; try dsimp only)
  k_with "z execs nil" => (k_here; (with_reducible refine wpAny_execs_nil ?_); try dsimp only)
  exact True.intro
end Mine
theorem PySem.Challenge.cw_to0065_01_holds : PySem.Challenge.rw_to0065_01.Holds := by
  exact Mine.lawX
