import PyProof.Rows.All
import PyProof.Walk
import PyProof.WalkLemmas
import PyProof.Pure
import PyProof.AutoIntG0
import PyProof.AutoIntG1
import PyProof.AutoIntG2
import PyProof.AutoIntG4
import PyProof.AutoIntG6
import PyProof.AutoIntG9
import PyProof.NoPylong
import PyProof.ListIndex
import PyProof.SumWalk
import PyProof.MeetsDict
import PyProof.EqAt
import PyProof.FactsGen
import PyProof.RangeIter
import PyProof.ListNew
import PyProof.ListTruth
import PyProof.Rows.StrInSeq3
import PyProof.SumAny
import PyProof.SumWalkG
import Wide.BytesRules
import KE.BitLaws
import KE.KxBytes
import KE.BytesMake
import KE.KBytesWalk
import KE.KBytesCut
import KE.KFromBytes
import KE.KToBytes
import OpenK.ZGo
import PySem.Challenge.RW_ez0263_01
set_option Elab.async false
set_option maxRecDepth 1000000
section
open PySem PySem.W
namespace Mine
abbrev S (s : String) : Str := Str.ofString s
def topSt (i : Nat) : Stmt := match PySem.Challenge.pw_ez0263_01.main.body[i]? with
  | some s => s
  | none => .Pass default
def clsSt (i j : Nat) : Stmt := match topSt i with
  | .ClassDef _ _ _ b _ _ _ _ _ _ _ => (match b[j]? with | some s => s | none => .Pass default)
  | s => s
def fArgs : Stmt → Arguments
  | .FunctionDef _ a _ _ _ _ _ _ _ _ => a
  | _ => ⟨[], [], none, [], [], none, []⟩
def fBody : Stmt → List Stmt
  | .FunctionDef _ _ b _ _ _ _ _ _ _ => b
  | _ => []
def fScope : Stmt → Scope
  | .FunctionDef _ _ _ _ _ _ s _ _ _ => s
  | _ => default
def k0 (P : Params) : Obj := ⟨(.type "dict"), none, .dict #[⟨PyData.keyHash P (S "__name__"), (.str (S "__name__") 1), (.str (S "builtins") 160)⟩, ⟨PyData.keyHash P (S "__doc__"), (.str (S "__doc__") 2), (.builtin "builtins.__doc__:str#opaque")⟩, ⟨PyData.keyHash P (S "__package__"), (.str (S "__package__") 3), (.builtin "builtins.__package__:str#opaque")⟩, ⟨PyData.keyHash P (S "__loader__"), (.str (S "__loader__") 4), (.builtin "builtins.__loader__:shared#opaque")⟩, ⟨PyData.keyHash P (S "__spec__"), (.str (S "__spec__") 5), (.builtin "builtins.__spec__#opaque")⟩, ⟨PyData.keyHash P (S "__build_class__"), (.str (S "__build_class__") 6), (.builtin "__build_class__")⟩, ⟨PyData.keyHash P (S "__import__"), (.str (S "__import__") 7), (.builtin "__import__")⟩, ⟨PyData.keyHash P (S "abs"), (.str (S "abs") 8), (.builtin "abs")⟩, ⟨PyData.keyHash P (S "all"), (.str (S "all") 9), (.builtin "all")⟩, ⟨PyData.keyHash P (S "any"), (.str (S "any") 10), (.builtin "any")⟩, ⟨PyData.keyHash P (S "ascii"), (.str (S "ascii") 11), (.builtin "ascii")⟩, ⟨PyData.keyHash P (S "bin"), (.str (S "bin") 12), (.builtin "bin")⟩, ⟨PyData.keyHash P (S "breakpoint"), (.str (S "breakpoint") 13), (.builtin "breakpoint")⟩, ⟨PyData.keyHash P (S "callable"), (.str (S "callable") 14), (.builtin "callable")⟩, ⟨PyData.keyHash P (S "chr"), (.str (S "chr") 15), (.builtin "chr")⟩, ⟨PyData.keyHash P (S "compile"), (.str (S "compile") 16), (.builtin "compile")⟩, ⟨PyData.keyHash P (S "delattr"), (.str (S "delattr") 17), (.builtin "delattr")⟩, ⟨PyData.keyHash P (S "dir"), (.str (S "dir") 18), (.builtin "dir")⟩, ⟨PyData.keyHash P (S "divmod"), (.str (S "divmod") 19), (.builtin "divmod")⟩, ⟨PyData.keyHash P (S "eval"), (.str (S "eval") 20), (.builtin "eval")⟩, ⟨PyData.keyHash P (S "exec"), (.str (S "exec") 21), (.builtin "exec")⟩, ⟨PyData.keyHash P (S "format"), (.str (S "format") 22), (.builtin "format")⟩, ⟨PyData.keyHash P (S "getattr"), (.str (S "getattr") 23), (.builtin "getattr")⟩, ⟨PyData.keyHash P (S "globals"), (.str (S "globals") 24), (.builtin "globals")⟩, ⟨PyData.keyHash P (S "hasattr"), (.str (S "hasattr") 25), (.builtin "hasattr")⟩, ⟨PyData.keyHash P (S "hash"), (.str (S "hash") 26), (.builtin "hash")⟩, ⟨PyData.keyHash P (S "hex"), (.str (S "hex") 27), (.builtin "hex")⟩, ⟨PyData.keyHash P (S "id"), (.str (S "id") 28), (.builtin "id")⟩, ⟨PyData.keyHash P (S "input"), (.str (S "input") 29), (.builtin "input")⟩, ⟨PyData.keyHash P (S "isinstance"), (.str (S "isinstance") 30), (.builtin "isinstance")⟩, ⟨PyData.keyHash P (S "issubclass"), (.str (S "issubclass") 31), (.builtin "issubclass")⟩, ⟨PyData.keyHash P (S "iter"), (.str (S "iter") 32), (.builtin "iter")⟩, ⟨PyData.keyHash P (S "aiter"), (.str (S "aiter") 33), (.builtin "aiter")⟩, ⟨PyData.keyHash P (S "len"), (.str (S "len") 34), (.builtin "len")⟩, ⟨PyData.keyHash P (S "locals"), (.str (S "locals") 35), (.builtin "locals")⟩, ⟨PyData.keyHash P (S "max"), (.str (S "max") 36), (.builtin "max")⟩, ⟨PyData.keyHash P (S "min"), (.str (S "min") 37), (.builtin "min")⟩, ⟨PyData.keyHash P (S "next"), (.str (S "next") 38), (.builtin "next")⟩, ⟨PyData.keyHash P (S "anext"), (.str (S "anext") 39), (.builtin "anext")⟩, ⟨PyData.keyHash P (S "oct"), (.str (S "oct") 40), (.builtin "oct")⟩, ⟨PyData.keyHash P (S "ord"), (.str (S "ord") 41), (.builtin "ord")⟩, ⟨PyData.keyHash P (S "pow"), (.str (S "pow") 42), (.builtin "pow")⟩, ⟨PyData.keyHash P (S "print"), (.str (S "print") 43), (.builtin "print")⟩, ⟨PyData.keyHash P (S "repr"), (.str (S "repr") 44), (.builtin "repr")⟩, ⟨PyData.keyHash P (S "round"), (.str (S "round") 45), (.builtin "round")⟩, ⟨PyData.keyHash P (S "setattr"), (.str (S "setattr") 46), (.builtin "setattr")⟩, ⟨PyData.keyHash P (S "sorted"), (.str (S "sorted") 47), (.builtin "sorted")⟩, ⟨PyData.keyHash P (S "sum"), (.str (S "sum") 48), (.builtin "sum")⟩, ⟨PyData.keyHash P (S "vars"), (.str (S "vars") 49), (.builtin "vars")⟩, ⟨PyData.keyHash P (S "None"), (.str (S "None") 50), .none⟩, ⟨PyData.keyHash P (S "Ellipsis"), (.str (S "Ellipsis") 51), .ellipsis⟩, ⟨PyData.keyHash P (S "NotImplemented"), (.str (S "NotImplemented") 52), .notImplemented⟩, ⟨PyData.keyHash P (S "False"), (.str (S "False") 53), (.bool false)⟩, ⟨PyData.keyHash P (S "True"), (.str (S "True") 54), (.bool true)⟩, ⟨PyData.keyHash P (S "bool"), (.str (S "bool") 55), (.type "bool")⟩, ⟨PyData.keyHash P (S "memoryview"), (.str (S "memoryview") 56), (.type "memoryview")⟩, ⟨PyData.keyHash P (S "bytearray"), (.str (S "bytearray") 57), (.type "bytearray")⟩, ⟨PyData.keyHash P (S "bytes"), (.str (S "bytes") 58), (.type "bytes")⟩, ⟨PyData.keyHash P (S "classmethod"), (.str (S "classmethod") 59), (.type "classmethod")⟩, ⟨PyData.keyHash P (S "complex"), (.str (S "complex") 60), (.type "complex")⟩, ⟨PyData.keyHash P (S "dict"), (.str (S "dict") 61), (.type "dict")⟩, ⟨PyData.keyHash P (S "enumerate"), (.str (S "enumerate") 62), (.type "enumerate")⟩, ⟨PyData.keyHash P (S "filter"), (.str (S "filter") 63), (.type "filter")⟩, ⟨PyData.keyHash P (S "float"), (.str (S "float") 64), (.type "float")⟩, ⟨PyData.keyHash P (S "frozenset"), (.str (S "frozenset") 65), (.type "frozenset")⟩, ⟨PyData.keyHash P (S "property"), (.str (S "property") 66), (.type "property")⟩, ⟨PyData.keyHash P (S "int"), (.str (S "int") 67), (.type "int")⟩, ⟨PyData.keyHash P (S "list"), (.str (S "list") 68), (.type "list")⟩, ⟨PyData.keyHash P (S "map"), (.str (S "map") 69), (.type "map")⟩, ⟨PyData.keyHash P (S "object"), (.str (S "object") 70), (.type "object")⟩, ⟨PyData.keyHash P (S "range"), (.str (S "range") 71), (.type "range")⟩, ⟨PyData.keyHash P (S "reversed"), (.str (S "reversed") 72), (.type "reversed")⟩, ⟨PyData.keyHash P (S "set"), (.str (S "set") 73), (.type "set")⟩, ⟨PyData.keyHash P (S "slice"), (.str (S "slice") 74), (.type "slice")⟩, ⟨PyData.keyHash P (S "staticmethod"), (.str (S "staticmethod") 75), (.type "staticmethod")⟩, ⟨PyData.keyHash P (S "str"), (.str (S "str") 76), (.type "str")⟩, ⟨PyData.keyHash P (S "super"), (.str (S "super") 77), (.type "super")⟩, ⟨PyData.keyHash P (S "tuple"), (.str (S "tuple") 78), (.type "tuple")⟩, ⟨PyData.keyHash P (S "type"), (.str (S "type") 79), (.type "type")⟩, ⟨PyData.keyHash P (S "zip"), (.str (S "zip") 80), (.type "zip")⟩, ⟨PyData.keyHash P (S "__debug__"), (.str (S "__debug__") 81), (.bool true)⟩, ⟨PyData.keyHash P (S "BaseException"), (.str (S "BaseException") 82), (.type "BaseException")⟩, ⟨PyData.keyHash P (S "BaseExceptionGroup"), (.str (S "BaseExceptionGroup") 83), (.type "BaseExceptionGroup")⟩, ⟨PyData.keyHash P (S "Exception"), (.str (S "Exception") 84), (.type "Exception")⟩, ⟨PyData.keyHash P (S "GeneratorExit"), (.str (S "GeneratorExit") 85), (.type "GeneratorExit")⟩, ⟨PyData.keyHash P (S "KeyboardInterrupt"), (.str (S "KeyboardInterrupt") 86), (.type "KeyboardInterrupt")⟩, ⟨PyData.keyHash P (S "SystemExit"), (.str (S "SystemExit") 87), (.type "SystemExit")⟩, ⟨PyData.keyHash P (S "ArithmeticError"), (.str (S "ArithmeticError") 88), (.type "ArithmeticError")⟩, ⟨PyData.keyHash P (S "AssertionError"), (.str (S "AssertionError") 89), (.type "AssertionError")⟩, ⟨PyData.keyHash P (S "AttributeError"), (.str (S "AttributeError") 90), (.type "AttributeError")⟩, ⟨PyData.keyHash P (S "BufferError"), (.str (S "BufferError") 91), (.type "BufferError")⟩, ⟨PyData.keyHash P (S "EOFError"), (.str (S "EOFError") 92), (.type "EOFError")⟩, ⟨PyData.keyHash P (S "ImportError"), (.str (S "ImportError") 93), (.type "ImportError")⟩, ⟨PyData.keyHash P (S "LookupError"), (.str (S "LookupError") 94), (.type "LookupError")⟩, ⟨PyData.keyHash P (S "MemoryError"), (.str (S "MemoryError") 95), (.type "MemoryError")⟩, ⟨PyData.keyHash P (S "NameError"), (.str (S "NameError") 96), (.type "NameError")⟩, ⟨PyData.keyHash P (S "OSError"), (.str (S "OSError") 97), (.type "OSError")⟩, ⟨PyData.keyHash P (S "ReferenceError"), (.str (S "ReferenceError") 98), (.type "ReferenceError")⟩, ⟨PyData.keyHash P (S "RuntimeError"), (.str (S "RuntimeError") 99), (.type "RuntimeError")⟩, ⟨PyData.keyHash P (S "StopAsyncIteration"), (.str (S "StopAsyncIteration") 100), (.type "StopAsyncIteration")⟩, ⟨PyData.keyHash P (S "StopIteration"), (.str (S "StopIteration") 101), (.type "StopIteration")⟩, ⟨PyData.keyHash P (S "SyntaxError"), (.str (S "SyntaxError") 102), (.type "SyntaxError")⟩, ⟨PyData.keyHash P (S "SystemError"), (.str (S "SystemError") 103), (.type "SystemError")⟩, ⟨PyData.keyHash P (S "TypeError"), (.str (S "TypeError") 104), (.type "TypeError")⟩, ⟨PyData.keyHash P (S "ValueError"), (.str (S "ValueError") 105), (.type "ValueError")⟩, ⟨PyData.keyHash P (S "Warning"), (.str (S "Warning") 106), (.type "Warning")⟩, ⟨PyData.keyHash P (S "FloatingPointError"), (.str (S "FloatingPointError") 107), (.type "FloatingPointError")⟩, ⟨PyData.keyHash P (S "OverflowError"), (.str (S "OverflowError") 108), (.type "OverflowError")⟩, ⟨PyData.keyHash P (S "ZeroDivisionError"), (.str (S "ZeroDivisionError") 109), (.type "ZeroDivisionError")⟩, ⟨PyData.keyHash P (S "BytesWarning"), (.str (S "BytesWarning") 110), (.type "BytesWarning")⟩, ⟨PyData.keyHash P (S "DeprecationWarning"), (.str (S "DeprecationWarning") 111), (.type "DeprecationWarning")⟩, ⟨PyData.keyHash P (S "EncodingWarning"), (.str (S "EncodingWarning") 112), (.type "EncodingWarning")⟩, ⟨PyData.keyHash P (S "FutureWarning"), (.str (S "FutureWarning") 113), (.type "FutureWarning")⟩, ⟨PyData.keyHash P (S "ImportWarning"), (.str (S "ImportWarning") 114), (.type "ImportWarning")⟩, ⟨PyData.keyHash P (S "PendingDeprecationWarning"), (.str (S "PendingDeprecationWarning") 115), (.type "PendingDeprecationWarning")⟩, ⟨PyData.keyHash P (S "ResourceWarning"), (.str (S "ResourceWarning") 116), (.type "ResourceWarning")⟩, ⟨PyData.keyHash P (S "RuntimeWarning"), (.str (S "RuntimeWarning") 117), (.type "RuntimeWarning")⟩, ⟨PyData.keyHash P (S "SyntaxWarning"), (.str (S "SyntaxWarning") 118), (.type "SyntaxWarning")⟩, ⟨PyData.keyHash P (S "UnicodeWarning"), (.str (S "UnicodeWarning") 119), (.type "UnicodeWarning")⟩, ⟨PyData.keyHash P (S "UserWarning"), (.str (S "UserWarning") 120), (.type "UserWarning")⟩, ⟨PyData.keyHash P (S "BlockingIOError"), (.str (S "BlockingIOError") 121), (.type "BlockingIOError")⟩, ⟨PyData.keyHash P (S "ChildProcessError"), (.str (S "ChildProcessError") 122), (.type "ChildProcessError")⟩, ⟨PyData.keyHash P (S "ConnectionError"), (.str (S "ConnectionError") 123), (.type "ConnectionError")⟩, ⟨PyData.keyHash P (S "FileExistsError"), (.str (S "FileExistsError") 124), (.type "FileExistsError")⟩, ⟨PyData.keyHash P (S "FileNotFoundError"), (.str (S "FileNotFoundError") 125), (.type "FileNotFoundError")⟩, ⟨PyData.keyHash P (S "InterruptedError"), (.str (S "InterruptedError") 126), (.type "InterruptedError")⟩, ⟨PyData.keyHash P (S "IsADirectoryError"), (.str (S "IsADirectoryError") 127), (.type "IsADirectoryError")⟩, ⟨PyData.keyHash P (S "NotADirectoryError"), (.str (S "NotADirectoryError") 128), (.type "NotADirectoryError")⟩, ⟨PyData.keyHash P (S "PermissionError"), (.str (S "PermissionError") 129), (.type "PermissionError")⟩, ⟨PyData.keyHash P (S "ProcessLookupError"), (.str (S "ProcessLookupError") 130), (.type "ProcessLookupError")⟩, ⟨PyData.keyHash P (S "TimeoutError"), (.str (S "TimeoutError") 131), (.type "TimeoutError")⟩, ⟨PyData.keyHash P (S "IndentationError"), (.str (S "IndentationError") 132), (.type "IndentationError")⟩, ⟨PyData.keyHash P (S "_IncompleteInputError"), (.str (S "_IncompleteInputError") 133), (.type "_IncompleteInputError")⟩, ⟨PyData.keyHash P (S "IndexError"), (.str (S "IndexError") 134), (.type "IndexError")⟩, ⟨PyData.keyHash P (S "KeyError"), (.str (S "KeyError") 135), (.type "KeyError")⟩, ⟨PyData.keyHash P (S "ModuleNotFoundError"), (.str (S "ModuleNotFoundError") 136), (.type "ModuleNotFoundError")⟩, ⟨PyData.keyHash P (S "NotImplementedError"), (.str (S "NotImplementedError") 137), (.type "NotImplementedError")⟩, ⟨PyData.keyHash P (S "PythonFinalizationError"), (.str (S "PythonFinalizationError") 138), (.type "PythonFinalizationError")⟩, ⟨PyData.keyHash P (S "RecursionError"), (.str (S "RecursionError") 139), (.type "RecursionError")⟩, ⟨PyData.keyHash P (S "UnboundLocalError"), (.str (S "UnboundLocalError") 140), (.type "UnboundLocalError")⟩, ⟨PyData.keyHash P (S "UnicodeError"), (.str (S "UnicodeError") 141), (.type "UnicodeError")⟩, ⟨PyData.keyHash P (S "BrokenPipeError"), (.str (S "BrokenPipeError") 142), (.type "BrokenPipeError")⟩, ⟨PyData.keyHash P (S "ConnectionAbortedError"), (.str (S "ConnectionAbortedError") 143), (.type "ConnectionAbortedError")⟩, ⟨PyData.keyHash P (S "ConnectionRefusedError"), (.str (S "ConnectionRefusedError") 144), (.type "ConnectionRefusedError")⟩, ⟨PyData.keyHash P (S "ConnectionResetError"), (.str (S "ConnectionResetError") 145), (.type "ConnectionResetError")⟩, ⟨PyData.keyHash P (S "TabError"), (.str (S "TabError") 146), (.type "TabError")⟩, ⟨PyData.keyHash P (S "UnicodeDecodeError"), (.str (S "UnicodeDecodeError") 147), (.type "UnicodeDecodeError")⟩, ⟨PyData.keyHash P (S "UnicodeEncodeError"), (.str (S "UnicodeEncodeError") 148), (.type "UnicodeEncodeError")⟩, ⟨PyData.keyHash P (S "UnicodeTranslateError"), (.str (S "UnicodeTranslateError") 149), (.type "UnicodeTranslateError")⟩, ⟨PyData.keyHash P (S "ExceptionGroup"), (.str (S "ExceptionGroup") 150), (.type "ExceptionGroup")⟩, ⟨PyData.keyHash P (S "EnvironmentError"), (.str (S "EnvironmentError") 151), (.type "OSError")⟩, ⟨PyData.keyHash P (S "IOError"), (.str (S "IOError") 152), (.type "OSError")⟩, ⟨PyData.keyHash P (S "open"), (.str (S "open") 153), (.builtin "open")⟩, ⟨PyData.keyHash P (S "quit"), (.str (S "quit") 154), (.builtin "builtins.quit#opaque")⟩, ⟨PyData.keyHash P (S "exit"), (.str (S "exit") 155), (.builtin "builtins.exit#opaque")⟩, ⟨PyData.keyHash P (S "copyright"), (.str (S "copyright") 156), (.builtin "builtins.copyright#opaque")⟩, ⟨PyData.keyHash P (S "credits"), (.str (S "credits") 157), (.builtin "builtins.credits#opaque")⟩, ⟨PyData.keyHash P (S "license"), (.str (S "license") 158), (.builtin "builtins.license#opaque")⟩, ⟨PyData.keyHash P (S "help"), (.str (S "help") 159), (.builtin "builtins.help#opaque")⟩] 159, #[]⟩
def k1 (P : Params) : Obj := ⟨(.type "dict"), none, .dict #[⟨PyData.keyHash P (S "builtins"), (.str (S "builtins") 162), (.ref 4)⟩, ⟨PyData.keyHash P (S "__main__"), (.str (S "__main__") 163), (.ref 5)⟩] 2, #[]⟩
def k2 (P : Params) : Obj := ⟨.none, none, .dict #[⟨PyData.keyHash P (S "type.__subclasses__.Exception.0"), (.str (S "type.__subclasses__.Exception.0") 399), (.int 178 0)⟩, ⟨PyData.keyHash P (S "type.__subclasses__.Exception.n"), (.str (S "type.__subclasses__.Exception.n") 400), (.int 2 0)⟩, ⟨PyData.keyHash P (S "type.__subclasses__.OSError.0"), (.str (S "type.__subclasses__.OSError.0") 490), (.int 246 0)⟩, ⟨PyData.keyHash P (S "type.__subclasses__.OSError.n"), (.str (S "type.__subclasses__.OSError.n") 491), (.int 1 0)⟩, ⟨PyData.keyHash P (S "type.__subclasses__.Exception.1"), (.str (S "type.__subclasses__.Exception.1") 1718), (.int 1210 0)⟩] 5, #[]⟩
def k3 (P : Params) : Obj := ⟨(.type "dict"), none, .dict #[⟨PyData.keyHash P (S "__name__"), (.str (S "__name__") 165), (.str (S "law_ez0263_01") 1756)⟩, ⟨PyData.keyHash P (S "__doc__"), (.str (S "__doc__") 166), .none⟩, ⟨PyData.keyHash P (S "__package__"), (.str (S "__package__") 167), .none⟩, ⟨PyData.keyHash P (S "__loader__"), (.str (S "__loader__") 168), (.builtin "__main__.__loader__#opaque")⟩, ⟨PyData.keyHash P (S "__spec__"), (.str (S "__spec__") 169), .none⟩, ⟨PyData.keyHash P (S "__annotations__"), (.str (S "__annotations__") 170), (.ref 6)⟩, ⟨PyData.keyHash P (S "__builtins__"), (.str (S "__builtins__") 171), (.ref 4)⟩, ⟨PyData.keyHash P (S "__file__"), (.str (S "__file__") 173), (.str (S "/claim/cut.py") 172)⟩, ⟨PyData.keyHash P (S "__cached__"), (.str (S "__cached__") 174), .none⟩, ⟨PyData.keyHash P (S "_wall"), (.str (S "_wall") 193), (.ref 21)⟩, ⟨PyData.keyHash P (S "int_to_bin"), (.str (S "int_to_bin") 206), (.ref 29)⟩, ⟨PyData.keyHash P (S "_bit_values"), (.str (S "_bit_values") 219), (.ref 30)⟩, ⟨PyData.keyHash P (S "bin_to_int"), (.str (S "bin_to_int") 230), (.ref 38)⟩, ⟨PyData.keyHash P (S "swap_bytes"), (.str (S "swap_bytes") 243), (.ref 46)⟩, ⟨PyData.keyHash P (S "encode_bin"), (.str (S "encode_bin") 250), (.ref 53)⟩, ⟨PyData.keyHash P (S "Container"), (.str (S "Container") 381), (.ref 162)⟩, ⟨PyData.keyHash P (S "ConstructError"), (.str (S "ConstructError") 402), (.ref 178)⟩, ⟨PyData.keyHash P (S "FieldError"), (.str (S "FieldError") 419), (.ref 192)⟩, ⟨PyData.keyHash P (S "SizeofError"), (.str (S "SizeofError") 436), (.ref 206)⟩, ⟨PyData.keyHash P (S "AdaptationError"), (.str (S "AdaptationError") 453), (.ref 220)⟩, ⟨PyData.keyHash P (S "_whence"), (.str (S "_whence") 463), (.ref 229)⟩, ⟨PyData.keyHash P (S "_index"), (.str (S "_index") 471), (.ref 236)⟩, ⟨PyData.keyHash P (S "UnsupportedOperation"), (.str (S "UnsupportedOperation") 493), (.ref 246)⟩, ⟨PyData.keyHash P (S "IOBase"), (.str (S "IOBase") 525), (.ref 266)⟩, ⟨PyData.keyHash P (S "BufferedIOBase"), (.str (S "BufferedIOBase") 543), (.ref 281)⟩, ⟨PyData.keyHash P (S "TextIOBase"), (.str (S "TextIOBase") 561), (.ref 293)⟩, ⟨PyData.keyHash P (S "BytesIO"), (.str (S "BytesIO") 823), (.ref 523)⟩, ⟨PyData.keyHash P (S "StringIO"), (.str (S "StringIO") 1110), (.ref 770)⟩, ⟨PyData.keyHash P (S "Construct"), (.str (S "Construct") 1236), (.ref 863)⟩, ⟨PyData.keyHash P (S "Subconstruct"), (.str (S "Subconstruct") 1282), (.ref 900)⟩, ⟨PyData.keyHash P (S "Adapter"), (.str (S "Adapter") 1317), (.ref 929)⟩, ⟨PyData.keyHash P (S "_read_stream"), (.str (S "_read_stream") 1326), (.ref 938)⟩, ⟨PyData.keyHash P (S "StaticField"), (.str (S "StaticField") 1373), (.ref 971)⟩, ⟨PyData.keyHash P (S "MetaField"), (.str (S "MetaField") 1420), (.ref 1007)⟩, ⟨PyData.keyHash P (S "Struct"), (.str (S "Struct") 1477), (.ref 1044)⟩, ⟨PyData.keyHash P (S "Buffered"), (.str (S "Buffered") 1531), (.ref 1081)⟩, ⟨PyData.keyHash P (S "PaddingError"), (.str (S "PaddingError") 1550), (.ref 1097)⟩, ⟨PyData.keyHash P (S "BitIntegerAdapter"), (.str (S "BitIntegerAdapter") 1605), (.ref 1126)⟩, ⟨PyData.keyHash P (S "PaddingAdapter"), (.str (S "PaddingAdapter") 1651), (.ref 1159)⟩, ⟨PyData.keyHash P (S "Field"), (.str (S "Field") 1661), (.ref 1170)⟩, ⟨PyData.keyHash P (S "BitField"), (.str (S "BitField") 1673), (.ref 1178)⟩, ⟨PyData.keyHash P (S "Padding"), (.str (S "Padding") 1683), (.ref 1186)⟩, ⟨PyData.keyHash P (S "Bitwise"), (.str (S "Bitwise") 1691), (.ref 1193)⟩, ⟨PyData.keyHash P (S "BitStruct"), (.str (S "BitStruct") 1699), (.ref 1200)⟩, ⟨PyData.keyHash P (S "ELFError"), (.str (S "ELFError") 1721), (.ref 1210)⟩, ⟨PyData.keyHash P (S "ELFParseError"), (.str (S "ELFParseError") 1737), (.ref 1223)⟩, ⟨PyData.keyHash P (S "as_stream"), (.str (S "as_stream") 1746), (.ref 1232)⟩, ⟨PyData.keyHash P (S "struct_parse"), (.str (S "struct_parse") 1755), (.ref 1240)⟩, ⟨PyData.keyHash P (S "_law_box"), (.str (S "_law_box") 1763), (.ref 1245)⟩, ⟨PyData.keyHash P (S "_law_take"), (.str (S "_law_take") 1773), (.ref 1252)⟩, ⟨PyData.keyHash P (S "law"), (.str (S "law") 1779), (.ref 1257)⟩] 51, #[]⟩
def k4 (P : Params) : Obj := ⟨(.type "module"), (some 0), .plain, #[]⟩
def k22 (P : Params) : Obj := ⟨(.type "tuple"), none, .seq #[(.int 32 196)] 0, #[]⟩
def k28 (P : Params) : Obj := ⟨(.type "code"), none, .fields #[(.str (S "int_to_bin") 197), (.str (S "int_to_bin") 198), (.str (S "/claim/cut.py") 199), (.int 5 0), (.int 2 0), (.int 0 0), (.int 0 0), (.int 3 0), (.ref 23), (.bool true), (.int 181 0), (.ref 24), .none, (.ref 25), (.ref 26), (.ref 27), (.int 204 0), (.int 5 0), (.str (S "/claim/cut.py") 205)], #[]⟩
def k29 (P : Params) : Obj := ⟨(.type "function"), none, .func { name := (S "int_to_bin"), qualname := (S "int_to_bin"), params := fArgs (topSt 2), body := .stmts (fBody (topSt 2)), scope := fScope (topSt 2), globals := 3, closure := [], defaults := (.ref 22), kwdefaults := .none, doc := .none, pyModule := (.str (S "elftools.construct.lib.binary") 194), annotations := none, code := (.ref 28), closureTuple := .none, builtins := 0 }, #[]⟩
def k30 (P : Params) : Obj := ⟨(.type "dict"), none, .dict #[⟨0, (.int 0 207), (.int 0 208)⟩, ⟨1, (.int 1 209), (.int 1 210)⟩, ⟨48, (.int 48 211), (.int 0 212)⟩, ⟨49, (.int 49 213), (.int 1 214)⟩] 4, #[]⟩
def k31 (P : Params) : Obj := ⟨(.type "tuple"), none, .seq #[(.bool false)] 0, #[]⟩
def k37 (P : Params) : Obj := ⟨(.type "code"), none, .fields #[(.str (S "bin_to_int") 220), (.str (S "bin_to_int") 221), (.str (S "/claim/cut.py") 222), (.int 16 0), (.int 2 0), (.int 0 0), (.int 0 0), (.int 3 0), (.ref 32), (.bool true), (.int 181 0), (.ref 33), .none, (.ref 34), (.ref 35), (.ref 36), (.int 228 0), (.int 16 0), (.str (S "/claim/cut.py") 229)], #[]⟩
def k38 (P : Params) : Obj := ⟨(.type "function"), none, .func { name := (S "bin_to_int"), qualname := (S "bin_to_int"), params := fArgs (topSt 4), body := .stmts (fBody (topSt 4)), scope := fScope (topSt 4), globals := 3, closure := [], defaults := (.ref 31), kwdefaults := .none, doc := .none, pyModule := (.str (S "elftools.construct.lib.binary") 194), annotations := none, code := (.ref 37), closureTuple := .none, builtins := 0 }, #[]⟩
def k39 (P : Params) : Obj := ⟨(.type "tuple"), none, .seq #[(.int 8 231)] 0, #[]⟩
def k45 (P : Params) : Obj := ⟨(.type "code"), none, .fields #[(.str (S "swap_bytes") 232), (.str (S "swap_bytes") 233), (.str (S "/claim/cut.py") 234), (.int 26 0), (.int 2 0), (.int 0 0), (.int 0 0), (.int 3 0), (.ref 40), (.bool true), (.int 181 0), (.ref 41), .none, (.ref 42), (.ref 43), (.ref 44), (.int 241 0), (.int 26 0), (.str (S "/claim/cut.py") 242)], #[]⟩
def k46 (P : Params) : Obj := ⟨(.type "function"), none, .func { name := (S "swap_bytes"), qualname := (S "swap_bytes"), params := fArgs (topSt 5), body := .stmts (fBody (topSt 5)), scope := fScope (topSt 5), globals := 3, closure := [], defaults := (.ref 39), kwdefaults := .none, doc := .none, pyModule := (.str (S "elftools.construct.lib.binary") 194), annotations := none, code := (.ref 45), closureTuple := .none, builtins := 0 }, #[]⟩
def k48 (P : Params) : Obj := ⟨.none, none, .fields #[], #[]⟩
def k52 (P : Params) : Obj := ⟨(.type "code"), none, .fields #[(.str (S "encode_bin") 244), (.str (S "encode_bin") 245), (.str (S "/claim/cut.py") 246), (.int 36 0), (.int 1 0), (.int 0 0), (.int 0 0), (.int 3 0), (.ref 47), (.bool true), (.int 181 0), (.ref 48), .none, (.ref 49), (.ref 50), (.ref 51), (.int 248 0), (.int 36 0), (.str (S "/claim/cut.py") 249)], #[]⟩
def k53 (P : Params) : Obj := ⟨(.type "function"), none, .func { name := (S "encode_bin"), qualname := (S "encode_bin"), params := fArgs (topSt 6), body := .stmts (fBody (topSt 6)), scope := fScope (topSt 6), globals := 3, closure := [], defaults := .none, kwdefaults := .none, doc := .none, pyModule := (.str (S "elftools.construct.lib.binary") 194), annotations := none, code := (.ref 52), closureTuple := .none, builtins := 0 }, #[]⟩
def k66 (P : Params) : Obj := ⟨(.type "code"), none, .fields #[(.str (S "__init__") 265), (.str (S "Container.__init__") 266), (.str (S "/claim/cut.py") 267), (.int 41 0), (.int 1 0), (.int 0 0), (.int 0 0), (.int 11 0), (.ref 61), (.bool true), (.int 181 0), (.ref 62), .none, (.ref 63), (.ref 64), (.ref 65), (.int 270 0), (.int 41 0), (.str (S "/claim/cut.py") 271)], #[]⟩
def k67 (P : Params) : Obj := ⟨(.type "function"), none, .func { name := (S "__init__"), qualname := (S "Container.__init__"), params := fArgs (clsSt 8 0), body := .stmts (fBody (clsSt 8 0)), scope := fScope (clsSt 8 0), globals := 3, closure := [], defaults := .none, kwdefaults := .none, doc := .none, pyModule := (.str (S "elftools.construct.lib.container") 251), annotations := none, code := (.ref 66), closureTuple := .none, builtins := 0 }, #[]⟩
def k73 (P : Params) : Obj := ⟨(.type "code"), none, .fields #[(.str (S "__getitem__") 273), (.str (S "Container.__getitem__") 274), (.str (S "/claim/cut.py") 275), (.int 44 0), (.int 2 0), (.int 0 0), (.int 0 0), (.int 3 0), (.ref 68), (.bool true), (.int 181 0), (.ref 69), .none, (.ref 70), (.ref 71), (.ref 72), (.int 278 0), (.int 44 0), (.str (S "/claim/cut.py") 279)], #[]⟩
def k74 (P : Params) : Obj := ⟨(.type "function"), none, .func { name := (S "__getitem__"), qualname := (S "Container.__getitem__"), params := fArgs (clsSt 8 1), body := .stmts (fBody (clsSt 8 1)), scope := fScope (clsSt 8 1), globals := 3, closure := [], defaults := .none, kwdefaults := .none, doc := .none, pyModule := (.str (S "elftools.construct.lib.container") 251), annotations := none, code := (.ref 73), closureTuple := .none, builtins := 0 }, #[]⟩
def k87 (P : Params) : Obj := ⟨(.type "code"), none, .fields #[(.str (S "__setitem__") 289), (.str (S "Container.__setitem__") 290), (.str (S "/claim/cut.py") 291), (.int 50 0), (.int 3 0), (.int 0 0), (.int 0 0), (.int 3 0), (.ref 82), (.bool true), (.int 181 0), (.ref 83), .none, (.ref 84), (.ref 85), (.ref 86), (.int 295 0), (.int 50 0), (.str (S "/claim/cut.py") 296)], #[]⟩
def k88 (P : Params) : Obj := ⟨(.type "function"), none, .func { name := (S "__setitem__"), qualname := (S "Container.__setitem__"), params := fArgs (clsSt 8 3), body := .stmts (fBody (clsSt 8 3)), scope := fScope (clsSt 8 3), globals := 3, closure := [], defaults := .none, kwdefaults := .none, doc := .none, pyModule := (.str (S "elftools.construct.lib.container") 251), annotations := none, code := (.ref 87), closureTuple := .none, builtins := 0 }, #[]⟩
def k108 (P : Params) : Obj := ⟨(.type "code"), none, .fields #[(.str (S "__contains__") 312), (.str (S "Container.__contains__") 313), (.str (S "/claim/cut.py") 314), (.int 59 0), (.int 2 0), (.int 0 0), (.int 0 0), (.int 3 0), (.ref 103), (.bool true), (.int 181 0), (.ref 104), .none, (.ref 105), (.ref 106), (.ref 107), (.int 317 0), (.int 59 0), (.str (S "/claim/cut.py") 318)], #[]⟩
def k109 (P : Params) : Obj := ⟨(.type "function"), none, .func { name := (S "__contains__"), qualname := (S "Container.__contains__"), params := fArgs (clsSt 8 6), body := .stmts (fBody (clsSt 8 6)), scope := fScope (clsSt 8 6), globals := 3, closure := [], defaults := .none, kwdefaults := .none, doc := .none, pyModule := (.str (S "elftools.construct.lib.container") 251), annotations := none, code := (.ref 108), closureTuple := .none, builtins := 0 }, #[]⟩
def k130 (P : Params) : Obj := ⟨(.type "code"), none, .fields #[(.str (S "keys") 337), (.str (S "Container.keys") 338), (.str (S "/claim/cut.py") 339), (.int 68 0), (.int 1 0), (.int 0 0), (.int 0 0), (.int 3 0), (.ref 125), (.bool true), (.int 181 0), (.ref 126), .none, (.ref 127), (.ref 128), (.ref 129), (.int 341 0), (.int 68 0), (.str (S "/claim/cut.py") 342)], #[]⟩
def k131 (P : Params) : Obj := ⟨(.type "function"), none, .func { name := (S "keys"), qualname := (S "Container.keys"), params := fArgs (clsSt 8 9), body := .stmts (fBody (clsSt 8 9)), scope := fScope (clsSt 8 9), globals := 3, closure := [], defaults := .none, kwdefaults := .none, doc := .none, pyModule := (.str (S "elftools.construct.lib.container") 251), annotations := none, code := (.ref 130), closureTuple := .none, builtins := 0 }, #[]⟩
def k161 (P : Params) : Obj := ⟨(.type "dict"), none, .dict #[⟨PyData.keyHash P (S "__module__"), (.str (S "__module__") 260), (.str (S "elftools.construct.lib.container") 251)⟩, ⟨PyData.keyHash P (S "__firstlineno__"), (.str (S "__firstlineno__") 264), (.int 39 263)⟩, ⟨PyData.keyHash P (S "__init__"), (.str (S "__init__") 272), (.ref 67)⟩, ⟨PyData.keyHash P (S "__getitem__"), (.str (S "__getitem__") 280), (.ref 74)⟩, ⟨PyData.keyHash P (S "pop"), (.str (S "pop") 288), (.ref 81)⟩, ⟨PyData.keyHash P (S "__setitem__"), (.str (S "__setitem__") 297), (.ref 88)⟩, ⟨PyData.keyHash P (S "__iter__"), (.str (S "__iter__") 304), (.ref 95)⟩, ⟨PyData.keyHash P (S "__len__"), (.str (S "__len__") 311), (.ref 102)⟩, ⟨PyData.keyHash P (S "__contains__"), (.str (S "__contains__") 319), (.ref 109)⟩, ⟨PyData.keyHash P (S "__eq__"), (.str (S "__eq__") 327), (.ref 116)⟩, ⟨PyData.keyHash P (S "get"), (.str (S "get") 336), (.ref 124)⟩, ⟨PyData.keyHash P (S "keys"), (.str (S "keys") 343), (.ref 131)⟩, ⟨PyData.keyHash P (S "items"), (.str (S "items") 350), (.ref 138)⟩, ⟨PyData.keyHash P (S "copied"), (.str (S "copied") 357), (.ref 145)⟩, ⟨PyData.keyHash P (S "__repr__"), (.str (S "__repr__") 364), (.ref 152)⟩, ⟨PyData.keyHash P (S "__str__"), (.str (S "__str__") 371), (.ref 159)⟩, ⟨PyData.keyHash P (S "__static_attributes__"), (.str (S "__static_attributes__") 373), (.ref 160)⟩, ⟨PyData.keyHash P (S "__dict__"), (.str (S "__dict__") 375), (.ref 163)⟩, ⟨PyData.keyHash P (S "__weakref__"), (.str (S "__weakref__") 377), (.ref 164)⟩, ⟨PyData.keyHash P (S "__doc__"), (.str (S "__doc__") 378), .none⟩, ⟨PyData.keyHash P (S "__hash__"), (.str (S "__hash__") 379), .none⟩] 5, #[]⟩
def k162 (P : Params) : Obj := ⟨(.type "type"), none, .cls { name := (S "Container"), bases := [(.type "object")], mro := [(.ref 162), (.type "object")], ns := 161, qualname := (S "Container"), hasDict := true, slotNames := [], subclasses := [], abstract := false, collection := none, hasDel := false }, #[none, none, (some (.str (S "Container") 253)), (some (.str (S "Container") 261)), (some (.builtin "object.__new__")), (some (.bool true))]⟩
def k228 (P : Params) : Obj := ⟨(.type "code"), none, .fields #[(.str (S "_whence") 456), (.str (S "_whence") 457), (.str (S "/claim/cut.py") 458), (.int 92 0), (.int 2 0), (.int 0 0), (.int 0 0), (.int 3 0), (.ref 223), (.bool true), (.int 181 0), (.ref 224), .none, (.ref 225), (.ref 226), (.ref 227), (.int 461 0), (.int 92 0), (.str (S "/claim/cut.py") 462)], #[]⟩
def k229 (P : Params) : Obj := ⟨(.type "function"), none, .func { name := (S "_whence"), qualname := (S "_whence"), params := fArgs (topSt 15), body := .stmts (fBody (topSt 15)), scope := fScope (topSt 15), globals := 3, closure := [], defaults := .none, kwdefaults := .none, doc := .none, pyModule := (.str (S "io") 454), annotations := none, code := (.ref 228), closureTuple := .none, builtins := 0 }, #[]⟩
def k235 (P : Params) : Obj := ⟨(.type "code"), none, .fields #[(.str (S "_index") 464), (.str (S "_index") 465), (.str (S "/claim/cut.py") 466), (.int 97 0), (.int 2 0), (.int 0 0), (.int 0 0), (.int 3 0), (.ref 230), (.bool true), (.int 181 0), (.ref 231), .none, (.ref 232), (.ref 233), (.ref 234), (.int 469 0), (.int 97 0), (.str (S "/claim/cut.py") 470)], #[]⟩
def k236 (P : Params) : Obj := ⟨(.type "function"), none, .func { name := (S "_index"), qualname := (S "_index"), params := fArgs (topSt 16), body := .stmts (fBody (topSt 16)), scope := fScope (topSt 16), globals := 3, closure := [], defaults := .none, kwdefaults := .none, doc := .none, pyModule := (.str (S "io") 454), annotations := none, code := (.ref 235), closureTuple := .none, builtins := 0 }, #[]⟩
def k262 (P : Params) : Obj := ⟨(.type "code"), none, .fields #[(.str (S "__new__") 508), (.str (S "IOBase.__new__") 509), (.str (S "/claim/cut.py") 510), (.int 109 0), (.int 1 0), (.int 1 0), (.int 0 0), (.int 15 0), (.ref 257), (.bool true), (.int 181 0), (.ref 258), .none, (.ref 259), (.ref 260), (.ref 261), (.int 514 0), (.int 109 0), (.str (S "/claim/cut.py") 515)], #[]⟩
def k263 (P : Params) : Obj := ⟨(.type "function"), none, .func { name := (S "__new__"), qualname := (S "IOBase.__new__"), params := fArgs (clsSt 18 1), body := .stmts (fBody (clsSt 18 1)), scope := fScope (clsSt 18 1), globals := 3, closure := [], defaults := .none, kwdefaults := .none, doc := .none, pyModule := (.str (S "io") 454), annotations := none, code := (.ref 262), closureTuple := .none, builtins := 0 }, #[]⟩
def k265 (P : Params) : Obj := ⟨(.type "dict"), none, .dict #[⟨PyData.keyHash P (S "__module__"), (.str (S "__module__") 501), (.str (S "io") 506)⟩, ⟨PyData.keyHash P (S "__firstlineno__"), (.str (S "__firstlineno__") 505), (.int 106 504)⟩, ⟨PyData.keyHash P (S "__new__"), (.str (S "__new__") 516), (.ref 267)⟩, ⟨PyData.keyHash P (S "__static_attributes__"), (.str (S "__static_attributes__") 517), (.ref 264)⟩, ⟨PyData.keyHash P (S "__dict__"), (.str (S "__dict__") 520), (.ref 268)⟩, ⟨PyData.keyHash P (S "__weakref__"), (.str (S "__weakref__") 522), (.ref 269)⟩, ⟨PyData.keyHash P (S "__doc__"), (.str (S "__doc__") 523), .none⟩] 4, #[]⟩
def k266 (P : Params) : Obj := ⟨(.type "type"), none, .cls { name := (S "IOBase"), bases := [(.type "object")], mro := [(.ref 266), (.type "object")], ns := 265, qualname := (S "IOBase"), hasDict := true, slotNames := [], subclasses := [(.ref 281), (.ref 293)], abstract := false, collection := none, hasDel := false }, #[none, none, (some (.str (S "IOBase") 494)), (some (.str (S "IOBase") 502)), (some .none), (some (.bool true))]⟩
def k267 (P : Params) : Obj := ⟨(.type "staticmethod"), none, .fields #[(.ref 263)], #[]⟩
def k280 (P : Params) : Obj := ⟨(.type "dict"), none, .dict #[⟨PyData.keyHash P (S "__module__"), (.str (S "__module__") 533), (.str (S "io") 538)⟩, ⟨PyData.keyHash P (S "__firstlineno__"), (.str (S "__firstlineno__") 537), (.int 113 536)⟩, ⟨PyData.keyHash P (S "__static_attributes__"), (.str (S "__static_attributes__") 540), (.ref 279)⟩, ⟨PyData.keyHash P (S "__doc__"), (.str (S "__doc__") 541), .none⟩] 2, #[]⟩
def k281 (P : Params) : Obj := ⟨(.type "type"), none, .cls { name := (S "BufferedIOBase"), bases := [(.ref 266)], mro := [(.ref 281), (.ref 266), (.type "object")], ns := 280, qualname := (S "BufferedIOBase"), hasDict := true, slotNames := [], subclasses := [(.ref 523)], abstract := false, collection := none, hasDel := false }, #[(some (.ref 272)), none, (some (.str (S "BufferedIOBase") 526)), (some (.str (S "BufferedIOBase") 534)), (some .none), (some (.bool true))]⟩
def k303 (P : Params) : Obj := ⟨(.type "tuple"), none, .seq #[.none] 0, #[]⟩
def k309 (P : Params) : Obj := ⟨(.type "code"), none, .fields #[(.str (S "__init__") 576), (.str (S "BytesIO.__init__") 577), (.str (S "/claim/cut.py") 578), (.int 120 0), (.int 2 0), (.int 0 0), (.int 0 0), (.int 3 0), (.ref 304), (.bool true), (.int 181 0), (.ref 305), .none, (.ref 306), (.ref 307), (.ref 308), (.int 581 0), (.int 120 0), (.str (S "/claim/cut.py") 582)], #[]⟩
def k310 (P : Params) : Obj := ⟨(.type "function"), none, .func { name := (S "__init__"), qualname := (S "BytesIO.__init__"), params := fArgs (clsSt 21 1), body := .stmts (fBody (clsSt 21 1)), scope := fScope (clsSt 21 1), globals := 3, closure := [], defaults := (.ref 303), kwdefaults := .none, doc := .none, pyModule := (.str (S "io") 454), annotations := none, code := (.ref 309), closureTuple := .none, builtins := 0 }, #[]⟩
def k316 (P : Params) : Obj := ⟨(.type "code"), none, .fields #[(.str (S "__check") 584), (.str (S "BytesIO.__check") 585), (.str (S "/claim/cut.py") 586), (.int 126 0), (.int 1 0), (.int 0 0), (.int 0 0), (.int 3 0), (.ref 311), (.bool true), (.int 181 0), (.ref 312), .none, (.ref 313), (.ref 314), (.ref 315), (.int 588 0), (.int 126 0), (.str (S "/claim/cut.py") 589)], #[]⟩
def k317 (P : Params) : Obj := ⟨(.type "function"), none, .func { name := (S "__check"), qualname := (S "BytesIO.__check"), params := fArgs (clsSt 21 2), body := .stmts (fBody (clsSt 21 2)), scope := fScope (clsSt 21 2), globals := 3, closure := [], defaults := .none, kwdefaults := .none, doc := .none, pyModule := (.str (S "io") 454), annotations := none, code := (.ref 316), closureTuple := .none, builtins := 0 }, #[]⟩
def k422 (P : Params) : Obj := ⟨(.type "code"), none, .fields #[(.str (S "tell") 695), (.str (S "BytesIO.tell") 696), (.str (S "/claim/cut.py") 697), (.int 188 0), (.int 1 0), (.int 0 0), (.int 0 0), (.int 3 0), (.ref 417), (.bool true), (.int 181 0), (.ref 418), .none, (.ref 419), (.ref 420), (.ref 421), (.int 699 0), (.int 188 0), (.str (S "/claim/cut.py") 700)], #[]⟩
def k423 (P : Params) : Obj := ⟨(.type "function"), none, .func { name := (S "tell"), qualname := (S "BytesIO.tell"), params := fArgs (clsSt 21 17), body := .stmts (fBody (clsSt 21 17)), scope := fScope (clsSt 21 17), globals := 3, closure := [], defaults := .none, kwdefaults := .none, doc := .none, pyModule := (.str (S "io") 454), annotations := none, code := (.ref 422), closureTuple := .none, builtins := 0 }, #[]⟩
def k424 (P : Params) : Obj := ⟨(.type "tuple"), none, .seq #[(.int 0 702)] 0, #[]⟩
def k430 (P : Params) : Obj := ⟨(.type "code"), none, .fields #[(.str (S "seek") 703), (.str (S "BytesIO.seek") 704), (.str (S "/claim/cut.py") 705), (.int 192 0), (.int 3 0), (.int 3 0), (.int 0 0), (.int 3 0), (.ref 425), (.bool true), (.int 181 0), (.ref 426), .none, (.ref 427), (.ref 428), (.ref 429), (.int 709 0), (.int 192 0), (.str (S "/claim/cut.py") 710)], #[]⟩
def k431 (P : Params) : Obj := ⟨(.type "function"), none, .func { name := (S "seek"), qualname := (S "BytesIO.seek"), params := fArgs (clsSt 21 18), body := .stmts (fBody (clsSt 21 18)), scope := fScope (clsSt 21 18), globals := 3, closure := [], defaults := (.ref 424), kwdefaults := .none, doc := .none, pyModule := (.str (S "io") 454), annotations := none, code := (.ref 430), closureTuple := .none, builtins := 0 }, #[]⟩
def k440 (P : Params) : Obj := ⟨(.type "tuple"), none, .seq #[(.int (-1) 721)] 0, #[]⟩
def k446 (P : Params) : Obj := ⟨(.type "code"), none, .fields #[(.str (S "read") 722), (.str (S "BytesIO.read") 723), (.str (S "/claim/cut.py") 724), (.int 212 0), (.int 2 0), (.int 2 0), (.int 0 0), (.int 3 0), (.ref 441), (.bool true), (.int 181 0), (.ref 442), .none, (.ref 443), (.ref 444), (.ref 445), (.int 729 0), (.int 212 0), (.str (S "/claim/cut.py") 730)], #[]⟩
def k447 (P : Params) : Obj := ⟨(.type "function"), none, .func { name := (S "read"), qualname := (S "BytesIO.read"), params := fArgs (clsSt 21 20), body := .stmts (fBody (clsSt 21 20)), scope := fScope (clsSt 21 20), globals := 3, closure := [], defaults := (.ref 440), kwdefaults := .none, doc := .none, pyModule := (.str (S "io") 454), annotations := none, code := (.ref 446), closureTuple := .none, builtins := 0 }, #[]⟩
def k522 (P : Params) : Obj := ⟨(.type "dict"), none, .dict #[⟨PyData.keyHash P (S "__module__"), (.str (S "__module__") 569), (.str (S "_io") 574)⟩, ⟨PyData.keyHash P (S "__firstlineno__"), (.str (S "__firstlineno__") 573), (.int 117 572)⟩, ⟨PyData.keyHash P (S "__init__"), (.str (S "__init__") 583), (.ref 310)⟩, ⟨PyData.keyHash P (S "_BytesIO__check"), (.str (S "_BytesIO__check") 590), (.ref 317)⟩, ⟨PyData.keyHash P (S "_BytesIO__line"), (.str (S "_BytesIO__line") 601), (.ref 324)⟩, ⟨PyData.keyHash P (S "closed"), (.str (S "closed") 609), (.ref 332)⟩, ⟨PyData.keyHash P (S "close"), (.str (S "close") 616), (.ref 339)⟩, ⟨PyData.keyHash P (S "__enter__"), (.str (S "__enter__") 623), (.ref 346)⟩, ⟨PyData.keyHash P (S "__exit__"), (.str (S "__exit__") 631), (.ref 353)⟩, ⟨PyData.keyHash P (S "readable"), (.str (S "readable") 638), (.ref 360)⟩, ⟨PyData.keyHash P (S "writable"), (.str (S "writable") 645), (.ref 367)⟩, ⟨PyData.keyHash P (S "seekable"), (.str (S "seekable") 652), (.ref 374)⟩, ⟨PyData.keyHash P (S "isatty"), (.str (S "isatty") 659), (.ref 381)⟩, ⟨PyData.keyHash P (S "flush"), (.str (S "flush") 666), (.ref 388)⟩, ⟨PyData.keyHash P (S "fileno"), (.str (S "fileno") 673), (.ref 395)⟩, ⟨PyData.keyHash P (S "detach"), (.str (S "detach") 680), (.ref 402)⟩, ⟨PyData.keyHash P (S "getvalue"), (.str (S "getvalue") 687), (.ref 409)⟩, ⟨PyData.keyHash P (S "getbuffer"), (.str (S "getbuffer") 694), (.ref 416)⟩, ⟨PyData.keyHash P (S "tell"), (.str (S "tell") 701), (.ref 423)⟩, ⟨PyData.keyHash P (S "seek"), (.str (S "seek") 711), (.ref 431)⟩, ⟨PyData.keyHash P (S "truncate"), (.str (S "truncate") 719), (.ref 439)⟩, ⟨PyData.keyHash P (S "read"), (.str (S "read") 731), (.ref 447)⟩, ⟨PyData.keyHash P (S "read1"), (.str (S "read1") 741), (.ref 455)⟩, ⟨PyData.keyHash P (S "readinto"), (.str (S "readinto") 751), (.ref 462)⟩, ⟨PyData.keyHash P (S "readinto1"), (.str (S "readinto1") 759), (.ref 469)⟩, ⟨PyData.keyHash P (S "readline"), (.str (S "readline") 769), (.ref 477)⟩, ⟨PyData.keyHash P (S "readlines"), (.str (S "readlines") 777), (.ref 485)⟩, ⟨PyData.keyHash P (S "__iter__"), (.str (S "__iter__") 784), (.ref 492)⟩, ⟨PyData.keyHash P (S "__next__"), (.str (S "__next__") 792), (.ref 499)⟩, ⟨PyData.keyHash P (S "write"), (.str (S "write") 802), (.ref 506)⟩, ⟨PyData.keyHash P (S "writelines"), (.str (S "writelines") 810), (.ref 513)⟩, ⟨PyData.keyHash P (S "__repr__"), (.str (S "__repr__") 817), (.ref 520)⟩, ⟨PyData.keyHash P (S "__static_attributes__"), (.str (S "__static_attributes__") 820), (.ref 521)⟩, ⟨PyData.keyHash P (S "__doc__"), (.str (S "__doc__") 821), .none⟩] 2, #[]⟩
def k523 (P : Params) : Obj := ⟨(.type "type"), none, .cls { name := (S "BytesIO"), bases := [(.ref 281)], mro := [(.ref 523), (.ref 281), (.ref 266), (.type "object")], ns := 522, qualname := (S "BytesIO"), hasDict := true, slotNames := [], subclasses := [], abstract := false, collection := none, hasDel := false }, #[(some (.ref 296)), none, (some (.str (S "BytesIO") 562)), (some (.str (S "BytesIO") 570)), (some .none), (some (.bool true))]⟩
def k781 (P : Params) : Obj := ⟨(.type "tuple"), none, .seq #[(.int 0 1136)] 0, #[]⟩
def k787 (P : Params) : Obj := ⟨(.type "code"), none, .fields #[(.str (S "__init__") 1137), (.str (S "Construct.__init__") 1138), (.str (S "/claim/cut.py") 1139), (.int 500 0), (.int 3 0), (.int 0 0), (.int 0 0), (.int 3 0), (.ref 782), (.bool true), (.int 181 0), (.ref 783), .none, (.ref 784), (.ref 785), (.ref 786), (.int 1143 0), (.int 500 0), (.str (S "/claim/cut.py") 1144)], #[]⟩
def k788 (P : Params) : Obj := ⟨(.type "function"), none, .func { name := (S "__init__"), qualname := (S "Construct.__init__"), params := fArgs (clsSt 24 5), body := .stmts (fBody (clsSt 24 5)), scope := fScope (clsSt 24 5), globals := 3, closure := [], defaults := (.ref 781), kwdefaults := .none, doc := .none, pyModule := (.str (S "elftools.construct.core") 1111), annotations := none, code := (.ref 787), closureTuple := .none, builtins := 0 }, #[]⟩
def k801 (P : Params) : Obj := ⟨(.type "code"), none, .fields #[(.str (S "_set_flag") 1153), (.str (S "Construct._set_flag") 1154), (.str (S "/claim/cut.py") 1155), (.int 512 0), (.int 2 0), (.int 0 0), (.int 0 0), (.int 3 0), (.ref 796), (.bool true), (.int 181 0), (.ref 797), .none, (.ref 798), (.ref 799), (.ref 800), (.int 1158 0), (.int 512 0), (.str (S "/claim/cut.py") 1159)], #[]⟩
def k802 (P : Params) : Obj := ⟨(.type "function"), none, .func { name := (S "_set_flag"), qualname := (S "Construct._set_flag"), params := fArgs (clsSt 24 7), body := .stmts (fBody (clsSt 24 7)), scope := fScope (clsSt 24 7), globals := 3, closure := [], defaults := .none, kwdefaults := .none, doc := .none, pyModule := (.str (S "elftools.construct.core") 1111), annotations := none, code := (.ref 801), closureTuple := .none, builtins := 0 }, #[]⟩
def k808 (P : Params) : Obj := ⟨(.type "code"), none, .fields #[(.str (S "_clear_flag") 1161), (.str (S "Construct._clear_flag") 1162), (.str (S "/claim/cut.py") 1163), (.int 515 0), (.int 2 0), (.int 0 0), (.int 0 0), (.int 3 0), (.ref 803), (.bool true), (.int 181 0), (.ref 804), .none, (.ref 805), (.ref 806), (.ref 807), (.int 1166 0), (.int 515 0), (.str (S "/claim/cut.py") 1167)], #[]⟩
def k809 (P : Params) : Obj := ⟨(.type "function"), none, .func { name := (S "_clear_flag"), qualname := (S "Construct._clear_flag"), params := fArgs (clsSt 24 8), body := .stmts (fBody (clsSt 24 8)), scope := fScope (clsSt 24 8), globals := 3, closure := [], defaults := .none, kwdefaults := .none, doc := .none, pyModule := (.str (S "elftools.construct.core") 1111), annotations := none, code := (.ref 808), closureTuple := .none, builtins := 0 }, #[]⟩
def k815 (P : Params) : Obj := ⟨(.type "code"), none, .fields #[(.str (S "_inherit_flags") 1169), (.str (S "Construct._inherit_flags") 1170), (.str (S "/claim/cut.py") 1171), (.int 518 0), (.int 1 0), (.int 0 0), (.int 0 0), (.int 7 0), (.ref 810), (.bool true), (.int 181 0), (.ref 811), .none, (.ref 812), (.ref 813), (.ref 814), (.int 1175 0), (.int 518 0), (.str (S "/claim/cut.py") 1176)], #[]⟩
def k816 (P : Params) : Obj := ⟨(.type "function"), none, .func { name := (S "_inherit_flags"), qualname := (S "Construct._inherit_flags"), params := fArgs (clsSt 24 9), body := .stmts (fBody (clsSt 24 9)), scope := fScope (clsSt 24 9), globals := 3, closure := [], defaults := .none, kwdefaults := .none, doc := .none, pyModule := (.str (S "elftools.construct.core") 1111), annotations := none, code := (.ref 815), closureTuple := .none, builtins := 0 }, #[]⟩
def k836 (P : Params) : Obj := ⟨(.type "code"), none, .fields #[(.str (S "parse_stream") 1194), (.str (S "Construct.parse_stream") 1195), (.str (S "/claim/cut.py") 1196), (.int 528 0), (.int 2 0), (.int 0 0), (.int 0 0), (.int 3 0), (.ref 831), (.bool true), (.int 181 0), (.ref 832), .none, (.ref 833), (.ref 834), (.ref 835), (.int 1199 0), (.int 528 0), (.str (S "/claim/cut.py") 1200)], #[]⟩
def k837 (P : Params) : Obj := ⟨(.type "function"), none, .func { name := (S "parse_stream"), qualname := (S "Construct.parse_stream"), params := fArgs (clsSt 24 12), body := .stmts (fBody (clsSt 24 12)), scope := fScope (clsSt 24 12), globals := 3, closure := [], defaults := .none, kwdefaults := .none, doc := .none, pyModule := (.str (S "elftools.construct.core") 1111), annotations := none, code := (.ref 836), closureTuple := .none, builtins := 0 }, #[]⟩
def k845 (P : Params) : Obj := ⟨(.type "tuple"), none, .seq #[.none] 0, #[]⟩
def k851 (P : Params) : Obj := ⟨(.type "code"), none, .fields #[(.str (S "sizeof") 1211), (.str (S "Construct.sizeof") 1212), (.str (S "/claim/cut.py") 1213), (.int 534 0), (.int 2 0), (.int 0 0), (.int 0 0), (.int 3 0), (.ref 846), (.bool true), (.int 181 0), (.ref 847), .none, (.ref 848), (.ref 849), (.ref 850), (.int 1216 0), (.int 534 0), (.str (S "/claim/cut.py") 1217)], #[]⟩
def k852 (P : Params) : Obj := ⟨(.type "function"), none, .func { name := (S "sizeof"), qualname := (S "Construct.sizeof"), params := fArgs (clsSt 24 14), body := .stmts (fBody (clsSt 24 14)), scope := fScope (clsSt 24 14), globals := 3, closure := [], defaults := (.ref 845), kwdefaults := .none, doc := .none, pyModule := (.str (S "elftools.construct.core") 1111), annotations := none, code := (.ref 851), closureTuple := .none, builtins := 0 }, #[]⟩
def k862 (P : Params) : Obj := ⟨(.type "dict"), none, .dict #[⟨PyData.keyHash P (S "__module__"), (.str (S "__module__") 1120), (.str (S "elftools.construct.core") 1111)⟩, ⟨PyData.keyHash P (S "__firstlineno__"), (.str (S "__firstlineno__") 1124), (.int 493 1123)⟩, ⟨PyData.keyHash P (S "FLAG_COPY_CONTEXT"), (.str (S "FLAG_COPY_CONTEXT") 1126), (.int 1 1125)⟩, ⟨PyData.keyHash P (S "FLAG_DYNAMIC"), (.str (S "FLAG_DYNAMIC") 1128), (.int 2 1127)⟩, ⟨PyData.keyHash P (S "FLAG_EMBED"), (.str (S "FLAG_EMBED") 1130), (.int 4 1129)⟩, ⟨PyData.keyHash P (S "FLAG_NESTING"), (.str (S "FLAG_NESTING") 1132), (.int 8 1131)⟩, ⟨PyData.keyHash P (S "__slots__"), (.str (S "__slots__") 1135), (.ref 780)⟩, ⟨PyData.keyHash P (S "__init__"), (.str (S "__init__") 1145), (.ref 788)⟩, ⟨PyData.keyHash P (S "__repr__"), (.str (S "__repr__") 1152), (.ref 795)⟩, ⟨PyData.keyHash P (S "_set_flag"), (.str (S "_set_flag") 1160), (.ref 802)⟩, ⟨PyData.keyHash P (S "_clear_flag"), (.str (S "_clear_flag") 1168), (.ref 809)⟩, ⟨PyData.keyHash P (S "_inherit_flags"), (.str (S "_inherit_flags") 1177), (.ref 816)⟩, ⟨PyData.keyHash P (S "_is_flag"), (.str (S "_is_flag") 1185), (.ref 823)⟩, ⟨PyData.keyHash P (S "parse"), (.str (S "parse") 1193), (.ref 830)⟩, ⟨PyData.keyHash P (S "parse_stream"), (.str (S "parse_stream") 1201), (.ref 837)⟩, ⟨PyData.keyHash P (S "_parse"), (.str (S "_parse") 1210), (.ref 844)⟩, ⟨PyData.keyHash P (S "sizeof"), (.str (S "sizeof") 1218), (.ref 852)⟩, ⟨PyData.keyHash P (S "_sizeof"), (.str (S "_sizeof") 1226), (.ref 859)⟩, ⟨PyData.keyHash P (S "__static_attributes__"), (.str (S "__static_attributes__") 1229), (.ref 860)⟩, ⟨PyData.keyHash P (S "conflags"), (.str (S "conflags") 1231), (.ref 864)⟩, ⟨PyData.keyHash P (S "name"), (.str (S "name") 1233), (.ref 865)⟩, ⟨PyData.keyHash P (S "__doc__"), (.str (S "__doc__") 1234), .none⟩] 4, #[]⟩
def k863 (P : Params) : Obj := ⟨(.type "type"), none, .cls { name := (S "Construct"), bases := [(.type "object")], mro := [(.ref 863), (.type "object")], ns := 862, qualname := (S "Construct"), hasDict := false, slotNames := [(S "conflags"), (S "name")], subclasses := [(.ref 900), (.ref 971), (.ref 1007), (.ref 1044)], abstract := false, collection := none, hasDel := false }, #[none, none, (some (.str (S "Construct") 1113)), (some (.str (S "Construct") 1121)), (some (.builtin "object.__new__")), (some (.bool false))]⟩
def k864 (P : Params) : Obj := ⟨(.type "member_descriptor"), none, .fields #[(.str (S "conflags") 1230), (.ref 863), (.builtin "proto.slot"), (.builtin "proto.slot#set"), (.int 1 0)], #[]⟩
def k865 (P : Params) : Obj := ⟨(.type "member_descriptor"), none, .fields #[(.str (S "name") 1232), (.ref 863), (.builtin "proto.slot"), (.builtin "proto.slot#set"), (.int 0 0)], #[]⟩
def k881 (P : Params) : Obj := ⟨(.type "code"), none, .fields #[(.str (S "__init__") 1251), (.str (S "Subconstruct.__init__") 1252), (.str (S "/claim/cut.py") 1253), (.int 547 0), (.int 2 0), (.int 0 0), (.int 0 0), (.int 3 0), (.ref 876), (.bool true), (.int 181 0), (.ref 877), .none, (.ref 878), (.ref 879), (.ref 880), (.int 1256 0), (.int 547 0), (.str (S "/claim/cut.py") 1257)], #[]⟩
def k882 (P : Params) : Obj := ⟨(.type "function"), none, .func { name := (S "__init__"), qualname := (S "Subconstruct.__init__"), params := fArgs (clsSt 25 1), body := .stmts (fBody (clsSt 25 1)), scope := fScope (clsSt 25 1), globals := 3, closure := [], defaults := .none, kwdefaults := .none, doc := .none, pyModule := (.str (S "elftools.construct.core") 1111), annotations := none, code := (.ref 881), closureTuple := .none, builtins := 0 }, #[]⟩
def k895 (P : Params) : Obj := ⟨(.type "code"), none, .fields #[(.str (S "_sizeof") 1268), (.str (S "Subconstruct._sizeof") 1269), (.str (S "/claim/cut.py") 1270), (.int 554 0), (.int 2 0), (.int 0 0), (.int 0 0), (.int 3 0), (.ref 890), (.bool true), (.int 181 0), (.ref 891), .none, (.ref 892), (.ref 893), (.ref 894), (.int 1273 0), (.int 554 0), (.str (S "/claim/cut.py") 1274)], #[]⟩
def k896 (P : Params) : Obj := ⟨(.type "function"), none, .func { name := (S "_sizeof"), qualname := (S "Subconstruct._sizeof"), params := fArgs (clsSt 25 3), body := .stmts (fBody (clsSt 25 3)), scope := fScope (clsSt 25 3), globals := 3, closure := [], defaults := .none, kwdefaults := .none, doc := .none, pyModule := (.str (S "elftools.construct.core") 1111), annotations := none, code := (.ref 895), closureTuple := .none, builtins := 0 }, #[]⟩
def k899 (P : Params) : Obj := ⟨(.type "dict"), none, .dict #[⟨PyData.keyHash P (S "__module__"), (.str (S "__module__") 1244), (.str (S "elftools.construct.core") 1111)⟩, ⟨PyData.keyHash P (S "__firstlineno__"), (.str (S "__firstlineno__") 1248), (.int 544 1247)⟩, ⟨PyData.keyHash P (S "__slots__"), (.str (S "__slots__") 1250), (.ref 875)⟩, ⟨PyData.keyHash P (S "__init__"), (.str (S "__init__") 1258), (.ref 882)⟩, ⟨PyData.keyHash P (S "_parse"), (.str (S "_parse") 1267), (.ref 889)⟩, ⟨PyData.keyHash P (S "_sizeof"), (.str (S "_sizeof") 1275), (.ref 896)⟩, ⟨PyData.keyHash P (S "__static_attributes__"), (.str (S "__static_attributes__") 1277), (.ref 897)⟩, ⟨PyData.keyHash P (S "subcon"), (.str (S "subcon") 1279), (.ref 901)⟩, ⟨PyData.keyHash P (S "__doc__"), (.str (S "__doc__") 1280), .none⟩] 3, #[]⟩
def k900 (P : Params) : Obj := ⟨(.type "type"), none, .cls { name := (S "Subconstruct"), bases := [(.ref 863)], mro := [(.ref 900), (.ref 863), (.type "object")], ns := 899, qualname := (S "Subconstruct"), hasDict := false, slotNames := [(S "conflags"), (S "name"), (S "subcon")], subclasses := [(.ref 929), (.ref 1081)], abstract := false, collection := none, hasDel := false }, #[(some (.ref 868)), none, (some (.str (S "Subconstruct") 1237)), (some (.str (S "Subconstruct") 1245)), (some (.builtin "object.__new__")), (some (.bool false))]⟩
def k901 (P : Params) : Obj := ⟨(.type "member_descriptor"), none, .fields #[(.str (S "subcon") 1278), (.ref 900), (.builtin "proto.slot"), (.builtin "proto.slot#set"), (.int 2 0)], #[]⟩
def k917 (P : Params) : Obj := ⟨(.type "code"), none, .fields #[(.str (S "_parse") 1296), (.str (S "Adapter._parse") 1297), (.str (S "/claim/cut.py") 1298), (.int 559 0), (.int 3 0), (.int 0 0), (.int 0 0), (.int 3 0), (.ref 912), (.bool true), (.int 181 0), (.ref 913), .none, (.ref 914), (.ref 915), (.ref 916), (.int 1302 0), (.int 559 0), (.str (S "/claim/cut.py") 1303)], #[]⟩
def k918 (P : Params) : Obj := ⟨(.type "function"), none, .func { name := (S "_parse"), qualname := (S "Adapter._parse"), params := fArgs (clsSt 26 1), body := .stmts (fBody (clsSt 26 1)), scope := fScope (clsSt 26 1), globals := 3, closure := [], defaults := .none, kwdefaults := .none, doc := .none, pyModule := (.str (S "elftools.construct.core") 1111), annotations := none, code := (.ref 917), closureTuple := .none, builtins := 0 }, #[]⟩
def k928 (P : Params) : Obj := ⟨(.type "dict"), none, .dict #[⟨PyData.keyHash P (S "__module__"), (.str (S "__module__") 1290), (.str (S "elftools.construct.core") 1111)⟩, ⟨PyData.keyHash P (S "__firstlineno__"), (.str (S "__firstlineno__") 1294), (.int 556 1293)⟩, ⟨PyData.keyHash P (S "__slots__"), (.str (S "__slots__") 1295), (.ref 911)⟩, ⟨PyData.keyHash P (S "_parse"), (.str (S "_parse") 1304), (.ref 918)⟩, ⟨PyData.keyHash P (S "_decode"), (.str (S "_decode") 1313), (.ref 925)⟩, ⟨PyData.keyHash P (S "__static_attributes__"), (.str (S "__static_attributes__") 1314), (.ref 926)⟩, ⟨PyData.keyHash P (S "__doc__"), (.str (S "__doc__") 1315), .none⟩] 2, #[]⟩
def k929 (P : Params) : Obj := ⟨(.type "type"), none, .cls { name := (S "Adapter"), bases := [(.ref 900)], mro := [(.ref 929), (.ref 900), (.ref 863), (.type "object")], ns := 928, qualname := (S "Adapter"), hasDict := false, slotNames := [(S "conflags"), (S "name"), (S "subcon")], subclasses := [(.ref 1126), (.ref 1159)], abstract := false, collection := none, hasDel := false }, #[(some (.ref 904)), none, (some (.str (S "Adapter") 1283)), (some (.str (S "Adapter") 1291)), (some (.builtin "object.__new__")), (some (.bool false))]⟩
def k937 (P : Params) : Obj := ⟨(.type "code"), none, .fields #[(.str (S "_read_stream") 1318), (.str (S "_read_stream") 1319), (.str (S "/claim/cut.py") 1320), (.int 564 0), (.int 2 0), (.int 0 0), (.int 0 0), (.int 3 0), (.ref 932), (.bool true), (.int 181 0), (.ref 933), .none, (.ref 934), (.ref 935), (.ref 936), (.int 1324 0), (.int 564 0), (.str (S "/claim/cut.py") 1325)], #[]⟩
def k938 (P : Params) : Obj := ⟨(.type "function"), none, .func { name := (S "_read_stream"), qualname := (S "_read_stream"), params := fArgs (topSt 27), body := .stmts (fBody (topSt 27)), scope := fScope (topSt 27), globals := 3, closure := [], defaults := .none, kwdefaults := .none, doc := .none, pyModule := (.str (S "elftools.construct.core") 1111), annotations := none, code := (.ref 937), closureTuple := .none, builtins := 0 }, #[]⟩
def k952 (P : Params) : Obj := ⟨(.type "code"), none, .fields #[(.str (S "__init__") 1341), (.str (S "StaticField.__init__") 1342), (.str (S "/claim/cut.py") 1343), (.int 574 0), (.int 3 0), (.int 0 0), (.int 0 0), (.int 3 0), (.ref 947), (.bool true), (.int 181 0), (.ref 948), .none, (.ref 949), (.ref 950), (.ref 951), (.int 1347 0), (.int 574 0), (.str (S "/claim/cut.py") 1348)], #[]⟩
def k953 (P : Params) : Obj := ⟨(.type "function"), none, .func { name := (S "__init__"), qualname := (S "StaticField.__init__"), params := fArgs (clsSt 28 1), body := .stmts (fBody (clsSt 28 1)), scope := fScope (clsSt 28 1), globals := 3, closure := [], defaults := .none, kwdefaults := .none, doc := .none, pyModule := (.str (S "elftools.construct.core") 1111), annotations := none, code := (.ref 952), closureTuple := .none, builtins := 0 }, #[]⟩
def k959 (P : Params) : Obj := ⟨(.type "code"), none, .fields #[(.str (S "_parse") 1350), (.str (S "StaticField._parse") 1351), (.str (S "/claim/cut.py") 1352), (.int 578 0), (.int 3 0), (.int 0 0), (.int 0 0), (.int 3 0), (.ref 954), (.bool true), (.int 181 0), (.ref 955), .none, (.ref 956), (.ref 957), (.ref 958), (.int 1356 0), (.int 578 0), (.str (S "/claim/cut.py") 1357)], #[]⟩
def k960 (P : Params) : Obj := ⟨(.type "function"), none, .func { name := (S "_parse"), qualname := (S "StaticField._parse"), params := fArgs (clsSt 28 2), body := .stmts (fBody (clsSt 28 2)), scope := fScope (clsSt 28 2), globals := 3, closure := [], defaults := .none, kwdefaults := .none, doc := .none, pyModule := (.str (S "elftools.construct.core") 1111), annotations := none, code := (.ref 959), closureTuple := .none, builtins := 0 }, #[]⟩
def k966 (P : Params) : Obj := ⟨(.type "code"), none, .fields #[(.str (S "_sizeof") 1359), (.str (S "StaticField._sizeof") 1360), (.str (S "/claim/cut.py") 1361), (.int 581 0), (.int 2 0), (.int 0 0), (.int 0 0), (.int 3 0), (.ref 961), (.bool true), (.int 181 0), (.ref 962), .none, (.ref 963), (.ref 964), (.ref 965), (.int 1364 0), (.int 581 0), (.str (S "/claim/cut.py") 1365)], #[]⟩
def k967 (P : Params) : Obj := ⟨(.type "function"), none, .func { name := (S "_sizeof"), qualname := (S "StaticField._sizeof"), params := fArgs (clsSt 28 3), body := .stmts (fBody (clsSt 28 3)), scope := fScope (clsSt 28 3), globals := 3, closure := [], defaults := .none, kwdefaults := .none, doc := .none, pyModule := (.str (S "elftools.construct.core") 1111), annotations := none, code := (.ref 966), closureTuple := .none, builtins := 0 }, #[]⟩
def k970 (P : Params) : Obj := ⟨(.type "dict"), none, .dict #[⟨PyData.keyHash P (S "__module__"), (.str (S "__module__") 1334), (.str (S "elftools.construct.core") 1111)⟩, ⟨PyData.keyHash P (S "__firstlineno__"), (.str (S "__firstlineno__") 1338), (.int 571 1337)⟩, ⟨PyData.keyHash P (S "__slots__"), (.str (S "__slots__") 1340), (.ref 946)⟩, ⟨PyData.keyHash P (S "__init__"), (.str (S "__init__") 1349), (.ref 953)⟩, ⟨PyData.keyHash P (S "_parse"), (.str (S "_parse") 1358), (.ref 960)⟩, ⟨PyData.keyHash P (S "_sizeof"), (.str (S "_sizeof") 1366), (.ref 967)⟩, ⟨PyData.keyHash P (S "__static_attributes__"), (.str (S "__static_attributes__") 1368), (.ref 968)⟩, ⟨PyData.keyHash P (S "length"), (.str (S "length") 1370), (.ref 972)⟩, ⟨PyData.keyHash P (S "__doc__"), (.str (S "__doc__") 1371), .none⟩] 3, #[]⟩
def k971 (P : Params) : Obj := ⟨(.type "type"), none, .cls { name := (S "StaticField"), bases := [(.ref 863)], mro := [(.ref 971), (.ref 863), (.type "object")], ns := 970, qualname := (S "StaticField"), hasDict := false, slotNames := [(S "conflags"), (S "name"), (S "length")], subclasses := [], abstract := false, collection := none, hasDel := false }, #[(some (.ref 939)), none, (some (.str (S "StaticField") 1327)), (some (.str (S "StaticField") 1335)), (some (.builtin "object.__new__")), (some (.bool false))]⟩
def k972 (P : Params) : Obj := ⟨(.type "member_descriptor"), none, .fields #[(.str (S "length") 1369), (.ref 971), (.builtin "proto.slot"), (.builtin "proto.slot#set"), (.int 2 0)], #[]⟩
def k1019 (P : Params) : Obj := ⟨(.type "dict"), none, .dict #[⟨PyData.keyHash P (S "nested"), (.str (S "nested") 1436), (.bool true)⟩] 1, #[]⟩
def k1025 (P : Params) : Obj := ⟨(.type "code"), none, .fields #[(.str (S "__init__") 1437), (.str (S "Struct.__init__") 1438), (.str (S "/claim/cut.py") 1439), (.int 599 0), (.int 2 0), (.int 0 0), (.int 1 0), (.int 7 0), (.ref 1020), (.bool true), (.int 181 0), (.ref 1021), .none, (.ref 1022), (.ref 1023), (.ref 1024), (.int 1444 0), (.int 599 0), (.str (S "/claim/cut.py") 1445)], #[]⟩
def k1026 (P : Params) : Obj := ⟨(.type "function"), none, .func { name := (S "__init__"), qualname := (S "Struct.__init__"), params := fArgs (clsSt 30 1), body := .stmts (fBody (clsSt 30 1)), scope := fScope (clsSt 30 1), globals := 3, closure := [], defaults := .none, kwdefaults := (.ref 1019), doc := .none, pyModule := (.str (S "elftools.construct.core") 1111), annotations := none, code := (.ref 1025), closureTuple := .none, builtins := 0 }, #[]⟩
def k1032 (P : Params) : Obj := ⟨(.type "code"), none, .fields #[(.str (S "_parse") 1447), (.str (S "Struct._parse") 1448), (.str (S "/claim/cut.py") 1449), (.int 606 0), (.int 3 0), (.int 0 0), (.int 0 0), (.int 3 0), (.ref 1027), (.bool true), (.int 181 0), (.ref 1028), .none, (.ref 1029), (.ref 1030), (.ref 1031), (.int 1456 0), (.int 606 0), (.str (S "/claim/cut.py") 1457)], #[]⟩
def k1033 (P : Params) : Obj := ⟨(.type "function"), none, .func { name := (S "_parse"), qualname := (S "Struct._parse"), params := fArgs (clsSt 30 2), body := .stmts (fBody (clsSt 30 2)), scope := fScope (clsSt 30 2), globals := 3, closure := [], defaults := .none, kwdefaults := .none, doc := .none, pyModule := (.str (S "elftools.construct.core") 1111), annotations := none, code := (.ref 1032), closureTuple := .none, builtins := 0 }, #[]⟩
def k1035 (P : Params) : Obj := ⟨.none, none, .fields #[], #[]⟩
def k1039 (P : Params) : Obj := ⟨(.type "code"), none, .fields #[(.str (S "_sizeof") 1459), (.str (S "Struct._sizeof") 1460), (.str (S "/claim/cut.py") 1461), (.int 624 0), (.int 2 0), (.int 0 0), (.int 0 0), (.int 3 0), (.ref 1034), (.bool true), (.int 181 0), (.ref 1035), .none, (.ref 1036), (.ref 1037), (.ref 1038), (.int 1465 0), (.int 624 0), (.str (S "/claim/cut.py") 1466)], #[]⟩
def k1040 (P : Params) : Obj := ⟨(.type "function"), none, .func { name := (S "_sizeof"), qualname := (S "Struct._sizeof"), params := fArgs (clsSt 30 3), body := .stmts (fBody (clsSt 30 3)), scope := fScope (clsSt 30 3), globals := 3, closure := [], defaults := .none, kwdefaults := .none, doc := .none, pyModule := (.str (S "elftools.construct.core") 1111), annotations := none, code := (.ref 1039), closureTuple := .none, builtins := 0 }, #[]⟩
def k1043 (P : Params) : Obj := ⟨(.type "dict"), none, .dict #[⟨PyData.keyHash P (S "__module__"), (.str (S "__module__") 1428), (.str (S "elftools.construct.core") 1111)⟩, ⟨PyData.keyHash P (S "__firstlineno__"), (.str (S "__firstlineno__") 1432), (.int 596 1431)⟩, ⟨PyData.keyHash P (S "__slots__"), (.str (S "__slots__") 1435), (.ref 1018)⟩, ⟨PyData.keyHash P (S "__init__"), (.str (S "__init__") 1446), (.ref 1026)⟩, ⟨PyData.keyHash P (S "_parse"), (.str (S "_parse") 1458), (.ref 1033)⟩, ⟨PyData.keyHash P (S "_sizeof"), (.str (S "_sizeof") 1467), (.ref 1040)⟩, ⟨PyData.keyHash P (S "__static_attributes__"), (.str (S "__static_attributes__") 1470), (.ref 1041)⟩, ⟨PyData.keyHash P (S "nested"), (.str (S "nested") 1472), (.ref 1045)⟩, ⟨PyData.keyHash P (S "subcons"), (.str (S "subcons") 1474), (.ref 1046)⟩, ⟨PyData.keyHash P (S "__doc__"), (.str (S "__doc__") 1475), .none⟩] 4, #[]⟩
def k1044 (P : Params) : Obj := ⟨(.type "type"), none, .cls { name := (S "Struct"), bases := [(.ref 863)], mro := [(.ref 1044), (.ref 863), (.type "object")], ns := 1043, qualname := (S "Struct"), hasDict := false, slotNames := [(S "conflags"), (S "name"), (S "nested"), (S "subcons")], subclasses := [], abstract := false, collection := none, hasDel := false }, #[(some (.ref 1011)), none, (some (.str (S "Struct") 1421)), (some (.str (S "Struct") 1429)), (some (.builtin "object.__new__")), (some (.bool false))]⟩
def k1045 (P : Params) : Obj := ⟨(.type "member_descriptor"), none, .fields #[(.str (S "nested") 1471), (.ref 1044), (.builtin "proto.slot"), (.builtin "proto.slot#set"), (.int 3 0)], #[]⟩
def k1046 (P : Params) : Obj := ⟨(.type "member_descriptor"), none, .fields #[(.str (S "subcons") 1473), (.ref 1044), (.builtin "proto.slot"), (.builtin "proto.slot#set"), (.int 2 0)], #[]⟩
def k1062 (P : Params) : Obj := ⟨(.type "code"), none, .fields #[(.str (S "__init__") 1493), (.str (S "Buffered.__init__") 1494), (.str (S "/claim/cut.py") 1495), (.int 631 0), (.int 4 0), (.int 0 0), (.int 0 0), (.int 3 0), (.ref 1057), (.bool true), (.int 181 0), (.ref 1058), .none, (.ref 1059), (.ref 1060), (.ref 1061), (.int 1500 0), (.int 631 0), (.str (S "/claim/cut.py") 1501)], #[]⟩
def k1063 (P : Params) : Obj := ⟨(.type "function"), none, .func { name := (S "__init__"), qualname := (S "Buffered.__init__"), params := fArgs (clsSt 31 1), body := .stmts (fBody (clsSt 31 1)), scope := fScope (clsSt 31 1), globals := 3, closure := [], defaults := .none, kwdefaults := .none, doc := .none, pyModule := (.str (S "elftools.construct.core") 1111), annotations := none, code := (.ref 1062), closureTuple := .none, builtins := 0 }, #[]⟩
def k1069 (P : Params) : Obj := ⟨(.type "code"), none, .fields #[(.str (S "_parse") 1503), (.str (S "Buffered._parse") 1504), (.str (S "/claim/cut.py") 1505), (.int 636 0), (.int 3 0), (.int 0 0), (.int 0 0), (.int 3 0), (.ref 1064), (.bool true), (.int 181 0), (.ref 1065), .none, (.ref 1066), (.ref 1067), (.ref 1068), (.int 1511 0), (.int 636 0), (.str (S "/claim/cut.py") 1512)], #[]⟩
def k1070 (P : Params) : Obj := ⟨(.type "function"), none, .func { name := (S "_parse"), qualname := (S "Buffered._parse"), params := fArgs (clsSt 31 2), body := .stmts (fBody (clsSt 31 2)), scope := fScope (clsSt 31 2), globals := 3, closure := [], defaults := .none, kwdefaults := .none, doc := .none, pyModule := (.str (S "elftools.construct.core") 1111), annotations := none, code := (.ref 1069), closureTuple := .none, builtins := 0 }, #[]⟩
def k1076 (P : Params) : Obj := ⟨(.type "code"), none, .fields #[(.str (S "_sizeof") 1514), (.str (S "Buffered._sizeof") 1515), (.str (S "/claim/cut.py") 1516), (.int 641 0), (.int 2 0), (.int 0 0), (.int 0 0), (.int 3 0), (.ref 1071), (.bool true), (.int 181 0), (.ref 1072), .none, (.ref 1073), (.ref 1074), (.ref 1075), (.int 1519 0), (.int 641 0), (.str (S "/claim/cut.py") 1520)], #[]⟩
def k1077 (P : Params) : Obj := ⟨(.type "function"), none, .func { name := (S "_sizeof"), qualname := (S "Buffered._sizeof"), params := fArgs (clsSt 31 3), body := .stmts (fBody (clsSt 31 3)), scope := fScope (clsSt 31 3), globals := 3, closure := [], defaults := .none, kwdefaults := .none, doc := .none, pyModule := (.str (S "elftools.construct.core") 1111), annotations := none, code := (.ref 1076), closureTuple := .none, builtins := 0 }, #[]⟩
def k1080 (P : Params) : Obj := ⟨(.type "dict"), none, .dict #[⟨PyData.keyHash P (S "__module__"), (.str (S "__module__") 1485), (.str (S "elftools.construct.core") 1111)⟩, ⟨PyData.keyHash P (S "__firstlineno__"), (.str (S "__firstlineno__") 1489), (.int 628 1488)⟩, ⟨PyData.keyHash P (S "__slots__"), (.str (S "__slots__") 1492), (.ref 1056)⟩, ⟨PyData.keyHash P (S "__init__"), (.str (S "__init__") 1502), (.ref 1063)⟩, ⟨PyData.keyHash P (S "_parse"), (.str (S "_parse") 1513), (.ref 1070)⟩, ⟨PyData.keyHash P (S "_sizeof"), (.str (S "_sizeof") 1521), (.ref 1077)⟩, ⟨PyData.keyHash P (S "__static_attributes__"), (.str (S "__static_attributes__") 1524), (.ref 1078)⟩, ⟨PyData.keyHash P (S "decoder"), (.str (S "decoder") 1526), (.ref 1082)⟩, ⟨PyData.keyHash P (S "resizer"), (.str (S "resizer") 1528), (.ref 1083)⟩, ⟨PyData.keyHash P (S "__doc__"), (.str (S "__doc__") 1529), .none⟩] 4, #[]⟩
def k1081 (P : Params) : Obj := ⟨(.type "type"), none, .cls { name := (S "Buffered"), bases := [(.ref 900)], mro := [(.ref 1081), (.ref 900), (.ref 863), (.type "object")], ns := 1080, qualname := (S "Buffered"), hasDict := false, slotNames := [(S "conflags"), (S "name"), (S "subcon"), (S "decoder"), (S "resizer")], subclasses := [], abstract := false, collection := none, hasDel := false }, #[(some (.ref 1049)), none, (some (.str (S "Buffered") 1478)), (some (.str (S "Buffered") 1486)), (some (.builtin "object.__new__")), (some (.bool false))]⟩
def k1082 (P : Params) : Obj := ⟨(.type "member_descriptor"), none, .fields #[(.str (S "decoder") 1525), (.ref 1081), (.builtin "proto.slot"), (.builtin "proto.slot#set"), (.int 4 0)], #[]⟩
def k1083 (P : Params) : Obj := ⟨(.type "member_descriptor"), none, .fields #[(.str (S "resizer") 1527), (.ref 1081), (.builtin "proto.slot"), (.builtin "proto.slot#set"), (.int 3 0)], #[]⟩
def k1108 (P : Params) : Obj := ⟨(.type "tuple"), none, .seq #[(.bool false), (.bool false), (.int 8 1568)] 0, #[]⟩
def k1114 (P : Params) : Obj := ⟨(.type "code"), none, .fields #[(.str (S "__init__") 1569), (.str (S "BitIntegerAdapter.__init__") 1570), (.str (S "/claim/cut.py") 1571), (.int 649 0), (.int 6 0), (.int 0 0), (.int 0 0), (.int 3 0), (.ref 1109), (.bool true), (.int 181 0), (.ref 1110), .none, (.ref 1111), (.ref 1112), (.ref 1113), (.int 1578 0), (.int 649 0), (.str (S "/claim/cut.py") 1579)], #[]⟩
def k1115 (P : Params) : Obj := ⟨(.type "function"), none, .func { name := (S "__init__"), qualname := (S "BitIntegerAdapter.__init__"), params := fArgs (clsSt 34 1), body := .stmts (fBody (clsSt 34 1)), scope := fScope (clsSt 34 1), globals := 3, closure := [], defaults := (.ref 1108), kwdefaults := .none, doc := .none, pyModule := (.str (S "elftools.construct.adapters") 1532), annotations := none, code := (.ref 1114), closureTuple := .none, builtins := 0 }, #[]⟩
def k1121 (P : Params) : Obj := ⟨(.type "code"), none, .fields #[(.str (S "_decode") 1581), (.str (S "BitIntegerAdapter._decode") 1582), (.str (S "/claim/cut.py") 1583), (.int 656 0), (.int 3 0), (.int 0 0), (.int 0 0), (.int 3 0), (.ref 1116), (.bool true), (.int 181 0), (.ref 1117), .none, (.ref 1118), (.ref 1119), (.ref 1120), (.int 1587 0), (.int 656 0), (.str (S "/claim/cut.py") 1588)], #[]⟩
def k1122 (P : Params) : Obj := ⟨(.type "function"), none, .func { name := (S "_decode"), qualname := (S "BitIntegerAdapter._decode"), params := fArgs (clsSt 34 2), body := .stmts (fBody (clsSt 34 2)), scope := fScope (clsSt 34 2), globals := 3, closure := [], defaults := .none, kwdefaults := .none, doc := .none, pyModule := (.str (S "elftools.construct.adapters") 1532), annotations := none, code := (.ref 1121), closureTuple := .none, builtins := 0 }, #[]⟩
def k1125 (P : Params) : Obj := ⟨(.type "dict"), none, .dict #[⟨PyData.keyHash P (S "__module__"), (.str (S "__module__") 1558), (.str (S "elftools.construct.adapters") 1532)⟩, ⟨PyData.keyHash P (S "__firstlineno__"), (.str (S "__firstlineno__") 1562), (.int 646 1561)⟩, ⟨PyData.keyHash P (S "__slots__"), (.str (S "__slots__") 1567), (.ref 1107)⟩, ⟨PyData.keyHash P (S "__init__"), (.str (S "__init__") 1580), (.ref 1115)⟩, ⟨PyData.keyHash P (S "_decode"), (.str (S "_decode") 1589), (.ref 1122)⟩, ⟨PyData.keyHash P (S "__static_attributes__"), (.str (S "__static_attributes__") 1594), (.ref 1123)⟩, ⟨PyData.keyHash P (S "bytesize"), (.str (S "bytesize") 1596), (.ref 1127)⟩, ⟨PyData.keyHash P (S "signed"), (.str (S "signed") 1598), (.ref 1128)⟩, ⟨PyData.keyHash P (S "swapped"), (.str (S "swapped") 1600), (.ref 1129)⟩, ⟨PyData.keyHash P (S "width"), (.str (S "width") 1602), (.ref 1130)⟩, ⟨PyData.keyHash P (S "__doc__"), (.str (S "__doc__") 1603), .none⟩] 6, #[]⟩
def k1126 (P : Params) : Obj := ⟨(.type "type"), none, .cls { name := (S "BitIntegerAdapter"), bases := [(.ref 929)], mro := [(.ref 1126), (.ref 929), (.ref 900), (.ref 863), (.type "object")], ns := 1125, qualname := (S "BitIntegerAdapter"), hasDict := false, slotNames := [(S "conflags"), (S "name"), (S "subcon"), (S "bytesize"), (S "signed"), (S "swapped"), (S "width")], subclasses := [], abstract := false, collection := none, hasDel := false }, #[(some (.ref 1100)), none, (some (.str (S "BitIntegerAdapter") 1551)), (some (.str (S "BitIntegerAdapter") 1559)), (some (.builtin "object.__new__")), (some (.bool false))]⟩
def k1127 (P : Params) : Obj := ⟨(.type "member_descriptor"), none, .fields #[(.str (S "bytesize") 1595), (.ref 1126), (.builtin "proto.slot"), (.builtin "proto.slot#set"), (.int 6 0)], #[]⟩
def k1128 (P : Params) : Obj := ⟨(.type "member_descriptor"), none, .fields #[(.str (S "signed") 1597), (.ref 1126), (.builtin "proto.slot"), (.builtin "proto.slot#set"), (.int 5 0)], #[]⟩
def k1129 (P : Params) : Obj := ⟨(.type "member_descriptor"), none, .fields #[(.str (S "swapped") 1599), (.ref 1126), (.builtin "proto.slot"), (.builtin "proto.slot#set"), (.int 4 0)], #[]⟩
def k1130 (P : Params) : Obj := ⟨(.type "member_descriptor"), none, .fields #[(.str (S "width") 1601), (.ref 1126), (.builtin "proto.slot"), (.builtin "proto.slot#set"), (.int 3 0)], #[]⟩
def k1141 (P : Params) : Obj := ⟨(.type "tuple"), none, .seq #[(.bytes #[0] 1621), (.bool false)] 0, #[]⟩
def k1147 (P : Params) : Obj := ⟨(.type "code"), none, .fields #[(.str (S "__init__") 1622), (.str (S "PaddingAdapter.__init__") 1623), (.str (S "/claim/cut.py") 1624), (.int 663 0), (.int 4 0), (.int 0 0), (.int 0 0), (.int 3 0), (.ref 1142), (.bool true), (.int 181 0), (.ref 1143), .none, (.ref 1144), (.ref 1145), (.ref 1146), (.int 1629 0), (.int 663 0), (.str (S "/claim/cut.py") 1630)], #[]⟩
def k1148 (P : Params) : Obj := ⟨(.type "function"), none, .func { name := (S "__init__"), qualname := (S "PaddingAdapter.__init__"), params := fArgs (clsSt 35 1), body := .stmts (fBody (clsSt 35 1)), scope := fScope (clsSt 35 1), globals := 3, closure := [], defaults := (.ref 1141), kwdefaults := .none, doc := .none, pyModule := (.str (S "elftools.construct.adapters") 1532), annotations := none, code := (.ref 1147), closureTuple := .none, builtins := 0 }, #[]⟩
def k1154 (P : Params) : Obj := ⟨(.type "code"), none, .fields #[(.str (S "_decode") 1632), (.str (S "PaddingAdapter._decode") 1633), (.str (S "/claim/cut.py") 1634), (.int 668 0), (.int 3 0), (.int 0 0), (.int 0 0), (.int 3 0), (.ref 1149), (.bool true), (.int 181 0), (.ref 1150), .none, (.ref 1151), (.ref 1152), (.ref 1153), (.int 1639 0), (.int 668 0), (.str (S "/claim/cut.py") 1640)], #[]⟩
def k1155 (P : Params) : Obj := ⟨(.type "function"), none, .func { name := (S "_decode"), qualname := (S "PaddingAdapter._decode"), params := fArgs (clsSt 35 2), body := .stmts (fBody (clsSt 35 2)), scope := fScope (clsSt 35 2), globals := 3, closure := [], defaults := .none, kwdefaults := .none, doc := .none, pyModule := (.str (S "elftools.construct.adapters") 1532), annotations := none, code := (.ref 1154), closureTuple := .none, builtins := 0 }, #[]⟩
def k1158 (P : Params) : Obj := ⟨(.type "dict"), none, .dict #[⟨PyData.keyHash P (S "__module__"), (.str (S "__module__") 1613), (.str (S "elftools.construct.adapters") 1532)⟩, ⟨PyData.keyHash P (S "__firstlineno__"), (.str (S "__firstlineno__") 1617), (.int 660 1616)⟩, ⟨PyData.keyHash P (S "__slots__"), (.str (S "__slots__") 1620), (.ref 1140)⟩, ⟨PyData.keyHash P (S "__init__"), (.str (S "__init__") 1631), (.ref 1148)⟩, ⟨PyData.keyHash P (S "_decode"), (.str (S "_decode") 1641), (.ref 1155)⟩, ⟨PyData.keyHash P (S "__static_attributes__"), (.str (S "__static_attributes__") 1644), (.ref 1156)⟩, ⟨PyData.keyHash P (S "pattern"), (.str (S "pattern") 1646), (.ref 1160)⟩, ⟨PyData.keyHash P (S "strict"), (.str (S "strict") 1648), (.ref 1161)⟩, ⟨PyData.keyHash P (S "__doc__"), (.str (S "__doc__") 1649), .none⟩] 4, #[]⟩
def k1159 (P : Params) : Obj := ⟨(.type "type"), none, .cls { name := (S "PaddingAdapter"), bases := [(.ref 929)], mro := [(.ref 1159), (.ref 929), (.ref 900), (.ref 863), (.type "object")], ns := 1158, qualname := (S "PaddingAdapter"), hasDict := false, slotNames := [(S "conflags"), (S "name"), (S "subcon"), (S "pattern"), (S "strict")], subclasses := [], abstract := false, collection := none, hasDel := false }, #[(some (.ref 1133)), none, (some (.str (S "PaddingAdapter") 1606)), (some (.str (S "PaddingAdapter") 1614)), (some (.builtin "object.__new__")), (some (.bool false))]⟩
def k1160 (P : Params) : Obj := ⟨(.type "member_descriptor"), none, .fields #[(.str (S "pattern") 1645), (.ref 1159), (.builtin "proto.slot"), (.builtin "proto.slot#set"), (.int 4 0)], #[]⟩
def k1161 (P : Params) : Obj := ⟨(.type "member_descriptor"), none, .fields #[(.str (S "strict") 1647), (.ref 1159), (.builtin "proto.slot"), (.builtin "proto.slot#set"), (.int 3 0)], #[]⟩
def k1169 (P : Params) : Obj := ⟨(.type "code"), none, .fields #[(.str (S "Field") 1654), (.str (S "Field") 1655), (.str (S "/claim/cut.py") 1656), (.int 675 0), (.int 2 0), (.int 0 0), (.int 0 0), (.int 3 0), (.ref 1164), (.bool true), (.int 181 0), (.ref 1165), .none, (.ref 1166), (.ref 1167), (.ref 1168), (.int 1659 0), (.int 675 0), (.str (S "/claim/cut.py") 1660)], #[]⟩
def k1170 (P : Params) : Obj := ⟨(.type "function"), none, .func { name := (S "Field"), qualname := (S "Field"), params := fArgs (topSt 37), body := .stmts (fBody (topSt 37)), scope := fScope (topSt 37), globals := 3, closure := [], defaults := .none, kwdefaults := .none, doc := .none, pyModule := (.str (S "elftools.construct.macros") 1652), annotations := none, code := (.ref 1169), closureTuple := .none, builtins := 0 }, #[]⟩
def k1171 (P : Params) : Obj := ⟨(.type "tuple"), none, .seq #[(.bool false), (.bool false), (.int 8 1662)] 0, #[]⟩
def k1177 (P : Params) : Obj := ⟨(.type "code"), none, .fields #[(.str (S "BitField") 1663), (.str (S "BitField") 1664), (.str (S "/claim/cut.py") 1665), (.int 680 0), (.int 5 0), (.int 0 0), (.int 0 0), (.int 3 0), (.ref 1172), (.bool true), (.int 181 0), (.ref 1173), .none, (.ref 1174), (.ref 1175), (.ref 1176), (.int 1671 0), (.int 680 0), (.str (S "/claim/cut.py") 1672)], #[]⟩
def k1178 (P : Params) : Obj := ⟨(.type "function"), none, .func { name := (S "BitField"), qualname := (S "BitField"), params := fArgs (topSt 38), body := .stmts (fBody (topSt 38)), scope := fScope (topSt 38), globals := 3, closure := [], defaults := (.ref 1171), kwdefaults := .none, doc := .none, pyModule := (.str (S "elftools.construct.macros") 1652), annotations := none, code := (.ref 1177), closureTuple := .none, builtins := 0 }, #[]⟩
def k1179 (P : Params) : Obj := ⟨(.type "tuple"), none, .seq #[(.bytes #[0] 1674), (.bool false)] 0, #[]⟩
def k1185 (P : Params) : Obj := ⟨(.type "code"), none, .fields #[(.str (S "Padding") 1675), (.str (S "Padding") 1676), (.str (S "/claim/cut.py") 1677), (.int 683 0), (.int 3 0), (.int 0 0), (.int 0 0), (.int 3 0), (.ref 1180), (.bool true), (.int 181 0), (.ref 1181), .none, (.ref 1182), (.ref 1183), (.ref 1184), (.int 1681 0), (.int 683 0), (.str (S "/claim/cut.py") 1682)], #[]⟩
def k1186 (P : Params) : Obj := ⟨(.type "function"), none, .func { name := (S "Padding"), qualname := (S "Padding"), params := fArgs (topSt 39), body := .stmts (fBody (topSt 39)), scope := fScope (topSt 39), globals := 3, closure := [], defaults := (.ref 1179), kwdefaults := .none, doc := .none, pyModule := (.str (S "elftools.construct.macros") 1652), annotations := none, code := (.ref 1185), closureTuple := .none, builtins := 0 }, #[]⟩
def k1188 (P : Params) : Obj := ⟨.none, none, .fields #[], #[]⟩
def k1192 (P : Params) : Obj := ⟨(.type "code"), none, .fields #[(.str (S "Bitwise") 1684), (.str (S "Bitwise") 1685), (.str (S "/claim/cut.py") 1686), (.int 685 0), (.int 1 0), (.int 0 0), (.int 0 0), (.int 3 0), (.ref 1187), (.bool true), (.int 181 0), (.ref 1188), .none, (.ref 1189), (.ref 1190), (.ref 1191), (.int 1689 0), (.int 685 0), (.str (S "/claim/cut.py") 1690)], #[]⟩
def k1193 (P : Params) : Obj := ⟨(.type "function"), none, .func { name := (S "Bitwise"), qualname := (S "Bitwise"), params := fArgs (topSt 40), body := .stmts (fBody (topSt 40)), scope := fScope (topSt 40), globals := 3, closure := [], defaults := .none, kwdefaults := .none, doc := .none, pyModule := (.str (S "elftools.construct.macros") 1652), annotations := none, code := (.ref 1192), closureTuple := .none, builtins := 0 }, #[]⟩
def k1199 (P : Params) : Obj := ⟨(.type "code"), none, .fields #[(.str (S "BitStruct") 1692), (.str (S "BitStruct") 1693), (.str (S "/claim/cut.py") 1694), (.int 692 0), (.int 1 0), (.int 0 0), (.int 0 0), (.int 7 0), (.ref 1194), (.bool true), (.int 181 0), (.ref 1195), .none, (.ref 1196), (.ref 1197), (.ref 1198), (.int 1697 0), (.int 692 0), (.str (S "/claim/cut.py") 1698)], #[]⟩
def k1200 (P : Params) : Obj := ⟨(.type "function"), none, .func { name := (S "BitStruct"), qualname := (S "BitStruct"), params := fArgs (topSt 41), body := .stmts (fBody (topSt 41)), scope := fScope (topSt 41), globals := 3, closure := [], defaults := .none, kwdefaults := .none, doc := .none, pyModule := (.str (S "elftools.construct.macros") 1652), annotations := none, code := (.ref 1199), closureTuple := .none, builtins := 0 }, #[]⟩
def k1231 (P : Params) : Obj := ⟨(.type "code"), none, .fields #[(.str (S "as_stream") 1740), (.str (S "as_stream") 1741), (.str (S "/claim/cut.py") 1742), (.int 700 0), (.int 1 0), (.int 0 0), (.int 0 0), (.int 3 0), (.ref 1226), (.bool true), (.int 181 0), (.ref 1227), .none, (.ref 1228), (.ref 1229), (.ref 1230), (.int 1744 0), (.int 700 0), (.str (S "/claim/cut.py") 1745)], #[]⟩
def k1232 (P : Params) : Obj := ⟨(.type "function"), none, .func { name := (S "as_stream"), qualname := (S "as_stream"), params := fArgs (topSt 46), body := .stmts (fBody (topSt 46)), scope := fScope (topSt 46), globals := 3, closure := [], defaults := .none, kwdefaults := .none, doc := .none, pyModule := (.str (S "elftools.common.utils") 1738), annotations := none, code := (.ref 1231), closureTuple := .none, builtins := 0 }, #[]⟩
def k1233 (P : Params) : Obj := ⟨(.type "tuple"), none, .seq #[.none] 0, #[]⟩
def k1239 (P : Params) : Obj := ⟨(.type "code"), none, .fields #[(.str (S "struct_parse") 1747), (.str (S "struct_parse") 1748), (.str (S "/claim/cut.py") 1749), (.int 702 0), (.int 3 0), (.int 0 0), (.int 0 0), (.int 3 0), (.ref 1234), (.bool true), (.int 181 0), (.ref 1235), .none, (.ref 1236), (.ref 1237), (.ref 1238), (.int 1753 0), (.int 702 0), (.str (S "/claim/cut.py") 1754)], #[]⟩
def k1240 (P : Params) : Obj := ⟨(.type "function"), none, .func { name := (S "struct_parse"), qualname := (S "struct_parse"), params := fArgs (topSt 47), body := .stmts (fBody (topSt 47)), scope := fScope (topSt 47), globals := 3, closure := [], defaults := (.ref 1233), kwdefaults := .none, doc := .none, pyModule := (.str (S "elftools.common.utils") 1738), annotations := none, code := (.ref 1239), closureTuple := .none, builtins := 0 }, #[]⟩
def k1244 (P : Params) : Obj := ⟨(.type "code"), none, .fields #[(.str (S "_law_box") 1758), (.str (S "_law_box") 1759), (.str (S "/claim/cut.py") 1760), (.int 710 0), (.int 1 0), (.int 0 0), (.int 0 0), (.int 3 0), (.ref 1241), (.bool true), (.int 181 0), (.ref 1242), .none, .none, .none, (.ref 1243), (.int 1761 0), (.int 710 0), (.str (S "/claim/cut.py") 1762)], #[]⟩
def k1245 (P : Params) : Obj := ⟨(.type "function"), none, .func { name := (S "_law_box"), qualname := (S "_law_box"), params := fArgs (topSt 49), body := .stmts (fBody (topSt 49)), scope := fScope (topSt 49), globals := 3, closure := [], defaults := .none, kwdefaults := .none, doc := .none, pyModule := (.str (S "law_ez0263_01") 1756), annotations := none, code := (.ref 1244), closureTuple := .none, builtins := 0 }, #[]⟩
def k1251 (P : Params) : Obj := ⟨(.type "code"), none, .fields #[(.str (S "_law_take") 1764), (.str (S "_law_take") 1765), (.str (S "/claim/cut.py") 1766), (.int 712 0), (.int 2 0), (.int 0 0), (.int 0 0), (.int 3 0), (.ref 1246), (.bool true), (.int 181 0), (.ref 1247), .none, (.ref 1248), (.ref 1249), (.ref 1250), (.int 1771 0), (.int 712 0), (.str (S "/claim/cut.py") 1772)], #[]⟩
def k1252 (P : Params) : Obj := ⟨(.type "function"), none, .func { name := (S "_law_take"), qualname := (S "_law_take"), params := fArgs (topSt 50), body := .stmts (fBody (topSt 50)), scope := fScope (topSt 50), globals := 3, closure := [], defaults := .none, kwdefaults := .none, doc := .none, pyModule := (.str (S "law_ez0263_01") 1756), annotations := none, code := (.ref 1251), closureTuple := .none, builtins := 0 }, #[]⟩
def k1256 (P : Params) : Obj := ⟨(.type "code"), none, .fields #[(.str (S "law") 1774), (.str (S "law") 1775), (.str (S "/claim/cut.py") 1776), (.int 729 0), (.int 1 0), (.int 0 0), (.int 0 0), (.int 3 0), (.ref 1253), (.bool true), (.int 181 0), (.ref 1254), .none, .none, .none, (.ref 1255), (.int 1777 0), (.int 729 0), (.str (S "/claim/cut.py") 1778)], #[]⟩
def k1257 (P : Params) : Obj := ⟨(.type "function"), none, .func { name := (S "law"), qualname := (S "law"), params := fArgs (topSt 51), body := .stmts (fBody (topSt 51)), scope := fScope (topSt 51), globals := 3, closure := [], defaults := .none, kwdefaults := .none, doc := .none, pyModule := (.str (S "law_ez0263_01") 1756), annotations := none, code := (.ref 1256), closureTuple := .none, builtins := 0 }, #[]⟩
def K (P : Params) : PySem.W.Frag := [(0, k0 P), (1, k1 P), (2, k2 P), (3, k3 P), (4, k4 P), (22, k22 P), (28, k28 P), (29, k29 P), (30, k30 P), (31, k31 P), (37, k37 P), (38, k38 P), (39, k39 P), (45, k45 P), (46, k46 P), (48, k48 P), (52, k52 P), (53, k53 P), (66, k66 P), (67, k67 P), (73, k73 P), (74, k74 P), (87, k87 P), (88, k88 P), (108, k108 P), (109, k109 P), (130, k130 P), (131, k131 P), (161, k161 P), (162, k162 P), (228, k228 P), (229, k229 P), (235, k235 P), (236, k236 P), (262, k262 P), (263, k263 P), (265, k265 P), (266, k266 P), (267, k267 P), (280, k280 P), (281, k281 P), (303, k303 P), (309, k309 P), (310, k310 P), (316, k316 P), (317, k317 P), (422, k422 P), (423, k423 P), (424, k424 P), (430, k430 P), (431, k431 P), (440, k440 P), (446, k446 P), (447, k447 P), (522, k522 P), (523, k523 P), (781, k781 P), (787, k787 P), (788, k788 P), (801, k801 P), (802, k802 P), (808, k808 P), (809, k809 P), (815, k815 P), (816, k816 P), (836, k836 P), (837, k837 P), (845, k845 P), (851, k851 P), (852, k852 P), (862, k862 P), (863, k863 P), (864, k864 P), (865, k865 P), (881, k881 P), (882, k882 P), (895, k895 P), (896, k896 P), (899, k899 P), (900, k900 P), (901, k901 P), (917, k917 P), (918, k918 P), (928, k928 P), (929, k929 P), (937, k937 P), (938, k938 P), (952, k952 P), (953, k953 P), (959, k959 P), (960, k960 P), (966, k966 P), (967, k967 P), (970, k970 P), (971, k971 P), (972, k972 P), (1019, k1019 P), (1025, k1025 P), (1026, k1026 P), (1032, k1032 P), (1033, k1033 P), (1035, k1035 P), (1039, k1039 P), (1040, k1040 P), (1043, k1043 P), (1044, k1044 P), (1045, k1045 P), (1046, k1046 P), (1062, k1062 P), (1063, k1063 P), (1069, k1069 P), (1070, k1070 P), (1076, k1076 P), (1077, k1077 P), (1080, k1080 P), (1081, k1081 P), (1082, k1082 P), (1083, k1083 P), (1108, k1108 P), (1114, k1114 P), (1115, k1115 P), (1121, k1121 P), (1122, k1122 P), (1125, k1125 P), (1126, k1126 P), (1127, k1127 P), (1128, k1128 P), (1129, k1129 P), (1130, k1130 P), (1141, k1141 P), (1147, k1147 P), (1148, k1148 P), (1154, k1154 P), (1155, k1155 P), (1158, k1158 P), (1159, k1159 P), (1160, k1160 P), (1161, k1161 P), (1169, k1169 P), (1170, k1170 P), (1171, k1171 P), (1177, k1177 P), (1178, k1178 P), (1179, k1179 P), (1185, k1185 P), (1186, k1186 P), (1188, k1188 P), (1192, k1192 P), (1193, k1193 P), (1199, k1199 P), (1200, k1200 P), (1231, k1231 P), (1232, k1232 P), (1233, k1233 P), (1239, k1239 P), (1240, k1240 P), (1244, k1244 P), (1245, k1245 P), (1251, k1251 P), (1252, k1252 P), (1256, k1256 P), (1257, k1257 P)]
def as : List PySem.Addr := [0, 1, 2, 3, 4, 22, 28, 29, 30, 31, 37, 38, 39, 45, 46, 48, 52, 53, 66, 67, 73, 74, 87, 88, 108, 109, 130, 131, 161, 162, 228, 229, 235, 236, 262, 263, 265, 266, 267, 280, 281, 303, 309, 310, 316, 317, 422, 423, 424, 430, 431, 440, 446, 447, 522, 523, 781, 787, 788, 801, 802, 808, 809, 815, 816, 836, 837, 845, 851, 852, 862, 863, 864, 865, 881, 882, 895, 896, 899, 900, 901, 917, 918, 928, 929, 937, 938, 952, 953, 959, 960, 966, 967, 970, 971, 972, 1019, 1025, 1026, 1032, 1033, 1035, 1039, 1040, 1043, 1044, 1045, 1046, 1062, 1063, 1069, 1070, 1076, 1077, 1080, 1081, 1082, 1083, 1108, 1114, 1115, 1121, 1122, 1125, 1126, 1127, 1128, 1129, 1130, 1141, 1147, 1148, 1154, 1155, 1158, 1159, 1160, 1161, 1169, 1170, 1171, 1177, 1178, 1179, 1185, 1186, 1188, 1192, 1193, 1199, 1200, 1231, 1232, 1233, 1239, 1240, 1244, 1245, 1251, 1252, 1256, 1257]
end Mine
end
section
namespace Mine
open PySem PySem.Spec PySem.Calls PyProof.Rows PySem.W

/-- the place of the claim's caller -/
abbrev Γ0 : PySem.Ctx := ⟨.builtin "claim.caller" {}, none, none, [], none⟩
def W0 {α : Type} (M : Model) (t : Sem α) (Q : α → Shared → Prop) (E : Value → Shared → Prop) (s : Shared) : Prop :=
  ∀ p, Sem.wp M Γ0 t (fun a _ s' => Q a s') (fun e _ s' => E e s') p s
section
variable {α β : Type} {M : Model} {E E' : Value → Shared → Prop} {s : Shared}
theorem W0.mono {t : Sem α} {Q Q' : α → Shared → Prop} (h : W0 M t Q E s) (hQ : ∀ a s, Q a s → Q' a s) (hE : ∀ e s, E e s → E' e s) : W0 M t Q' E' s :=
  fun p => Sem.wp_mono M Γ0 t (fun a _ s => hQ a s) (fun e _ s => hE e s) p s (h p)
theorem W0.of_any {t : Sem α} {Q : α → Shared → Prop} (h : wpAny M callerA t Q E s) : W0 M t Q E s := fun p => h _ p caller_in
theorem W0.bind {m : Sem α} {f : α → Sem β} {Q : β → Shared → Prop} (h : W0 M m (fun a s' => W0 M (f a) Q E s') E s) : W0 M (m >>= f) Q E s := fun p => by
  rw [Sem.wp_bind']
  exact Sem.wp_mono M Γ0 m (fun a p' s' h' => h' p') (fun _ _ _ h' => h') p s (h p)
theorem W0.pure {a : α} {Q : α → Shared → Prop} (h : Q a s) : W0 M (Pure.pure a) Q E s := fun _ => h
end
theorem thread0 {prog : Program} {w : World} {t : Sem Fin} {s : Shared} {R : Result → Shared → Prop} (hreg : s.asleep)
    (h : W0 (model prog w) t (fun fin s' => ∃ f, fin = .done f ∧ (R (.ok f) s' ∧ leftWithCleanup s'.gens = false)) (fun e s' => R (.error e) s' ∧ leftWithCleanup s'.gens = false) s) :
    ∃ n r s' s'', runN (denote table) prog w n s ⟨t, .builtin "claim.caller" {}, default, []⟩ = .halted (outcomeOf r) s' ∧
      schedN (denote table) prog w n (.single s ⟨t, .builtin "claim.caller" {}, default, []⟩) = .halted (outcomeOf r) s' ∧ s'.forget = s''.forget ∧ R r s'' := by
  obtain ⟨n, r, s₁, s₂, hs, hn, hfo, hR⟩ := wp_halts_full (M := model prog w) (R := R) hreg (Sem.wp_mono _ _ _ (fun fin p' s' ⟨f, hf, hr⟩ => by subst hf; exact hr) (fun _ _ _ x => x) _ _ (h default))
  exact ⟨n, r, s₂, s₁, hn, hs, hfo, hR⟩
theorem callFrom0 {c : ClaimW} {tree : List Value → Sem Fin} {w : World} {s : Shared} {free : Addr → Prop} {gens : Prop} {kept : Heap → Prop} (hz : s.asleep) (hgens : s.gens = #[])
    (hspec : ∀ args, c.pre args = true → WData.layableAll args = true →
      ∀ ord : List DictEntry → List DictEntry, (∀ l, (ord l).Perm l) →
      ∃ vs s₁, layAllW c.records (classAt s.heap) w.params ord args s = some (vs, s₁) ∧
        W0 (model c.prog w) (tree vs) (fun fin s' => ∃ f, fin = .done f ∧ (c.Ends s args vs s₁ (.ok f) s' ∧ s'.os = s.os ∧ AllBare s'.gens ∧ kept s'.heap))
          (fun e s' => c.Ends s args vs s₁ (.error e) s' ∧ s'.os = s.os ∧ AllBare s'.gens ∧ kept s'.heap) s₁) :
    c.CallFrom (fun vs => ⟨tree vs, .builtin "claim.caller" {}, default, []⟩) w free gens kept s := by
  intro args hpre hlay ord hord
  obtain ⟨vs, s₁, hlaid, hcode⟩ := hspec args hpre hlay ord hord
  have hal := layAllW_rest _ _ _ hlaid
  obtain ⟨k, r, s', s'', hrun, hsched, hfo, hcase, hos, hkp⟩ := thread0 (prog := c.prog) (w := w) (t := tree vs) (s := s₁)
    (R := fun r s' => c.Ends s args vs s₁ r s' ∧ s'.os = s.os ∧ kept s'.heap) (Shared.asleep_of_life hal.2.2.2 hz)
    (hcode.mono (fun fin s' ⟨f, e, h1, h2, h3, h4⟩ => ⟨f, e, ⟨h1, h2, h4⟩, leftWithCleanup_false_of_bare h3⟩) (fun e s' ⟨h1, h2, h3, h4⟩ => ⟨⟨h1, h2, h4⟩, leftWithCleanup_false_of_bare h3⟩))
  obtain ⟨eh, _, _, eo, _⟩ := Shared.forget_eq hfo
  have hcase := hcase.congr eh
  have hkp : kept s'.heap := by first | exact eh ▸ hkp | (rw [eh] at hkp; exact hkp) | (rw [← eh] at hkp; exact hkp)
  rw [← eo] at hos
  have hlife : s'.heap.life = s.heap.life := (runN_life _ _ _ hrun).trans hal.2.2.2
  refine ⟨vs, s₁, hlaid, k, _, s', hsched, ?_, (fun _ i x hx => by rw [hgens] at hx; simp at hx), hkp, by rw [hlife], Shared.rest_eq hos⟩
  rcases hcase with ⟨v, rfl, d1, d2, d3, d4, d5⟩ | ⟨e, ob, cls, rfl, d1, d2, d3, d4, d5⟩
  · exact .inl ⟨v, rfl, d1, d2, d3, fun b o y _ => d4 b o y, d5⟩
  · exact .inr ⟨e, ob, cls, rfl, d1, d2, d3, d4, fun b o y _ => d5 b o y⟩

theorem open0 {r : RowW} {run : Value → List Value → Sem Value} {tree : List Value → Sem Fin} {q : Program} {loose defs kps : List Str} {writes : Bool} {Xt : Shared → Bool} {XP : (Str → Option Value) → Heap → Prop} {α : Type} {Yf : Shared → α} {Ya : World → α} {YP : World → Heap → Prop} {N : Nat}
    (left : LeftO r.prog q loose Xt Yf Ya N) (hY : ∀ w s, Yf s = Ya w → YP w s.heap) (hYk : ∀ w h h', YP w h → (∀ b o, h.get? b = some o → h'.get? b = some o) → YP w h') (hX : ∀ s, Xt s = true → XP (s.heap.nsMap mainGlobals) s.heap) (hXk : ∀ mg h h', XP mg h → (∀ b o, h.get? b = some o → h'.get? b = some o) → XP mg h')
    (hRf : ∀ s, Xt s = true → RecFacts r.records s.heap) (hwr : (!writes || r.records.isEmpty) = true) (ok : (chainsOk q && opensWell r.prog && (frees r && r.within.isEmpty)) = true) (hb : r.prog.bare) (hw : r.promised)
    (ht : ∀ vs (w : World) (s : Shared) mg f (Q : Fin → Shared → Prop) (E : Value → Shared → Prop), s.heap.Ns mainGlobals mg → mg r.name = some f → W0 (model r.prog w) (run f vs) (fun v s' => Q (.done (.ret v)) s') E s → W0 (model r.prog w) (tree vs) Q E s)
    (pin : ∀ w s, s.heap.isNs mainGlobals = true → Ground q loose [] XP w s (s.heap.nsMap mainGlobals) (s.heap.nsMap builtinsNs) s.heap → ∀ n ∈ defs, isTheDefsW r.prog s.heap n)
    (call : ∀ (w : World) (s₀ s₁ : Shared) (mg mb : Str → Option Value), Ground q loose r.records XP w s₀ mg mb s₁.heap → YP w s₁.heap → ∀ (args : List WData) (vs : List Value) (as : List Addr),
      r.claim.pre args = true → WData.layableAll args = true → Laid r.records w s₀ s₁ args vs as → sysModules < s₀.heap.objs.size → ∃ f, mg r.name = some f ∧
        W0 (model r.prog w) (run f vs) (fun v s' => GoodWG r.claim (classAt s₀.heap) (ExcName.means s₀.heap) args s₁ (.ok (.ret v)) s')
          (fun e s' => GoodWG r.claim (classAt s₀.heap) (ExcName.means s₀.heap) args s₁ (.error e) s') s₁) : r.claim.HoldsOpenBy (fun vs => ⟨tree vs, .builtin "claim.caller" {}, default, []⟩) defs kps writes := by
  obtain ⟨ok, k5⟩ := Bool.and_eq_true_iff.mp ok
  obtain ⟨hch, o1⟩ := Bool.and_eq_true_iff.mp ok
  obtain ⟨k5, k6⟩ := Bool.and_eq_true_iff.mp k5
  obtain ⟨hsame, hu, ha, hap, hm⟩ := frees_parts k5
  refine ⟨⟨hb, o1, by show r.makers.map _ = []; rw [hm]; rfl⟩, hw.witness, fun w => ⟨(left.behind hX hch w).1, fun s' hs' => ?_⟩⟩
  obtain ⟨s₀, hf, hg0, s, hT, hz, hgens, hg, G00, y⟩ := (left.behind (XP := fun mg h => XP mg h ∧ RecFacts r.records h) (fun s hs => ⟨hX s hs, hRf s hs⟩) hch w).2 s' hs'
  have G0 : Ground q loose [] XP w s (s.heap.nsMap mainGlobals) (s.heap.nsMap builtinsNs) s.heap := ⟨G00.T, G00.B, G00.D, G00.TE, G00.TD, G00.W, G00.X.1, G00.cls, G00.has, G00.apart, G00.once, G00.K⟩
  have RF := G00.X.2
  refine ⟨s₀, hf, hg0, s, hT, pin w s hg G0, RF.1, RF.2.1, ?_⟩
  have hgens : s.gens = #[] := Array.eq_empty_of_size_eq_zero (beq_iff_eq.mp hgens)
  have G : Ground q loose r.records XP w s _ _ s.heap := RF.ground G0
  refine callFrom0 (c := r.claim) hz hgens fun args hpre hlay ord hord => ?_
  obtain ⟨⟨vs, s₁⟩, hlaid⟩ := Option.isSome_iff_exists.mp (layAllW_isSome (P := w.params) (ord := ord) G.has args r.args s (pre_splitW hpre).1)
  have keeps := layAllW_keeps _ _ _ hlaid
  have hal := layAllW_rest _ _ _ hlaid
  obtain ⟨as, hrd, hin, hold⟩ := reads_layAllW hord _ _ _ hlaid hlay s₁.heap (fun _ _ e => e)
  have L : Laid r.records w s s₁ args vs as := ⟨⟨ord, hord, hlaid⟩, hrd, hin, hold, keeps, hal.1.trans hgens, hal.2.2.1⟩
  have G₁ := G.keeps hXk keeps
  obtain ⟨f, hf, h⟩ := call w s s₁ _ _ G₁ (hYk _ _ _ (hY w s y) keeps) args vs as hpre hlay L G.low
  have hi := ident_freeW hu ha hap
  have hwi : r.claim.within = [] := List.isEmpty_iff.mp k6
  exact ⟨vs, s₁, hlaid, ht vs w s₁ _ f _ _ G₁.T.g hf (h.mono (fun v s' g => ⟨_, rfl, have z := g.laid (c := r.claim) hsame hwi hi L; ⟨z.1, z.2.1, z.2.2, fun q => ⟨namesKept_of hT hg kps keeps g.2.1.old, noTable hwr q⟩⟩⟩) fun e s' g => have z := g.laid (c := r.claim) hsame hwi hi L; ⟨z.1, z.2.1, z.2.2, fun q => ⟨namesKept_of hT hg kps keeps g.2.1.old, noTable hwr q⟩⟩)⟩

abbrev Walk0 (q : Program) (loose : List Str) (XP : (Str → Option Value) → Heap → Prop) (YP : World → Heap → Prop) (r : RowW) (d : DefRec) (kwd : List (Str × Expr)) (run : Value → List Value → Sem Value) : Prop :=
  ∀ (w : World) (s₀ s₁ : Shared) (mg mb : Str → Option Value), Ground q loose r.records XP w s₀ mg mb s₁.heap → YP w s₁.heap → ∀ (a : Addr), mg d.name = some (.ref a) → s₁.gens = #[] →
    ∀ (args : List WData) (vals : List Value) (as : List Addr), r.claim.pre args = true → WData.layableAll args = true → Laid r.records w s₀ s₁ args vals as → sysModules < s₀.heap.objs.size →
      W0 (model r.prog w) (run (.ref a) vals) (fun v s' => GoodWG r.claim (classAt s₀.heap) (ExcName.means s₀.heap) args s₁ (.ok (.ret v)) s')
        (fun e s' => GoodWG r.claim (classAt s₀.heap) (ExcName.means s₀.heap) args s₁ (.error e) s') s₁
end Mine


end
namespace Mine
open PySem PySem.Spec PySem.Calls PyProof.Rows PySem.W PySem.W.X

noncomputable def den (c : Code) : Sem Fin := PySem.W.Fast.tw11892475500146522536 PySem.W.Fast.tw14364793385576792824 c
theorem den_eq (c : Code) : denote table c = den c := by
  unfold den
  rw [← PySem.W.Fast.te11892475500146522536, ← PySem.W.Fast.te14364793385576792824, ← table_eq_tree]

abbrev En := Addr × Obj
def nth : List En → Nat → Option En
  | [], _ => none
  | x :: _, 0 => some x
  | _ :: l, n + 1 => nth l n
def updAt : List En → Nat → Obj → List En
  | [], _, _ => []
  | x :: l, 0, o => (x.1, o) :: l
  | x :: l, n + 1, o => x :: updAt l n o
theorem nth_mem : ∀ {l : List En} {i : Nat} {e : En}, nth l i = some e → e ∈ l
  | [], _, _, h => nomatch h
  | x :: l, 0, e, h => by cases h; exact .head _
  | x :: l, i + 1, e, h => .tail _ (nth_mem h)
theorem updAt_fst : ∀ (l : List En) (i : Nat) (o : Obj), (updAt l i o).map Prod.fst = l.map Prod.fst
  | [], _, _ => rfl
  | x :: l, 0, o => rfl
  | x :: l, i + 1, o => by show x.1 :: (updAt l i o).map Prod.fst = _; rw [updAt_fst l i o]; rfl
theorem updAt_cases : ∀ {l : List En} {i : Nat} {e : En} {o : Obj} {p : En}, (l.map Prod.fst).Nodup → nth l i = some e → p ∈ updAt l i o → p = (e.1, o) ∨ (p ∈ l ∧ p.1 ≠ e.1)
  | [], _, _, _, _, _, h, _ => nomatch h
  | x :: l, 0, e, o, p, hn, h, hp => by
    cases h
    rcases List.mem_cons.mp hp with rfl | hp
    · exact .inl rfl
    · exact .inr ⟨.tail _ hp, fun q => (List.nodup_cons.mp hn).1 (q ▸ List.mem_map_of_mem hp)⟩
  | x :: l, i + 1, e, o, p, hn, h, hp => by
    rcases List.mem_cons.mp hp with rfl | hp
    · exact .inr ⟨.head _, fun q => (List.nodup_cons.mp hn).1 (q ▸ List.mem_map_of_mem (nth_mem h))⟩
    · rcases updAt_cases (List.nodup_cons.mp hn).2 h hp with r | ⟨r, s⟩
      · exact .inl r
      · exact .inr ⟨.tail _ r, s⟩
def setAll : List En → List Nat → List Obj → List En
  | T, i :: is, o :: os => setAll (updAt T i o) is os
  | T, _, _ => T
def picks (T : List En) : List Nat → List (Option En)
  | [] => []
  | i :: is => nth T i :: picks T is

inductive Sd : Type
  | n (a : Addr)
  | code (c : Code)
  | val (v : Value)
  | tree (t : Sem Fin)
  | res (r : Result)
  | b (b : Bool)
  | ov (v : Option Value)
  | gl (l : List GenState)
  | ens (l : List (Option En))
  | stk (l : List (Code × Pos))
inductive Res : Type 1
  | bad
  | ok
  | chk (l r : Sd) (rest : Res)
  | both (a b : Res)
  | all (α : Type) (f : α → Nat → Nat → Res)
inductive Sl : Type 1
  | b1
  | b2
  | ok
  | c (s : Sd) (rest : Sl)
  | d (a b : Sl)
  | all (α : Type) (f : α → Nat → Nat → Sl)
noncomputable def Res.ls (r : Res) : Sl := Res.rec (motive := fun _ => Sl) .b1 .ok (fun l _ _ ih => .c l ih) (fun _ _ iha ihb => .d iha ihb) (fun α _ ih => .all α ih) r
noncomputable def Res.rs (r : Res) : Sl := Res.rec (motive := fun _ => Sl) .b2 .ok (fun _ r _ ih => .c r ih) (fun _ _ iha ihb => .d iha ihb) (fun α _ ih => .all α ih) r
noncomputable def Res.Ok (r : Res) : Prop := Res.rec (motive := fun _ => Prop) False True (fun l r _ ih => l = r ∧ ih) (fun _ _ iha ihb => iha ∧ ihb) (fun _ _ ih => ∀ x n t, ih x n t) r
theorem Res.ok_of (r : Res) (h : r.ls = r.rs) : r.Ok := by
  induction r with
  | bad => exact Sl.noConfusion h
  | ok => trivial
  | chk l r rest ih =>
    have h' : Sl.c l rest.ls = Sl.c r rest.rs := h
    injection h' with h1 h2
    exact ⟨h1, ih h2⟩
  | both a b iha ihb =>
    have h' : Sl.d a.ls b.ls = Sl.d a.rs b.rs := h
    injection h' with h1 h2
    exact ⟨iha h1, ihb h2⟩
  | all α f ih =>
    have h' : Sl.all α (fun x n t => (f x n t).ls) = Sl.all α (fun x n t => (f x n t).rs) := h
    injection h' with h1 h2
    intro x n t
    exact ih x n t (congrFun (congrFun (congrFun (eq_of_heq (by simpa using h2)) x) n) t)

structure St where
  T : List En
  b : Nat
  j : Nat
  t : Nat
  i : Nat
  gl : List GenState
structure Rp (V : XV) (P0 : List Addr) (h : Heap) (s : St) : Prop where
  size : h.objs.size = s.b + s.j
  own : ∀ p ∈ s.T, h.get? p.1 = some p.2
  nd : (s.T.map Prod.fst).Nodup
  lo : ∀ p ∈ s.T, V.kt.get p.1 = none
  top : ∀ a o, V.kt.get a = some o → h.get? a = some o
  st : ∀ p ∈ s.T, p.1 ∈ P0 ∨ V.h₀.get? p.1 = none
  keep : ∀ b o, V.h₀.get? b = some o → b ∉ P0 → h.get? b = some o
section
variable {V : XV} {P0 : List Addr} {h : Heap} {s : St}
theorem none_big {h₀ h : Heap} (hb : h₀.objs.size ≤ h.objs.size) : h₀.get? h.objs.size = none := by
  cases q : h₀.get? h.objs.size with
  | none => rfl
  | some o => exact absurd (Heap.lt_size q) (Nat.not_lt.mpr hb)
theorem Rp.alloc (D : Rp V P0 h s) {o : Obj} (hf : o.isFreed = false) : Rp V P0 (h.push o) { s with T := (s.b + s.j, o) :: s.T, j := s.j + 1 } := by
  have fresh : ∀ p ∈ s.T, p.1 ≠ s.b + s.j := fun p hp e => by
    have := Heap.lt_size (D.own p hp)
    rw [D.size, e] at this
    exact Nat.lt_irrefl _ this
  refine ⟨?_, ?_, ?_, ?_, ?_, ?_, ?_⟩
  · rw [Heap.size_push, D.size]; rfl
  · intro p hp
    rcases List.mem_cons.mp hp with rfl | hp
    · show (h.push o).get? (s.b + s.j) = some o
      rw [← D.size]; exact Heap.get?_push_size _ hf
    · exact Heap.get?_push_of_some _ (D.own p hp)
  · exact List.nodup_cons.mpr ⟨fun hm => by
      obtain ⟨p, hp, e⟩ := List.mem_map.mp hm
      exact fresh p hp e, D.nd⟩
  · intro p hp
    rcases List.mem_cons.mp hp with rfl | hp
    · cases q : V.kt.get (s.b + s.j) with
      | none => rfl
      | some o' =>
        have := Heap.lt_size (D.top _ _ q)
        rw [D.size] at this
        exact absurd this (Nat.lt_irrefl _)
    · exact D.lo p hp
  · exact fun a o' e => Heap.get?_push_of_some _ (D.top a o' e)
  · intro p hp
    rcases List.mem_cons.mp hp with rfl | hp
    · show s.b + s.j ∈ P0 ∨ V.h₀.get? (s.b + s.j) = none
      by_cases hP : s.b + s.j ∈ P0
      · exact .inl hP
      · right
        cases q : V.h₀.get? (s.b + s.j) with
        | none => rfl
        | some o' =>
          have := Heap.lt_size (D.keep _ _ q hP)
          rw [D.size] at this
          exact absurd this (Nat.lt_irrefl _)
    · exact D.st p hp
  · exact fun b o' e q => Heap.get?_push_of_some _ (D.keep b o' e q)
theorem Rp.update (D : Rp V P0 h s) {i : Nat} {e : En} {f : Obj → Obj} (he : nth s.T i = some e) (hf : (f e.2).isFreed = false) : Rp V P0 (h.update e.1 f) { s with T := updAt s.T i (f e.2) } := by
  have ho := D.own e (nth_mem he)
  have hs : Heap.SameBut e.1 h (h.update e.1 f) := Heap.SameBut.update ..
  have ge : (h.update e.1 f).get? e.1 = some (f e.2) := by first | exact Heap.get?_update_self f ho hf | exact Heap.get?_update_self _ ho hf
  have fr : ∀ p ∈ updAt s.T i (f e.2), p = (e.1, f e.2) ∨ (p ∈ s.T ∧ p.1 ≠ e.1) := fun p hp => updAt_cases D.nd he hp
  refine ⟨by rw [hs.1, D.size], ?_, ?_, ?_, ?_, ?_, ?_⟩
  · intro p hp
    rcases fr p hp with rfl | ⟨hp, hn⟩
    · exact ge
    · exact (hs.2 _ hn).trans (D.own p hp)
  · show ((updAt s.T i (f e.2)).map Prod.fst).Nodup
    rw [updAt_fst]; exact D.nd
  · intro p hp
    rcases fr p hp with rfl | ⟨hp, hn⟩
    · exact D.lo e (nth_mem he)
    · exact D.lo p hp
  · intro a o ea
    have : a ≠ e.1 := fun z => by
      subst z
      rw [D.lo e (nth_mem he)] at ea; cases ea
    exact (hs.2 _ this).trans (D.top a o ea)
  · intro p hp
    rcases fr p hp with rfl | ⟨hp, hn⟩
    · exact D.st e (nth_mem he)
    · exact D.st p hp
  · intro b o eb hb
    have : b ≠ e.1 := fun z => by
      subst z
      rcases D.st e (nth_mem he) with q | q
      · exact hb q
      · rw [q] at eb; cases eb
    exact (hs.2 _ this).trans (D.keep b o eb hb)
end
end Mine
namespace Mine
open PySem PySem.Spec PySem.Calls PyProof.Rows PySem.W PySem.W.X

def bw : Code → Nat × Nat
  | .builtin id _ => match (id == "claim.caller") with
    | true => (1000, 10)
    | false => (5, 10)
  | .call .. => (0, 1)
  | _ => (1, 3)
theorem frames_builtin (id : String) (a : Args) : (Code.builtin id a).frames ≤ 3 := by
  unfold Code.frames
  split <;> first | omega | (split <;> omega)
theorem bw_ok (c : Code) : c.weight ≤ (bw c).1 ∧ c.cUnits ≤ (bw c).2 := by
  cases c with
  | builtin id a =>
    have hf := frames_builtin id a
    have hu : (Code.builtin id a).cUnits ≤ 10 := by
      show 1 + 3 * (Code.builtin id a).frames ≤ 10
      omega
    have hm : claimMargin = 300 := rfl
    cases q : (id == "claim.caller") with
    | true =>
      have e : bw (.builtin id a) = (1000, 10) := by simp only [bw, q]
      rw [e]
      refine ⟨?_, hu⟩
      show (Code.builtin id a).frames + _ + _ + _ ≤ 1000
      rw [hm]
      (repeat' split) <;> omega
    | false =>
      have e : bw (.builtin id a) = (5, 10) := by simp only [bw, q]
      rw [e]
      refine ⟨?_, hu⟩
      have hc : (Code.builtin id a).isCaller = false := by
        unfold Code.isCaller
        split
        · rename_i h; cases h; simp at q
        · rfl
      show (Code.builtin id a).frames + _ + _ + _ ≤ 5
      rw [hc]
      simp only [Bool.false_eq_true, if_false]
      (repeat' split) <;> omega
  | call f a => exact ⟨Nat.le_of_eq rfl, Nat.le_of_eq rfl⟩
  | _ =>
    refine ⟨?_, ?_⟩
    · show Code.frames _ + (if Code.isCreation _ then 1 else 0) + (if Code.isGuard _ then 1 else 0) + (if Code.isCaller _ then claimMargin else 0) ≤ 1
      simp only [Code.isCreation, Code.isGuard, Code.isCaller, Bool.false_eq_true, if_false, Code.frames]
      split <;> omega
    · show 3 * Code.frames _ ≤ 3
      simp only [Code.frames]
      split <;> omega
def bwF : List Frame → Nat × Nat
  | [] => (0, 0)
  | f :: fs => ((bw f.where_.1).1 + (bwF fs).1, (bw f.where_.1).2 + (bwF fs).2)
theorem bwF_ok : ∀ fs : List Frame, frameCount (fs.map Frame.where_) ≤ (bwF fs).1 ∧ unitsOf (fs.map Frame.where_) ≤ (bwF fs).2
  | [] => ⟨Nat.le_refl _, Nat.le_refl _⟩
  | f :: fs => by
    have ih := bwF_ok fs
    have hb := bw_ok f.where_.1
    show frameCount ((f.where_.1, f.where_.2) :: fs.map Frame.where_) ≤ (bw f.where_.1).1 + (bwF fs).1 ∧ unitsOf ((f.where_.1, f.where_.2) :: fs.map Frame.where_) ≤ (bw f.where_.1).2 + (bwF fs).2
    rw [frameCount_cons, unitsOf_cons]
    omega

def exK : Bool → Kont → Nat × Nat
  | true, .base => (0, 0)
  | true, .ret c _ _ κ => ((exK true κ).1 + (bw c).1, (exK true κ).2 + (bw c).2)
  | true, .gen .. => (0, 0)
  | true, .genS .. => (0, 0)
  | false, .gen _ c _ κ => ((exK true κ).1 + (bw c).1, (exK true κ).2 + (bw c).2)
  | false, .genS _ c fs _ κ => ((exK false κ).1 + (bwF fs).1 + (bw c).1, (exK false κ).2 + (bwF fs).2 + (bw c).2)
  | false, .base => (0, 0)
  | false, .ret .. => (0, 0)
theorem exK_ok (V : XV) : ∀ (b : Bool) (κ : Kont), (aroundOf V b κ).depth ≤ V.A₀.depth + (exK b κ).1 ∧ (aroundOf V b κ).units ≤ V.A₀.units + (exK b κ).2
  | true, .base => ⟨Nat.le_refl _, Nat.le_refl _⟩
  | true, .ret c hd k κ => by
    have ih := exK_ok V true κ
    have hb := bw_ok c
    show (aroundOf V true κ).depth + c.weight ≤ V.A₀.depth + ((exK true κ).1 + (bw c).1) ∧ (aroundOf V true κ).units + c.cUnits ≤ V.A₀.units + ((exK true κ).2 + (bw c).2)
    omega
  | true, .gen .. => ⟨Nat.le_refl _, Nat.le_refl _⟩
  | true, .genS .. => ⟨Nat.le_refl _, Nat.le_refl _⟩
  | false, .gen _ c _ κ => by
    have ih := exK_ok V true κ
    have hb := bw_ok c
    show (aroundOf V true κ).depth + c.weight ≤ V.A₀.depth + ((exK true κ).1 + (bw c).1) ∧ (aroundOf V true κ).units + c.cUnits ≤ V.A₀.units + ((exK true κ).2 + (bw c).2)
    omega
  | false, .genS _ c fs _ κ => by
    have ih := exK_ok V false κ
    have hb := bw_ok c
    have hf := bwF_ok fs
    show (aroundOf V false κ).depth + frameCount (fs.map Frame.where_) + c.weight ≤ V.A₀.depth + ((exK false κ).1 + (bwF fs).1 + (bw c).1) ∧ (aroundOf V false κ).units + unitsOf (fs.map Frame.where_) + c.cUnits ≤ V.A₀.units + ((exK false κ).2 + (bwF fs).2 + (bw c).2)
    omega
  | false, .base => ⟨Nat.le_refl _, Nat.le_refl _⟩
  | false, .ret .. => ⟨Nat.le_refl _, Nat.le_refl _⟩
def aOf (V : XV) (c : Code) : Option (List Frame) → Kont → Around
  | none, κ => (aroundOf V true κ).under c
  | some fs, κ => (aroundOf V false κ).over c fs
def exA (c : Code) : Option (List Frame) → Kont → Nat × Nat
  | none, κ => ((exK true κ).1 + (bw c).1, (exK true κ).2 + (bw c).2)
  | some fs, κ => ((exK false κ).1 + (bwF fs).1 + (bw c).1, (exK false κ).2 + (bwF fs).2 + (bw c).2)
theorem exA_ok (V : XV) (c : Code) : ∀ (md : Option (List Frame)) (κ : Kont), (aOf V c md κ).depth ≤ V.A₀.depth + (exA c md κ).1 ∧ (aOf V c md κ).units ≤ V.A₀.units + (exA c md κ).2
  | none, κ => by
    have ih := exK_ok V true κ
    have hb := bw_ok c
    show (aroundOf V true κ).depth + c.weight ≤ V.A₀.depth + ((exK true κ).1 + (bw c).1) ∧ (aroundOf V true κ).units + c.cUnits ≤ V.A₀.units + ((exK true κ).2 + (bw c).2)
    omega
  | some fs, κ => by
    have ih := exK_ok V false κ
    have hb := bw_ok c
    have hf := bwF_ok fs
    show (aroundOf V false κ).depth + frameCount (fs.map Frame.where_) + c.weight ≤ V.A₀.depth + ((exK false κ).1 + (bwF fs).1 + (bw c).1) ∧ (aroundOf V false κ).units + unitsOf (fs.map Frame.where_) + c.cUnits ≤ V.A₀.units + ((exK false κ).2 + (bwF fs).2 + (bw c).2)
    omega

/-- one command ahead of the rest of the tree, in both modes -/
theorem means_cmd {V : XV} {c : Code} {md : Option (List Frame)} {κ : Kont} {α : Type} {m : Sem α} {k : α → Sem Fin} {s : Shared}
    (h : wpAny (model V.prog V.w) (aOf V c md κ) m (fun a s' => Means V c md κ (k a) s') (fun _ _ => False) s) : Means V c md κ (m.bind k) s := by
  cases md with
  | none => exact wpOwn_bind (m := m) (f := k) (wpOwn_mono (wpOwn_of_wpAny h) (fun _ _ x => x) (fun _ _ x => x.elim))
  | some fs =>
    rw [Sem.bind_eq_wrap]
    exact s_cmd _ _ _ _ _ _ (wpAny_mono h (fun _ _ x => x) (fun _ _ x => x.elim))

/-- what a call gives back, whatever stands around it -/
def Ctr (prog : Program) (w : World) (kt : KT) (D U : Nat) (c : Code) (pre : List En) (gl gl' : List GenState) {α : Type} (res : α → Result) (upd : α → List Obj) (new : α → List En) : Prop :=
  ∀ (A : Around) (R : Result → Shared → Prop) (h : Heap) (d : Drawn) (os : OsState) (tok : Nat),
    A.handled = none → A.depth ≤ D → A.units ≤ U →
    (∀ a o, kt.get a = some o → h.get? a = some o) → (∀ p ∈ pre, h.get? p.1 = some p.2) → (pre.map Prod.fst).Nodup → (∀ p ∈ pre, kt.get p.1 = none) →
    (∀ (x : α) (h' : Heap) (tok' : Nat), (∀ b o, h.get? b = some o → b ∉ pre.map Prod.fst → h'.get? b = some o) → (upd x).length = pre.length →
      (∀ p ∈ (pre.map Prod.fst).zip (upd x), h'.get? p.1 = some p.2) → (∀ p ∈ new x, h'.get? p.1 = some p.2 ∧ h.get? p.1 = none) → ((new x).map Prod.fst).Nodup →
      R (res x) ⟨h', ⟨gl'⟩, d, tok', os⟩) →
    codeAny (model prog w) A c R ⟨h, ⟨gl⟩, d, tok, os⟩

inductive Gk
  | enter
  | room (what : String)
  | wake
noncomputable def Gk.tw : Gk → Sem Unit
  | .enter => PySem.W.Fast.tw15066281185411960212 0
  | .room w => PySem.W.Fast.tw10648789137845014744 w
  | .wake => PySem.W.Fast.tw3139746846981162851
def Gk.or : Gk → Sem Unit
  | .enter => enterFrame 0
  | .room w => cRoom w
  | .wake => roomToWake
theorem Gk.eq (G : Gk) : G.tw = G.or := by
  cases G with
  | enter => exact (congrFun PySem.W.Fast.te15066281185411960212 0).symm
  | room w => exact (congrFun PySem.W.Fast.te10648789137845014744 w).symm
  | wake => exact PySem.W.Fast.te3139746846981162851.symm

inductive Hs (prog : Program) (w : World) (kt : KT) (α₀ : Type) : Type 1
  | fin (n : Nat) (x : Result → List En → α₀) (idx nw : List Nat)
  | own (n i : Nat) (r : Hs prog w kt α₀)
  | stk (n : Nat) (G : Gk) (q : Nat) (r : Hs prog w kt α₀)
  | val (n : Nat) (β : Type) (ext : Value → β) (v v' : β → Value) (h : ∀ y, v y = v' y) (r : Hs prog w kt α₀)
  | tre (n : Nat) (t t' : Sem Fin) (h : t = t') (r : Hs prog w kt α₀)
  | br (n : Nat) (e : Bool) (r1 : e = true → Hs prog w kt α₀) (r2 : e = false → Hs prog w kt α₀)
  | cut (n D U : Nat) (idx : List Nat) (β : Type) (ext : Code → List (Option En) → β) (c : β → Code) (pre : β → List En) (gl gl' : List GenState) (α : Type) (res : β → α → Result) (upd : β → α → List Obj) (new : β → α → List En)
      (h : ∀ y, Ctr prog w kt D U (c y) (pre y) gl gl' (res y) (upd y) (new y)) (r : β → α → Nat → Nat → Hs prog w kt α₀)
  | cutg (n D U : Nat) (idx : List Nat) (β : Type) (ext : Code → List (Option En) → β) (c : β → Code) (pre : β → List En) (α : Type) (res : β → α → Result) (upd : β → α → List Obj) (new : β → α → List En)
      (h : ∀ y gl, Ctr prog w kt D U (c y) (pre y) gl gl (res y) (upd y) (new y)) (r : β → α → Nat → Nat → Hs prog w kt α₀)
abbrev Go := Code → Option (List Frame) → Kont → Sem Fin → St → Res
def wakeP (ih : Go) (e : End) (κ : Kont) (s : St) : Res := match κ with
  | .gen g c k κ' => ih c none κ' (k e.result) { s with gl := s.gl.set g e.genState }
  | .genS g c fs k κ' => ih c (some fs) κ' (k e.result) { s with gl := s.gl.set g e.genState }
  | .base => .bad
  | .ret .. => .bad
def retP (ih : Go) (r : Result) (md : Option (List Frame)) (κ : Kont) (s : St) : Res := match md with
  | none => match κ with
    | .ret c₁ _ k κ' => ih c₁ none κ' (k r) s
    | .base => .bad
    | .gen .. => .bad
    | .genS .. => .bad
  | some fs => match fs with
    | [] => wakeP ih (.ret r) κ s
    | f :: fs' => match f with
      | .ret k _ _ _ c₁ _ _ => ih c₁ (some fs') κ (k r) s
      | .gen .. => .bad
noncomputable def stepP (V : XV) (ih : Go) : Go := fun c md κ t s => match t with
  | .pure fin => match fin with
    | .done f => retP ih (.ok f) md κ s
    | .again c' => match c'.quiet with
      | true => ih c' md κ (den c') s
      | false => .bad
  | .raise e => retP ih (.error e) md κ s
  | .rule _ k => ih c md κ (k ()) s
  | .at _ k => ih c md κ (k ()) s
  | .point _ k => ih c md κ (k ()) s
  | .ask k => ih c md κ (k ⟨V.prog, V.w.params⟩) s
  | .load a _ k => match V.kt.get a with
    | some o => ih c md κ (k o) s
    | none => .bad
  | .loadIfAlive a k => match V.kt.get a with
    | some o => ih c md κ (k (some o)) s
    | none => .bad
  | .alloc o k => match o.isFreed with
    | true => .bad
    | false => ih c md κ (k (s.b + s.j)) ⟨(s.b + s.j, o) :: s.T, s.b, s.j + 1, s.t, s.i, s.gl⟩
  | .fresh k => ih c md κ (k (s.t + s.i)) ⟨s.T, s.b, s.j, s.t, s.i + 1, s.gl⟩
  | .handled own k => match own with
    | false => ih c md κ (k (aOf V c md κ).handled) s
    | true => .bad
  | .call c' hd g l k => match md with
    | none => match okMark hd with
      | true => ih c' none (.ret c hd k κ) (den c') s
      | false => .bad
    | some fs => .all Pos fun p _ _ => ih c' (some (.ret k hd g l c p [] :: fs)) κ (den c') s
  | .newGen c' k => ih c md κ (k s.gl.length) ⟨s.T, s.b, s.j, s.t, s.i, s.gl ++ [.fresh c']⟩
  | .genState g k => match s.gl[g]? with
    | some gs => ih c md κ (k gs.seen) s
    | none => .bad
  | .resume g r _ k => match s.gl[g]? with
    | some gs => match gs with
      | .fresh c₀ => match r with
        | .send v => match v with
          | .none => ih c₀ (some []) (match md with | none => .gen g c k κ | some fs => .genS g c fs k κ) (den c₀) ⟨s.T, s.b, s.j, s.t, s.i, s.gl.set g .running⟩
          | _ => .bad
        | .throw _ => .bad
      | .suspended k₀ _ c₀ _ fs₀ _ => ih c₀ (some fs₀) (match md with | none => .gen g c k κ | some fs => .genS g c fs k κ) (k₀ r) ⟨s.T, s.b, s.j, s.t, s.i, s.gl.set g .running⟩
      | .running => .bad
      | .finished => .bad
    | none => .bad
  | .yield v gd l k => match md with
    | none => .bad
    | some fs => match gd with
      | true => .bad
      | false => match splitAtGen fs with
        | some _ => .bad
        | none => match fs.any Frame.guarded with
          | true => .bad
          | false => .all Pos fun p _ _ => wakeP ih (.susp v false l k c p fs) κ s
  | .update .. => .bad
  | .stack _ => .bad
  | .unsupported _ => .bad
  | .finish _ => .bad
  | .register .. => .bad
  | .choose .. => .bad
  | .os .. => .bad
  | .fork .. => .bad
  | .thread _ => .bad
  | .await .. => .bad
noncomputable def plainN (V : XV) (fin : Go) : Nat → Go
  | 0 => fin
  | n + 1 => stepP V (plainN V fin n)
end Mine
namespace Mine
open PySem PySem.Spec PySem.Calls PyProof.Rows PySem.W PySem.W.X

def memB (x : Nat) : List Nat → Bool
  | [] => false
  | y :: r => match Nat.beq x y with
    | true => true
    | false => memB x r
def nodupB : List Nat → Bool
  | [] => true
  | x :: r => match memB x r with
    | true => false
    | false => nodupB r
theorem memB_iff {x : Nat} : ∀ {l : List Nat}, memB x l = false → x ∉ l
  | [], _, h => nomatch h
  | y :: r, e, h => by
    unfold memB at e
    cases q : Nat.beq x y with
    | true => rw [q] at e; cases e
    | false =>
      rw [q] at e
      rcases List.mem_cons.mp h with rfl | h
      · rw [Nat.beq_refl] at q; cases q
      · exact memB_iff e h
theorem nodupB_ok : ∀ {l : List Nat}, nodupB l = true → l.Nodup
  | [], _ => List.nodup_nil
  | x :: r, e => by
    unfold nodupB at e
    cases q : memB x r with
    | true => rw [q] at e; cases e
    | false => rw [q] at e; exact List.nodup_cons.mpr ⟨memB_iff q, nodupB_ok e⟩
theorem nth_inj : ∀ {T : List En} {i j : Nat} {e f : En}, (T.map Prod.fst).Nodup → nth T i = some e → nth T j = some f → e.1 = f.1 → i = j
  | [], _, _, _, _, _, h, _, _ => nomatch h
  | x :: T, 0, 0, _, _, _, _, _, _ => rfl
  | x :: T, 0, j + 1, e, f, hn, h1, h2, he => by
    cases h1
    exact absurd (he ▸ List.mem_map_of_mem (nth_mem h2)) (List.nodup_cons.mp hn).1
  | x :: T, i + 1, 0, e, f, hn, h1, h2, he => by
    cases h2
    exact absurd (he ▸ List.mem_map_of_mem (nth_mem h1)) (List.nodup_cons.mp hn).1
  | x :: T, i + 1, j + 1, e, f, hn, h1, h2, he => by
    rw [nth_inj (List.nodup_cons.mp hn).2 h1 h2 he]
theorem nth_updAt_ne : ∀ {T : List En} {i j : Nat} {o : Obj}, i ≠ j → nth (updAt T i o) j = nth T j
  | [], _, _, _, _ => rfl
  | x :: T, 0, 0, _, h => absurd rfl h
  | x :: T, 0, j + 1, _, _ => rfl
  | x :: T, i + 1, 0, _, _ => rfl
  | x :: T, i + 1, j + 1, o, h => nth_updAt_ne (T := T) fun e => h (by rw [e])
theorem picks_updAt {T : List En} {i : Nat} {o : Obj} : ∀ {is : List Nat}, i ∉ is → picks (updAt T i o) is = picks T is
  | [], _ => rfl
  | j :: is, h => by
    have hj : i ≠ j := fun e => h (by rw [e]; exact .head _)
    show nth (updAt T i o) j :: picks (updAt T i o) is = nth T j :: picks T is
    rw [nth_updAt_ne hj, picks_updAt fun m => h (.tail _ m)]
theorem picks_append {T : List En} {js : List Nat} : ∀ {is : List Nat}, picks T (is ++ js) = picks T is ++ picks T js
  | [] => rfl
  | i :: is => by show nth T i :: picks T (is ++ js) = _; rw [picks_append]; rfl
theorem picks_get {T : List En} : ∀ {is : List Nat} {l : List En}, picks T is = l.map some → ∀ p ∈ l, ∃ i ∈ is, nth T i = some p
  | [], [], _, _, h => nomatch h
  | [], _ :: _, e, _, _ => nomatch e
  | _ :: _, [], e, _, _ => nomatch e
  | i :: is, x :: l, e, p, hp => by
    injection e with e1 e2
    rcases List.mem_cons.mp hp with rfl | hp
    · exact ⟨i, .head _, e1⟩
    · obtain ⟨j, hj, hq⟩ := picks_get e2 p hp
      exact ⟨j, .tail _ hj, hq⟩
theorem picks_nodup {T : List En} (hT : (T.map Prod.fst).Nodup) : ∀ {is : List Nat} {l : List En}, is.Nodup → picks T is = l.map some → (l.map Prod.fst).Nodup
  | [], [], _, _ => List.nodup_nil
  | [], _ :: _, _, e => nomatch e
  | _ :: _, [], _, e => nomatch e
  | i :: is, x :: l, hn, e => by
    injection e with e1 e2
    refine List.nodup_cons.mpr ⟨fun hm => ?_, picks_nodup hT (List.nodup_cons.mp hn).2 e2⟩
    obtain ⟨p, hp, he⟩ := List.mem_map.mp hm
    obtain ⟨j, hj, hq⟩ := picks_get e2 p hp
    have := nth_inj hT e1 hq he.symm
    subst this
    exact (List.nodup_cons.mp hn).1 hj
theorem setAll_fst : ∀ (is : List Nat) (os : List Obj) (T : List En), (setAll T is os).map Prod.fst = T.map Prod.fst
  | [], _, _ => rfl
  | _ :: _, [], _ => rfl
  | i :: is, o :: os, T => by show (setAll (updAt T i o) is os).map Prod.fst = _; rw [setAll_fst is os, updAt_fst]
theorem setAll_cases {p : En} : ∀ {is : List Nat} {pre : List En} {os : List Obj} {T : List En}, (T.map Prod.fst).Nodup → is.Nodup → picks T is = pre.map some → os.length = pre.length → p ∈ setAll T is os →
    p ∈ (pre.map Prod.fst).zip os ∨ (p ∈ T ∧ p.1 ∉ pre.map Prod.fst)
  | [], [], _, _, _, _, _, _, hp => .inr ⟨hp, fun h => nomatch h⟩
  | [], _ :: _, _, _, _, _, e, _, _ => nomatch e
  | _ :: _, [], _, _, _, _, e, _, _ => nomatch e
  | i :: is, e :: pre, [], _, _, _, _, hl, _ => nomatch hl
  | i :: is, e :: pre, o :: os, T, hT, hn, he, hl, hp => by
    injection he with e1 e2
    have hi := (List.nodup_cons.mp hn).1
    have hT' : ((updAt T i o).map Prod.fst).Nodup := by rw [updAt_fst]; exact hT
    rcases setAll_cases hT' (List.nodup_cons.mp hn).2 (by rw [picks_updAt hi]; exact e2) (Nat.succ.inj hl) hp with q | ⟨q, r⟩
    · exact .inl (.tail _ q)
    · rcases updAt_cases hT e1 q with rfl | ⟨q, r'⟩
      · exact .inl (.head _)
      · refine .inr ⟨q, fun hm => ?_⟩
        rcases List.mem_cons.mp hm with h | h
        · exact r' h
        · exact r h
section
variable {V : XV} {P0 : List Addr} {h : Heap} {s : St}
theorem Rp.pick (D : Rp V P0 h s) {idx : List Nat} {pre : List En} (hp : picks s.T idx = pre.map some) {p : En} (hm : p ∈ pre) : p ∈ s.T := by
  obtain ⟨i, _, e⟩ := picks_get hp p hm
  exact nth_mem e
theorem Rp.cut (D : Rp V P0 h s) {idx : List Nat} {pre new : List En} {up : List Obj} {h' : Heap} {tk : Nat} {gl' : List GenState} (hi : idx.Nodup) (hp : picks s.T idx = pre.map some)
    (fr : ∀ b o, h.get? b = some o → b ∉ pre.map Prod.fst → h'.get? b = some o) (hl : up.length = pre.length) (hu : ∀ p ∈ (pre.map Prod.fst).zip up, h'.get? p.1 = some p.2)
    (hn : ∀ p ∈ new, h'.get? p.1 = some p.2 ∧ h.get? p.1 = none) (nn : (new.map Prod.fst).Nodup) :
    Rp V P0 h' ⟨new ++ setAll s.T idx up, h'.objs.size, 0, tk, 0, gl'⟩ := by
  have cs : ∀ p ∈ setAll s.T idx up, p ∈ (pre.map Prod.fst).zip up ∨ (p ∈ s.T ∧ p.1 ∉ pre.map Prod.fst) := fun p hm => setAll_cases D.nd hi hp hl hm
  have ad : ∀ p ∈ setAll s.T idx up, ∃ q ∈ s.T, q.1 = p.1 := fun p hm => by
    have : p.1 ∈ (setAll s.T idx up).map Prod.fst := List.mem_map_of_mem hm
    rw [setAll_fst] at this
    exact List.mem_map.mp this
  have pa : ∀ a ∈ pre.map Prod.fst, ∃ q ∈ s.T, q.1 = a := fun a ha => by
    obtain ⟨q, hq, e⟩ := List.mem_map.mp ha
    exact ⟨q, D.pick hp hq, e⟩
  refine ⟨rfl, ?_, ?_, ?_, ?_, ?_, ?_⟩
  · intro p hm
    rcases List.mem_append.mp hm with hm | hm
    · exact (hn p hm).1
    · rcases cs p hm with q | ⟨q, r⟩
      · exact hu p q
      · exact fr _ _ (D.own p q) r
  · show ((new ++ setAll s.T idx up).map Prod.fst).Nodup
    rw [List.map_append, setAll_fst]
    refine List.nodup_append.mpr ⟨nn, D.nd, ?_⟩
    intro a ha b hb' e
    subst e
    obtain ⟨p, hp', rfl⟩ := List.mem_map.mp ha
    obtain ⟨q, hq, e⟩ := List.mem_map.mp hb'
    have h1 := D.own q hq
    rw [e, (hn p hp').2] at h1
    cases h1
  · intro p hm
    rcases List.mem_append.mp hm with hm | hm
    · cases q : V.kt.get p.1 with
      | none => rfl
      | some o => have := D.top _ _ q; rw [(hn p hm).2] at this; cases this
    · obtain ⟨q, hq, e⟩ := ad p hm
      rw [← e]; exact D.lo q hq
  · intro a o ea
    refine fr a o (D.top a o ea) fun hm => ?_
    obtain ⟨q, hq, e⟩ := pa a hm
    rw [← e, D.lo q hq] at ea; cases ea
  · intro p hm
    rcases List.mem_append.mp hm with hm | hm
    · by_cases hP : p.1 ∈ P0
      · exact .inl hP
      · right
        cases q : V.h₀.get? p.1 with
        | none => rfl
        | some o => have := D.keep _ _ q hP; rw [(hn p hm).2] at this; cases this
    · obtain ⟨q, hq, e⟩ := ad p hm
      rw [← e]; exact D.st q hq
  · intro b o eb hP
    refine fr b o (D.keep b o eb hP) fun hm => ?_
    obtain ⟨q, hq, e⟩ := pa b hm
    rcases D.st q hq with z | z
    · exact hP (e ▸ z)
    · rw [e, eb] at z; cases z
end

def skimL (V : XV) : Nat → Sem Fin → Sem Fin
  | q + 1, .load a _ k => match V.kt.get a with
    | some o => skimL V q (k o)
    | none => .unsupported ""
  | q + 1, .rule _ k => skimL V q (k ())
  | q + 1, .at _ k => skimL V q (k ())
  | q + 1, .ask k => skimL V q (k ⟨V.prog, V.w.params⟩)
  | _, t => t
noncomputable def ownS (i : Nat) (ih : Go) : Go := fun c md κ t s => match nth s.T i with
  | none => .bad
  | some e => match t with
    | .load a _ k => .chk (.n a) (.n e.1) (ih c md κ (k e.2) s)
    | .loadIfAlive a k => .chk (.n a) (.n e.1) (ih c md κ (k (some e.2)) s)
    | .update a _ f k => match (f e.2).isFreed with
      | true => .bad
      | false => .chk (.n a) (.n e.1) (ih c md κ (k ()) ⟨updAt s.T i (f e.2), s.b, s.j, s.t, s.i, s.gl⟩)
    | _ => .bad
noncomputable def stkS (V : XV) (D₀ U₀ : Nat) (G : Gk) (q : Nat) (ih : Go) : Go := fun c md κ t s => match t with
  | .stack k => .chk (.tree (.stack k)) (.tree (PySem.W.R.bindR G.tw (fun _ => skimL V q (k [])))) (.chk (.b (Nat.blt ((exA c md κ).1 + D₀) 1000)) (.b true) (.chk (.b (Nat.blt ((exA c md κ).2 + U₀) 9900)) (.b true)
      (ih c md κ (skimL V q (k [])) s)))
  | _ => .bad
noncomputable def valS (β : Type) (ext : Value → β) (v v' : β → Value) (ih : Go) : Go := fun c md κ t s => match t with
  | .pure fin => match fin with
    | .done f => match f with
      | .ret v₀ => .chk (.val v₀) (.val (v (ext v₀))) (ih c md κ (.pure (.done (.ret (v' (ext v₀))))) s)
      | _ => .bad
    | .again _ => .bad
  | _ => .bad
def treS (t t' : Sem Fin) (ih : Go) : Go := fun c md κ t₀ s => .chk (.tree t₀) (.tree t) (ih c md κ t' s)
noncomputable def brS (e : Bool) (ih1 : e = true → Go) (ih2 : e = false → Go) : Go := fun c md κ t s => match t with
  | .pure fin => match fin with
    | .done f => match f with
      | .ret v₀ => .chk (.val v₀) (.val (.bool e)) (.both (.all (PLift (e = true)) fun p _ _ => ih1 p.down c md κ (.pure (.done (.ret (.bool true)))) s) (.all (PLift (e = false)) fun p _ _ => ih2 p.down c md κ (.pure (.done (.ret (.bool false)))) s))
      | _ => .bad
    | .again _ => .bad
  | _ => .bad
noncomputable def cutC (V : XV) (D₀ U₀ D U : Nat) (c₀ : Code) (idx : List Nat) (pre : List En) (gl gl' : List GenState) (α : Type) (res : α → Result) (upd : α → List Obj) (new : α → List En) (ih : α → Nat → Nat → Go)
    (c : Code) (md : Option (List Frame)) (κ : Kont) (s : St) (c' : Code) (hd : Option Value) (k : Result → Sem Fin) : Res :=
  .chk (.b (nodupB idx)) (.b true) (.chk (.ens (picks s.T idx)) (.ens (pre.map some)) (.chk (.gl s.gl) (.gl gl)
    (.chk (.code c') (.code c₀) (.chk (.b (Nat.ble ((exA c md κ).1 + D₀) D)) (.b true) (.chk (.b (Nat.ble ((exA c md κ).2 + U₀) U)) (.b true) (.chk (.ov ((aOf V c md κ).mark hd).handled) (.ov none) (.chk (.b (okMark hd)) (.b true)
      (.all α fun x n tk => ih x n tk c md κ (k (res x)) ⟨new x ++ setAll s.T idx (upd x), n, 0, tk, 0, gl'⟩))))))))
noncomputable def cutA (V : XV) (D₀ U₀ D U : Nat) (c₀ : Code) (idx : List Nat) (pre : List En) (gl gl' : List GenState) (α : Type) (res : α → Result) (upd : α → List Obj) (new : α → List En) (ih : α → Nat → Nat → Go)
    (c : Code) (κ : Kont) (s : St) (c' : Code) : Res :=
  .chk (.b (nodupB idx)) (.b true) (.chk (.ens (picks s.T idx)) (.ens (pre.map some)) (.chk (.gl s.gl) (.gl gl)
    (.chk (.code c') (.code c₀) (.chk (.b (Nat.ble ((exK true κ).1 + D₀) D)) (.b true) (.chk (.b (Nat.ble ((exK true κ).2 + U₀) U)) (.b true) (.chk (.ov (aroundOf V true κ).handled) (.ov none) (.chk (.b c'.quiet) (.b true)
      (.all α fun x n tk => ih x n tk c none κ (leafOf (res x)) ⟨new x ++ setAll s.T idx (upd x), n, 0, tk, 0, gl'⟩))))))))
noncomputable def cutS (V : XV) (D₀ U₀ D U : Nat) (idx : List Nat) (β : Type) (ext : Code → List (Option En) → β) (c₀ : β → Code) (pre : β → List En) (gl gl' : List GenState) (α : Type) (res : β → α → Result) (upd : β → α → List Obj) (new : β → α → List En)
    (ih : β → α → Nat → Nat → Go) : Go := fun c md κ t s => match t with
  | .call c' hd _ _ k => (fun y => cutC V D₀ U₀ D U (c₀ y) idx (pre y) gl gl' α (res y) (upd y) (new y) (ih y) c md κ s c' hd k) (ext c' (picks s.T idx))
  | .pure fin => match fin with
    | .again c' => match md with
      | none => (fun y => cutA V D₀ U₀ D U (c₀ y) idx (pre y) gl gl' α (res y) (upd y) (new y) (ih y) c κ s c') (ext c' (picks s.T idx))
      | some _ => .bad
    | .done _ => .bad
  | _ => .bad
noncomputable def cutG (V : XV) (D₀ U₀ D U : Nat) (idx : List Nat) (β : Type) (ext : Code → List (Option En) → β) (c₀ : β → Code) (pre : β → List En) (α : Type) (res : β → α → Result) (upd : β → α → List Obj) (new : β → α → List En)
    (ih : β → α → Nat → Nat → Go) : Go := fun c md κ t s => cutS V D₀ U₀ D U idx β ext c₀ pre s.gl s.gl α res upd new ih c md κ t s
def leafR : Sem Fin → Option Result
  | .pure fin => match fin with
    | .done f => some (.ok f)
    | .again _ => none
  | .raise e => some (.error e)
  | _ => none
def finK {α₀ : Type} (P0 : List Addr) (res₀ : α₀ → Result) (upd₀ : α₀ → List Obj) (new₀ : α₀ → List En) (gl₀ : List GenState) (idx nw : List Nat) (s : St) (r : Result) (x : α₀) : Res :=
  .chk (.ens (picks s.T idx)) (.ens ((P0.zip (upd₀ x)).map some)) (.chk (.b (Nat.beq (upd₀ x).length P0.length)) (.b true) (.chk (.ens (picks s.T nw)) (.ens ((new₀ x).map some)) (.chk (.b (nodupB (idx ++ nw))) (.b true) (.chk (.gl s.gl) (.gl gl₀)
    (.chk (.res r) (.res (res₀ x)) .ok)))))
def finS {α₀ : Type} (P0 : List Addr) (res₀ : α₀ → Result) (upd₀ : α₀ → List Obj) (new₀ : α₀ → List En) (gl₀ : List GenState) (x : Result → List En → α₀) (idx nw : List Nat) : Go := fun _ md κ t s => match md with
  | some _ => .bad
  | none => match κ with
    | .base => match leafR t with
      | some r => finK P0 res₀ upd₀ new₀ gl₀ idx nw s r (x r s.T)
      | none => .bad
    | _ => .bad
noncomputable def go {α₀ : Type} (V : XV) (D₀ U₀ : Nat) (P0 : List Addr) (res₀ : α₀ → Result) (upd₀ : α₀ → List Obj) (new₀ : α₀ → List En) (gl₀ : List GenState) (hs : Hs V.prog V.w V.kt α₀) : Go :=
  Hs.rec (motive := fun _ => Go)
    (fun n x idx nw => plainN V (finS P0 res₀ upd₀ new₀ gl₀ x idx nw) n)
    (fun n i _ ih => plainN V (ownS i ih) n)
    (fun n G q _ ih => plainN V (stkS V D₀ U₀ G q ih) n)
    (fun n β ext v v' _ _ ih => plainN V (valS β ext v v' ih) n)
    (fun n t t' _ _ ih => plainN V (treS t t' ih) n)
    (fun n e _ _ ih1 ih2 => plainN V (brS e ih1 ih2) n)
    (fun n D U idx β ext c pre gl gl' α res upd new _ _ ih => plainN V (cutS V D₀ U₀ D U idx β ext c pre gl gl' α res upd new ih) n)
    (fun n D U idx β ext c pre α res upd new _ _ ih => plainN V (cutG V D₀ U₀ D U idx β ext c pre α res upd new ih) n) hs

section
variable {V : XV} {P0 : List Addr}
def Snd (V : XV) (P0 : List Addr) (ih : Go) : Prop := ∀ c md κ t s h, (ih c md κ t s).Ok → Rp V P0 h s → Means V c md κ t ⟨h, ⟨s.gl⟩, V.d, s.t + s.i, V.os⟩
theorem wake_snd {ih : Go} (IH : Snd V P0 ih) {e : End} {κ : Kont} {s : St} {h : Heap} (H : (wakeP ih e κ s).Ok) (D : Rp V P0 h s) : wakeOf V κ e ⟨h, ⟨s.gl⟩, V.d, s.t + s.i, V.os⟩ := by
  have D' : ∀ gl, Rp V P0 h { s with gl := gl } := fun gl => ⟨D.size, D.own, D.nd, D.lo, D.top, D.st, D.keep⟩
  cases κ with
  | base => exact H.elim
  | ret => exact H.elim
  | gen g c k κ =>
    have z := IH _ _ _ _ _ h H (D' _)
    rw [← set_gens] at z
    exact z
  | genS g c fs k κ =>
    have z := IH _ _ _ _ _ h H (D' _)
    rw [← set_gens] at z
    exact z
theorem ret_snd {ih : Go} (IH : Snd V P0 ih) {r : Result} {c : Code} {md : Option (List Frame)} {κ : Kont} {t : Sem Fin} (ht : t = leafOf r) {s : St} {h : Heap} (H : (retP ih r md κ s).Ok) (D : Rp V P0 h s) :
    Means V c md κ t ⟨h, ⟨s.gl⟩, V.d, s.t + s.i, V.os⟩ := by
  cases md with
  | none =>
    have key : endOf V κ r ⟨h, ⟨s.gl⟩, V.d, s.t + s.i, V.os⟩ := by
      cases κ with
      | ret c₁ hd k κ => exact IH _ _ _ _ _ h H D
      | base => exact H.elim
      | gen => exact H.elim
      | genS => exact H.elim
    cases r with
    | ok f => subst ht; exact y_pure _ _ _ _ _ _ _ _ _ (y_done _ _ _ _ _ _ key)
    | error e => subst ht; exact y_raise _ _ _ _ _ _ _ _ _ (y_err _ _ _ key)
  | some fs =>
    cases fs with
    | nil => exact s_end _ _ _ _ _ _ r t ht (wake_snd IH H D)
    | cons f fs =>
      cases f with
      | ret k hd g l c₁ p₁ kp => exact s_pop _ _ _ _ _ _ _ r t ht k hd g l c₁ p₁ kp (IH _ _ _ _ _ h H D)
      | gen => exact H.elim
end
end Mine
namespace Mine
open PySem PySem.Spec PySem.Calls PyProof.Rows PySem.W PySem.W.X

section
variable {V : XV} {P0 : List Addr}
theorem step_snd {ih : Go} (IH : Snd V P0 ih) : Snd V P0 (stepP V ih) := by
  intro c md κ t s h H D
  cases t with
  | pure fin =>
    cases fin with
    | done f => exact ret_snd IH rfl H D
    | again c' =>
      cases q : c'.quiet with
      | false => simp only [stepP, q] at H; exact H.elim
      | true =>
        simp only [stepP, q] at H
        have z := IH _ _ _ _ _ h H D
        rw [← den_eq] at z
        cases md with
        | none => exact y_pure _ _ _ _ _ _ _ _ _ (y_again _ _ _ _ _ _ q (y_code _ _ _ _ _ _ z))
        | some fs => exact s_again _ _ _ _ _ _ _ _ q z
  | raise e => exact ret_snd IH rfl H D
  | rule tag k => exact means_cmd (m := PySem.rule tag) (wpAny_rule (IH _ _ _ _ _ h H D))
  | «at» q k => exact means_cmd (m := standAt q) (wpAny_standAt (IH _ _ _ _ _ h H D))
  | point l k =>
    have z := IH _ _ _ _ _ h H D
    cases md with
    | none => exact y_skim _ _ _ _ _ _ _ _ _ 1 z
    | some fs => exact s_skim _ _ _ _ _ _ _ _ 1 z
  | ask k => exact means_cmd (m := PySem.ask) (wpAny_askSetting (IH _ _ _ _ _ h H D))
  | load a q k =>
    simp only [stepP] at H
    split at H
    · rename_i o e
      exact means_cmd (m := loadPart a q) (wpAny_loadPart (D.top a o e) (IH _ _ _ _ _ h H D))
    · exact H.elim
  | loadIfAlive a k =>
    simp only [stepP] at H
    split at H
    · rename_i o e
      have z := IH _ _ _ _ _ h H D
      have ho := D.top a o e
      cases md with
      | none => exact y_alive _ _ _ _ _ _ _ _ _ _ _ _ _ _ _ ho z
      | some fs => exact s_alive _ _ _ _ _ _ _ _ _ _ _ _ _ _ ho z
    · exact H.elim
  | alloc o k =>
    simp only [stepP] at H
    split at H
    · exact H.elim
    · rename_i hf
      have z := IH _ _ _ _ _ (h.push o) H (D.alloc hf)
      refine means_cmd (m := PySem.alloc o) (wpAny_alloc ?_)
      show Means V c md κ (k h.objs.size) _
      rw [D.size]
      exact z
  | update a q f k => exact H.elim
  | fresh k => exact means_cmd (m := PySem.fresh) (wpAny_fresh (IH _ _ _ _ _ h H ⟨D.size, D.own, D.nd, D.lo, D.top, D.st, D.keep⟩))
  | handled own k =>
    cases own with
    | true => exact H.elim
    | false => exact means_cmd (m := PySem.handled) (wpAny_handled (IH _ _ _ _ _ h H D))
  | stack k => exact H.elim
  | call c' hd g l k =>
    cases md with
    | none =>
      cases q : okMark hd with
      | false => simp only [stepP, q] at H; exact H.elim
      | true =>
        simp only [stepP, q] at H
        have hnb : hd ≠ some byPass := by
          intro e
          subst e
          simp [okMark] at q
        have z := IH _ _ _ _ _ h H D
        rw [← den_eq] at z
        exact y_call _ _ _ _ _ _ _ _ _ _ _ _ _ hnb (y_code _ _ _ _ _ _ z)
    | some fs =>
      refine s_call _ _ _ _ _ _ _ _ _ _ _ _ fun p => ?_
      have z := IH _ _ _ _ _ h (H p 0 0) D
      rw [← den_eq] at z
      exact z
  | newGen c' k =>
    have z := IH _ _ _ _ _ h H ⟨D.size, D.own, D.nd, D.lo, D.top, D.st, D.keep⟩
    cases md with
    | none => exact y_newGen _ _ _ _ _ _ _ _ _ _ _ _ _ _ (by rw [push_gens]; exact z)
    | some fs => exact s_newGen _ _ _ _ _ _ _ _ _ _ _ _ _ (by rw [push_gens]; exact z)
  | genState g k =>
    simp only [stepP] at H
    split at H
    · rename_i gs e
      have z := IH _ _ _ _ _ h H D
      cases md with
      | none => exact y_genState _ _ _ _ _ _ _ _ _ _ gs ((get_gens s.gl g).trans e) z
      | some fs => exact s_genState _ _ _ _ _ _ _ _ _ gs ((get_gens s.gl g).trans e) z
    · exact H.elim
  | resume g r l k =>
    simp only [stepP] at H
    have D' : ∀ gl, Rp V P0 h ⟨s.T, s.b, s.j, s.t, s.i, gl⟩ := fun gl => ⟨D.size, D.own, D.nd, D.lo, D.top, D.st, D.keep⟩
    split at H
    · rename_i gs e
      have hg : (⟨s.gl⟩ : Array GenState)[g]? = some gs := (get_gens s.gl g).trans e
      cases gs with
      | fresh c₀ =>
        cases r with
        | throw => exact H.elim
        | send v =>
          cases v with
          | none =>
            have z := IH _ _ _ _ _ h H (D' _)
            rw [← den_eq, ← set_gens] at z
            cases md with
            | none => exact y_resume_f _ _ _ _ _ _ _ _ _ _ _ _ hg z
            | some fs => exact s_resume_f _ _ _ _ _ _ _ _ _ _ _ hg z
          | _ => exact H.elim
      | suspended k₀ l₀ c₀ p₀ fs₀ cl =>
        have z := IH _ _ _ _ _ h H (D' _)
        rw [← set_gens] at z
        cases md with
        | none => exact y_resume_s _ _ _ _ _ _ _ _ _ _ _ _ _ _ _ _ _ _ hg z
        | some fs => exact s_resume_s _ _ _ _ _ _ _ _ _ _ _ _ _ _ _ _ _ hg z
      | running => exact H.elim
      | finished => exact H.elim
    · exact H.elim
  | yield v gd l k =>
    cases md with
    | none => exact H.elim
    | some fs =>
      cases gd with
      | true => exact H.elim
      | false =>
        cases hfs : splitAtGen fs with
        | some _ => simp only [stepP, hfs] at H; exact H.elim
        | none =>
          cases hfg : fs.any Frame.guarded with
          | true => simp only [stepP, hfs, hfg] at H; exact H.elim
          | false =>
            simp only [stepP, hfs, hfg] at H
            exact s_yield _ _ _ _ _ _ _ _ _ _ hfs hfg fun p => wake_snd IH (H p 0 0) D
  | unsupported => exact H.elim
  | finish => exact H.elim
  | register => exact H.elim
  | choose => exact H.elim
  | os => exact H.elim
  | fork => exact H.elim
  | thread => exact H.elim
  | await => exact H.elim
theorem plain_snd {fin : Go} (F : Snd V P0 fin) : ∀ n, Snd V P0 (plainN V fin n)
  | 0 => F
  | n + 1 => step_snd (plain_snd F n)
theorem own_snd {ih : Go} (IH : Snd V P0 ih) (i : Nat) : Snd V P0 (ownS i ih) := by
  intro c md κ t s h H D
  unfold ownS at H
  split at H
  · exact H.elim
  · rename_i e he
    have ho := D.own e (nth_mem he)
    cases t with
    | load a q k =>
      obtain ⟨h1, H⟩ := H
      have ha : a = e.1 := by injection h1
      subst ha
      exact means_cmd (m := loadPart e.1 q) (wpAny_loadPart ho (IH _ _ _ _ _ h H D))
    | loadIfAlive a k =>
      obtain ⟨h1, H⟩ := H
      have ha : a = e.1 := by injection h1
      subst ha
      have z := IH _ _ _ _ _ h H D
      cases md with
      | none => exact y_alive _ _ _ _ _ _ _ _ _ _ _ _ _ _ _ ho z
      | some fs => exact s_alive _ _ _ _ _ _ _ _ _ _ _ _ _ _ ho z
    | update a q f k =>
      cases hf : (f e.2).isFreed with
      | true => simp only [hf] at H; exact H.elim
      | false =>
        simp only [hf] at H
        obtain ⟨h1, H⟩ := H
        have ha : a = e.1 := by injection h1
        subst ha
        exact means_cmd (m := updatePart e.1 q f) (wpAny_updatePart ho (IH _ _ _ _ ⟨updAt s.T i (f e.2), s.b, s.j, s.t, s.i, s.gl⟩ _ H (D.update he hf)))
    | _ => exact H.elim
theorem stk_snd {D₀ U₀ : Nat} (hD : V.A₀.depth ≤ D₀) (hU : V.A₀.units ≤ U₀) (NL : ∀ h : Heap, (∀ a o, V.kt.get a = some o → h.get? a = some o) → h.NoLimit) {ih : Go} (IH : Snd V P0 ih) (G : Gk) (q : Nat) : Snd V P0 (stkS V D₀ U₀ G q ih) := by
  intro c md κ t s h H D
  cases t with
  | stack k =>
    obtain ⟨h1, h2, h3, H⟩ := H
    have e : Sem.stack k = PySem.W.R.bindR G.tw (fun _ => skimL V q (k [])) := by injection h1
    have d1 : (exA c md κ).1 + D₀ < 1000 := by
      have : Nat.blt ((exA c md κ).1 + D₀) 1000 = true := by injection h2
      exact Nat.le_of_ble_eq_true this
    have d2 : (exA c md κ).2 + U₀ < 9900 := by
      have : Nat.blt ((exA c md κ).2 + U₀) 9900 = true := by injection h3
      exact Nat.le_of_ble_eq_true this
    have ex := exA_ok V c md κ
    have z := IH _ _ _ _ _ h H D
    rw [e, ← PySem.W.R.bindR_eq, Gk.eq]
    have hd : (aOf V c md κ).depth < recursionLimit := by
      show _ < 1000
      omega
    have hu : (aOf V c md κ).units < cLine := by
      show _ < 9900
      omega
    cases G with
    | enter => exact means_cmd (m := enterFrame 0) (wpAny_enterFrame (NL h D.top) hd z)
    | room w => exact means_cmd (m := cRoom w) (wpAny_cRoom hu z)
    | wake => exact means_cmd (m := roomToWake) (wpAny_roomToWake (NL h D.top) hd z)
  | _ => exact H.elim
theorem val_snd {β : Type} {ext : Value → β} {v v' : β → Value} (hv : ∀ y, v y = v' y) {ih : Go} (IH : Snd V P0 ih) : Snd V P0 (valS β ext v v' ih) := by
  intro c md κ t s h H D
  cases t with
  | pure fin =>
    cases fin with
    | done f =>
      cases f with
      | ret v₀ =>
        obtain ⟨h1, H⟩ := H
        have e : v₀ = v (ext v₀) := by injection h1
        have e' : v₀ = v' (ext v₀) := e.trans (hv _)
        have z := IH _ _ _ _ _ h H D
        rw [← e'] at z
        exact z
      | _ => exact H.elim
    | again _ => exact H.elim
  | _ => exact H.elim
theorem tre_snd {t t' : Sem Fin} (ht : t = t') {ih : Go} (IH : Snd V P0 ih) : Snd V P0 (treS t t' ih) := by
  intro c md κ t₀ s h H D
  obtain ⟨h1, H⟩ := H
  have e : t₀ = t := by injection h1
  rw [e, ht]
  exact IH _ _ _ _ _ h H D
theorem br_snd {e : Bool} {ih1 : e = true → Go} {ih2 : e = false → Go} (IH1 : ∀ h, Snd V P0 (ih1 h)) (IH2 : ∀ h, Snd V P0 (ih2 h)) : Snd V P0 (brS e ih1 ih2) := by
  intro c md κ t s h H D
  cases t with
  | pure fin =>
    cases fin with
    | done f =>
      cases f with
      | ret v₀ =>
        obtain ⟨h1, H1, H2⟩ := H
        have e' : v₀ = .bool e := by injection h1
        subst e'
        cases q : e with
        | true => subst q; exact IH1 rfl _ _ _ _ _ h (H1 ⟨rfl⟩ 0 0) D
        | false => subst q; exact IH2 rfl _ _ _ _ _ h (H2 ⟨rfl⟩ 0 0) D
      | _ => exact H.elim
    | again _ => exact H.elim
  | _ => exact H.elim
theorem cutC_snd {D₀ U₀ D U : Nat} (hD : V.A₀.depth ≤ D₀) (hU : V.A₀.units ≤ U₀) {c₀ : Code} {idx : List Nat} {pre : List En} {gl gl' : List GenState} {α : Type} {res : α → Result} {upd : α → List Obj} {new : α → List En}
    (C : Ctr V.prog V.w V.kt D U c₀ pre gl gl' res upd new) {ih : α → Nat → Nat → Go} (IH : ∀ x n t, Snd V P0 (ih x n t)) (c : Code) (md : Option (List Frame)) (κ : Kont) (s : St) (c' : Code) (hd : Option Value) (g : Bool) (l : List Value) (k : Result → Sem Fin) (h : Heap)
    (H : (cutC V D₀ U₀ D U c₀ idx pre gl gl' α res upd new ih c md κ s c' hd k).Ok) (Dp : Rp V P0 h s) : Means V c md κ (.call c' hd g l k) ⟨h, ⟨s.gl⟩, V.d, s.t + s.i, V.os⟩ := by
  obtain ⟨h1, h2, h3, h4, h5, h6, h7, h8, H⟩ := H
  have hi : idx.Nodup := nodupB_ok (by injection h1)
  have hp : picks s.T idx = pre.map some := by injection h2
  have hg : s.gl = gl := by injection h3
  have pr : ∀ p ∈ pre, h.get? p.1 = some p.2 := fun p hm => Dp.own p (Dp.pick hp hm)
  have pn : (pre.map Prod.fst).Nodup := picks_nodup Dp.nd hi hp
  have pl : ∀ p ∈ pre, V.kt.get p.1 = none := fun p hm => Dp.lo p (Dp.pick hp hm)
  have hc : c' = c₀ := by injection h4
  have d1 : (exA c md κ).1 + D₀ ≤ D := by
    have : Nat.ble ((exA c md κ).1 + D₀) D = true := by injection h5
    exact Nat.le_of_ble_eq_true this
  have d2 : (exA c md κ).2 + U₀ ≤ U := by
    have : Nat.ble ((exA c md κ).2 + U₀) U = true := by injection h6
    exact Nat.le_of_ble_eq_true this
  have hh : ((aOf V c md κ).mark hd).handled = none := by injection h7
  have hm : okMark hd = true := by injection h8
  have hnb : hd ≠ some byPass := by
    intro e
    subst e
    simp [okMark] at hm
  have ex := exA_ok V c md κ
  subst hc
  rw [hg]
  refine means_cmd (m := Sem.call c' hd g l Sem.pure) (k := k) (x_call (C ((aOf V c md κ).mark hd) _ h V.d V.os (s.t + s.i) hh ?_ ?_ Dp.top pr pn pl ?_) hnb)
  · show (aOf V c md κ).depth ≤ D
    omega
  · show (aOf V c md κ).units ≤ U
    omega
  · intro x h' tok' fr hl hu hn nn
    refine x_pure ?_
    exact IH x h'.objs.size tok' _ _ _ _ _ h' (H x h'.objs.size tok') (Dp.cut hi hp fr hl hu hn nn)
theorem cutA_snd {D₀ U₀ D U : Nat} (hD : V.A₀.depth ≤ D₀) (hU : V.A₀.units ≤ U₀) {c₀ : Code} {idx : List Nat} {pre : List En} {gl gl' : List GenState} {α : Type} {res : α → Result} {upd : α → List Obj} {new : α → List En}
    (C : Ctr V.prog V.w V.kt D U c₀ pre gl gl' res upd new) {ih : α → Nat → Nat → Go} (IH : ∀ x n t, Snd V P0 (ih x n t)) (c : Code) (κ : Kont) (s : St) (c' : Code) (h : Heap)
    (H : (cutA V D₀ U₀ D U c₀ idx pre gl gl' α res upd new ih c κ s c').Ok) (Dp : Rp V P0 h s) : Means V c none κ (.pure (.again c')) ⟨h, ⟨s.gl⟩, V.d, s.t + s.i, V.os⟩ := by
  obtain ⟨h1, h2, h3, h4, h5, h6, h7, h8, H⟩ := H
  have hi : idx.Nodup := nodupB_ok (by injection h1)
  have hp : picks s.T idx = pre.map some := by injection h2
  have hg : s.gl = gl := by injection h3
  have pr : ∀ p ∈ pre, h.get? p.1 = some p.2 := fun p hm => Dp.own p (Dp.pick hp hm)
  have pn : (pre.map Prod.fst).Nodup := picks_nodup Dp.nd hi hp
  have pl : ∀ p ∈ pre, V.kt.get p.1 = none := fun p hm => Dp.lo p (Dp.pick hp hm)
  have hc : c' = c₀ := by injection h4
  have d1 : (exK true κ).1 + D₀ ≤ D := by
    have : Nat.ble ((exK true κ).1 + D₀) D = true := by injection h5
    exact Nat.le_of_ble_eq_true this
  have d2 : (exK true κ).2 + U₀ ≤ U := by
    have : Nat.ble ((exK true κ).2 + U₀) U = true := by injection h6
    exact Nat.le_of_ble_eq_true this
  have hh : (aroundOf V true κ).handled = none := by injection h7
  have hq : c'.quiet = true := by injection h8
  have ex := exK_ok V true κ
  subst hc
  rw [hg]
  refine y_pure _ _ _ _ _ _ _ _ _ (y_again _ _ _ _ _ _ hq (fun Γ p hcΓ hΓ => wpCode_mono (fun r s' z => ?_) (C (aroundOf V true κ) (fun r s' => Means V c none κ (leafOf r) s') h V.d V.os (s.t + s.i) hh ?_ ?_ Dp.top pr pn pl ?_ Γ p hcΓ hΓ)))
  · cases r with
    | ok f => exact z (Γ.goto c) p rfl (hΓ.goto c)
    | error e => exact z (Γ.goto c) p rfl (hΓ.goto c)
  · omega
  · omega
  · intro x h' tok' fr hl hu hn nn
    exact IH x h'.objs.size tok' _ _ _ _ _ h' (H x h'.objs.size tok') (Dp.cut hi hp fr hl hu hn nn)
theorem cut_snd {D₀ U₀ D U : Nat} (hD : V.A₀.depth ≤ D₀) (hU : V.A₀.units ≤ U₀) {idx : List Nat} {β : Type} {ext : Code → List (Option En) → β} {c₀ : β → Code} {pre : β → List En} {gl gl' : List GenState} {α : Type} {res : β → α → Result} {upd : β → α → List Obj} {new : β → α → List En}
    (C : ∀ y, Ctr V.prog V.w V.kt D U (c₀ y) (pre y) gl gl' (res y) (upd y) (new y)) {ih : β → α → Nat → Nat → Go} (IH : ∀ y x n t, Snd V P0 (ih y x n t)) : Snd V P0 (cutS V D₀ U₀ D U idx β ext c₀ pre gl gl' α res upd new ih) := by
  intro c md κ t s h H Dp
  cases t with
  | call c' hd g l k => exact cutC_snd hD hU (C _) (IH _) c md κ s c' hd g l k h H Dp
  | pure fin =>
    cases fin with
    | done f => exact H.elim
    | again c' =>
      cases md with
      | some fs => exact H.elim
      | none => exact cutA_snd hD hU (C _) (IH _) c κ s c' h H Dp
  | _ => exact H.elim
theorem cutG_snd {D₀ U₀ D U : Nat} (hD : V.A₀.depth ≤ D₀) (hU : V.A₀.units ≤ U₀) {idx : List Nat} {β : Type} {ext : Code → List (Option En) → β} {c₀ : β → Code} {pre : β → List En} {α : Type} {res : β → α → Result} {upd : β → α → List Obj} {new : β → α → List En}
    (C : ∀ y gl, Ctr V.prog V.w V.kt D U (c₀ y) (pre y) gl gl (res y) (upd y) (new y)) {ih : β → α → Nat → Nat → Go} (IH : ∀ y x n t, Snd V P0 (ih y x n t)) : Snd V P0 (cutG V D₀ U₀ D U idx β ext c₀ pre α res upd new ih) :=
  fun c md κ t s h H Dp => cut_snd hD hU (fun y => C y s.gl) IH c md κ t s h H Dp
end
end Mine
namespace Mine
open PySem PySem.Spec PySem.Calls PyProof.Rows PySem.W PySem.W.X

section
variable {V : XV} {P0 : List Addr}
theorem fin_snd {α₀ : Type} {res₀ : α₀ → Result} {upd₀ : α₀ → List Obj} {new₀ : α₀ → List En} {gl₀ : List GenState}
    (HR : ∀ (x : α₀) (h' : Heap) (tok' : Nat), (∀ b o, V.h₀.get? b = some o → b ∉ P0 → h'.get? b = some o) → (upd₀ x).length = P0.length → (∀ p ∈ P0.zip (upd₀ x), h'.get? p.1 = some p.2) →
      (∀ p ∈ new₀ x, h'.get? p.1 = some p.2 ∧ V.h₀.get? p.1 = none) → ((new₀ x).map Prod.fst).Nodup → V.R₀ (res₀ x) ⟨h', ⟨gl₀⟩, V.d, tok', V.os⟩)
    (x : Result → List En → α₀) (idx nw : List Nat) : Snd V P0 (finS P0 res₀ upd₀ new₀ gl₀ x idx nw) := by
  intro c md κ t s h H D
  cases md with
  | some fs => exact H.elim
  | none =>
    cases κ with
    | ret => exact H.elim
    | gen => exact H.elim
    | genS => exact H.elim
    | base =>
      have key : ∀ r X, (finK P0 res₀ upd₀ new₀ gl₀ idx nw s r X).Ok → V.R₀ r ⟨h, ⟨s.gl⟩, V.d, s.t + s.i, V.os⟩ := by
        rintro r X ⟨h1, h2, h3, h4, h5, h6, _⟩
        have p1 : picks s.T idx = (P0.zip (upd₀ X)).map some := by injection h1
        have p2 : (upd₀ X).length = P0.length := by
          have : Nat.beq (upd₀ X).length P0.length = true := by injection h2
          exact Nat.eq_of_beq_eq_true this
        have p3 : picks s.T nw = (new₀ X).map some := by injection h3
        have p4 : (idx ++ nw).Nodup := nodupB_ok (by injection h4)
        have p5 : s.gl = gl₀ := by injection h5
        have p6 : r = res₀ X := by injection h6
        have pa : picks s.T (idx ++ nw) = (P0.zip (upd₀ X) ++ new₀ X).map some := by rw [picks_append, p1, p3, List.map_append]
        have nd := picks_nodup D.nd p4 pa
        rw [List.map_append] at nd
        have zf : (P0.zip (upd₀ X)).map Prod.fst = P0 := List.map_fst_zip (by rw [p2]; exact Nat.le_refl _)
        rw [zf] at nd
        rw [p5, p6]
        refine HR X h _ D.keep p2 (fun p hm => D.own p (D.pick p1 hm)) (fun p hm => ⟨D.own p (D.pick p3 hm), ?_⟩) (List.nodup_append.mp nd).2.1
        rcases D.st p (D.pick p3 hm) with q | q
        · exact absurd rfl ((List.nodup_append.mp nd).2.2 p.1 q p.1 (List.mem_map_of_mem hm))
        · exact q
      cases t with
      | pure fin =>
        cases fin with
        | done f => exact y_pure _ _ _ _ _ _ _ _ _ (y_done _ _ _ _ _ _ (key _ _ H))
        | again c' => exact H.elim
      | raise e => exact y_raise _ _ _ _ _ _ _ _ _ (y_err _ _ _ (key _ _ H))
      | _ => exact H.elim
theorem go_snd {α₀ : Type} {res₀ : α₀ → Result} {upd₀ : α₀ → List Obj} {new₀ : α₀ → List En} {gl₀ : List GenState} {D₀ U₀ : Nat} (hD : V.A₀.depth ≤ D₀) (hU : V.A₀.units ≤ U₀)
    (NL : ∀ h : Heap, (∀ a o, V.kt.get a = some o → h.get? a = some o) → h.NoLimit)
    (HR : ∀ (x : α₀) (h' : Heap) (tok' : Nat), (∀ b o, V.h₀.get? b = some o → b ∉ P0 → h'.get? b = some o) → (upd₀ x).length = P0.length → (∀ p ∈ P0.zip (upd₀ x), h'.get? p.1 = some p.2) →
      (∀ p ∈ new₀ x, h'.get? p.1 = some p.2 ∧ V.h₀.get? p.1 = none) → ((new₀ x).map Prod.fst).Nodup → V.R₀ (res₀ x) ⟨h', ⟨gl₀⟩, V.d, tok', V.os⟩)
    (hs : Hs V.prog V.w V.kt α₀) : Snd V P0 (go V D₀ U₀ P0 res₀ upd₀ new₀ gl₀ hs) := by
  induction hs with
  | fin n x idx nw => exact plain_snd (fin_snd HR x idx nw) n
  | own n i r ih => exact plain_snd (own_snd ih i) n
  | stk n G q r ih => exact plain_snd (stk_snd hD hU NL ih G q) n
  | val n β ext v v' h r ih => exact plain_snd (val_snd h ih) n
  | tre n t t' h r ih => exact plain_snd (tre_snd h ih) n
  | br n e r1 r2 ih1 ih2 => exact plain_snd (br_snd ih1 ih2) n
  | cut n D U idx β ext c pre gl gl' α res upd new h r ih => exact plain_snd (cut_snd hD hU h ih) n
  | cutg n D U idx β ext c pre α res upd new h r ih => exact plain_snd (cutG_snd hD hU h ih) n
end

theorem Ctr.of_go {prog : Program} {w : World} {kt : KT} {D U : Nat} {c : Code} {pre : List En} {gl gl' : List GenState} {α : Type} {res : α → Result} {upd : α → List Obj} {new : α → List En}
    (NL : ∀ h : Heap, (∀ a o, kt.get a = some o → h.get? a = some o) → h.NoLimit) (hs : Hs prog w kt α)
    (H : ∀ (h : Heap) (dep : Nat) (fr : Option (List Env)) (gd : Option (List Code)) (un : Nat) (R : Result → Shared → Prop) (d : Drawn) (os : OsState) (tok b : Nat),
      (go ⟨prog, w, h, 0, kt, [], ⟨none, dep, fr, gd, un⟩, R, d, 0, os⟩ D U (pre.map Prod.fst) res upd new gl' hs c none .base (den c) ⟨pre, b, 0, tok, 0, gl⟩).ls =
      (go ⟨prog, w, h, 0, kt, [], ⟨none, dep, fr, gd, un⟩, R, d, 0, os⟩ D U (pre.map Prod.fst) res upd new gl' hs c none .base (den c) ⟨pre, b, 0, tok, 0, gl⟩).rs) :
    Ctr prog w kt D U c pre gl gl' res upd new := by
  intro A R h d os tok hh hD hU ht hp hn hl hR
  obtain ⟨hd, dep, fr, gd, un⟩ := A
  have hh' : hd = none := hh
  subst hh'
  have ok := Res.ok_of _ (H h dep fr gd un R d os tok h.objs.size)
  have z := go_snd (V := ⟨prog, w, h, 0, kt, [], ⟨none, dep, fr, gd, un⟩, R, d, 0, os⟩) (P0 := pre.map Prod.fst) (gl₀ := gl') hD hU NL
    (fun x h' tok' k1 k2 k3 k4 k5 => hR x h' tok' k1 (by rw [k2, List.length_map]) k3 k4 k5) hs c none .base (den c) ⟨pre, h.objs.size, 0, tok, 0, gl⟩ h ok
    ⟨rfl, hp, hn, hl, ht, fun p hm => .inl (List.mem_map_of_mem hm), fun b o e _ => e⟩
  rw [← den_eq] at z
  exact y_code _ _ _ _ _ _ z
end Mine
namespace Mine
open PySem PySem.Spec PySem.Calls PyProof.Rows PySem.W PySem.W.X

def holdIds : List String := ["bytearray.__contains__", "bytearray.__mod__", "bytearray.__rmod__", "_struct.pack_into.held", "bytearray.find.held"]
/-- a code that holds no bytearray while it stands in the stack -/
def harmless : Code → Bool
  | .builtin id _ => !(holdIds.contains id || Builtin.Bytes.decodersThatHold.contains id)
  | _ => true
def PB (l : List (Code × Pos)) : Prop := ∀ x ∈ l, harmless x.1 = true
def OwnP {α : Type} (M : Model) (A : Around) (c : Code) (t : Sem α) (Q : α → Shared → Prop) (E : Value → Shared → Prop) (s : Shared) : Prop :=
  ∀ Γ p, Γ.code = c → Γ.Below A → PB Γ.below → Sem.wp M Γ t (fun a _ s' => Q a s') (fun e _ s' => E e s') p s
def codeP (M : Model) (A : Around) (c : Code) (R : Result → Shared → Prop) (s : Shared) : Prop :=
  ∀ Γ p, Γ.code = c → Γ.Below A → PB Γ.below → wpCode M Γ R p s
theorem codeP_of_any {M : Model} {A : Around} {c : Code} {R : Result → Shared → Prop} {s : Shared} (h : codeAny M A c R s) : codeP M A c R s := fun Γ p hc hΓ _ => h Γ p hc hΓ
section
variable {α β : Type} {M : Model} {A : Around} {c : Code} {E : Value → Shared → Prop} {s : Shared}
theorem OwnP.of_own {t : Sem α} {Q : α → Shared → Prop} (h : wpOwn M A c t Q E s) : OwnP M A c t Q E s := fun Γ p hc hΓ _ => h Γ p hc hΓ
theorem OwnP.bind {m : Sem α} {f : α → Sem β} {Q : β → Shared → Prop} (h : OwnP M A c m (fun a s' => OwnP M A c (f a) Q E s') E s) : OwnP M A c (m.bind f) Q E s := fun Γ p hc hΓ hP => by
  rw [Sem.wp_bind]
  exact Sem.wp_mono M Γ m (fun a p' s' h' => h' Γ p' hc hΓ hP) (fun _ _ _ h' => h') p s (h Γ p hc hΓ hP)
theorem OwnP.cmd {m : Sem α} {f : α → Sem β} {Q : β → Shared → Prop} (h : wpAny M (A.under c) m (fun a s' => OwnP M A c (f a) Q E s') E s) : OwnP M A c (m.bind f) Q E s := .bind (.of_own (wpOwn_of_wpAny h))
end
def postP (prog : Program) (w : World) (A : Around) (R : Result → Shared → Prop) : Fin → Shared → Prop := fun fin s' => match fin with
  | .done f => R (.ok f) s'
  | .again c' => c'.quiet = true ∧ codeP (model prog w) A c' R s'
theorem codeP_of_own {prog : Program} {w : World} {A : Around} {c : Code} {R : Result → Shared → Prop} {s : Shared} (h : OwnP (model prog w) A c (denote table c) (postP prog w A R) (postE R) s) : codeP (model prog w) A c R s := fun Γ p hc hΓ hP => by
  rw [wpCode_iff_wp, hc]
  refine Sem.wp_mono _ Γ _ (fun fin p' s' h' => ?_) (fun _ _ _ h' => h') p s (h Γ p hc hΓ hP)
  cases fin with
  | done f => exact h'
  | again c' => exact ⟨h'.1, h'.2 (Γ.goto c') p' rfl (hΓ.goto c') hP⟩
def endP (V : XV) : Kont → Result → Shared → Prop
  | .base => V.R₀
  | .ret c _ k κ => fun r s' => OwnP (model V.prog V.w) (aroundOf V true κ) c (k r) (postP V.prog V.w (aroundOf V true κ) (endP V κ)) (postE (endP V κ)) s'
  | .gen .. => fun _ _ => False
  | .genS .. => fun _ _ => False
def MeansP (V : XV) (c : Code) (κ : Kont) (t : Sem Fin) (s : Shared) : Prop :=
  OwnP (model V.prog V.w) (aroundOf V true κ) c t (postP V.prog V.w (aroundOf V true κ) (endP V κ)) (postE (endP V κ)) s

/-- a contract that counts only where nothing in the stack holds a bytearray -/
def CtrP (prog : Program) (w : World) (kt : KT) (D U : Nat) (c : Code) (pre : List En) {α : Type} (gl gl' : List GenState) (res : α → Result) (upd : α → List Obj) (new : α → List En) : Prop :=
  ∀ (A : Around) (R : Result → Shared → Prop) (h : Heap) (d : Drawn) (os : OsState) (tok : Nat),
    A.handled = none → A.depth ≤ D → A.units ≤ U →
    (∀ a o, kt.get a = some o → h.get? a = some o) → (∀ p ∈ pre, h.get? p.1 = some p.2) → (pre.map Prod.fst).Nodup → (∀ p ∈ pre, kt.get p.1 = none) →
    (∀ (x : α) (h' : Heap) (tok' : Nat), (∀ b o, h.get? b = some o → b ∉ pre.map Prod.fst → h'.get? b = some o) → (upd x).length = pre.length →
      (∀ p ∈ (pre.map Prod.fst).zip (upd x), h'.get? p.1 = some p.2) → (∀ p ∈ new x, h'.get? p.1 = some p.2 ∧ h.get? p.1 = none) → ((new x).map Prod.fst).Nodup →
      R (res x) ⟨h', ⟨gl'⟩, d, tok', os⟩) →
    codeP (model prog w) A c R ⟨h, ⟨gl⟩, d, tok, os⟩
theorem Ctr.toP {prog : Program} {w : World} {kt : KT} {D U : Nat} {c : Code} {pre : List En} {gl gl' : List GenState} {α : Type} {res : α → Result} {upd : α → List Obj} {new : α → List En}
    (C : Ctr prog w kt D U c pre gl gl' res upd new) : CtrP prog w kt D U c pre gl gl' res upd new :=
  fun A R h d os tok a1 a2 a3 a4 a5 a6 a7 a8 => codeP_of_any (C A R h d os tok a1 a2 a3 a4 a5 a6 a7 a8)

inductive Hp (prog : Program) (w : World) (kt : KT) (α₀ : Type) : Type 1
  | fin (n : Nat) (x : Result → List En → α₀) (idx nw : List Nat)
  | own (n i : Nat) (r : Hp prog w kt α₀)
  | stk (n : Nat) (G : Gk) (q : Nat) (r : Hp prog w kt α₀)
  | val (n : Nat) (β : Type) (ext : Value → β) (v v' : β → Value) (h : ∀ y, v y = v' y) (r : Hp prog w kt α₀)
  | br (n : Nat) (e : Bool) (r1 : e = true → Hp prog w kt α₀) (r2 : e = false → Hp prog w kt α₀)
  | cut (n D U : Nat) (idx : List Nat) (β : Type) (ext : Code → List (Option En) → β) (c : β → Code) (pre : β → List En) (gl gl' : List GenState) (α : Type) (res : β → α → Result) (upd : β → α → List Obj) (new : β → α → List En)
      (h : ∀ y, CtrP prog w kt D U (c y) (pre y) gl gl' (res y) (upd y) (new y)) (r : β → α → Nat → Nat → Hp prog w kt α₀)
  | cutg (n D U : Nat) (idx : List Nat) (β : Type) (ext : Code → List (Option En) → β) (c : β → Code) (pre : β → List En) (α : Type) (res : β → α → Result) (upd : β → α → List Obj) (new : β → α → List En)
      (h : ∀ y gl, CtrP prog w kt D U (c y) (pre y) gl gl (res y) (upd y) (new y)) (r : β → α → Nat → Nat → Hp prog w kt α₀)
abbrev GoP := Code → Kont → Sem Fin → St → Res
def retQ (ih : GoP) (r : Result) (κ : Kont) (s : St) : Res := match κ with
  | .ret c₁ _ k κ' => ih c₁ κ' (k r) s
  | .base => .bad
  | .gen .. => .bad
  | .genS .. => .bad
noncomputable def stepQ (V : XV) (ih : GoP) : GoP := fun c κ t s => match t with
  | .pure fin => match fin with
    | .done f => retQ ih (.ok f) κ s
    | .again c' => match c'.quiet with
      | true => ih c' κ (den c') s
      | false => .bad
  | .raise e => retQ ih (.error e) κ s
  | .rule _ k => ih c κ (k ()) s
  | .at _ k => ih c κ (k ()) s
  | .point _ k => ih c κ (k ()) s
  | .ask k => ih c κ (k ⟨V.prog, V.w.params⟩) s
  | .load a _ k => match V.kt.get a with
    | some o => ih c κ (k o) s
    | none => .bad
  | .loadIfAlive a k => match V.kt.get a with
    | some o => ih c κ (k (some o)) s
    | none => .bad
  | .alloc o k => match o.isFreed with
    | true => .bad
    | false => ih c κ (k (s.b + s.j)) ⟨(s.b + s.j, o) :: s.T, s.b, s.j + 1, s.t, s.i, s.gl⟩
  | .fresh k => ih c κ (k (s.t + s.i)) ⟨s.T, s.b, s.j, s.t, s.i + 1, s.gl⟩
  | .handled own k => match own with
    | false => ih c κ (k (aOf V c none κ).handled) s
    | true => .bad
  | .call c' hd _ _ k => match okMark hd with
    | true => .chk (.b (harmless c)) (.b true) (ih c' (.ret c hd k κ) (den c') s)
    | false => .bad
  | .newGen .. => .bad
  | .genState .. => .bad
  | .resume .. => .bad
  | .yield .. => .bad
  | .update .. => .bad
  | .stack _ => .bad
  | .unsupported _ => .bad
  | .finish _ => .bad
  | .register .. => .bad
  | .choose .. => .bad
  | .os .. => .bad
  | .fork .. => .bad
  | .thread _ => .bad
  | .await .. => .bad
noncomputable def plainQ (V : XV) (fin : GoP) : Nat → GoP
  | 0 => fin
  | n + 1 => stepQ V (plainQ V fin n)
noncomputable def ownQ (i : Nat) (ih : GoP) : GoP := fun c κ t s => match nth s.T i with
  | none => .bad
  | some e => match t with
    | .load a _ k => .chk (.n a) (.n e.1) (ih c κ (k e.2) s)
    | .loadIfAlive a k => .chk (.n a) (.n e.1) (ih c κ (k (some e.2)) s)
    | .update a _ f k => match (f e.2).isFreed with
      | true => .bad
      | false => .chk (.n a) (.n e.1) (ih c κ (k ()) ⟨updAt s.T i (f e.2), s.b, s.j, s.t, s.i, s.gl⟩)
    | _ => .bad
noncomputable def stkQ (V : XV) (D₀ U₀ : Nat) (G : Gk) (q : Nat) (ih : GoP) : GoP := fun c κ t s => match t with
  | .stack k => .chk (.tree (.stack k)) (.tree (PySem.W.R.bindR G.tw (fun _ => skimL V q (k [])))) (.chk (.b (Nat.blt ((exA c none κ).1 + D₀) 1000)) (.b true) (.chk (.b (Nat.blt ((exA c none κ).2 + U₀) 9900)) (.b true)
      (ih c κ (skimL V q (k [])) s)))
  | _ => .bad
noncomputable def valQ (β : Type) (ext : Value → β) (v v' : β → Value) (ih : GoP) : GoP := fun c κ t s => match t with
  | .pure fin => match fin with
    | .done f => match f with
      | .ret v₀ => .chk (.val v₀) (.val (v (ext v₀))) (ih c κ (.pure (.done (.ret (v' (ext v₀))))) s)
      | _ => .bad
    | .again _ => .bad
  | _ => .bad
noncomputable def brQ (e : Bool) (ih1 : e = true → GoP) (ih2 : e = false → GoP) : GoP := fun c κ t s => match t with
  | .pure fin => match fin with
    | .done f => match f with
      | .ret v₀ => .chk (.val v₀) (.val (.bool e)) (.both (.all (PLift (e = true)) fun p _ _ => ih1 p.down c κ (.pure (.done (.ret (.bool true)))) s) (.all (PLift (e = false)) fun p _ _ => ih2 p.down c κ (.pure (.done (.ret (.bool false)))) s))
      | _ => .bad
    | .again _ => .bad
  | _ => .bad
noncomputable def cutD (V : XV) (D₀ U₀ D U : Nat) (c₀ : Code) (idx : List Nat) (pre : List En) (gl gl' : List GenState) (α : Type) (res : α → Result) (upd : α → List Obj) (new : α → List En) (ih : α → Nat → Nat → GoP)
    (c : Code) (κ : Kont) (s : St) (c' : Code) (hd : Option Value) (k : Result → Sem Fin) : Res :=
  .chk (.b (nodupB idx)) (.b true) (.chk (.ens (picks s.T idx)) (.ens (pre.map some)) (.chk (.gl s.gl) (.gl gl)
    (.chk (.code c') (.code c₀) (.chk (.b (Nat.ble ((exA c none κ).1 + D₀) D)) (.b true) (.chk (.b (Nat.ble ((exA c none κ).2 + U₀) U)) (.b true) (.chk (.ov ((aOf V c none κ).mark hd).handled) (.ov none) (.chk (.b (okMark hd)) (.b true) (.chk (.b (harmless c)) (.b true)
      (.all α fun x n tk => ih x n tk c κ (k (res x)) ⟨new x ++ setAll s.T idx (upd x), n, 0, tk, 0, gl'⟩)))))))))
noncomputable def cutB (V : XV) (D₀ U₀ D U : Nat) (c₀ : Code) (idx : List Nat) (pre : List En) (gl gl' : List GenState) (α : Type) (res : α → Result) (upd : α → List Obj) (new : α → List En) (ih : α → Nat → Nat → GoP)
    (c : Code) (κ : Kont) (s : St) (c' : Code) : Res :=
  .chk (.b (nodupB idx)) (.b true) (.chk (.ens (picks s.T idx)) (.ens (pre.map some)) (.chk (.gl s.gl) (.gl gl)
    (.chk (.code c') (.code c₀) (.chk (.b (Nat.ble ((exK true κ).1 + D₀) D)) (.b true) (.chk (.b (Nat.ble ((exK true κ).2 + U₀) U)) (.b true) (.chk (.ov (aroundOf V true κ).handled) (.ov none) (.chk (.b c'.quiet) (.b true)
      (.all α fun x n tk => ih x n tk c κ (leafOf (res x)) ⟨new x ++ setAll s.T idx (upd x), n, 0, tk, 0, gl'⟩))))))))
noncomputable def cutQ (V : XV) (D₀ U₀ D U : Nat) (idx : List Nat) (β : Type) (ext : Code → List (Option En) → β) (c₀ : β → Code) (pre : β → List En) (gl gl' : List GenState) (α : Type) (res : β → α → Result) (upd : β → α → List Obj) (new : β → α → List En)
    (ih : β → α → Nat → Nat → GoP) : GoP := fun c κ t s => match t with
  | .call c' hd _ _ k => (fun y => cutD V D₀ U₀ D U (c₀ y) idx (pre y) gl gl' α (res y) (upd y) (new y) (ih y) c κ s c' hd k) (ext c' (picks s.T idx))
  | .pure fin => match fin with
    | .again c' => (fun y => cutB V D₀ U₀ D U (c₀ y) idx (pre y) gl gl' α (res y) (upd y) (new y) (ih y) c κ s c') (ext c' (picks s.T idx))
    | .done _ => .bad
  | _ => .bad
noncomputable def cutGQ (V : XV) (D₀ U₀ D U : Nat) (idx : List Nat) (β : Type) (ext : Code → List (Option En) → β) (c₀ : β → Code) (pre : β → List En) (α : Type) (res : β → α → Result) (upd : β → α → List Obj) (new : β → α → List En)
    (ih : β → α → Nat → Nat → GoP) : GoP := fun c κ t s => cutQ V D₀ U₀ D U idx β ext c₀ pre s.gl s.gl α res upd new ih c κ t s
def finQ {α₀ : Type} (P0 : List Addr) (res₀ : α₀ → Result) (upd₀ : α₀ → List Obj) (new₀ : α₀ → List En) (gl₀ : List GenState) (x : Result → List En → α₀) (idx nw : List Nat) : GoP := fun _ κ t s => match κ with
  | .base => match leafR t with
    | some r => finK P0 res₀ upd₀ new₀ gl₀ idx nw s r (x r s.T)
    | none => .bad
  | .ret .. => .bad
  | .gen .. => .bad
  | .genS .. => .bad
noncomputable def goP {prog : Program} {w : World} {kt : KT} (V : XV) (D₀ U₀ : Nat) {α₀ : Type} (P0 : List Addr) (res₀ : α₀ → Result) (upd₀ : α₀ → List Obj) (new₀ : α₀ → List En) (gl₀ : List GenState) (hs : Hp prog w kt α₀) : GoP :=
  Hp.rec (motive := fun _ => GoP)
    (fun n x idx nw => plainQ V (finQ P0 res₀ upd₀ new₀ gl₀ x idx nw) n)
    (fun n i _ ih => plainQ V (ownQ i ih) n)
    (fun n G q _ ih => plainQ V (stkQ V D₀ U₀ G q ih) n)
    (fun n β ext v v' _ _ ih => plainQ V (valQ β ext v v' ih) n)
    (fun n e _ _ ih1 ih2 => plainQ V (brQ e ih1 ih2) n)
    (fun n D U idx β ext c pre gl gl' α res upd new _ _ ih => plainQ V (cutQ V D₀ U₀ D U idx β ext c pre gl gl' α res upd new ih) n)
    (fun n D U idx β ext c pre α res upd new _ _ ih => plainQ V (cutGQ V D₀ U₀ D U idx β ext c pre α res upd new ih) n) hs

section
variable {V : XV} {P0 : List Addr}
def SndP (V : XV) (P0 : List Addr) (ih : GoP) : Prop := ∀ c κ t s h, (ih c κ t s).Ok → Rp V P0 h s → MeansP V c κ t ⟨h, ⟨s.gl⟩, V.d, s.t + s.i, V.os⟩
theorem aRet (c : Code) (hd : Option Value) (k : Result → Sem Fin) (κ : Kont) : aroundOf V true (.ret c hd k κ) = ((aroundOf V true κ).under c).mark hd := rfl
theorem PB.push {c : Code} {p : Pos} {l : List (Code × Pos)} (hc : harmless c = true) (h : PB l) : PB ((c, p) :: l) := fun x hx => by
  rcases List.mem_cons.mp hx with rfl | hx
  · exact hc
  · exact h x hx
theorem retQ_snd {ih : GoP} (IH : SndP V P0 ih) {r : Result} {c : Code} {κ : Kont} {t : Sem Fin} (ht : t = leafOf r) {s : St} {h : Heap} (H : (retQ ih r κ s).Ok) (D : Rp V P0 h s) :
    MeansP V c κ t ⟨h, ⟨s.gl⟩, V.d, s.t + s.i, V.os⟩ := by
  subst ht
  cases κ with
  | ret c₁ hd k κ' =>
    have z := IH _ _ _ _ h H D
    cases r with
    | ok f => exact fun _ _ _ _ _ => z
    | error e => exact fun _ _ _ _ _ => z
  | base => exact H.elim
  | gen => exact H.elim
  | genS => exact H.elim
theorem stepQ_snd {ih : GoP} (IH : SndP V P0 ih) : SndP V P0 (stepQ V ih) := by
  intro c κ t s h H D
  cases t with
  | pure fin =>
    cases fin with
    | done f => exact retQ_snd IH rfl H D
    | again c' =>
      cases q : c'.quiet with
      | false => simp only [stepQ, q] at H; exact H.elim
      | true =>
        simp only [stepQ, q] at H
        have z := IH _ _ _ _ h H D
        rw [← den_eq] at z
        exact fun _ _ _ _ _ => ⟨q, codeP_of_own z⟩
  | raise e => exact retQ_snd IH rfl H D
  | rule tag k => exact .cmd (m := PySem.rule tag) (wpAny_rule (IH _ _ _ _ h H D))
  | «at» q k => exact .cmd (m := standAt q) (wpAny_standAt (IH _ _ _ _ h H D))
  | point l k => exact fun Γ p hc hΓ hP => IH _ _ _ _ h H D Γ p hc hΓ hP
  | ask k => exact .cmd (m := PySem.ask) (wpAny_askSetting (IH _ _ _ _ h H D))
  | load a q k =>
    simp only [stepQ] at H
    split at H
    · rename_i o e
      exact .cmd (m := loadPart a q) (wpAny_loadPart (D.top a o e) (IH _ _ _ _ h H D))
    · exact H.elim
  | loadIfAlive a k =>
    simp only [stepQ] at H
    split at H
    · rename_i o e
      have z := IH _ _ _ _ h H D
      have ho := D.top a o e
      exact fun Γ p hc hΓ hP => by
        show Sem.wp _ _ (k (h.get? a)) _ _ _ _
        rw [ho]; exact z Γ p hc hΓ hP
    · exact H.elim
  | alloc o k =>
    simp only [stepQ] at H
    split at H
    · exact H.elim
    · rename_i hf
      have z := IH _ _ _ _ (h.push o) H (D.alloc hf)
      refine .cmd (m := PySem.alloc o) (wpAny_alloc ?_)
      show MeansP V c κ (k h.objs.size) _
      rw [D.size]
      exact z
  | update a q f k => exact H.elim
  | fresh k => exact .cmd (m := PySem.fresh) (wpAny_fresh (IH _ _ _ _ h H ⟨D.size, D.own, D.nd, D.lo, D.top, D.st, D.keep⟩))
  | handled own k =>
    cases own with
    | true => exact H.elim
    | false => exact .cmd (m := PySem.handled) (wpAny_handled (IH _ _ _ _ h H D))
  | stack k => exact H.elim
  | call c' hd g l k =>
    cases q : okMark hd with
    | false => simp only [stepQ, q] at H; exact H.elim
    | true =>
      simp only [stepQ, q] at H
      obtain ⟨h1, H⟩ := H
      have hq : harmless c = true := by injection h1
      have hnb : hd ≠ some byPass := by
        intro e
        subst e
        simp [okMark] at q
      have z := IH _ _ _ _ h H D
      rw [← den_eq] at z
      intro Γ p hc hΓ hP
      exact wpCode_mono (fun _ _ w => w Γ p hc hΓ hP) (codeP_of_own z (Γ.enter c' hd p) p rfl ((hc ▸ hΓ.in : Γ.In ((aroundOf V true κ).under c)).enter c' hd p hnb) (PB.push (hc ▸ hq) hP))
  | newGen => exact H.elim
  | genState => exact H.elim
  | resume => exact H.elim
  | yield => exact H.elim
  | unsupported => exact H.elim
  | finish => exact H.elim
  | register => exact H.elim
  | choose => exact H.elim
  | os => exact H.elim
  | fork => exact H.elim
  | thread => exact H.elim
  | await => exact H.elim
theorem plainQ_snd {fin : GoP} (F : SndP V P0 fin) : ∀ n, SndP V P0 (plainQ V fin n)
  | 0 => F
  | n + 1 => stepQ_snd (plainQ_snd F n)
theorem ownQ_snd {ih : GoP} (IH : SndP V P0 ih) (i : Nat) : SndP V P0 (ownQ i ih) := by
  intro c κ t s h H D
  unfold ownQ at H
  split at H
  · exact H.elim
  · rename_i e he
    have ho := D.own e (nth_mem he)
    cases t with
    | load a q k =>
      obtain ⟨h1, H⟩ := H
      have ha : a = e.1 := by injection h1
      subst ha
      exact .cmd (m := loadPart e.1 q) (wpAny_loadPart ho (IH _ _ _ _ h H D))
    | loadIfAlive a k =>
      obtain ⟨h1, H⟩ := H
      have ha : a = e.1 := by injection h1
      subst ha
      have z := IH _ _ _ _ h H D
      exact fun Γ p hc hΓ hP => by
        show Sem.wp _ _ (k (h.get? e.1)) _ _ _ _
        rw [ho]; exact z Γ p hc hΓ hP
    | update a q f k =>
      cases hf : (f e.2).isFreed with
      | true => simp only [hf] at H; exact H.elim
      | false =>
        simp only [hf] at H
        obtain ⟨h1, H⟩ := H
        have ha : a = e.1 := by injection h1
        subst ha
        exact .cmd (m := updatePart e.1 q f) (wpAny_updatePart ho (IH _ _ _ ⟨updAt s.T i (f e.2), s.b, s.j, s.t, s.i, s.gl⟩ _ H (D.update he hf)))
    | _ => exact H.elim
theorem stkQ_snd {D₀ U₀ : Nat} (hD : V.A₀.depth ≤ D₀) (hU : V.A₀.units ≤ U₀) (NL : ∀ h : Heap, (∀ a o, V.kt.get a = some o → h.get? a = some o) → h.NoLimit) {ih : GoP} (IH : SndP V P0 ih) (G : Gk) (q : Nat) : SndP V P0 (stkQ V D₀ U₀ G q ih) := by
  intro c κ t s h H D
  cases t with
  | stack k =>
    obtain ⟨h1, h2, h3, H⟩ := H
    have e : Sem.stack k = PySem.W.R.bindR G.tw (fun _ => skimL V q (k [])) := by injection h1
    have d1 : (exA c none κ).1 + D₀ < 1000 := by
      have : Nat.blt ((exA c none κ).1 + D₀) 1000 = true := by injection h2
      exact Nat.le_of_ble_eq_true this
    have d2 : (exA c none κ).2 + U₀ < 9900 := by
      have : Nat.blt ((exA c none κ).2 + U₀) 9900 = true := by injection h3
      exact Nat.le_of_ble_eq_true this
    have ex := exA_ok V c none κ
    have z := IH _ _ _ _ h H D
    rw [e, ← PySem.W.R.bindR_eq, Gk.eq]
    have hd : (aOf V c none κ).depth < recursionLimit := by
      show _ < 1000
      omega
    have hu : (aOf V c none κ).units < cLine := by
      show _ < 9900
      omega
    cases G with
    | enter => exact .cmd (m := enterFrame 0) (wpAny_enterFrame (NL h D.top) hd z)
    | room w => exact .cmd (m := cRoom w) (wpAny_cRoom hu z)
    | wake => exact .cmd (m := roomToWake) (wpAny_roomToWake (NL h D.top) hd z)
  | _ => exact H.elim
theorem valQ_snd {β : Type} {ext : Value → β} {v v' : β → Value} (hv : ∀ y, v y = v' y) {ih : GoP} (IH : SndP V P0 ih) : SndP V P0 (valQ β ext v v' ih) := by
  intro c κ t s h H D
  cases t with
  | pure fin =>
    cases fin with
    | done f =>
      cases f with
      | ret v₀ =>
        obtain ⟨h1, H⟩ := H
        have e : v₀ = v (ext v₀) := by injection h1
        have e' : v₀ = v' (ext v₀) := e.trans (hv _)
        have z := IH _ _ _ _ h H D
        rw [← e'] at z
        exact z
      | _ => exact H.elim
    | again _ => exact H.elim
  | _ => exact H.elim
theorem brQ_snd {e : Bool} {ih1 : e = true → GoP} {ih2 : e = false → GoP} (IH1 : ∀ h, SndP V P0 (ih1 h)) (IH2 : ∀ h, SndP V P0 (ih2 h)) : SndP V P0 (brQ e ih1 ih2) := by
  intro c κ t s h H D
  cases t with
  | pure fin =>
    cases fin with
    | done f =>
      cases f with
      | ret v₀ =>
        obtain ⟨h1, H1, H2⟩ := H
        have e' : v₀ = .bool e := by injection h1
        subst e'
        cases q : e with
        | true => subst q; exact IH1 rfl _ _ _ _ h (H1 ⟨rfl⟩ 0 0) D
        | false => subst q; exact IH2 rfl _ _ _ _ h (H2 ⟨rfl⟩ 0 0) D
      | _ => exact H.elim
    | again _ => exact H.elim
  | _ => exact H.elim
theorem cutD_snd {D₀ U₀ D U : Nat} (hD : V.A₀.depth ≤ D₀) (hU : V.A₀.units ≤ U₀) {c₀ : Code} {idx : List Nat} {pre : List En} {gl gl' : List GenState} {α : Type} {res : α → Result} {upd : α → List Obj} {new : α → List En}
    (C : CtrP V.prog V.w V.kt D U c₀ pre gl gl' res upd new) {ih : α → Nat → Nat → GoP} (IH : ∀ x n t, SndP V P0 (ih x n t)) (c : Code) (κ : Kont) (s : St) (c' : Code) (hd : Option Value) (g : Bool) (l : List Value) (k : Result → Sem Fin) (h : Heap)
    (H : (cutD V D₀ U₀ D U c₀ idx pre gl gl' α res upd new ih c κ s c' hd k).Ok) (Dp : Rp V P0 h s) : MeansP V c κ (.call c' hd g l k) ⟨h, ⟨s.gl⟩, V.d, s.t + s.i, V.os⟩ := by
  obtain ⟨h1, h2, h3, h4, h5, h6, h7, h8, h9, H⟩ := H
  have hi : idx.Nodup := nodupB_ok (by injection h1)
  have hp : picks s.T idx = pre.map some := by injection h2
  have hg : s.gl = gl := by injection h3
  have pr : ∀ p ∈ pre, h.get? p.1 = some p.2 := fun p hm => Dp.own p (Dp.pick hp hm)
  have pn : (pre.map Prod.fst).Nodup := picks_nodup Dp.nd hi hp
  have pl : ∀ p ∈ pre, V.kt.get p.1 = none := fun p hm => Dp.lo p (Dp.pick hp hm)
  have hc : c' = c₀ := by injection h4
  have d1 : (exA c none κ).1 + D₀ ≤ D := by
    have : Nat.ble ((exA c none κ).1 + D₀) D = true := by injection h5
    exact Nat.le_of_ble_eq_true this
  have d2 : (exA c none κ).2 + U₀ ≤ U := by
    have : Nat.ble ((exA c none κ).2 + U₀) U = true := by injection h6
    exact Nat.le_of_ble_eq_true this
  have hh : ((aOf V c none κ).mark hd).handled = none := by injection h7
  have hm : okMark hd = true := by injection h8
  have hq : harmless c = true := by injection h9
  have hnb : hd ≠ some byPass := by
    intro e
    subst e
    simp [okMark] at hm
  have ex := exA_ok V c none κ
  subst hc
  rw [hg]
  intro Γ p hcΓ hΓ hP
  refine wpCode_mono (fun _ _ w => w Γ p hcΓ hΓ hP) (C (((aroundOf V true κ).under c).mark hd) (endP V (.ret c hd k κ)) h V.d V.os (s.t + s.i) hh ?_ ?_ Dp.top pr pn pl ?_ (Γ.enter c' hd p) p rfl
    ((hcΓ ▸ hΓ.in : Γ.In ((aroundOf V true κ).under c)).enter c' hd p hnb) (PB.push (hcΓ ▸ hq) hP))
  · show (aOf V c none κ).depth ≤ D
    omega
  · show (aOf V c none κ).units ≤ U
    omega
  · intro x h' tok' fr hl hu hn nn
    exact IH x h'.objs.size tok' _ _ _ _ h' (H x h'.objs.size tok') (Dp.cut hi hp fr hl hu hn nn)
theorem cutB_snd {D₀ U₀ D U : Nat} (hD : V.A₀.depth ≤ D₀) (hU : V.A₀.units ≤ U₀) {c₀ : Code} {idx : List Nat} {pre : List En} {gl gl' : List GenState} {α : Type} {res : α → Result} {upd : α → List Obj} {new : α → List En}
    (C : CtrP V.prog V.w V.kt D U c₀ pre gl gl' res upd new) {ih : α → Nat → Nat → GoP} (IH : ∀ x n t, SndP V P0 (ih x n t)) (c : Code) (κ : Kont) (s : St) (c' : Code) (h : Heap)
    (H : (cutB V D₀ U₀ D U c₀ idx pre gl gl' α res upd new ih c κ s c').Ok) (Dp : Rp V P0 h s) : MeansP V c κ (.pure (.again c')) ⟨h, ⟨s.gl⟩, V.d, s.t + s.i, V.os⟩ := by
  obtain ⟨h1, h2, h3, h4, h5, h6, h7, h8, H⟩ := H
  have hi : idx.Nodup := nodupB_ok (by injection h1)
  have hp : picks s.T idx = pre.map some := by injection h2
  have hg : s.gl = gl := by injection h3
  have pr : ∀ p ∈ pre, h.get? p.1 = some p.2 := fun p hm => Dp.own p (Dp.pick hp hm)
  have pn : (pre.map Prod.fst).Nodup := picks_nodup Dp.nd hi hp
  have pl : ∀ p ∈ pre, V.kt.get p.1 = none := fun p hm => Dp.lo p (Dp.pick hp hm)
  have hc : c' = c₀ := by injection h4
  have d1 : (exK true κ).1 + D₀ ≤ D := by
    have : Nat.ble ((exK true κ).1 + D₀) D = true := by injection h5
    exact Nat.le_of_ble_eq_true this
  have d2 : (exK true κ).2 + U₀ ≤ U := by
    have : Nat.ble ((exK true κ).2 + U₀) U = true := by injection h6
    exact Nat.le_of_ble_eq_true this
  have hh : (aroundOf V true κ).handled = none := by injection h7
  have hq : c'.quiet = true := by injection h8
  have ex := exK_ok V true κ
  subst hc
  rw [hg]
  refine fun _ _ _ _ _ => ⟨hq, fun Γ p hcΓ hΓ hP => wpCode_mono (fun r s' z => ?_) (C (aroundOf V true κ) (fun r s' => MeansP V c κ (leafOf r) s') h V.d V.os (s.t + s.i) hh ?_ ?_ Dp.top pr pn pl ?_ Γ p hcΓ hΓ hP)⟩
  · cases r with
    | ok f => exact z (Γ.goto c) p rfl (hΓ.goto c) hP
    | error e => exact z (Γ.goto c) p rfl (hΓ.goto c) hP
  · omega
  · omega
  · intro x h' tok' fr hl hu hn nn
    exact IH x h'.objs.size tok' _ _ _ _ h' (H x h'.objs.size tok') (Dp.cut hi hp fr hl hu hn nn)
theorem cutQ_snd {D₀ U₀ D U : Nat} (hD : V.A₀.depth ≤ D₀) (hU : V.A₀.units ≤ U₀) {idx : List Nat} {β : Type} {ext : Code → List (Option En) → β} {c₀ : β → Code} {pre : β → List En} {gl gl' : List GenState} {α : Type} {res : β → α → Result} {upd : β → α → List Obj} {new : β → α → List En}
    (C : ∀ y, CtrP V.prog V.w V.kt D U (c₀ y) (pre y) gl gl' (res y) (upd y) (new y)) {ih : β → α → Nat → Nat → GoP} (IH : ∀ y x n t, SndP V P0 (ih y x n t)) : SndP V P0 (cutQ V D₀ U₀ D U idx β ext c₀ pre gl gl' α res upd new ih) := by
  intro c κ t s h H Dp
  cases t with
  | call c' hd g l k => exact cutD_snd hD hU (C _) (IH _) c κ s c' hd g l k h H Dp
  | pure fin =>
    cases fin with
    | done f => exact H.elim
    | again c' => exact cutB_snd hD hU (C _) (IH _) c κ s c' h H Dp
  | _ => exact H.elim
theorem cutGQ_snd {D₀ U₀ D U : Nat} (hD : V.A₀.depth ≤ D₀) (hU : V.A₀.units ≤ U₀) {idx : List Nat} {β : Type} {ext : Code → List (Option En) → β} {c₀ : β → Code} {pre : β → List En} {α : Type} {res : β → α → Result} {upd : β → α → List Obj} {new : β → α → List En}
    (C : ∀ y gl, CtrP V.prog V.w V.kt D U (c₀ y) (pre y) gl gl (res y) (upd y) (new y)) {ih : β → α → Nat → Nat → GoP} (IH : ∀ y x n t, SndP V P0 (ih y x n t)) : SndP V P0 (cutGQ V D₀ U₀ D U idx β ext c₀ pre α res upd new ih) :=
  fun c κ t s h H Dp => cutQ_snd hD hU (fun y => C y s.gl) IH c κ t s h H Dp
theorem finQ_snd {α₀ : Type} {res₀ : α₀ → Result} {upd₀ : α₀ → List Obj} {new₀ : α₀ → List En} {gl₀ : List GenState}
    (HR : ∀ (x : α₀) (h' : Heap) (tok' : Nat), (∀ b o, V.h₀.get? b = some o → b ∉ P0 → h'.get? b = some o) → (upd₀ x).length = P0.length → (∀ p ∈ P0.zip (upd₀ x), h'.get? p.1 = some p.2) →
      (∀ p ∈ new₀ x, h'.get? p.1 = some p.2 ∧ V.h₀.get? p.1 = none) → ((new₀ x).map Prod.fst).Nodup → V.R₀ (res₀ x) ⟨h', ⟨gl₀⟩, V.d, tok', V.os⟩)
    (x : Result → List En → α₀) (idx nw : List Nat) : SndP V P0 (finQ P0 res₀ upd₀ new₀ gl₀ x idx nw) := by
  intro c κ t s h H D
  cases κ with
  | ret => exact H.elim
  | gen => exact H.elim
  | genS => exact H.elim
  | base =>
    have key : ∀ r X, (finK P0 res₀ upd₀ new₀ gl₀ idx nw s r X).Ok → V.R₀ r ⟨h, ⟨s.gl⟩, V.d, s.t + s.i, V.os⟩ := by
      rintro r X ⟨h1, h2, h3, h4, h5, h6, _⟩
      have p1 : picks s.T idx = (P0.zip (upd₀ X)).map some := by injection h1
      have p2 : (upd₀ X).length = P0.length := by
        have : Nat.beq (upd₀ X).length P0.length = true := by injection h2
        exact Nat.eq_of_beq_eq_true this
      have p3 : picks s.T nw = (new₀ X).map some := by injection h3
      have p4 : (idx ++ nw).Nodup := nodupB_ok (by injection h4)
      have p5 : s.gl = gl₀ := by injection h5
      have p6 : r = res₀ X := by injection h6
      have pa : picks s.T (idx ++ nw) = (P0.zip (upd₀ X) ++ new₀ X).map some := by rw [picks_append, p1, p3, List.map_append]
      have nd := picks_nodup D.nd p4 pa
      rw [List.map_append] at nd
      have zf : (P0.zip (upd₀ X)).map Prod.fst = P0 := List.map_fst_zip (by rw [p2]; exact Nat.le_refl _)
      rw [zf] at nd
      rw [p5, p6]
      refine HR X h _ D.keep p2 (fun p hm => D.own p (D.pick p1 hm)) (fun p hm => ⟨D.own p (D.pick p3 hm), ?_⟩) (List.nodup_append.mp nd).2.1
      rcases D.st p (D.pick p3 hm) with q | q
      · exact absurd rfl ((List.nodup_append.mp nd).2.2 p.1 q p.1 (List.mem_map_of_mem hm))
      · exact q
    cases t with
    | pure fin =>
      cases fin with
      | done f => exact fun _ _ _ _ _ => key _ _ H
      | again c' => exact H.elim
    | raise e => exact fun _ _ _ _ _ => key _ _ H
    | _ => exact H.elim
theorem goP_snd {α₀ : Type} {res₀ : α₀ → Result} {upd₀ : α₀ → List Obj} {new₀ : α₀ → List En} {gl₀ : List GenState} {D₀ U₀ : Nat} (hD : V.A₀.depth ≤ D₀) (hU : V.A₀.units ≤ U₀)
    (NL : ∀ h : Heap, (∀ a o, V.kt.get a = some o → h.get? a = some o) → h.NoLimit)
    (HR : ∀ (x : α₀) (h' : Heap) (tok' : Nat), (∀ b o, V.h₀.get? b = some o → b ∉ P0 → h'.get? b = some o) → (upd₀ x).length = P0.length → (∀ p ∈ P0.zip (upd₀ x), h'.get? p.1 = some p.2) →
      (∀ p ∈ new₀ x, h'.get? p.1 = some p.2 ∧ V.h₀.get? p.1 = none) → ((new₀ x).map Prod.fst).Nodup → V.R₀ (res₀ x) ⟨h', ⟨gl₀⟩, V.d, tok', V.os⟩)
    (hs : Hp V.prog V.w V.kt α₀) : SndP V P0 (goP V D₀ U₀ P0 res₀ upd₀ new₀ gl₀ hs) := by
  induction hs with
  | fin n x idx nw => exact plainQ_snd (finQ_snd HR x idx nw) n
  | own n i r ih => exact plainQ_snd (ownQ_snd ih i) n
  | stk n G q r ih => exact plainQ_snd (stkQ_snd hD hU NL ih G q) n
  | val n β ext v v' h r ih => exact plainQ_snd (valQ_snd h ih) n
  | br n e r1 r2 ih1 ih2 => exact plainQ_snd (brQ_snd ih1 ih2) n
  | cut n D U idx β ext c pre gl gl' α res upd new h r ih => exact plainQ_snd (cutQ_snd hD hU h ih) n
  | cutg n D U idx β ext c pre α res upd new h r ih => exact plainQ_snd (cutGQ_snd hD hU h ih) n
end

theorem CtrP.of_go {prog : Program} {w : World} {kt : KT} {D U : Nat} {c : Code} {pre : List En} {gl gl' : List GenState} {α : Type} {res : α → Result} {upd : α → List Obj} {new : α → List En}
    (NL : ∀ h : Heap, (∀ a o, kt.get a = some o → h.get? a = some o) → h.NoLimit) (hs : Hp prog w kt α)
    (H : ∀ (h : Heap) (dep : Nat) (fr : Option (List Env)) (gd : Option (List Code)) (un : Nat) (R : Result → Shared → Prop) (d : Drawn) (os : OsState) (tok b : Nat),
      (goP ⟨prog, w, h, 0, kt, [], ⟨none, dep, fr, gd, un⟩, R, d, 0, os⟩ D U (pre.map Prod.fst) res upd new gl' hs c .base (den c) ⟨pre, b, 0, tok, 0, gl⟩).ls =
      (goP ⟨prog, w, h, 0, kt, [], ⟨none, dep, fr, gd, un⟩, R, d, 0, os⟩ D U (pre.map Prod.fst) res upd new gl' hs c .base (den c) ⟨pre, b, 0, tok, 0, gl⟩).rs) :
    CtrP prog w kt D U c pre gl gl' res upd new := by
  intro A R h d os tok hh hD hU ht hp hn hl hR
  obtain ⟨hd, dep, fr, gd, un⟩ := A
  have hh' : hd = none := hh
  subst hh'
  have ok := Res.ok_of _ (H h dep fr gd un R d os tok h.objs.size)
  have z := goP_snd (V := ⟨prog, w, h, 0, kt, [], ⟨none, dep, fr, gd, un⟩, R, d, 0, os⟩) (P0 := pre.map Prod.fst) (gl₀ := gl') hD hU NL
    (fun x h' tok' k1 k2 k3 k4 k5 => hR x h' tok' k1 (by rw [k2, List.length_map]) k3 k4 k5) hs c .base (den c) ⟨pre, h.objs.size, 0, tok, 0, gl⟩ h ok
    ⟨rfl, hp, hn, hl, ht, fun p hm => .inl (List.mem_map_of_mem hm), fun b o e _ => e⟩
  rw [← den_eq] at z
  exact codeP_of_own z
end Mine
namespace Mine
open PySem PySem.Spec PySem.Calls PyProof.Rows PySem.W PySem.W.X

/-- the engine at a known stack: what lies below is named, item by item -/
abbrev Stk := List (Code × Pos)
def OwnX {α : Type} (M : Model) (A : Around) (bl : Stk) (c : Code) (t : Sem α) (Q : α → Shared → Prop) (E : Value → Shared → Prop) (s : Shared) : Prop :=
  ∀ Γ p, Γ.code = c → Γ.Below A → Γ.below = bl → Sem.wp M Γ t (fun a _ s' => Q a s') (fun e _ s' => E e s') p s
def codeX (M : Model) (A : Around) (bl : Stk) (c : Code) (R : Result → Shared → Prop) (s : Shared) : Prop :=
  ∀ Γ p, Γ.code = c → Γ.Below A → Γ.below = bl → wpCode M Γ R p s
section
variable {α β : Type} {M : Model} {A : Around} {bl : Stk} {c : Code} {E : Value → Shared → Prop} {s : Shared}
theorem OwnX.of_own {t : Sem α} {Q : α → Shared → Prop} (h : wpOwn M A c t Q E s) : OwnX M A bl c t Q E s := fun Γ p hc hΓ _ => h Γ p hc hΓ
theorem OwnX.bind {m : Sem α} {f : α → Sem β} {Q : β → Shared → Prop} (h : OwnX M A bl c m (fun a s' => OwnX M A bl c (f a) Q E s') E s) : OwnX M A bl c (m.bind f) Q E s := fun Γ p hc hΓ hP => by
  rw [Sem.wp_bind]
  exact Sem.wp_mono M Γ m (fun a p' s' h' => h' Γ p' hc hΓ hP) (fun _ _ _ h' => h') p s (h Γ p hc hΓ hP)
theorem OwnX.cmd {m : Sem α} {f : α → Sem β} {Q : β → Shared → Prop} (h : wpAny M (A.under c) m (fun a s' => OwnX M A bl c (f a) Q E s') E s) : OwnX M A bl c (m.bind f) Q E s := .bind (.of_own (wpOwn_of_wpAny h))
end
def postX (prog : Program) (w : World) (A : Around) (bl : Stk) (R : Result → Shared → Prop) : Fin → Shared → Prop := fun fin s' => match fin with
  | .done f => R (.ok f) s'
  | .again c' => c'.quiet = true ∧ codeX (model prog w) A bl c' R s'
theorem codeX_of_own {prog : Program} {w : World} {A : Around} {bl : Stk} {c : Code} {R : Result → Shared → Prop} {s : Shared} (h : OwnX (model prog w) A bl c (denote table c) (postX prog w A bl R) (postE R) s) : codeX (model prog w) A bl c R s := fun Γ p hc hΓ hP => by
  rw [wpCode_iff_wp, hc]
  refine Sem.wp_mono _ Γ _ (fun fin p' s' h' => ?_) (fun _ _ _ h' => h') p s (h Γ p hc hΓ hP)
  cases fin with
  | done f => exact h'
  | again c' => exact ⟨h'.1, h'.2 (Γ.goto c') p' rfl (hΓ.goto c') hP⟩
def endX (V : XV) : Stk → Kont → Result → Shared → Prop
  | _, .base => V.R₀
  | [], .ret .. => fun _ _ => False
  | _ :: bl, .ret c _ k κ => fun r s' => OwnX (model V.prog V.w) (aroundOf V true κ) bl c (k r) (postX V.prog V.w (aroundOf V true κ) bl (endX V bl κ)) (postE (endX V bl κ)) s'
  | _, .gen .. => fun _ _ => False
  | _, .genS .. => fun _ _ => False
def MeansX (V : XV) (bl : Stk) (c : Code) (κ : Kont) (t : Sem Fin) (s : Shared) : Prop :=
  OwnX (model V.prog V.w) (aroundOf V true κ) bl c t (postX V.prog V.w (aroundOf V true κ) bl (endX V bl κ)) (postE (endX V bl κ)) s

/-- a contract that counts at one stack -/
def CtrX (prog : Program) (w : World) (kt : KT) (D U : Nat) (bl : Stk) (c : Code) (pre : List En) {α : Type} (gl gl' : List GenState) (res : α → Result) (upd : α → List Obj) (new : α → List En) : Prop :=
  ∀ (A : Around) (R : Result → Shared → Prop) (h : Heap) (d : Drawn) (os : OsState) (tok : Nat),
    A.handled = none → A.depth ≤ D → A.units ≤ U →
    (∀ a o, kt.get a = some o → h.get? a = some o) → (∀ p ∈ pre, h.get? p.1 = some p.2) → (pre.map Prod.fst).Nodup → (∀ p ∈ pre, kt.get p.1 = none) →
    (∀ (x : α) (h' : Heap) (tok' : Nat), (∀ b o, h.get? b = some o → b ∉ pre.map Prod.fst → h'.get? b = some o) → (upd x).length = pre.length →
      (∀ p ∈ (pre.map Prod.fst).zip (upd x), h'.get? p.1 = some p.2) → (∀ p ∈ new x, h'.get? p.1 = some p.2 ∧ h.get? p.1 = none) → ((new x).map Prod.fst).Nodup →
      R (res x) ⟨h', ⟨gl'⟩, d, tok', os⟩) →
    codeX (model prog w) A bl c R ⟨h, ⟨gl⟩, d, tok, os⟩
section
variable {prog : Program} {w : World} {kt : KT} {D U : Nat} {c : Code} {pre : List En} {gl gl' : List GenState} {α : Type} {res : α → Result} {upd : α → List Obj} {new : α → List En}
theorem Ctr.toX (C : Ctr prog w kt D U c pre gl gl' res upd new) (bl : Stk) : CtrX prog w kt D U bl c pre gl gl' res upd new :=
  fun A R h d os tok a1 a2 a3 a4 a5 a6 a7 a8 Γ p b1 b2 _ => C A R h d os tok a1 a2 a3 a4 a5 a6 a7 a8 Γ p b1 b2
theorem CtrP.toX (C : CtrP prog w kt D U c pre gl gl' res upd new) {bl : Stk} (hb : PB bl) : CtrX prog w kt D U bl c pre gl gl' res upd new :=
  fun A R h d os tok a1 a2 a3 a4 a5 a6 a7 a8 Γ p b1 b2 b3 => C A R h d os tok a1 a2 a3 a4 a5 a6 a7 a8 Γ p b1 b2 (b3 ▸ hb)
end

inductive Hx (prog : Program) (w : World) (kt : KT) (α₀ : Type) : Type 1
  | fin (n : Nat) (x : Result → List En → α₀) (idx nw : List Nat)
  | own (n i : Nat) (r : Hx prog w kt α₀)
  | val (n : Nat) (β : Type) (ext : Value → β) (v v' : β → Value) (h : ∀ y, v y = v' y) (r : Hx prog w kt α₀)
  | br (n : Nat) (e : Bool) (r1 : e = true → Hx prog w kt α₀) (r2 : e = false → Hx prog w kt α₀)
  | cut (n D U : Nat) (idx : List Nat) (β : Type) (ext : Code → List (Option En) → List GenState → Stk → β) (c : β → Code) (bel : β → Stk) (pre : β → List En) (gl gl' : β → List GenState) (α : Type) (res : β → α → Result) (upd : β → α → List Obj) (new : β → α → List En)
      (h : ∀ y, CtrX prog w kt D U (bel y) (c y) (pre y) (gl y) (gl' y) (res y) (upd y) (new y)) (r : β → α → Nat → Nat → Hx prog w kt α₀)
  | cutp (n D U : Nat) (idx : List Nat) (β : Type) (ext : Code → List (Option En) → β) (c : β → Code) (pre : β → List En) (α : Type) (res : β → α → Result) (upd : β → α → List Obj) (new : β → α → List En)
      (h : ∀ y gl, CtrP prog w kt D U (c y) (pre y) gl gl (res y) (upd y) (new y)) (r : β → α → Nat → Nat → Hx prog w kt α₀)
abbrev GoX := Stk → Code → Kont → Sem Fin → St → Res
def retX (ih : GoX) (r : Result) (bl : Stk) (κ : Kont) (s : St) : Res := match κ with
  | .ret c₁ _ k κ' => match bl with
    | [] => .bad
    | _ :: bl' => ih bl' c₁ κ' (k r) s
  | .base => .bad
  | .gen .. => .bad
  | .genS .. => .bad
noncomputable def stepX (V : XV) (ih : GoX) : GoX := fun bl c κ t s => match t with
  | .pure fin => match fin with
    | .done f => retX ih (.ok f) bl κ s
    | .again c' => match c'.quiet with
      | true => ih bl c' κ (den c') s
      | false => .bad
  | .raise e => retX ih (.error e) bl κ s
  | .rule _ k => ih bl c κ (k ()) s
  | .at _ k => ih bl c κ (k ()) s
  | .point _ k => ih bl c κ (k ()) s
  | .ask k => ih bl c κ (k ⟨V.prog, V.w.params⟩) s
  | .load a _ k => match V.kt.get a with
    | some o => ih bl c κ (k o) s
    | none => .bad
  | .loadIfAlive a k => match V.kt.get a with
    | some o => ih bl c κ (k (some o)) s
    | none => .bad
  | .alloc o k => match o.isFreed with
    | true => .bad
    | false => ih bl c κ (k (s.b + s.j)) ⟨(s.b + s.j, o) :: s.T, s.b, s.j + 1, s.t, s.i, s.gl⟩
  | .fresh k => ih bl c κ (k (s.t + s.i)) ⟨s.T, s.b, s.j, s.t, s.i + 1, s.gl⟩
  | .handled own k => match own with
    | false => ih bl c κ (k (aOf V c none κ).handled) s
    | true => .bad
  | .stack k => .all Pos fun p _ _ => ih bl c κ (k ((c, p) :: bl)) s
  | .call c' hd _ _ k => match okMark hd with
    | true => .all Pos fun p _ _ => ih ((c, p) :: bl) c' (.ret c hd k κ) (den c') s
    | false => .bad
  | .newGen c' k => ih bl c κ (k s.gl.length) ⟨s.T, s.b, s.j, s.t, s.i, s.gl ++ [.fresh c']⟩
  | .genState .. => .bad
  | .resume .. => .bad
  | .yield .. => .bad
  | .update .. => .bad
  | .unsupported _ => .bad
  | .finish _ => .bad
  | .register .. => .bad
  | .choose .. => .bad
  | .os .. => .bad
  | .fork .. => .bad
  | .thread _ => .bad
  | .await .. => .bad
noncomputable def plainX (V : XV) (fin : GoX) : Nat → GoX
  | 0 => fin
  | n + 1 => stepX V (plainX V fin n)
noncomputable def ownX (i : Nat) (ih : GoX) : GoX := fun bl c κ t s => match nth s.T i with
  | none => .bad
  | some e => match t with
    | .load a _ k => .chk (.n a) (.n e.1) (ih bl c κ (k e.2) s)
    | .loadIfAlive a k => .chk (.n a) (.n e.1) (ih bl c κ (k (some e.2)) s)
    | .update a _ f k => match (f e.2).isFreed with
      | true => .bad
      | false => .chk (.n a) (.n e.1) (ih bl c κ (k ()) ⟨updAt s.T i (f e.2), s.b, s.j, s.t, s.i, s.gl⟩)
    | _ => .bad
noncomputable def valX (β : Type) (ext : Value → β) (v v' : β → Value) (ih : GoX) : GoX := fun bl c κ t s => match t with
  | .pure fin => match fin with
    | .done f => match f with
      | .ret v₀ => .chk (.val v₀) (.val (v (ext v₀))) (ih bl c κ (.pure (.done (.ret (v' (ext v₀))))) s)
      | _ => .bad
    | .again _ => .bad
  | _ => .bad
noncomputable def brX (e : Bool) (ih1 : e = true → GoX) (ih2 : e = false → GoX) : GoX := fun bl c κ t s => match t with
  | .pure fin => match fin with
    | .done f => match f with
      | .ret v₀ => .chk (.val v₀) (.val (.bool e)) (.both (.all (PLift (e = true)) fun p _ _ => ih1 p.down bl c κ (.pure (.done (.ret (.bool true)))) s) (.all (PLift (e = false)) fun p _ _ => ih2 p.down bl c κ (.pure (.done (.ret (.bool false)))) s))
      | _ => .bad
    | .again _ => .bad
  | _ => .bad
def okB : Stk → Bool
  | [] => true
  | x :: l => match harmless x.1 with
    | true => okB l
    | false => false
theorem okB_ok : ∀ {l : Stk}, okB l = true → PB l
  | [], _ => fun _ hx => nomatch hx
  | x :: l, h => by
    unfold okB at h
    cases q : harmless x.1 with
    | true => rw [q] at h; exact PB.push (c := x.1) (p := x.2) q (okB_ok h)
    | false => rw [q] at h; cases h
/-- a cut: ck says what is asked of the stack -/
noncomputable def cutXc (V : XV) (D₀ U₀ D U : Nat) (ck : Stk → Res → Res) (c₀ : Code) (idx : List Nat) (pre : List En) (gl gl' : List GenState) (α : Type) (res : α → Result) (upd : α → List Obj) (new : α → List En) (ih : α → Nat → Nat → GoX)
    (bl : Stk) (c : Code) (κ : Kont) (s : St) (c' : Code) (hd : Option Value) (k : Result → Sem Fin) : Res :=
  .chk (.b (nodupB idx)) (.b true) (.chk (.ens (picks s.T idx)) (.ens (pre.map some)) (.chk (.gl s.gl) (.gl gl)
    (.chk (.code c') (.code c₀) (.chk (.b (Nat.ble ((exA c none κ).1 + D₀) D)) (.b true) (.chk (.b (Nat.ble ((exA c none κ).2 + U₀) U)) (.b true) (.chk (.ov ((aOf V c none κ).mark hd).handled) (.ov none) (.chk (.b (okMark hd)) (.b true)
      (ck bl (.all α fun x n tk => ih x n tk bl c κ (k (res x)) ⟨new x ++ setAll s.T idx (upd x), n, 0, tk, 0, gl'⟩)))))))))
noncomputable def cutXa (V : XV) (D₀ U₀ D U : Nat) (ck : Stk → Res → Res) (c₀ : Code) (idx : List Nat) (pre : List En) (gl gl' : List GenState) (α : Type) (res : α → Result) (upd : α → List Obj) (new : α → List En) (ih : α → Nat → Nat → GoX)
    (bl : Stk) (c : Code) (κ : Kont) (s : St) (c' : Code) : Res :=
  .chk (.b (nodupB idx)) (.b true) (.chk (.ens (picks s.T idx)) (.ens (pre.map some)) (.chk (.gl s.gl) (.gl gl)
    (.chk (.code c') (.code c₀) (.chk (.b (Nat.ble ((exK true κ).1 + D₀) D)) (.b true) (.chk (.b (Nat.ble ((exK true κ).2 + U₀) U)) (.b true) (.chk (.ov (aroundOf V true κ).handled) (.ov none) (.chk (.b c'.quiet) (.b true)
      (ck bl (.all α fun x n tk => ih x n tk bl c κ (leafOf (res x)) ⟨new x ++ setAll s.T idx (upd x), n, 0, tk, 0, gl'⟩)))))))))
noncomputable def cutX (V : XV) (D₀ U₀ D U : Nat) (idx : List Nat) (β : Type) (ext : Code → List (Option En) → List GenState → Stk → β) (c₀ : β → Code) (bel : β → Stk) (pre : β → List En) (gl gl' : β → List GenState) (α : Type) (res : β → α → Result) (upd : β → α → List Obj) (new : β → α → List En)
    (ih : β → α → Nat → Nat → GoX) : GoX := fun bl c κ t s => match t with
  | .call c' hd _ _ k => .all Pos fun p _ _ => (fun y => cutXc V D₀ U₀ D U (fun bl r => .chk (.stk ((c, p) :: bl)) (.stk (bel y)) r) (c₀ y) idx (pre y) (gl y) (gl' y) α (res y) (upd y) (new y) (ih y) bl c κ s c' hd k) (ext c' (picks s.T idx) s.gl ((c, p) :: bl))
  | .pure fin => match fin with
    | .again c' => (fun y => cutXa V D₀ U₀ D U (fun bl r => .chk (.stk bl) (.stk (bel y)) r) (c₀ y) idx (pre y) (gl y) (gl' y) α (res y) (upd y) (new y) (ih y) bl c κ s c') (ext c' (picks s.T idx) s.gl bl)
    | .done _ => .bad
  | _ => .bad
noncomputable def cutpX (V : XV) (D₀ U₀ D U : Nat) (idx : List Nat) (β : Type) (ext : Code → List (Option En) → β) (c₀ : β → Code) (pre : β → List En) (α : Type) (res : β → α → Result) (upd : β → α → List Obj) (new : β → α → List En)
    (ih : β → α → Nat → Nat → GoX) : GoX := fun bl c κ t s => match t with
  | .call c' hd _ _ k => (fun y => cutXc V D₀ U₀ D U (fun bl r => .chk (.b (harmless c)) (.b true) (.chk (.b (okB bl)) (.b true) r)) (c₀ y) idx (pre y) s.gl s.gl α (res y) (upd y) (new y) (ih y) bl c κ s c' hd k) (ext c' (picks s.T idx))
  | .pure fin => match fin with
    | .again c' => (fun y => cutXa V D₀ U₀ D U (fun bl r => .chk (.b (okB bl)) (.b true) r) (c₀ y) idx (pre y) s.gl s.gl α (res y) (upd y) (new y) (ih y) bl c κ s c') (ext c' (picks s.T idx))
    | .done _ => .bad
  | _ => .bad
def finX {α₀ : Type} (P0 : List Addr) (res₀ : α₀ → Result) (upd₀ : α₀ → List Obj) (new₀ : α₀ → List En) (gl₀ : List GenState) (x : Result → List En → α₀) (idx nw : List Nat) : GoX := fun _ _ κ t s => match κ with
  | .base => match leafR t with
    | some r => finK P0 res₀ upd₀ new₀ gl₀ idx nw s r (x r s.T)
    | none => .bad
  | .ret .. => .bad
  | .gen .. => .bad
  | .genS .. => .bad
noncomputable def goX {prog : Program} {w : World} {kt : KT} (V : XV) (D₀ U₀ : Nat) {α₀ : Type} (P0 : List Addr) (res₀ : α₀ → Result) (upd₀ : α₀ → List Obj) (new₀ : α₀ → List En) (gl₀ : List GenState) (hs : Hx prog w kt α₀) : GoX :=
  Hx.rec (motive := fun _ => GoX)
    (fun n x idx nw => plainX V (finX P0 res₀ upd₀ new₀ gl₀ x idx nw) n)
    (fun n i _ ih => plainX V (ownX i ih) n)
    (fun n β ext v v' _ _ ih => plainX V (valX β ext v v' ih) n)
    (fun n e _ _ ih1 ih2 => plainX V (brX e ih1 ih2) n)
    (fun n D U idx β ext c bel pre gl gl' α res upd new _ _ ih => plainX V (cutX V D₀ U₀ D U idx β ext c bel pre gl gl' α res upd new ih) n)
    (fun n D U idx β ext c pre α res upd new _ _ ih => plainX V (cutpX V D₀ U₀ D U idx β ext c pre α res upd new ih) n) hs

section
variable {V : XV} {P0 : List Addr}
def SndX (V : XV) (P0 : List Addr) (ih : GoX) : Prop := ∀ bl c κ t s h, (ih bl c κ t s).Ok → Rp V P0 h s → MeansX V bl c κ t ⟨h, ⟨s.gl⟩, V.d, s.t + s.i, V.os⟩
theorem retX_snd {ih : GoX} (IH : SndX V P0 ih) {r : Result} {bl : Stk} {c : Code} {κ : Kont} {t : Sem Fin} (ht : t = leafOf r) {s : St} {h : Heap} (H : (retX ih r bl κ s).Ok) (D : Rp V P0 h s) :
    MeansX V bl c κ t ⟨h, ⟨s.gl⟩, V.d, s.t + s.i, V.os⟩ := by
  subst ht
  cases κ with
  | ret c₁ hd k κ' =>
    cases bl with
    | nil => exact H.elim
    | cons x bl' =>
      have z := IH _ _ _ _ _ h H D
      cases r with
      | ok f => exact fun _ _ _ _ _ => z
      | error e => exact fun _ _ _ _ _ => z
  | base => exact H.elim
  | gen => exact H.elim
  | genS => exact H.elim
theorem stepX_snd {ih : GoX} (IH : SndX V P0 ih) : SndX V P0 (stepX V ih) := by
  intro bl c κ t s h H D
  cases t with
  | pure fin =>
    cases fin with
    | done f => exact retX_snd IH rfl H D
    | again c' =>
      cases q : c'.quiet with
      | false => simp only [stepX, q] at H; exact H.elim
      | true =>
        simp only [stepX, q] at H
        have z := IH _ _ _ _ _ h H D
        rw [← den_eq] at z
        exact fun _ _ _ _ _ => ⟨q, codeX_of_own z⟩
  | raise e => exact retX_snd IH rfl H D
  | rule tag k => exact .cmd (m := PySem.rule tag) (wpAny_rule (IH _ _ _ _ _ h H D))
  | «at» q k => exact .cmd (m := standAt q) (wpAny_standAt (IH _ _ _ _ _ h H D))
  | point l k => exact fun Γ p hc hΓ hP => IH _ _ _ _ _ h H D Γ p hc hΓ hP
  | ask k => exact .cmd (m := PySem.ask) (wpAny_askSetting (IH _ _ _ _ _ h H D))
  | load a q k =>
    simp only [stepX] at H
    split at H
    · rename_i o e
      exact .cmd (m := loadPart a q) (wpAny_loadPart (D.top a o e) (IH _ _ _ _ _ h H D))
    · exact H.elim
  | loadIfAlive a k =>
    simp only [stepX] at H
    split at H
    · rename_i o e
      have z := IH _ _ _ _ _ h H D
      have ho := D.top a o e
      exact fun Γ p hc hΓ hP => by
        show Sem.wp _ _ (k (h.get? a)) _ _ _ _
        rw [ho]; exact z Γ p hc hΓ hP
    · exact H.elim
  | alloc o k =>
    simp only [stepX] at H
    split at H
    · exact H.elim
    · rename_i hf
      have z := IH _ _ _ _ _ (h.push o) H (D.alloc hf)
      refine .cmd (m := PySem.alloc o) (wpAny_alloc ?_)
      show MeansX V bl c κ (k h.objs.size) _
      rw [D.size]
      exact z
  | update a q f k => exact H.elim
  | fresh k => exact .cmd (m := PySem.fresh) (wpAny_fresh (IH _ _ _ _ _ h H ⟨D.size, D.own, D.nd, D.lo, D.top, D.st, D.keep⟩))
  | handled own k =>
    cases own with
    | true => exact H.elim
    | false => exact .cmd (m := PySem.handled) (wpAny_handled (IH _ _ _ _ _ h H D))
  | stack k =>
    intro Γ p hc hΓ hP
    show Sem.wp _ _ (k ((Γ.code, p) :: Γ.below)) _ _ _ _
    rw [hc, hP]
    exact IH _ _ _ _ _ h (H p 0 0) D Γ p hc hΓ hP
  | call c' hd g l k =>
    cases q : okMark hd with
    | false => simp only [stepX, q] at H; exact H.elim
    | true =>
      simp only [stepX, q] at H
      have hnb : hd ≠ some byPass := by
        intro e
        subst e
        simp [okMark] at q
      intro Γ p hc hΓ hP
      have z := IH _ _ _ _ _ h (H p 0 0) D
      rw [← den_eq] at z
      exact wpCode_mono (fun _ _ w => w Γ p hc hΓ hP) (codeX_of_own z (Γ.enter c' hd p) p rfl ((hc ▸ hΓ.in : Γ.In ((aroundOf V true κ).under c)).enter c' hd p hnb) (by show (Γ.code, p) :: Γ.below = (c, p) :: bl; rw [hc, hP]))
  | newGen c' k =>
    have z := IH _ _ _ _ _ h H ⟨D.size, D.own, D.nd, D.lo, D.top, D.st, D.keep⟩
    intro Γ p hc hΓ hP
    have y := z Γ p hc hΓ hP
    rw [← push_gens] at y
    exact y
  | genState => exact H.elim
  | resume => exact H.elim
  | yield => exact H.elim
  | unsupported => exact H.elim
  | finish => exact H.elim
  | register => exact H.elim
  | choose => exact H.elim
  | os => exact H.elim
  | fork => exact H.elim
  | thread => exact H.elim
  | await => exact H.elim
theorem plainX_snd {fin : GoX} (F : SndX V P0 fin) : ∀ n, SndX V P0 (plainX V fin n)
  | 0 => F
  | n + 1 => stepX_snd (plainX_snd F n)
theorem ownX_snd {ih : GoX} (IH : SndX V P0 ih) (i : Nat) : SndX V P0 (ownX i ih) := by
  intro bl c κ t s h H D
  unfold ownX at H
  split at H
  · exact H.elim
  · rename_i e he
    have ho := D.own e (nth_mem he)
    cases t with
    | load a q k =>
      obtain ⟨h1, H⟩ := H
      have ha : a = e.1 := by injection h1
      subst ha
      exact .cmd (m := loadPart e.1 q) (wpAny_loadPart ho (IH _ _ _ _ _ h H D))
    | loadIfAlive a k =>
      obtain ⟨h1, H⟩ := H
      have ha : a = e.1 := by injection h1
      subst ha
      have z := IH _ _ _ _ _ h H D
      exact fun Γ p hc hΓ hP => by
        show Sem.wp _ _ (k (h.get? e.1)) _ _ _ _
        rw [ho]; exact z Γ p hc hΓ hP
    | update a q f k =>
      cases hf : (f e.2).isFreed with
      | true => simp only [hf] at H; exact H.elim
      | false =>
        simp only [hf] at H
        obtain ⟨h1, H⟩ := H
        have ha : a = e.1 := by injection h1
        subst ha
        exact .cmd (m := updatePart e.1 q f) (wpAny_updatePart ho (IH _ _ _ _ ⟨updAt s.T i (f e.2), s.b, s.j, s.t, s.i, s.gl⟩ _ H (D.update he hf)))
    | _ => exact H.elim
theorem valX_snd {β : Type} {ext : Value → β} {v v' : β → Value} (hv : ∀ y, v y = v' y) {ih : GoX} (IH : SndX V P0 ih) : SndX V P0 (valX β ext v v' ih) := by
  intro bl c κ t s h H D
  cases t with
  | pure fin =>
    cases fin with
    | done f =>
      cases f with
      | ret v₀ =>
        obtain ⟨h1, H⟩ := H
        have e : v₀ = v (ext v₀) := by injection h1
        have e' : v₀ = v' (ext v₀) := e.trans (hv _)
        have z := IH _ _ _ _ _ h H D
        rw [← e'] at z
        exact z
      | _ => exact H.elim
    | again _ => exact H.elim
  | _ => exact H.elim
theorem brX_snd {e : Bool} {ih1 : e = true → GoX} {ih2 : e = false → GoX} (IH1 : ∀ h, SndX V P0 (ih1 h)) (IH2 : ∀ h, SndX V P0 (ih2 h)) : SndX V P0 (brX e ih1 ih2) := by
  intro bl c κ t s h H D
  cases t with
  | pure fin =>
    cases fin with
    | done f =>
      cases f with
      | ret v₀ =>
        obtain ⟨h1, H1, H2⟩ := H
        have e' : v₀ = .bool e := by injection h1
        subst e'
        cases q : e with
        | true => subst q; exact IH1 rfl _ _ _ _ _ h (H1 ⟨rfl⟩ 0 0) D
        | false => subst q; exact IH2 rfl _ _ _ _ _ h (H2 ⟨rfl⟩ 0 0) D
      | _ => exact H.elim
    | again _ => exact H.elim
  | _ => exact H.elim
theorem cutXc_snd {D₀ U₀ D U : Nat} (hD : V.A₀.depth ≤ D₀) (hU : V.A₀.units ≤ U₀) {c₀ : Code} {idx : List Nat} {pre : List En} {gl gl' : List GenState} {α : Type} {res : α → Result} {upd : α → List Obj} {new : α → List En} {ck : Stk → Res → Res} {bl : Stk} {c : Code} {p : Pos}
    (C : ∀ r, (ck bl r).Ok → CtrX V.prog V.w V.kt D U ((c, p) :: bl) c₀ pre gl gl' res upd new ∧ r.Ok) {ih : α → Nat → Nat → GoX} (IH : ∀ x n t, SndX V P0 (ih x n t)) (κ : Kont) (s : St) (c' : Code) (hd : Option Value) (g : Bool) (l : List Value) (k : Result → Sem Fin) (h : Heap)
    (H : (cutXc V D₀ U₀ D U ck c₀ idx pre gl gl' α res upd new ih bl c κ s c' hd k).Ok) (Dp : Rp V P0 h s) (Γ : PySem.Ctx) (hcΓ : Γ.code = c) (hΓ : Γ.Below (aroundOf V true κ)) (hP : Γ.below = bl) :
    Sem.wp (model V.prog V.w) Γ (.call c' hd g l k) (fun a _ s' => postX V.prog V.w (aroundOf V true κ) bl (endX V bl κ) a s') (fun e _ s' => postE (endX V bl κ) e s') p ⟨h, ⟨s.gl⟩, V.d, s.t + s.i, V.os⟩ := by
  obtain ⟨h1, h2, h3, h4, h5, h6, h7, h8, H⟩ := H
  obtain ⟨C, H⟩ := C _ H
  have hi : idx.Nodup := nodupB_ok (by injection h1)
  have hp : picks s.T idx = pre.map some := by injection h2
  have hg : s.gl = gl := by injection h3
  have pr : ∀ p ∈ pre, h.get? p.1 = some p.2 := fun p hm => Dp.own p (Dp.pick hp hm)
  have pn : (pre.map Prod.fst).Nodup := picks_nodup Dp.nd hi hp
  have pl : ∀ p ∈ pre, V.kt.get p.1 = none := fun p hm => Dp.lo p (Dp.pick hp hm)
  have hc : c' = c₀ := by injection h4
  have d1 : (exA c none κ).1 + D₀ ≤ D := by
    have : Nat.ble ((exA c none κ).1 + D₀) D = true := by injection h5
    exact Nat.le_of_ble_eq_true this
  have d2 : (exA c none κ).2 + U₀ ≤ U := by
    have : Nat.ble ((exA c none κ).2 + U₀) U = true := by injection h6
    exact Nat.le_of_ble_eq_true this
  have hh : ((aOf V c none κ).mark hd).handled = none := by injection h7
  have hm : okMark hd = true := by injection h8
  have hnb : hd ≠ some byPass := by
    intro e
    subst e
    simp [okMark] at hm
  have ex := exA_ok V c none κ
  subst hc
  rw [hg]
  refine wpCode_mono (fun _ _ w => w Γ p hcΓ hΓ hP) (C (((aroundOf V true κ).under c).mark hd) (endX V ((c, p) :: bl) (.ret c hd k κ)) h V.d V.os (s.t + s.i) hh ?_ ?_ Dp.top pr pn pl ?_ (Γ.enter c' hd p) p rfl
    ((hcΓ ▸ hΓ.in : Γ.In ((aroundOf V true κ).under c)).enter c' hd p hnb) (by show (Γ.code, p) :: Γ.below = (c, p) :: bl; rw [hcΓ, hP]))
  · show (aOf V c none κ).depth ≤ D
    omega
  · show (aOf V c none κ).units ≤ U
    omega
  · intro x h' tok' fr hl hu hn nn
    exact IH x h'.objs.size tok' _ _ _ _ _ h' (H x h'.objs.size tok') (Dp.cut hi hp fr hl hu hn nn)
theorem cutXa_snd {D₀ U₀ D U : Nat} (hD : V.A₀.depth ≤ D₀) (hU : V.A₀.units ≤ U₀) {c₀ : Code} {idx : List Nat} {pre : List En} {gl gl' : List GenState} {α : Type} {res : α → Result} {upd : α → List Obj} {new : α → List En} {ck : Stk → Res → Res} {bl : Stk}
    (C : ∀ r, (ck bl r).Ok → CtrX V.prog V.w V.kt D U bl c₀ pre gl gl' res upd new ∧ r.Ok) {ih : α → Nat → Nat → GoX} (IH : ∀ x n t, SndX V P0 (ih x n t)) (c : Code) (κ : Kont) (s : St) (c' : Code) (h : Heap)
    (H : (cutXa V D₀ U₀ D U ck c₀ idx pre gl gl' α res upd new ih bl c κ s c').Ok) (Dp : Rp V P0 h s) : MeansX V bl c κ (.pure (.again c')) ⟨h, ⟨s.gl⟩, V.d, s.t + s.i, V.os⟩ := by
  obtain ⟨h1, h2, h3, h4, h5, h6, h7, h8, H⟩ := H
  obtain ⟨C, H⟩ := C _ H
  have hi : idx.Nodup := nodupB_ok (by injection h1)
  have hp : picks s.T idx = pre.map some := by injection h2
  have hg : s.gl = gl := by injection h3
  have pr : ∀ p ∈ pre, h.get? p.1 = some p.2 := fun p hm => Dp.own p (Dp.pick hp hm)
  have pn : (pre.map Prod.fst).Nodup := picks_nodup Dp.nd hi hp
  have pl : ∀ p ∈ pre, V.kt.get p.1 = none := fun p hm => Dp.lo p (Dp.pick hp hm)
  have hc : c' = c₀ := by injection h4
  have d1 : (exK true κ).1 + D₀ ≤ D := by
    have : Nat.ble ((exK true κ).1 + D₀) D = true := by injection h5
    exact Nat.le_of_ble_eq_true this
  have d2 : (exK true κ).2 + U₀ ≤ U := by
    have : Nat.ble ((exK true κ).2 + U₀) U = true := by injection h6
    exact Nat.le_of_ble_eq_true this
  have hh : (aroundOf V true κ).handled = none := by injection h7
  have hq : c'.quiet = true := by injection h8
  have ex := exK_ok V true κ
  subst hc
  rw [hg]
  refine fun _ _ _ _ _ => ⟨hq, fun Γ p hcΓ hΓ hP => wpCode_mono (fun r s' z => ?_) (C (aroundOf V true κ) (fun r s' => MeansX V bl c κ (leafOf r) s') h V.d V.os (s.t + s.i) hh ?_ ?_ Dp.top pr pn pl ?_ Γ p hcΓ hΓ hP)⟩
  · cases r with
    | ok f => exact z (Γ.goto c) p rfl (hΓ.goto c) hP
    | error e => exact z (Γ.goto c) p rfl (hΓ.goto c) hP
  · omega
  · omega
  · intro x h' tok' fr hl hu hn nn
    exact IH x h'.objs.size tok' _ _ _ _ _ h' (H x h'.objs.size tok') (Dp.cut hi hp fr hl hu hn nn)
theorem cutX_snd {D₀ U₀ D U : Nat} (hD : V.A₀.depth ≤ D₀) (hU : V.A₀.units ≤ U₀) {idx : List Nat} {β : Type} {ext : Code → List (Option En) → List GenState → Stk → β} {c₀ : β → Code} {bel : β → Stk} {pre : β → List En} {gl gl' : β → List GenState} {α : Type} {res : β → α → Result} {upd : β → α → List Obj} {new : β → α → List En}
    (C : ∀ y, CtrX V.prog V.w V.kt D U (bel y) (c₀ y) (pre y) (gl y) (gl' y) (res y) (upd y) (new y)) {ih : β → α → Nat → Nat → GoX} (IH : ∀ y x n t, SndX V P0 (ih y x n t)) : SndX V P0 (cutX V D₀ U₀ D U idx β ext c₀ bel pre gl gl' α res upd new ih) := by
  intro bl c κ t s h H Dp
  cases t with
  | call c' hd g l k =>
    intro Γ p hc hΓ hP
    refine cutXc_snd (ck := fun bl r => .chk (.stk ((c, p) :: bl)) (.stk (bel (ext c' (picks s.T idx) s.gl ((c, p) :: bl)))) r) (c₀ := c₀ (ext c' (picks s.T idx) s.gl ((c, p) :: bl))) (pre := pre (ext c' (picks s.T idx) s.gl ((c, p) :: bl))) (gl := gl (ext c' (picks s.T idx) s.gl ((c, p) :: bl))) (gl' := gl' (ext c' (picks s.T idx) s.gl ((c, p) :: bl))) (res := res (ext c' (picks s.T idx) s.gl ((c, p) :: bl))) (upd := upd (ext c' (picks s.T idx) s.gl ((c, p) :: bl))) (new := new (ext c' (picks s.T idx) s.gl ((c, p) :: bl))) (ih := ih (ext c' (picks s.T idx) s.gl ((c, p) :: bl))) hD hU (fun r hr => ?_) (IH _) κ s c' hd g l k h (H p 0 0) Dp Γ hc hΓ hP
    obtain ⟨e, hr⟩ := hr
    injection e with e
    have key : ∀ Y, (c, p) :: bl = bel Y → CtrX V.prog V.w V.kt D U ((c, p) :: bl) (c₀ Y) (pre Y) (gl Y) (gl' Y) (res Y) (upd Y) (new Y) := fun Y e => by rw [e]; exact C Y
    exact ⟨key _ e, hr⟩
  | pure fin =>
    cases fin with
    | done f => exact H.elim
    | again c' =>
      refine cutXa_snd (ck := fun bl r => .chk (.stk bl) (.stk (bel (ext c' (picks s.T idx) s.gl bl))) r) (c₀ := c₀ (ext c' (picks s.T idx) s.gl bl)) (pre := pre (ext c' (picks s.T idx) s.gl bl)) (gl := gl (ext c' (picks s.T idx) s.gl bl)) (gl' := gl' (ext c' (picks s.T idx) s.gl bl)) (res := res (ext c' (picks s.T idx) s.gl bl)) (upd := upd (ext c' (picks s.T idx) s.gl bl)) (new := new (ext c' (picks s.T idx) s.gl bl)) (ih := ih (ext c' (picks s.T idx) s.gl bl)) hD hU (fun r hr => ?_) (IH _) c κ s c' h H Dp
      obtain ⟨e, hr⟩ := hr
      injection e with e
      have := C (ext c' (picks s.T idx) s.gl bl)
      rw [← e] at this
      exact ⟨this, hr⟩
  | _ => exact H.elim
theorem cutpX_snd {D₀ U₀ D U : Nat} (hD : V.A₀.depth ≤ D₀) (hU : V.A₀.units ≤ U₀) {idx : List Nat} {β : Type} {ext : Code → List (Option En) → β} {c₀ : β → Code} {pre : β → List En} {α : Type} {res : β → α → Result} {upd : β → α → List Obj} {new : β → α → List En}
    (C : ∀ y gl, CtrP V.prog V.w V.kt D U (c₀ y) (pre y) gl gl (res y) (upd y) (new y)) {ih : β → α → Nat → Nat → GoX} (IH : ∀ y x n t, SndX V P0 (ih y x n t)) : SndX V P0 (cutpX V D₀ U₀ D U idx β ext c₀ pre α res upd new ih) := by
  intro bl c κ t s h H Dp
  cases t with
  | call c' hd g l k =>
    intro Γ p hc hΓ hP
    refine cutXc_snd (ck := fun bl r => .chk (.b (harmless c)) (.b true) (.chk (.b (okB bl)) (.b true) r)) (c₀ := c₀ (ext c' (picks s.T idx))) (pre := pre (ext c' (picks s.T idx))) (gl := s.gl) (gl' := s.gl) (res := res (ext c' (picks s.T idx))) (upd := upd (ext c' (picks s.T idx))) (new := new (ext c' (picks s.T idx))) (ih := ih (ext c' (picks s.T idx))) hD hU (fun r hr => ?_) (IH _) κ s c' hd g l k h H Dp Γ hc hΓ hP
    obtain ⟨e1, e2, hr⟩ := hr
    exact ⟨(C _ _).toX (PB.push (by injection e1) (okB_ok (by injection e2))), hr⟩
  | pure fin =>
    cases fin with
    | done f => exact H.elim
    | again c' =>
      refine cutXa_snd (ck := fun bl r => .chk (.b (okB bl)) (.b true) r) (c₀ := c₀ (ext c' (picks s.T idx))) (pre := pre (ext c' (picks s.T idx))) (gl := s.gl) (gl' := s.gl) (res := res (ext c' (picks s.T idx))) (upd := upd (ext c' (picks s.T idx))) (new := new (ext c' (picks s.T idx))) (ih := ih (ext c' (picks s.T idx))) hD hU (fun r hr => ?_) (IH _) c κ s c' h H Dp
      obtain ⟨e2, hr⟩ := hr
      exact ⟨(C _ _).toX (okB_ok (by injection e2)), hr⟩
  | _ => exact H.elim
theorem finX_snd {α₀ : Type} {res₀ : α₀ → Result} {upd₀ : α₀ → List Obj} {new₀ : α₀ → List En} {gl₀ : List GenState}
    (HR : ∀ (x : α₀) (h' : Heap) (tok' : Nat), (∀ b o, V.h₀.get? b = some o → b ∉ P0 → h'.get? b = some o) → (upd₀ x).length = P0.length → (∀ p ∈ P0.zip (upd₀ x), h'.get? p.1 = some p.2) →
      (∀ p ∈ new₀ x, h'.get? p.1 = some p.2 ∧ V.h₀.get? p.1 = none) → ((new₀ x).map Prod.fst).Nodup → V.R₀ (res₀ x) ⟨h', ⟨gl₀⟩, V.d, tok', V.os⟩)
    (x : Result → List En → α₀) (idx nw : List Nat) : SndX V P0 (finX P0 res₀ upd₀ new₀ gl₀ x idx nw) := by
  intro bl c κ t s h H D
  cases κ with
  | ret => exact H.elim
  | gen => exact H.elim
  | genS => exact H.elim
  | base =>
    have key : ∀ r X, (finK P0 res₀ upd₀ new₀ gl₀ idx nw s r X).Ok → V.R₀ r ⟨h, ⟨s.gl⟩, V.d, s.t + s.i, V.os⟩ := by
      rintro r X ⟨h1, h2, h3, h4, h5, h6, _⟩
      have p1 : picks s.T idx = (P0.zip (upd₀ X)).map some := by injection h1
      have p2 : (upd₀ X).length = P0.length := by
        have : Nat.beq (upd₀ X).length P0.length = true := by injection h2
        exact Nat.eq_of_beq_eq_true this
      have p3 : picks s.T nw = (new₀ X).map some := by injection h3
      have p4 : (idx ++ nw).Nodup := nodupB_ok (by injection h4)
      have p5 : s.gl = gl₀ := by injection h5
      have p6 : r = res₀ X := by injection h6
      have pa : picks s.T (idx ++ nw) = (P0.zip (upd₀ X) ++ new₀ X).map some := by rw [picks_append, p1, p3, List.map_append]
      have nd := picks_nodup D.nd p4 pa
      rw [List.map_append] at nd
      have zf : (P0.zip (upd₀ X)).map Prod.fst = P0 := List.map_fst_zip (by rw [p2]; exact Nat.le_refl _)
      rw [zf] at nd
      rw [p5, p6]
      refine HR X h _ D.keep p2 (fun p hm => D.own p (D.pick p1 hm)) (fun p hm => ⟨D.own p (D.pick p3 hm), ?_⟩) (List.nodup_append.mp nd).2.1
      rcases D.st p (D.pick p3 hm) with q | q
      · exact absurd rfl ((List.nodup_append.mp nd).2.2 p.1 q p.1 (List.mem_map_of_mem hm))
      · exact q
    have eb : endX V bl .base = V.R₀ := by cases bl <;> rfl
    cases t with
    | pure fin =>
      cases fin with
      | done f => exact fun _ _ _ _ _ => by show endX V bl .base _ _; rw [eb]; exact key _ _ H
      | again c' => exact H.elim
    | raise e => exact fun _ _ _ _ _ => by show endX V bl .base _ _; rw [eb]; exact key _ _ H
    | _ => exact H.elim
theorem goX_snd {α₀ : Type} {res₀ : α₀ → Result} {upd₀ : α₀ → List Obj} {new₀ : α₀ → List En} {gl₀ : List GenState} {D₀ U₀ : Nat} (hD : V.A₀.depth ≤ D₀) (hU : V.A₀.units ≤ U₀)
    (HR : ∀ (x : α₀) (h' : Heap) (tok' : Nat), (∀ b o, V.h₀.get? b = some o → b ∉ P0 → h'.get? b = some o) → (upd₀ x).length = P0.length → (∀ p ∈ P0.zip (upd₀ x), h'.get? p.1 = some p.2) →
      (∀ p ∈ new₀ x, h'.get? p.1 = some p.2 ∧ V.h₀.get? p.1 = none) → ((new₀ x).map Prod.fst).Nodup → V.R₀ (res₀ x) ⟨h', ⟨gl₀⟩, V.d, tok', V.os⟩)
    (hs : Hx V.prog V.w V.kt α₀) : SndX V P0 (goX V D₀ U₀ P0 res₀ upd₀ new₀ gl₀ hs) := by
  induction hs with
  | fin n x idx nw => exact plainX_snd (finX_snd HR x idx nw) n
  | own n i r ih => exact plainX_snd (ownX_snd ih i) n
  | val n β ext v v' h r ih => exact plainX_snd (valX_snd h ih) n
  | br n e r1 r2 ih1 ih2 => exact plainX_snd (brX_snd ih1 ih2) n
  | cut n D U idx β ext c bel pre gl gl' α res upd new h r ih => exact plainX_snd (cutX_snd hD hU h ih) n
  | cutp n D U idx β ext c pre α res upd new h r ih => exact plainX_snd (cutpX_snd hD hU h ih) n
end

theorem CtrX.of_go {prog : Program} {w : World} {kt : KT} {D U : Nat} {bl : Stk} {c : Code} {pre : List En} {gl gl' : List GenState} {α : Type} {res : α → Result} {upd : α → List Obj} {new : α → List En}
    (hs : Hx prog w kt α)
    (H : ∀ (h : Heap) (dep : Nat) (fr : Option (List Env)) (gd : Option (List Code)) (un : Nat) (R : Result → Shared → Prop) (d : Drawn) (os : OsState) (tok b : Nat),
      (goX ⟨prog, w, h, 0, kt, [], ⟨none, dep, fr, gd, un⟩, R, d, 0, os⟩ D U (pre.map Prod.fst) res upd new gl' hs bl c .base (den c) ⟨pre, b, 0, tok, 0, gl⟩).ls =
      (goX ⟨prog, w, h, 0, kt, [], ⟨none, dep, fr, gd, un⟩, R, d, 0, os⟩ D U (pre.map Prod.fst) res upd new gl' hs bl c .base (den c) ⟨pre, b, 0, tok, 0, gl⟩).rs) :
    CtrX prog w kt D U bl c pre gl gl' res upd new := by
  intro A R h d os tok hh hD hU ht hp hn hl hR
  obtain ⟨hd, dep, fr, gd, un⟩ := A
  have hh' : hd = none := hh
  subst hh'
  have ok := Res.ok_of _ (H h dep fr gd un R d os tok h.objs.size)
  have z := goX_snd (V := ⟨prog, w, h, 0, kt, [], ⟨none, dep, fr, gd, un⟩, R, d, 0, os⟩) (P0 := pre.map Prod.fst) (gl₀ := gl') hD hU
    (fun x h' tok' k1 k2 k3 k4 k5 => hR x h' tok' k1 (by rw [k2, List.length_map]) k3 k4 k5) hs bl c .base (den c) ⟨pre, h.objs.size, 0, tok, 0, gl⟩ h ok
    ⟨rfl, hp, hn, hl, ht, fun p hm => .inl (List.mem_map_of_mem hm), fun b o e _ => e⟩
  rw [← den_eq] at z
  have eb : endX ⟨prog, w, h, 0, kt, [], ⟨none, dep, fr, gd, un⟩, R, d, 0, os⟩ bl .base = R := by cases bl <;> rfl
  unfold MeansX at z
  rw [eb] at z
  exact codeX_of_own z
end Mine
namespace Mine
open PySem PySem.Spec PySem.Calls PyProof.Rows PySem.W PySem.W.X
/-- a contract that leaves the generators as its letter says, and with it an equation between trees -/
def CtrG (prog : Program) (w : World) (kt : KT) (D U : Nat) (c : Code) (pre : List En) (gl : List GenState) {α : Type} (gl' : α → List GenState) (eqs : α → Sem Fin × Sem Fin) (res : α → Result) (upd : α → List Obj) (new : α → List En) : Prop :=
  ∀ (A : Around) (R : Result → Shared → Prop) (h : Heap) (d : Drawn) (os : OsState) (tok : Nat),
    A.handled = none → A.depth ≤ D → A.units ≤ U →
    (∀ a o, kt.get a = some o → h.get? a = some o) → (∀ p ∈ pre, h.get? p.1 = some p.2) → (pre.map Prod.fst).Nodup → (∀ p ∈ pre, kt.get p.1 = none) →
    (∀ (x : α) (h' : Heap) (tok' : Nat), (∀ b o, h.get? b = some o → b ∉ pre.map Prod.fst → h'.get? b = some o) → (upd x).length = pre.length →
      (∀ p ∈ (pre.map Prod.fst).zip (upd x), h'.get? p.1 = some p.2) → (∀ p ∈ new x, h'.get? p.1 = some p.2 ∧ h.get? p.1 = none) → ((new x).map Prod.fst).Nodup → (eqs x).1 = (eqs x).2 →
      R (res x) ⟨h', ⟨gl' x⟩, d, tok', os⟩) →
    codeAny (model prog w) A c R ⟨h, ⟨gl⟩, d, tok, os⟩
def finKG {α₀ : Type} (P0 : List Addr) (res₀ : α₀ → Result) (upd₀ : α₀ → List Obj) (new₀ : α₀ → List En) (gl₀ : α₀ → List GenState) (eqs : α₀ → Sem Fin × Sem Fin) (idx nw : List Nat) (s : St) (r : Result) (x : α₀) : Res :=
  .chk (.ens (picks s.T idx)) (.ens ((P0.zip (upd₀ x)).map some)) (.chk (.b (Nat.beq (upd₀ x).length P0.length)) (.b true) (.chk (.ens (picks s.T nw)) (.ens ((new₀ x).map some)) (.chk (.b (nodupB (idx ++ nw))) (.b true) (.chk (.gl s.gl) (.gl (gl₀ x))
    (.chk (.tree (eqs x).1) (.tree (eqs x).2) (.chk (.res r) (.res (res₀ x)) .ok))))))
def finG {α₀ : Type} (P0 : List Addr) (res₀ : α₀ → Result) (upd₀ : α₀ → List Obj) (new₀ : α₀ → List En) (gl₀ : α₀ → List GenState) (eqs : α₀ → Sem Fin × Sem Fin) (x : Result → List En → List GenState → α₀) (idx nw : List Nat) : Go := fun _ md κ t s => match md with
  | some _ => .bad
  | none => match κ with
    | .base => match leafR t with
      | some r => finKG P0 res₀ upd₀ new₀ gl₀ eqs idx nw s r (x r s.T s.gl)
      | none => .bad
    | _ => .bad
noncomputable def goG {α₀ : Type} (V : XV) (D₀ U₀ : Nat) (P0 : List Addr) (res₀ : α₀ → Result) (upd₀ : α₀ → List Obj) (new₀ : α₀ → List En) (gl₀ : α₀ → List GenState) (eqs : α₀ → Sem Fin × Sem Fin) (hs : Hs V.prog V.w V.kt (List GenState → α₀)) : Go :=
  Hs.rec (motive := fun _ => Go)
    (fun n x idx nw => plainN V (finG P0 res₀ upd₀ new₀ gl₀ eqs x idx nw) n)
    (fun n i _ ih => plainN V (ownS i ih) n)
    (fun n G q _ ih => plainN V (stkS V D₀ U₀ G q ih) n)
    (fun n β ext v v' _ _ ih => plainN V (valS β ext v v' ih) n)
    (fun n t t' _ _ ih => plainN V (treS t t' ih) n)
    (fun n e _ _ ih1 ih2 => plainN V (brS e ih1 ih2) n)
    (fun n D U idx β ext c pre gl gl' α res upd new _ _ ih => plainN V (cutS V D₀ U₀ D U idx β ext c pre gl gl' α res upd new ih) n)
    (fun n D U idx β ext c pre α res upd new _ _ ih => plainN V (cutG V D₀ U₀ D U idx β ext c pre α res upd new ih) n) hs
section
variable {V : XV} {P0 : List Addr}
theorem finG_snd {α₀ : Type} {res₀ : α₀ → Result} {upd₀ : α₀ → List Obj} {new₀ : α₀ → List En} {gl₀ : α₀ → List GenState} {eqs : α₀ → Sem Fin × Sem Fin}
    (HR : ∀ (x : α₀) (h' : Heap) (tok' : Nat), (∀ b o, V.h₀.get? b = some o → b ∉ P0 → h'.get? b = some o) → (upd₀ x).length = P0.length → (∀ p ∈ P0.zip (upd₀ x), h'.get? p.1 = some p.2) →
      (∀ p ∈ new₀ x, h'.get? p.1 = some p.2 ∧ V.h₀.get? p.1 = none) → ((new₀ x).map Prod.fst).Nodup → (eqs x).1 = (eqs x).2 → V.R₀ (res₀ x) ⟨h', ⟨gl₀ x⟩, V.d, tok', V.os⟩)
    (x : Result → List En → List GenState → α₀) (idx nw : List Nat) : Snd V P0 (finG P0 res₀ upd₀ new₀ gl₀ eqs x idx nw) := by
  intro c md κ t s h H D
  cases md with
  | some fs => exact H.elim
  | none =>
    cases κ with
    | ret => exact H.elim
    | gen => exact H.elim
    | genS => exact H.elim
    | base =>
      have key : ∀ r X, (finKG P0 res₀ upd₀ new₀ gl₀ eqs idx nw s r X).Ok → V.R₀ r ⟨h, ⟨s.gl⟩, V.d, s.t + s.i, V.os⟩ := by
        rintro r X ⟨h1, h2, h3, h4, h5, h7, h6, _⟩
        have p1 : picks s.T idx = (P0.zip (upd₀ X)).map some := by injection h1
        have p2 : (upd₀ X).length = P0.length := by
          have : Nat.beq (upd₀ X).length P0.length = true := by injection h2
          exact Nat.eq_of_beq_eq_true this
        have p3 : picks s.T nw = (new₀ X).map some := by injection h3
        have p4 : (idx ++ nw).Nodup := nodupB_ok (by injection h4)
        have p5 : s.gl = gl₀ X := by injection h5
        have p6 : r = res₀ X := by injection h6
        have p7 : (eqs X).1 = (eqs X).2 := by injection h7
        have pa : picks s.T (idx ++ nw) = (P0.zip (upd₀ X) ++ new₀ X).map some := by rw [picks_append, p1, p3, List.map_append]
        have nd := picks_nodup D.nd p4 pa
        rw [List.map_append] at nd
        have zf : (P0.zip (upd₀ X)).map Prod.fst = P0 := List.map_fst_zip (by rw [p2]; exact Nat.le_refl _)
        rw [zf] at nd
        rw [p5, p6]
        refine HR X h _ D.keep p2 (fun p hm => D.own p (D.pick p1 hm)) (fun p hm => ⟨D.own p (D.pick p3 hm), ?_⟩) (List.nodup_append.mp nd).2.1 p7
        rcases D.st p (D.pick p3 hm) with q | q
        · exact absurd rfl ((List.nodup_append.mp nd).2.2 p.1 q p.1 (List.mem_map_of_mem hm))
        · exact q
      cases t with
      | pure fin =>
        cases fin with
        | done f => exact y_pure _ _ _ _ _ _ _ _ _ (y_done _ _ _ _ _ _ (key _ _ H))
        | again c' => exact H.elim
      | raise e => exact y_raise _ _ _ _ _ _ _ _ _ (y_err _ _ _ (key _ _ H))
      | _ => exact H.elim
theorem goG_snd {α₀ : Type} {res₀ : α₀ → Result} {upd₀ : α₀ → List Obj} {new₀ : α₀ → List En} {gl₀ : α₀ → List GenState} {eqs : α₀ → Sem Fin × Sem Fin} {D₀ U₀ : Nat} (hD : V.A₀.depth ≤ D₀) (hU : V.A₀.units ≤ U₀)
    (NL : ∀ h : Heap, (∀ a o, V.kt.get a = some o → h.get? a = some o) → h.NoLimit)
    (HR : ∀ (x : α₀) (h' : Heap) (tok' : Nat), (∀ b o, V.h₀.get? b = some o → b ∉ P0 → h'.get? b = some o) → (upd₀ x).length = P0.length → (∀ p ∈ P0.zip (upd₀ x), h'.get? p.1 = some p.2) →
      (∀ p ∈ new₀ x, h'.get? p.1 = some p.2 ∧ V.h₀.get? p.1 = none) → ((new₀ x).map Prod.fst).Nodup → (eqs x).1 = (eqs x).2 → V.R₀ (res₀ x) ⟨h', ⟨gl₀ x⟩, V.d, tok', V.os⟩)
    (hs : Hs V.prog V.w V.kt (List GenState → α₀)) : Snd V P0 (goG V D₀ U₀ P0 res₀ upd₀ new₀ gl₀ eqs hs) := by
  induction hs with
  | fin n x idx nw => exact plain_snd (finG_snd HR x idx nw) n
  | own n i r ih => exact plain_snd (own_snd ih i) n
  | stk n G q r ih => exact plain_snd (stk_snd hD hU NL ih G q) n
  | val n β ext v v' h r ih => exact plain_snd (val_snd h ih) n
  | tre n t t' h r ih => exact plain_snd (tre_snd h ih) n
  | br n e r1 r2 ih1 ih2 => exact plain_snd (br_snd ih1 ih2) n
  | cut n D U idx β ext c pre gl gl' α res upd new h r ih => exact plain_snd (cut_snd hD hU h ih) n
  | cutg n D U idx β ext c pre α res upd new h r ih => exact plain_snd (cutG_snd hD hU h ih) n
end
theorem CtrG.of_go {prog : Program} {w : World} {kt : KT} {D U : Nat} {c : Code} {pre : List En} {gl : List GenState} {α : Type} {gl' : α → List GenState} {eqs : α → Sem Fin × Sem Fin} {res : α → Result} {upd : α → List Obj} {new : α → List En}
    (NL : ∀ h : Heap, (∀ a o, kt.get a = some o → h.get? a = some o) → h.NoLimit) (hs : Hs prog w kt (List GenState → α))
    (H : ∀ (h : Heap) (dep : Nat) (fr : Option (List Env)) (gd : Option (List Code)) (un : Nat) (R : Result → Shared → Prop) (d : Drawn) (os : OsState) (tok b : Nat),
      (goG ⟨prog, w, h, 0, kt, [], ⟨none, dep, fr, gd, un⟩, R, d, 0, os⟩ D U (pre.map Prod.fst) res upd new gl' eqs hs c none .base (den c) ⟨pre, b, 0, tok, 0, gl⟩).ls =
      (goG ⟨prog, w, h, 0, kt, [], ⟨none, dep, fr, gd, un⟩, R, d, 0, os⟩ D U (pre.map Prod.fst) res upd new gl' eqs hs c none .base (den c) ⟨pre, b, 0, tok, 0, gl⟩).rs) :
    CtrG prog w kt D U c pre gl gl' eqs res upd new := by
  intro A R h d os tok hh hD hU ht hp hn hl hR
  obtain ⟨hd, dep, fr, gd, un⟩ := A
  have hh' : hd = none := hh
  subst hh'
  have ok := Res.ok_of _ (H h dep fr gd un R d os tok h.objs.size)
  have z := goG_snd (V := ⟨prog, w, h, 0, kt, [], ⟨none, dep, fr, gd, un⟩, R, d, 0, os⟩) (P0 := pre.map Prod.fst) (gl₀ := gl') (eqs := eqs) hD hU NL
    (fun x h' tok' k1 k2 k3 k4 k5 => hR x h' tok' k1 (by rw [k2, List.length_map]) k3 k4 k5) hs c none .base (den c) ⟨pre, h.objs.size, 0, tok, 0, gl⟩ h ok
    ⟨rfl, hp, hn, hl, ht, fun p hm => .inl (List.mem_map_of_mem hm), fun b o e _ => e⟩
  rw [← den_eq] at z
  exact y_code _ _ _ _ _ _ z
end Mine
namespace Mine
open PySem PySem.Spec PySem.Calls PyProof.Rows PySem.W PySem.W.X
def kt (P : Params) : KT := (.node (some (k0 P)) (.node (some (k1 P)) (.node (some (k3 P)) (.node none (.node none (.node (some (k31 P)) (.node none (.node none .nil (.node none .nil (.node (some (k895 P)) .nil .nil))) (.node none .nil (.node (some (k447 P)) .nil (.node (some (k959 P)) .nil .nil)))) (.node none .nil (.node none (.node none .nil (.node (some (k863 P)) .nil .nil)) .nil))) (.node none (.node none (.node none (.node none (.node none (.node (some (k1039 P)) .nil .nil) .nil) .nil) .nil) (.node none .nil (.node none (.node none (.node (some (k1231 P)) .nil .nil) .nil) .nil))) (.node none (.node none (.node (some (k303 P)) .nil (.node (some (k815 P)) .nil .nil)) (.node (some (k431 P)) (.node none (.node (some (k1199 P)) .nil .nil) .nil) .nil)) .nil))) (.node none (.node (some (k39 P)) (.node none (.node none (.node (some (k263 P)) .nil .nil) (.node none (.node none (.node (some (k1159 P)) .nil .nil) .nil) .nil)) (.node none .nil (.node none .nil (.node (some (k967 P)) .nil .nil)))) (.node none (.node none (.node none (.node none (.node (some (k1063 P)) .nil .nil) .nil) .nil) (.node (some (k423 P)) .nil .nil)) (.node none (.node none (.node none (.node (some (k1127 P)) .nil .nil) .nil) .nil) .nil))) (.node none (.node (some (k87 P)) .nil (.node none .nil (.node none (.node none (.node (some (k1239 P)) .nil .nil) .nil) .nil))) .nil))) (.node none (.node none (.node none (.node (some (k67 P)) (.node (some (k131 P)) .nil (.node none (.node none (.node (some (k1155 P)) .nil .nil) .nil) (.node (some (k899 P)) .nil .nil))) .nil) (.node none .nil (.node none .nil (.node none (.node none (.node (some (k1251 P)) .nil .nil) .nil) .nil)))) (.node none (.node none (.node none (.node none (.node none (.node (some (k1043 P)) .nil .nil) .nil) (.node (some (k787 P)) .nil .nil)) (.node none (.node none (.node (some (k1171 P)) .nil .nil) .nil) .nil)) (.node none (.node none .nil (.node (some (k851 P)) .nil .nil)) .nil)) .nil)) (.node none (.node none (.node none (.node none (.node (some (k267 P)) (.node (some (k523 P)) .nil .nil) .nil) .nil) (.node none .nil (.node none .nil (.node (some (k971 P)) .nil .nil)))) (.node none .nil (.node (some (k235 P)) .nil .nil))) (.node none (.node none (.node none .nil (.node none (.node none (.node (some (k1179 P)) .nil .nil) .nil) .nil)) (.node none (.node none (.node none (.node (some (k1115 P)) .nil .nil) .nil) .nil) .nil)) (.node none (.node none (.node none (.node none (.node (some (k1083 P)) .nil .nil) .nil) .nil) .nil) (.node none (.node none (.node none (.node (some (k1147 P)) .nil .nil) .nil) .nil) (.node none .nil (.node (some (k1019 P)) .nil .nil)))))))) (.node none (.node none (.node none (.node none (.node none (.node none (.node none (.node none (.node (some (k1025 P)) .nil .nil) .nil) .nil) .nil) .nil) (.node none (.node (some (k161 P)) (.node none .nil (.node (some (k801 P)) .nil .nil)) (.node none (.node none (.node (some (k1185 P)) .nil .nil) .nil) (.node (some (k929 P)) .nil .nil))) (.node none (.node none (.node none (.node (some (k1121 P)) .nil .nil) .nil) (.node (some (k865 P)) .nil .nil)) .nil))) (.node none (.node none (.node none .nil (.node none (.node none (.node (some (k1169 P)) .nil .nil) .nil) .nil)) (.node none .nil (.node none (.node none (.node (some (k1233 P)) .nil .nil) .nil) .nil))) (.node none .nil (.node none (.node none .nil (.node (some (k881 P)) .nil .nil)) .nil)))) (.node none (.node none (.node (some (k73 P)) (.node none (.node (some (k265 P)) (.node none (.node (some (k1033 P)) .nil .nil) .nil) .nil) (.node none (.node none (.node (some (k1161 P)) .nil .nil) .nil) .nil)) .nil) (.node none (.node none (.node none .nil (.node (some (k809 P)) .nil .nil)) (.node none (.node none (.node (some (k1193 P)) .nil .nil) .nil) (.node (some (k937 P)) .nil .nil))) (.node none (.node none (.node none (.node (some (k1129 P)) .nil .nil) .nil) .nil) (.node none (.node none (.node (some (k1257 P)) .nil .nil) .nil) .nil)))) (.node none (.node none (.node none (.node (some (k281 P)) .nil .nil) (.node none (.node none (.node (some (k1177 P)) .nil .nil) .nil) .nil)) .nil) (.node none (.node none (.node none (.node none (.node (some (k1081 P)) .nil .nil) .nil) .nil) (.node none .nil (.node (some (k953 P)) .nil .nil))) .nil)))) (.node none (.node none (.node (some (k37 P)) (.node none (.node none .nil (.node none .nil (.node (some (k901 P)) .nil .nil))) (.node none (.node none .nil (.node (some (k837 P)) .nil .nil)) .nil)) (.node none .nil (.node (some (k229 P)) (.node none (.node none (.node (some (k1125 P)) .nil .nil) .nil) .nil) .nil))) (.node (some (k53 P)) (.node none (.node none (.node none (.node none (.node (some (k1045 P)) .nil .nil) .nil) .nil) (.node none .nil (.node (some (k917 P)) .nil .nil))) .nil) (.node none (.node none (.node (some (k309 P)) (.node none (.node (some (k1077 P)) .nil .nil) .nil) .nil) .nil) (.node none (.node none (.node none (.node (some (k1141 P)) .nil .nil) .nil) .nil) .nil)))) (.node (some (k29 P)) (.node (some (k45 P)) (.node none (.node none (.node none .nil (.node (some (k781 P)) .nil .nil)) .nil) (.node none (.node none .nil (.node (some (k845 P)) .nil .nil)) .nil)) (.node (some (k109 P)) (.node none (.node none (.node none (.node (some (k1069 P)) .nil .nil) .nil) .nil) .nil) .nil)) (.node none (.node none .nil (.node none .nil (.node none (.node none (.node (some (k1245 P)) .nil .nil) .nil) .nil))) (.node none (.node none (.node (some (k317 P)) .nil .nil) .nil) .nil)))))) (.node (some (k2 P)) (.node (some (k4 P)) (.node none (.node none (.node none (.node none (.node none .nil (.node none .nil (.node (some (k896 P)) .nil .nil))) (.node none .nil (.node none .nil (.node (some (k960 P)) .nil .nil)))) (.node none (.node none .nil (.node none .nil (.node (some (k928 P)) .nil .nil))) (.node none (.node none .nil (.node (some (k864 P)) .nil .nil)) .nil))) (.node none (.node none (.node none (.node none (.node none (.node (some (k1040 P)) .nil .nil) .nil) .nil) .nil) (.node none .nil (.node none (.node none (.node (some (k1232 P)) .nil .nil) .nil) .nil))) (.node none (.node none (.node none .nil (.node (some (k816 P)) .nil .nil)) (.node none (.node none (.node (some (k1200 P)) .nil .nil) .nil) .nil)) .nil))) (.node none (.node none (.node none (.node none (.node none (.node none (.node (some (k1032 P)) .nil .nil) .nil) .nil) (.node none (.node none (.node (some (k1160 P)) .nil .nil) .nil) .nil)) .nil) (.node none (.node none (.node none .nil (.node (some (k808 P)) .nil .nil)) (.node (some (k424 P)) (.node none (.node (some (k1192 P)) .nil .nil) .nil) .nil)) (.node none (.node none (.node none (.node (some (k1128 P)) .nil .nil) .nil) .nil) (.node none (.node none (.node (some (k1256 P)) .nil .nil) .nil) .nil)))) (.node none (.node (some (k88 P)) (.node none (.node (some (k280 P)) .nil .nil) .nil) (.node none .nil (.node none (.node none (.node (some (k1240 P)) .nil .nil) .nil) .nil))) (.node none (.node none (.node none (.node none (.node (some (k1080 P)) .nil .nil) .nil) .nil) (.node (some (k440 P)) .nil (.node (some (k952 P)) .nil .nil))) .nil)))) (.node none (.node none (.node none (.node none (.node none .nil (.node none .nil (.node (some (k900 P)) .nil .nil))) (.node none (.node none .nil (.node (some (k836 P)) .nil .nil)) .nil)) (.node none .nil (.node (some (k228 P)) .nil (.node none (.node none (.node (some (k1252 P)) .nil .nil) .nil) .nil)))) (.node (some (k52 P)) (.node none (.node none (.node none (.node none (.node (some (k1044 P)) .nil .nil) .nil) (.node (some (k788 P)) .nil .nil)) .nil) (.node none (.node none (.node none (.node (some (k1108 P)) .nil .nil) .nil) (.node (some (k852 P)) .nil .nil)) .nil)) (.node none (.node none (.node none (.node none (.node (some (k1076 P)) .nil .nil) .nil) .nil) .nil) .nil))) (.node (some (k28 P)) (.node none (.node none .nil (.node none .nil (.node none .nil (.node (some (k972 P)) .nil .nil)))) (.node (some (k108 P)) .nil (.node (some (k236 P)) .nil .nil))) (.node none (.node none .nil (.node none .nil (.node none (.node none (.node (some (k1244 P)) .nil .nil) .nil) .nil))) (.node none (.node none (.node (some (k316 P)) .nil .nil) .nil) (.node none (.node none (.node none (.node (some (k1148 P)) .nil .nil) .nil) .nil) .nil)))))) (.node none (.node none (.node none (.node none (.node (some (k66 P)) (.node (some (k130 P)) (.node none (.node none (.node (some (k1026 P)) .nil .nil) .nil) .nil) (.node none (.node none (.node (some (k1154 P)) .nil .nil) .nil) .nil)) .nil) (.node none (.node (some (k162 P)) (.node none .nil (.node (some (k802 P)) .nil .nil)) (.node none (.node none (.node (some (k1186 P)) .nil .nil) .nil) .nil)) (.node none (.node none (.node none (.node (some (k1122 P)) .nil .nil) .nil) .nil) .nil))) (.node none (.node none (.node none .nil (.node none (.node none (.node (some (k1170 P)) .nil .nil) .nil) .nil)) .nil) (.node none .nil (.node none (.node none .nil (.node (some (k882 P)) .nil .nil)) .nil)))) (.node none (.node none (.node (some (k74 P)) (.node none (.node (some (k266 P)) (.node (some (k522 P)) .nil .nil) .nil) .nil) (.node none .nil (.node none .nil (.node (some (k970 P)) .nil .nil)))) (.node none (.node none .nil (.node none .nil (.node (some (k938 P)) .nil .nil))) (.node none (.node none (.node none (.node (some (k1130 P)) .nil .nil) .nil) .nil) .nil))) (.node none (.node none (.node none .nil (.node none (.node none (.node (some (k1178 P)) .nil .nil) .nil) .nil)) (.node none (.node none (.node none (.node (some (k1114 P)) .nil .nil) .nil) .nil) .nil)) (.node none (.node none (.node none (.node none (.node (some (k1082 P)) .nil .nil) .nil) .nil) .nil) .nil)))) (.node none (.node (some (k22 P)) (.node (some (k38 P)) (.node none (.node none (.node (some (k262 P)) .nil .nil) (.node none (.node none (.node (some (k1158 P)) .nil .nil) .nil) .nil)) (.node none .nil (.node none .nil (.node (some (k966 P)) .nil .nil)))) (.node none (.node none (.node none (.node none (.node (some (k1062 P)) .nil .nil) .nil) .nil) (.node (some (k422 P)) .nil .nil)) (.node none (.node none (.node none (.node (some (k1126 P)) .nil .nil) .nil) .nil) .nil))) (.node none (.node none (.node none (.node none (.node none (.node (some (k1046 P)) .nil .nil) .nil) .nil) (.node none .nil (.node (some (k918 P)) .nil .nil))) .nil) (.node none (.node none (.node (some (k310 P)) .nil .nil) .nil) .nil))) (.node (some (k30 P)) (.node (some (k46 P)) .nil (.node none (.node none (.node none (.node none (.node (some (k1070 P)) .nil .nil) .nil) .nil) (.node (some (k430 P)) .nil .nil)) .nil)) (.node none (.node none .nil (.node none (.node none .nil (.node (some (k862 P)) .nil .nil)) .nil)) (.node none (.node none .nil (.node (some (k446 P)) .nil .nil)) .nil)))))))
abbrev wr (w : World) (b1 b2 : Bool) : World := (w.withFollow "special-get-raises" b1).withFollow "comprehension-iter-twice" b2
end Mine
namespace Mine
open PySem PySem.Spec PySem.Calls PyProof.Rows PySem.W PySem.W.X
theorem NL (P : Params) : ∀ h : Heap, (∀ a o, (kt P).get a = some o → h.get? a = some o) → h.NoLimit := by
  intro h ht
  have h2 : h.get? 2 = some (k2 P) := ht 2 _ rfl
  refine ⟨_, ⟨k2 P, _, _, h2, rfl, ?_, fun _ => rfl⟩, rfl⟩
  intro e he
  have he' := Array.mem_toList_iff.mpr he
  simp only [List.mem_cons, List.not_mem_nil, or_false] at he'
  rcases he' with rfl | rfl | rfl | rfl | rfl <;> exact ⟨_, _, rfl⟩
def owns {prog : Program} {w : World} {kt : KT} {α₀ : Type} (l : List (Nat × Nat)) (r : Hs prog w kt α₀) : Hs prog w kt α₀ := match l with
  | [] => r
  | p :: l => .own p.1 p.2 (owns l r)
theorem Ctr.of_gives {prog : Program} {w : World} {kt : KT} {D U : Nat} {gl : List GenState} {id : String} {B : Builtin} {args : Args} {z : Int} (hp : plainId id = true) (he : entryFor table id = some B) (g : Gives (B args) (.int z)) :
    Ctr prog w kt D U (.builtin id args) [] gl gl (α := Nat) (fun tk => .ok (.ret (.int z tk))) (fun _ => []) (fun _ => []) := by
  intro A R h d os tok _ _ _ _ _ _ _ hR
  refine codeAny_of_tree ?_
  rw [Around.under_plainId hp]
  show wpAny _ _ (match entryFor table id with | some b => b args | none => _) _ _ _
  rw [he]
  exact g prog w A R _ (hR tok h (tok + 1) (fun _ _ e _ => e) rfl (fun _ hm => nomatch hm) (fun _ hm => nomatch hm) List.nodup_nil)
end Mine
namespace Mine
open PySem PySem.Spec PySem.Calls PyProof.Rows PySem.W PySem.W.X
def tk2 : Code → Nat × Nat
  | .builtin _ a => match a.pos with
    | [.int _ t, .int _ u] => (t, u)
    | _ => (0, 0)
  | _ => (0, 0)
/-- an int's binary built-in, by its contract -/
def cutBin {prog : Program} {w : World} {kt : KT} {α₀ : Type} (n : Nat) (gl : List GenState) (id : String) (x y z : Int)
    (h : ∀ t u, Ctr prog w kt 900 9000 (.builtin id ⟨[.int x t, .int y u], []⟩) [] gl gl (α := Nat) (fun tk => .ok (.ret (.int z tk))) (fun _ => []) (fun _ => [])) (r : Hs prog w kt α₀) : Hs prog w kt α₀ :=
  .cut n 900 9000 [] (Nat × Nat) (fun c _ => tk2 c) (fun y' => .builtin id ⟨[.int x y'.1, .int y y'.2], []⟩) (fun _ => []) gl gl Nat (fun _ tk => .ok (.ret (.int z tk))) (fun _ _ => []) (fun _ _ => []) (fun y' => h y'.1 y'.2) (fun _ _ _ _ => r)
abbrev lstO (xs : Array Value) (n : Nat) : Obj := ⟨.type "list", none, .seq xs n, #[]⟩
def valOf : Result → Value
  | .ok f => match f with
    | .ret v => v
    | _ => .none
  | .error v => v
def objAt (T : List En) (i : Nat) : Obj := match nth T i with
  | some e => e.2
  | none => default
abbrev prog : Program := PySem.Challenge.pw_ez0263_01
end Mine
namespace Mine
open PySem PySem.Spec PySem.Calls PyProof.Rows PySem.W PySem.W.X
abbrev BinC (prog : Program) (w : World) (kt : KT) (gl : List GenState) (id : String) (x y z : Int) : Prop := ∀ t u, Ctr prog w kt 900 9000 (.builtin id ⟨[.int x t, .int y u], []⟩) [] gl gl (α := Nat) (fun tk => .ok (.ret (.int z tk))) (fun _ => []) (fun _ => [])
theorem mulC {prog : Program} {w : World} {kt : KT} {gl : List GenState} {x y : Int} (h : IntMulOk x y) : BinC prog w kt gl "int.__mul__" x y (x * y) := fun t u =>
  Ctr.of_gives (by decide +kernel) (entryFor_of_tree (by kernel_rfl)) (AutoIntG1.int___mul___int_int_0 x t y u h)
theorem divC {prog : Program} {w : World} {kt : KT} {gl : List GenState} {x y : Int} (h0 : (y == 0) = false) (h : y.natAbs < 1073741824) : BinC prog w kt gl "int.__floordiv__" x y (x.fdiv y) := fun t u =>
  Ctr.of_gives (by decide +kernel) (entryFor_of_tree (by kernel_rfl)) (AutoIntG4.int___floordiv___int_int_1 x t y u (by rw [h0]; exact Bool.false_ne_true) (by rw [PyProof.noPylong_small h]; exact Bool.false_ne_true))
theorem divC' {prog : Program} {w : World} {kt : KT} {gl : List GenState} {x y z : Int} (h0 : (y == 0) = false) (h : y.natAbs < 1073741824) (hz : x.fdiv y = z) : BinC prog w kt gl "int.__floordiv__" x y z := hz ▸ divC h0 h
end Mine
namespace Mine
open PySem PySem.Spec PySem.Calls PyProof.Rows PySem.W PySem.W.X
theorem gLsh (a : Int) (t : Tok) (b : Int) (u : Tok) (hc0 : ¬b < 0) (hc1 : ¬(a == 0) = true) (hc2 : ¬((Builtin.Int.intBits a : Int) + 29) / 30 + b / 30 + (if (b % 30 == 0) = true then 0 else 1) > Builtin.maxDigits) (hc3 : ¬Builtin.Int.intTooBig ((Builtin.Int.intBits a : Int) + b) = true) :
    Gives (Builtin.«int.__lshift__» ⟨[.int a t, .int b u], []⟩) (.int (a * 2 ^ b.toNat)) :=
  .of_wp fun M A E s Q h => by obtain ⟨hp, g, d, tk, os⟩ := s; wp_walk; rw [if_neg hc2]; dsimp only; rw [if_neg hc3]; wp_walk; exact ⟨_, rfl, h⟩
theorem intBits_le {a k : Nat} (h : a < 2 ^ k) : Builtin.Int.intBits (a : Int) ≤ k := by
  unfold Builtin.Int.intBits
  by_cases ha : a = 0
  · subst ha; exact Nat.zero_le _
  · have hb : ((a : Int) == 0) = false := by rw [beq_eq_false_iff_ne]; omega
    rw [hb]
    have : a.log2 < k := (Nat.log2_lt ha).mpr h
    show (a : Int).natAbs.log2 + 1 ≤ k
    rw [Int.natAbs_natCast]
    exact this
variable {prog : Program} {w : World} {kt : KT} {gl : List GenState}
theorem lshC {a b : Nat} (ha : a < 2 ^ 1000) (hb : b ≤ 1000) {z : Int} (hz : z = (a : Int) * 2 ^ b) : BinC prog w kt gl "int.__lshift__" a b z := fun t u => by
  subst hz
  have hbb := intBits_le ha
  by_cases h0 : a = 0
  · subst h0
    have := AutoIntG6.int___lshift___int_int_1 ((0 : Nat) : Int) t b u (by omega) rfl
    rw [show ((0 : Nat) : Int) * 2 ^ b = 0 by simp]
    exact Ctr.of_gives (by decide +kernel) (entryFor_of_tree (by kernel_rfl)) this
  · have := gLsh (a : Int) t b u (by omega) (by rw [show ((a : Int) == 0) = false by rw [beq_eq_false_iff_ne]; omega]; exact Bool.false_ne_true) (by
      rw [show Builtin.maxDigits = 2305843009213693945 from rfl]
      have : (if (((b : Int)) % 30 == 0) = true then (0 : Int) else 1) ≤ 1 := by split <;> omega
      omega) (by
      have : Builtin.Int.intTooBig ((Builtin.Int.intBits (a : Int) : Int) + b) = false := by
        unfold Builtin.Int.intTooBig
        rw [show bitsLine = 134217728 from rfl]
        exact decide_eq_false (by omega)
      rw [this]; exact Bool.false_ne_true)
    exact Ctr.of_gives (by decide +kernel) (entryFor_of_tree (by kernel_rfl)) this
theorem fdiv_pow (a b : Nat) : (a : Int).fdiv (2 ^ b) = ((a / 2 ^ b : Nat) : Int) := by
  rw [Int.fdiv_eq_ediv_of_nonneg _ (Int.le_of_lt (Int.pow_pos (by decide))), Int.natCast_ediv, Int.natCast_pow]
  rfl
theorem rshC {a b : Nat} {z : Int} (hz : z = ((a / 2 ^ b : Nat) : Int)) : BinC prog w kt gl "int.__rshift__" a b z := fun t u => by
  subst hz
  by_cases h : (b : Int) ≥ ((Builtin.Int.intBits (a : Int) : Nat) : Int)
  · have := AutoIntG9.int___rshift___int_int_1 (a : Int) t b u (by omega) h
    have e : (if (a : Int) < 0 then (-1 : Int) else 0) = ((a / 2 ^ b : Nat) : Int) := by
      rw [if_neg (by omega)]
      have hl : a < 2 ^ b := by
        by_cases h0 : a = 0
        · subst h0; exact Nat.pos_of_ne_zero (by simp)
        · unfold Builtin.Int.intBits at h
          rw [show ((a : Int) == 0) = false by rw [beq_eq_false_iff_ne]; omega] at h
          have h' : a.log2 + 1 ≤ b := by
            have : ((a.log2 + 1 : Nat) : Int) ≤ b := by simpa using h
            omega
          exact (Nat.log2_lt h0).mp h'
      rw [Nat.div_eq_of_lt hl]; rfl
    rw [e] at this
    exact Ctr.of_gives (by decide +kernel) (entryFor_of_tree (by kernel_rfl)) this
  · have := AutoIntG0.int___rshift___int_int_2 (a : Int) t b u (by omega) h
    rw [show ((b : Int)).toNat = b from rfl, fdiv_pow] at this
    exact Ctr.of_gives (by decide +kernel) (entryFor_of_tree (by kernel_rfl)) this
theorem powC {b : Nat} (hb : b ≤ 1000) {z : Int} (hz : z = ((2 ^ b : Nat) : Int)) : BinC prog w kt gl "int.__pow__" 2 b z := fun t u => by
  subst hz
  by_cases h0 : b = 0
  · subst h0
    exact Ctr.of_gives (by decide +kernel) (entryFor_of_tree (by kernel_rfl)) (AutoIntG9.int___pow___int_int_0 2 t ((0 : Nat) : Int) u (by omega) rfl)
  · have := AutoIntG2.int___pow___int_int_4 2 t (b : Int) u (by omega) (by rw [show ((b : Int) == 0) = false by rw [beq_eq_false_iff_ne]; omega]; exact Bool.false_ne_true) (by decide) (by decide) (by
      have : Builtin.Int.intTooBig (((Builtin.Int.intBits 2 : Nat) : Int) * b) = false := by
        have e : ((Builtin.Int.intBits 2 : Nat) : Int) = 2 := by decide +kernel
        rw [e]
        unfold Builtin.Int.intTooBig
        rw [show bitsLine = 134217728 from rfl]
        exact decide_eq_false (by omega)
      rw [this]; exact Bool.false_ne_true)
    rw [show ((b : Int)).toNat = b from rfl] at this
    rw [Int.natCast_pow]
    exact Ctr.of_gives (by decide +kernel) (entryFor_of_tree (by kernel_rfl)) this
theorem divPC {a b : Nat} (hb : b ≤ 1000) {z : Int} (hz : z = ((a / 2 ^ b : Nat) : Int)) : BinC prog w kt gl "int.__floordiv__" a ((2 ^ b : Nat) : Int) z := fun t u => by
  subst hz
  have hp : 0 < 2 ^ b := Nat.pos_of_ne_zero (by simp)
  have := AutoIntG4.int___floordiv___int_int_1 (a : Int) t ((2 ^ b : Nat) : Int) u (by rw [show (((2 ^ b : Nat) : Int) == 0) = false by rw [beq_eq_false_iff_ne]; omega]; exact Bool.false_ne_true)
    (by rw [PyProof.noPylong_of_log2 (by rw [Int.natAbs_natCast, Nat.log2_two_pow]; omega)]; exact Bool.false_ne_true)
  rw [Int.natCast_pow, show ((2 : Nat) : Int) = 2 from rfl, fdiv_pow, ← show ((2 : Nat) : Int) = 2 from rfl, ← Int.natCast_pow] at this
  exact Ctr.of_gives (by decide +kernel) (entryFor_of_tree (by kernel_rfl)) this
theorem modPC {a b : Nat} {z : Int} (hz : z = ((a % 2 ^ b : Nat) : Int)) : BinC prog w kt gl "int.__mod__" a ((2 ^ b : Nat) : Int) z := fun t u => by
  subst hz
  have hp : 0 < 2 ^ b := Nat.pos_of_ne_zero (by simp)
  have := AutoIntG6.int___mod___int_int_1 (a : Int) t ((2 ^ b : Nat) : Int) u (by rw [show (((2 ^ b : Nat) : Int) == 0) = false by rw [beq_eq_false_iff_ne]; omega]; exact Bool.false_ne_true)
  rw [Int.fmod_eq_emod_of_nonneg _ (by omega)] at this
  rw [Int.natCast_emod]
  exact Ctr.of_gives (by decide +kernel) (entryFor_of_tree (by kernel_rfl)) this
end Mine
namespace Mine
open PySem PySem.Spec PySem.Calls PyProof.Rows PySem.W PySem.W.X
theorem get_size (h : Heap) : h.get? h.objs.size = none := by
  cases e : h.get? h.objs.size with
  | none => rfl
  | some o => exact absurd (Heap.lt_size e) (Nat.lt_irrefl _)
section
variable {prog : Program} {w : World} {kt : KT} {D U : Nat} {gl : List GenState}
abbrev NewC (prog : Program) (w : World) (kt : KT) (D U : Nat) (gl : List GenState) (c : Code) (o : Obj) : Prop :=
  Ctr prog w kt D U c [] gl gl (α := Addr) (fun a => .ok (.ret (.ref a))) (fun _ => []) (fun a => [(a, o)])
theorem newListC (a : Value) : NewC prog w kt D U gl (.call (.builtin "list.__new__") ⟨[.type "list", a], []⟩) (lstO #[] 0) := by
  intro A R h d os tok _ _ _ _ _ _ _ hR
  refine codeAny_mono (code_list_new (A := A) (E := fun _ _ => False) a (Q₁ := fun v s => R (.ok (.ret v)) s) ?_) fun r s hr => ?_
  · refine hR h.objs.size _ tok (fun b o e _ => Heap.get?_push_of_some _ e) rfl (fun _ hm => nomatch hm) (fun p hm => ?_) (by simp)
    cases List.mem_singleton.mp hm
    exact ⟨Heap.get?_push_size _ rfl, get_size h⟩
  · unfold wants at hr
    split at hr
    · exact hr
    all_goals exact hr.elim
theorem newCall_ba (a : Value) : checkBuiltinCall "bytearray.__new__" ⟨[.type "bytearray", a], []⟩ = pure () := by kernel_rfl
theorem entry_ba_new : entryFor table "bytearray.__new__" = some Builtin.«list.__new__» := entryFor_alias (id' := "list.__new__") (by rw [fastTable_eq_tree]; kernel_rfl) rfl (by decide +kernel) (by rw [fastTable_eq_tree]; kernel_rfl)
theorem plain_ba_new : plainId "bytearray.__new__" = true := by decide +kernel
set_option maxHeartbeats 4000000 in
theorem owner_ba_new : ("bytearray.__new__".splitOn ".__new__").headD "" = "bytearray" := by simp +decide [String.splitOn, String.splitOnAux]
theorem sub_ba_self : isSubtype (.type "bytearray") (.type "bytearray") = pure true := by rw [isSubtype_type]; kernel_rfl
abbrev baO (b : Array UInt8) : Obj := ⟨.type "bytearray", none, .bytearray b 0, #[]⟩
theorem baNewC (a : Value) : NewC prog w kt D U gl (.call (.builtin "bytearray.__new__") ⟨[.type "bytearray", a], []⟩) (baO #[]) := by
  intro A R h d os tok _ _ _ _ _ _ _ hR
  have fin := hR h.objs.size (h.push (baO #[])) tok (fun b o e _ => Heap.get?_push_of_some _ e) rfl (fun _ hm => nomatch hm) (fun p hm => by
    cases List.mem_singleton.mp hm
    exact ⟨Heap.get?_push_size _ rfl, get_size h⟩) (by simp)
  refine codeAny_of_tree ?_
  show wpAny _ A.in1 (do checkBuiltinCall "bytearray.__new__" ⟨[.type "bytearray", a], []⟩; again (.builtin "bytearray.__new__" ⟨[.type "bytearray", a], []⟩)) _ _ _
  refine wpAny_bind (wpAny_of_eq (newCall_ba a) (wpAny_pure ⟨plainId_quiet plain_ba_new _, codeAny_builtin_stack entry_ba_new rfl fun p st => ?_⟩))
  rw [Around.under_plainId plain_ba_new _]
  have hsub := sub_ba_self
  have hown := owner_ba_new
  simp only [hown]
  wp_walk
  exact fin
end
end Mine
namespace Mine
open PySem PySem.Spec PySem.Calls PyProof.Rows PySem.W PySem.W.X
section
variable {prog : Program} {w : World} {kt : KT} {D U : Nat} {gl : List GenState}
theorem entry_ba_init : entryFor table "bytearray.__init__" = some Builtin.«bytearray.__init__» := entryFor_of_tree (by kernel_rfl)
theorem plain_ba_init : plainId "bytearray.__init__" = true := by decide +kernel
theorem den_entry {id : String} {B : Builtin} {args : Args} (he : entryFor table id = some B) : denote table (.builtin id args) = B args := by
  show (match entryFor table id with | some b => b args | none => unsupported ((withoutEnding? id "#data").getD id)) = _
  rw [he]
theorem ba_bind (v : Value) : Builtin.Bytes.bindOptional "bytearray.__init__" "bytearray" ["source", "encoding", "errors"] [v] [] = pure [some v, none, none] := by kernel_rfl
theorem ba_noindex : typeLookup (.type "bytes") "__index__" = pure none := by rw [typeLookup_type, builtinLookup_eq_fast]; kernel_rfl
theorem ba_buffer : typeLookup (.type "bytes") "__buffer__" = pure (some (.builtin "bytes.__buffer__")) := by rw [typeLookup_type, builtinLookup_eq_fast]; kernel_rfl
theorem ba_norel : typeLookup (.type "bytes") "__release_buffer__" = pure none := by rw [typeLookup_type, builtinLookup_eq_fast]; kernel_rfl
theorem ba_rel : typeLookup (.type "bytearray") "__release_buffer__" = pure (some (.builtin "bytearray.__release_buffer__")) := by rw [typeLookup_type, builtinLookup_eq_fast]; kernel_rfl
theorem ba_ends : ("bytearray.__release_buffer__".endsWith ("." ++ "__release_buffer__")) = true := by decide +kernel
theorem ba_drop : ("bytearray.__release_buffer__".dropRight ("__release_buffer__".length + 1)) = "bytearray" := by decide +kernel
theorem ownRel {A : Around} {E : Value → Shared → Prop} {Q : Bool → Shared → Prop} {s : Shared} {a : Addr} (hT : s.TypeIs (.ref a) "bytearray") (h : Q false s) : wpAny (model prog w) A (Builtin.Bytes.ownRelease (.ref a)) Q E s := by
  unfold Builtin.Bytes.ownRelease Builtin.Bytes.slotIsOwn
  refine wpAny_bind (wpAny_bind (wpAny_specialOf hT ba_rel ?_))
  dsimp only
  rw [ba_ends, ba_drop]
  exact wpAny_isInstance hT sub_ba_self (wpAny_pure h)
theorem by_ends : ("bytes.__buffer__".endsWith ("." ++ "__buffer__")) = true := by decide +kernel
theorem by_drop : ("bytes.__buffer__".dropRight ("__buffer__".length + 1)) = "bytes" := by decide +kernel
theorem sub_by : isSubtype (.type "bytes") (.type "bytes") = pure true := by rw [isSubtype_type]; kernel_rfl
theorem bufOwn {A : Around} {E : Value → Shared → Prop} {Q : Bool → Shared → Prop} {s : Shared} {b : Array UInt8} {t : Tok} (h : Q true s) : wpAny (model prog w) A (Builtin.Bytes.slotIsOwn (.bytes b t) "__buffer__") Q E s := by
  unfold Builtin.Bytes.slotIsOwn
  refine wpAny_bind (wpAny_specialOf (typeIs_bytes _ b t) ba_buffer ?_)
  dsimp only
  rw [by_ends, by_drop]
  exact wpAny_isInstance (typeIs_bytes _ b t) sub_by h
theorem relOwn {A : Around} {E : Value → Shared → Prop} {Q : Bool → Shared → Prop} {s : Shared} {b : Array UInt8} {t : Tok} (h : Q false s) : wpAny (model prog w) A (Builtin.Bytes.ownRelease (.bytes b t)) Q E s := by
  unfold Builtin.Bytes.ownRelease Builtin.Bytes.slotIsOwn
  exact wpAny_bind (wpAny_bind (wpAny_specialOf (typeIs_bytes _ b t) ba_norel (wpAny_pure (wpAny_pure h))))
theorem OwnP.cmd' {α β : Type} {M : Model} {A : Around} {c : Code} {E : Value → Shared → Prop} {s : Shared} {m : Sem α} {f : α → Sem β} {Q : β → Shared → Prop} (h : wpAny M (A.under c) m (fun a s' => OwnP M A c (f a) Q E s') E s) : OwnP M A c (m >>= f) Q E s := OwnP.cmd h
theorem OwnP.bind' {α β : Type} {M : Model} {A : Around} {c : Code} {E : Value → Shared → Prop} {s : Shared} {m : Sem α} {f : α → Sem β} {Q : β → Shared → Prop} (h : OwnP M A c m (fun a s' => OwnP M A c (f a) Q E s') E s) : OwnP M A c (m >>= f) Q E s := OwnP.bind h
theorem OwnP.any {α : Type} {M : Model} {A : Around} {c : Code} {E : Value → Shared → Prop} {s : Shared} {m : Sem α} {Q : α → Shared → Prop} (h : wpAny M (A.under c) m Q E s) : OwnP M A c m Q E s := .of_own (wpOwn_of_wpAny h)
theorem hl0 (a : Args) : harmless (.builtin "bytearray.__contains__" a) = false := by show (!(holdIds.contains "bytearray.__contains__" || Builtin.Bytes.decodersThatHold.contains "bytearray.__contains__")) = false; rw [show holdIds.contains "bytearray.__contains__" = true by decide +kernel]; rfl
theorem hl1 (a : Args) : harmless (.builtin "bytearray.__mod__" a) = false := by show (!(holdIds.contains "bytearray.__mod__" || Builtin.Bytes.decodersThatHold.contains "bytearray.__mod__")) = false; rw [show holdIds.contains "bytearray.__mod__" = true by decide +kernel]; rfl
theorem hl2 (a : Args) : harmless (.builtin "bytearray.__rmod__" a) = false := by show (!(holdIds.contains "bytearray.__rmod__" || Builtin.Bytes.decodersThatHold.contains "bytearray.__rmod__")) = false; rw [show holdIds.contains "bytearray.__rmod__" = true by decide +kernel]; rfl
theorem hl3 (a : Args) : harmless (.builtin "_struct.pack_into.held" a) = false := by show (!(holdIds.contains "_struct.pack_into.held" || Builtin.Bytes.decodersThatHold.contains "_struct.pack_into.held")) = false; rw [show holdIds.contains "_struct.pack_into.held" = true by decide +kernel]; rfl
theorem hl4 (a : Args) : harmless (.builtin "bytearray.find.held" a) = false := by show (!(holdIds.contains "bytearray.find.held" || Builtin.Bytes.decodersThatHold.contains "bytearray.find.held")) = false; rw [show holdIds.contains "bytearray.find.held" = true by decide +kernel]; rfl
theorem hl_init {a : Args} : harmless (.builtin "bytearray.__init__" a) = true := by show (!(holdIds.contains "bytearray.__init__" || Builtin.Bytes.decodersThatHold.contains "bytearray.__init__")) = true; decide +kernel
theorem stackAnyP {A : Around} {c : Code} {E : Value → Shared → Prop} {Q : Bool → Shared → Prop} {s : Shared} {f : Code × Pos → Bool} (hf : ∀ x : Code × Pos, harmless x.1 = true → f x = false) (hc : harmless c = true) (h : Q false s) :
    OwnP (model prog w) A c (do return (← stack).any f) Q E s := fun Γ p hcΓ hΓ hP => by
  show Q (((Γ.code, p) :: Γ.below).any f) s
  have : ((Γ.code, p) :: Γ.below).any f = false := List.any_eq_false.mpr fun x hx => by rw [hf x (PB.push (hcΓ ▸ hc) hP x hx)]; exact Bool.false_ne_true
  rw [this]; exact h
theorem notExp {A : Around} {c : Code} {E : Value → Shared → Prop} {Q : Bool → Shared → Prop} {s : Shared} {v : Value} (hc : harmless c = true) (h : Q false s) : OwnP (model prog w) A c (Builtin.Bytes.exported v) Q E s := by
  unfold Builtin.Bytes.exported
  refine stackAnyP (fun x hx => ?_) hc h
  revert hx
  split <;> intro hx
  all_goals first
    | rfl
    | (have hx := hx.symm.trans (hl0 _); cases hx)
    | (have hx := hx.symm.trans (hl1 _); cases hx)
    | (have hx := hx.symm.trans (hl2 _); cases hx)
    | (have hx := hx.symm.trans (hl3 _); cases hx)
    | (have hx := hx.symm.trans (hl4 _); cases hx)
    | (have hx' : (!(holdIds.contains _ || Builtin.Bytes.decodersThatHold.contains _)) = true := hx
       simp only [Bool.not_eq_true', Bool.or_eq_false_iff] at hx'
       rw [hx'.2, Bool.and_false])
    | trace_state
theorem wrBa {A : Around} {E : Value → Shared → Prop} {Q : Unit → Shared → Prop} {s : Shared} {a : Addr} {b : Array UInt8} {f : Array UInt8 → Array UInt8} (ho : s.heap.get? a = some (baO b)) (hz : (f b).size ≤ sizeLine)
    (h : (s.heap.update a (Obj.mapBytearray f)).get? a = some (baO (f b)) → Q () { s with heap := s.heap.update a (Obj.mapBytearray f) }) : wpAny (model prog w) A (Builtin.Bytes.write (.ref a) f) Q E s := by
  show wpAny _ _ (updateBytearray a f) _ _ _
  unfold updateBytearray
  refine wpAny_bind (wpAny_load ho ?_)
  show wpAny _ _ (update a (Obj.mapBytearray f) >>= fun _ => lookBehind a) _ _ _
  refine wpAny_bind (wpAny_update ho ?_)
  have h2 : (s.heap.update a (Obj.mapBytearray f)).get? a = some (baO (f b)) := Heap.get?_update_self (Obj.mapBytearray f) ho rfl
  refine wpAny_lookBehind h2 ?_ (h h2)
  show (if (f b).size > sizeLine then some "bytearray:memory" else none) = none
  rw [if_neg]
  omega
theorem baInitC (a : Addr) (B : Array UInt8) (hz : B.size ≤ sizeLine) (t : Tok) : CtrP prog w kt D U (.builtin "bytearray.__init__" ⟨[.ref a, .bytes B t], []⟩) [(a, baO #[])] gl gl (α := Unit) (fun _ => .ok (.ret .none)) (fun _ => [baO B]) (fun _ => []) := by
  intro A R h d os tok hh hD hU ht hp hn hl hR
  have ho : h.get? a = some (baO #[]) := hp _ (.head _)
  refine codeP_of_own ?_
  rw [den_entry entry_ba_init]
  have hT : Shared.TypeIs ⟨h, ⟨gl⟩, d, tok, os⟩ (.ref a) "bytearray" := ⟨_, ho, rfl⟩
  unfold Builtin.«bytearray.__init__»
  refine OwnP.cmd' (ownRel hT ?_)
  show OwnP _ _ _ (if (false : Bool) = true then _ else _) _ _ _
  rw [if_neg Bool.false_ne_true]
  refine OwnP.cmd' (wpAny_of_eq (ba_bind _) ?_)
  refine OwnP.cmd' (wpAny_of_eq (a := ()) rfl ?_)
  refine OwnP.cmd' (wpAny_of_eq (a := ()) rfl ?_)
  refine OwnP.bind' (OwnP.bind' (notExp hl_init ?_))
  show OwnP _ _ _ (Builtin.Bytes.exportsOf (.ref a) >>= _) _ _ _
  refine OwnP.any ?_
  rw [Around.under_plainId plain_ba_init]
  refine wpAny_bind ?_
  show wpAny _ _ (load a >>= _) _ _ _
  refine wpAny_bind (wpAny_load ho ?_)
  refine wpAny_pure (wpAny_pure ?_)
  refine OwnP.any ?_
  rw [Around.under_plainId plain_ba_init]
  refine bm_if_false rfl ?_
  refine wpAny_bind (wrBa ho (Nat.zero_le _) fun ho1 => ?_)
  have hT1 : Shared.TypeIs ⟨h.update a (Obj.mapBytearray fun _ => #[]), ⟨gl⟩, d, tok, os⟩ (.ref a) "bytearray" := ⟨_, ho1, rfl⟩
  refine wpAny_bind (wpAny_of_eq (a := none) rfl ?_)
  refine bm_if_false rfl ?_
  refine wpAny_bind (wpAny_of_eq (a := ()) rfl ?_)
  refine wpAny_bind (wpAny_specialOf (typeIs_bytes _ B t) ba_noindex ?_)
  refine bm_if_false rfl ?_
  unfold Builtin.Bytes.buffer?
  refine wpAny_bind (wpAny_bind (wpAny_specialOf (typeIs_bytes _ B t) ba_buffer ?_))
  dsimp only
  refine wpAny_bind (bufOwn ?_)
  refine bm_if_false rfl ?_
  refine wpAny_bind (wpAny_specialOf (typeIs_bytes _ B t) ba_buffer ?_)
  show wpAny _ _ (Builtin.Bytes.ownRelease (.bytes B t) >>= _) _ _ _
  refine wpAny_bind (relOwn ?_)
  refine bm_if_false rfl ?_
  refine wpAny_bind (wpAny_of_eq (a := B) rfl (wpAny_pure ?_))
  dsimp only
  refine wpAny_bind (wpAny_rule ?_)
  refine wpAny_bind (wrBa ho1 hz fun ho2 => ?_)
  refine wpAny_bind (wpAny_pure (wpAny_pure ?_))
  refine hR () _ tok (fun b o e hb => ?_) rfl (fun p hm => ?_) (fun _ hm => nomatch hm) List.nodup_nil
  · have hb' : a ≠ b := fun z => hb (by rw [z]; exact .head _)
    exact (Heap.get?_update_other _ _ hb').trans ((Heap.get?_update_other _ _ hb').trans e)
  · cases List.mem_singleton.mp hm
    exact ho2
end
end Mine
namespace Mine
open PySem PySem.Spec PySem.Calls PyProof.Rows PySem.W PySem.W.X
section
variable {prog : Program} {w : World} {kt : KT} {D U : Nat} {gl : List GenState}
theorem entry_ba_get : entryFor table "bytearray.__getitem__" = some Builtin.«bytearray.__getitem__» := entryFor_of_tree (by kernel_rfl)
theorem plain_ba_get : plainId "bytearray.__getitem__" = true := by decide +kernel
abbrev sliO (p q : Int) (tp tq : Tok) : Obj := ⟨.type "slice", none, .fields #[.int p tp, .int q tq, .none], #[]⟩
theorem picked_mid {B : Array UInt8} {p q : Nat} (h1 : p ≤ q) (h2 : q ≤ B.size) : KBy.picked B (some (p : Int)) (some (q : Int)) = B.extract p q := by
  rw [KBc.picked_eq]
  simp only [Option.elim, clipAt_nat]
  rw [Nat.min_eq_left (Nat.le_trans h1 h2), Nat.min_eq_left h2]
  apply Array.ext'
  simp
theorem baSliceC (a sl : Addr) (B : Array UInt8) (p q : Nat) (tp tq : Tok) (h1 : p ≤ q) (h2 : q ≤ B.size) (hz : B.size ≤ sizeLine) : Ctr prog w kt D U (.builtin "bytearray.__getitem__" ⟨[.ref a, .ref sl], []⟩) [(a, baO B), (sl, sliO p q tp tq)] gl gl (α := Addr)
    (fun x => .ok (.ret (.ref x))) (fun _ => [baO B, sliO p q tp tq]) (fun x => [(x, baO (B.extract p q))]) := by
  intro A R h d os tok hh hD hU ht hp hn hl hR
  have ho : h.get? a = some (baO B) := hp _ (.head _)
  have hs : h.get? sl = some (sliO p q tp tq) := hp _ (.tail _ (.head _))
  have hd : (sliO p q tp tq).data = .fields #[.int p tp, .int q tq, .none] := rfl
  refine codeAny_builtin entry_ba_get ?_
  rw [Around.under_plainId plain_ba_get]
  have hT : Shared.TypeIs ⟨h, ⟨gl⟩, d, tok, os⟩ (.ref sl) "slice" := ⟨_, hs, rfl⟩
  have hz2 : (B.extract p q).size ≤ sizeLine := by
    rw [Array.size_extract]
    omega
  have fin := hR h.objs.size (h.push (baO (B.extract p q))) tok (fun b o e _ => Heap.get?_push_of_some _ e) rfl (fun x hm => by
      rcases List.mem_cons.mp hm with rfl | hm
      · exact Heap.get?_push_of_some _ ho
      · cases List.mem_singleton.mp hm
        exact Heap.get?_push_of_some _ hs) (fun x hm => by
      cases List.mem_singleton.mp hm
      exact ⟨Heap.get?_push_size _ rfl, get_size h⟩) (by simp)
  show wpAny _ _ (Builtin.Bytes.subscript? (.ref sl) >>= fun r => _) _ _ _
  refine wpAny_bind ?_
  unfold Builtin.Bytes.subscript?
  refine wpAny_bind (wpAny_specialOf hT slice_no_index (wpAny_pure ?_))
  refine wpAny_bind (wpAny_typeOf hT ?_)
  show wpAny _ _ (Builtin.Bytes.sliceParts (.ref sl) >>= fun r => _) _ _ _
  refine wpAny_bind ?_
  unfold Builtin.Bytes.sliceParts
  refine wpAny_bind (wpAny_field (x := .none) hs hd rfl ?_)
  kby_none
  refine wpAny_ite (KBy.ite_no (show ¬ ((Value.none == rawInt 0) = true) from Bool.false_ne_true) ?_)
  refine wpAny_bind (wpAny_field (x := .int p tp) hs hd rfl ?_)
  have go : wpAny (model prog w) A.in1 (sliceIndices (rawPart (some (p : Int))) (rawPart (some (q : Int))) (rawPart none) B.size) (fun r s' => r = sliceBounds (some (p : Int)) (some (q : Int)) none B.size ∧ s' = ⟨h, ⟨gl⟩, d, tok, os⟩) (fun _ _ => False) ⟨h, ⟨gl⟩, d, tok, os⟩ :=
    wpAny_of_eq (sliceIndices_raw (some (p : Int)) (some (q : Int)) none B.size (fun e => nomatch e)) ⟨rfl, rfl⟩
  open KBy in kby_int
  refine wpAny_bind (wpAny_field (x := .int q tq) hs hd rfl ?_)
  open KBy in kby_int
  refine wpAny_pure ?_
  refine wpAny_bind ?_
  show wpAny _ _ (load a >>= _) _ _ _
  refine wpAny_bind (wpAny_load ho ?_)
  refine wpAny_of_eq (a := B) rfl ?_
  refine wpAny_bind (wpAny_mono go (fun r s' hr => ?_) fun _ _ e => e.elim)
  obtain ⟨hr1, hr2⟩ := hr
  subst hr2
  have e : Builtin.Bytes.sliced B (sliceBounds (some (p : Int)) (some (q : Int)) none B.size).1 (sliceBounds (some (p : Int)) (some (q : Int)) none B.size).2.1 (sliceBounds (some (p : Int)) (some (q : Int)) none B.size).2.2 = B.extract p q := picked_mid h1 h2
  rw [← hr1] at e
  obtain ⟨u, v, z⟩ := r
  refine wpAny_bind ?_
  show wpAny _ _ (Builtin.Bytes.newBytearray (Builtin.Bytes.sliced B _ _ _)) _ _ _
  rw [e]
  unfold Builtin.Bytes.newBytearray
  exact wpAny_newObj_type (wpAny_pure fin) hz2
theorem entry_by_new : entryFor table "bytes.__new__" = some Builtin.«bytes.__new__» := F.bm_entry
theorem ba_no_bytes : typeLookup (.type "bytearray") "__bytes__" = pure none := by rw [typeLookup_type, builtinLookup_eq_fast]; kernel_rfl
theorem ba_no_index : typeLookup (.type "bytearray") "__index__" = pure none := by rw [typeLookup_type, builtinLookup_eq_fast]; kernel_rfl
theorem ba_has_buffer : typeLookup (.type "bytearray") "__buffer__" = pure (some (.builtin "bytearray.__buffer__")) := by rw [typeLookup_type, builtinLookup_eq_fast]; kernel_rfl
theorem ba_ends2 : ("bytearray.__buffer__".endsWith ("." ++ "__buffer__")) = true := by decide +kernel
theorem ba_drop2 : ("bytearray.__buffer__".dropRight ("__buffer__".length + 1)) = "bytearray" := by decide +kernel
theorem bytesOfC (a : Addr) (B : Array UInt8) (hz : B.size ≤ sizeLine) : Ctr prog w kt D U (.builtin "bytes.__new__" ⟨[.type "bytes", .ref a], []⟩) [(a, baO B)] gl gl (α := Nat)
    (fun t => .ok (.ret (.bytes B t))) (fun _ => [baO B]) (fun _ => []) := by
  intro A R h d os tok hh hD hU ht hp hn hl hR
  have ho : h.get? a = some (baO B) := hp _ (.head _)
  have hT : Shared.TypeIs ⟨h, ⟨gl⟩, d, tok, os⟩ (.ref a) "bytearray" := ⟨_, ho, rfl⟩
  have fin := fun t tk => hR t h tk (fun b o e _ => e) rfl (fun x hm => by cases List.mem_singleton.mp hm; exact ho) (fun _ hm => nomatch hm) List.nodup_nil
  refine codeAny_builtin F.bm_entry ?_
  rw [Around.under_plainId F.bm_plain _]
  unfold Builtin.«bytes.__new__»
  refine wpAny_bind (wpAny_of_eq (a := true) rfl ?_)
  refine bm_if_false rfl ?_
  refine wpAny_bind (wpAny_of_eq F.bm_sub ?_)
  refine bm_if_false rfl ?_
  refine wpAny_bind (wpAny_of_eq (F.bm_bind _) ?_)
  refine wpAny_bind (wpAny_of_eq (a := ()) rfl ?_)
  refine wpAny_bind (wpAny_of_eq (a := ()) rfl ?_)
  refine bm_if_false rfl ?_
  refine wpAny_bind (wpAny_specialOf hT ba_no_bytes ?_)
  refine wpAny_bind (wpAny_bind ?_)
  show wpAny _ _ (load a >>= _) _ _ _
  refine wpAny_bind (wpAny_load ho ?_)
  refine wpAny_pure (wpAny_pure ?_)
  refine bm_if_false rfl ?_
  refine wpAny_bind (wpAny_specialOf hT ba_no_index ?_)
  refine bm_if_true rfl ?_
  first
    | show wpAny _ _ (Builtin.Bytes.buffer? "bytes.__new__" (.ref a) true >>= _) _ _ _
    | (refine wpAny_bind ?_; show wpAny _ _ (Builtin.Bytes.buffer? "bytes.__new__" (.ref a) true >>= _) _ _ _)
  refine wpAny_bind ?_
  unfold Builtin.Bytes.buffer?
  refine wpAny_bind (wpAny_specialOf hT ba_has_buffer ?_)
  dsimp only
  refine wpAny_bind ?_
  unfold Builtin.Bytes.slotIsOwn
  refine wpAny_bind (wpAny_specialOf hT ba_has_buffer ?_)
  dsimp only
  rw [ba_ends2, ba_drop2]
  refine bm_if_false rfl ?_
  refine wpAny_isInstance hT sub_ba_self ?_
  refine bm_if_false rfl ?_
  refine wpAny_bind (wpAny_specialOf hT ba_has_buffer ?_)
  show wpAny _ _ (Builtin.Bytes.ownRelease (.ref a) >>= _) _ _ _
  refine wpAny_bind (ownRel hT ?_)
  refine bm_if_false rfl ?_
  refine wpAny_bind ?_
  show wpAny _ _ (load a >>= _) _ _ _
  refine wpAny_bind (wpAny_load ho ?_)
  refine wpAny_of_eq (a := B) rfl (wpAny_pure ?_)
  dsimp only
  refine wpAny_bind (wpAny_rule ?_)
  refine wpAny_bind (wpAny_mkBytes ?_ hz)
  show wpAny _ _ (if (Value.type "bytes" == Value.type "bytes") = true then _ else _) _ _ _
  refine bm_if_true (by decide) ?_
  first
    | exact wpAny_pure (fin _ _)
    | exact wpAny_bind (wpAny_pure (wpAny_pure (fin _ _)))
end
end Mine
namespace Mine
open PySem PySem.Spec PySem.Calls PyProof.Rows PySem.W PySem.W.X
section
variable {prog : Program} {w : World} {kt : KT} {D U : Nat} {gl : List GenState}
theorem lenBody {A : Around} {E : Value → Shared → Prop} {s : Shared} {v : Value} {T id : String} {Bi : Builtin} {n : Nat} {Q : Value → Shared → Prop} (hT : s.TypeIs v T) (slot : Slot T "__len__" id) (entry : entryFor table id = some Bi) (args : argsOk id ⟨[v], []⟩)
    (hb : ∀ (A : Around) (E : Value → Shared → Prop) (Q : Value → Shared → Prop), Q (.int n s.toks) { s with toks := s.toks + 1 } → wpAny (model prog w) A (Bi ⟨[v], []⟩) (fun fin s' => ∃ r, fin = .done (.ret r) ∧ Q r s') E s)
    (hfit : (n : Int) < 2 ^ 63) (h : Q (.int n (s.toks + 1)) { s with toks := s.toks + 1 + 1 }) :
    wpAny (model prog w) A (Builtin.«len» ⟨[v], []⟩) (fun fin s' => ∃ r, fin = .done (.ret r) ∧ Q r s') E s := by
  unfold Builtin.«len»
  refine wpAny_bind (m := oneArg "len" _) (wpAny_pure ?_)
  refine wpAny_bind (m := callSpecial? v (Str.ofString "__len__")) (wpAny_callSpecial?_slot (name := Str.ofString "__len__") hT slot
    (wpAny_call_entry slot hT entry (hb _ _ _ ?_) args))
  refine wpAny_bind (wpAny_holding (wpAny_pure ?_))
  refine wpAny_bind (wpAny_letGo ?_)
  show wpAny _ _ (if (n : Int) < 0 then _ else _) _ _ _
  rw [if_neg (by omega)]
  show wpAny _ _ (if (n : Int) ≥ 2 ^ 63 then _ else _) _ _ _
  rw [if_neg (by omega)]
  exact wpAny_bind (wpAny_mkInt (wpAny_pure ⟨_, rfl, h⟩))
theorem plain_len' : plainId "len" = true := by decide +kernel
theorem slot_ba_len : Slot "bytearray" "__len__" "bytearray.__len__" :=
  .of (owner := "bytearray") (n := "__len__") (by rw [typeLookup_type, builtinLookup_eq_fast]; kernel_rfl) (by decide +kernel) (by decide +kernel) (by decide +kernel)
    (by first | exact .inl (by decide +kernel) | exact .inr (by decide +kernel)) (by rw [isSubtype_type]; kernel_rfl)
theorem entry_ba_len : entryFor table "bytearray.__len__" = some Builtin.«bytearray.__len__» := entryFor_of_tree (by kernel_rfl)
theorem args_ba_len (a : Value) : argsOk "bytearray.__len__" ⟨[a], []⟩ := by unfold argsOk; kernel_rfl
theorem lenBaC (a : Addr) (B : Array UInt8) (hz : B.size ≤ 1099511627776) : Ctr prog w kt D U (.builtin "len" ⟨[.ref a], []⟩) [(a, baO B)] gl gl (α := Nat)
    (fun t => .ok (.ret (.int B.size t))) (fun _ => [baO B]) (fun _ => []) := by
  intro A R h d os tok hh hD hU ht hp hn hl hR
  have ho : h.get? a = some (baO B) := hp _ (.head _)
  have hT : Shared.TypeIs ⟨h, ⟨gl⟩, d, tok, os⟩ (.ref a) "bytearray" := ⟨_, ho, rfl⟩
  refine codeAny_builtin entry_len ?_
  rw [Around.under_plainId plain_len']
  refine wpAny_mono (lenBody (n := B.size) (Q := fun v s' => R (.ok (.ret v)) s') (E := fun _ _ => False) hT slot_ba_len entry_ba_len (args_ba_len _) (fun A' E' Q' hQ => ?_) (by omega) ?_) (fun fin s' ⟨r, hf, hr⟩ => by subst hf; exact hr) fun _ _ x => x.elim
  · show wpAny _ _ (Builtin.Bytes.payload (.ref a) >>= fun r => _) _ _ _
    refine wpAny_bind ?_
    show wpAny _ _ (load a >>= _) _ _ _
    refine wpAny_bind (wpAny_load ho ?_)
    refine wpAny_of_eq (a := B) rfl ?_
    exact wpAny_bind (wpAny_mkInt (wpAny_pure ⟨_, rfl, hQ⟩))
  · exact hR _ h _ (fun b o e _ => e) rfl (fun x hm => by cases List.mem_singleton.mp hm; exact ho) (fun _ hm => nomatch hm) List.nodup_nil
theorem lenByC (t : Tok) (B : Array UInt8) (hz : B.size ≤ 1099511627776) : Ctr prog w kt D U (.builtin "len" ⟨[.bytes B t], []⟩) [] gl gl (α := Nat)
    (fun t => .ok (.ret (.int B.size t))) (fun _ => []) (fun _ => []) := by
  intro A R h d os tok hh hD hU ht hp hn hl hR
  refine codeAny_builtin entry_len ?_
  rw [Around.under_plainId plain_len']
  refine wpAny_mono (lenBody (n := B.size) (Q := fun v s' => R (.ok (.ret v)) s') (E := fun _ _ => False) (typeIs_bytes _ B t) FB.slot_bytes_len FB.entry_bytes_len (FB.args_bytes_len_1 _) (fun A' E' Q' hQ => ?_) (by omega) ?_) (fun fin s' ⟨r, hf, hr⟩ => by subst hf; exact hr) fun _ _ x => x.elim
  · show wpAny _ _ (Builtin.Bytes.payload (.bytes B t) >>= fun r => _) _ _ _
    refine wpAny_bind ?_
    refine wpAny_of_eq (a := B) rfl ?_
    refine wpAny_bind ?_
    refine wpAny_of_eq (a := B) rfl ?_
    exact wpAny_bind (wpAny_mkInt (wpAny_pure ⟨_, rfl, hQ⟩))
  · exact hR _ h _ (fun b o e _ => e) rfl (fun x hm => nomatch hm) (fun _ hm => nomatch hm) List.nodup_nil
end
end Mine
namespace Mine
open PySem PySem.Spec PySem.Calls PyProof.Rows PySem.W PySem.W.X
theorem Ctr.mono {prog : Program} {w : World} {kt : KT} {D U : Nat} {c : Code} {pre : List En} {gl gl' : List GenState} {α β : Type} {res : α → Result} {upd : α → List Obj} {new : α → List En} {res' : β → Result} {upd' : β → List Obj} {new' : β → List En}
    (C : Ctr prog w kt D U c pre gl gl' res upd new) (f : ∀ x, ∃ y, res x = res' y ∧ upd x = upd' y ∧ new x = new' y) : Ctr prog w kt D U c pre gl gl' res' upd' new' :=
  fun A R h d os tok a1 a2 a3 a4 a5 a6 a7 hR => C A R h d os tok a1 a2 a3 a4 a5 a6 a7 fun x h' tok' b1 b2 b3 b4 b5 => by
    obtain ⟨y, e1, e2, e3⟩ := f x
    rw [e1]
    rw [e2] at b2 b3
    rw [e3] at b4 b5
    exact hR y h' tok' b1 b2 b3 b4 b5
theorem CtrP.mono {prog : Program} {w : World} {kt : KT} {D U : Nat} {c : Code} {pre : List En} {gl gl' : List GenState} {α β : Type} {res : α → Result} {upd : α → List Obj} {new : α → List En} {res' : β → Result} {upd' : β → List Obj} {new' : β → List En}
    (C : CtrP prog w kt D U c pre gl gl' res upd new) (f : ∀ x, ∃ y, res x = res' y ∧ upd x = upd' y ∧ new x = new' y) : CtrP prog w kt D U c pre gl gl' res' upd' new' :=
  fun A R h d os tok a1 a2 a3 a4 a5 a6 a7 hR => C A R h d os tok a1 a2 a3 a4 a5 a6 a7 fun x h' tok' b1 b2 b3 b4 b5 => by
    obtain ⟨y, e1, e2, e3⟩ := f x
    rw [e1]
    rw [e2] at b2 b3
    rw [e3] at b4 b5
    exact hR y h' tok' b1 b2 b3 b4 b5
section
variable {prog : Program} {w : World} {kt : KT} {D U : Nat} {gl : List GenState}
theorem lenLiC (a : Addr) (B : Array Value) (e : Nat) (hz : B.size ≤ 1099511627776) : Ctr prog w kt D U (.builtin "len" ⟨[.ref a], []⟩) [(a, lstO B e)] gl gl (α := Nat)
    (fun t => .ok (.ret (.int B.size t))) (fun _ => [lstO B e]) (fun _ => []) := by
  intro A R h d os tok hh hD hU ht hp hn hl hR
  have ho : h.get? a = some (lstO B e) := hp _ (.head _)
  refine codeAny_builtin entry_len ?_
  rw [Around.under_plainId plain_len']
  refine wpAny_mono (wpAny_len_body_list (Q := fun v s' => R (.ok (.ret v)) s') (E := fun _ _ => False) (items := B) ⟨_, ho, rfl, _, rfl⟩ (by omega) ?_) (fun fin s' ⟨r, hf, hr⟩ => by subst hf; exact hr) fun _ _ x => x.elim
  exact hR _ h _ (fun b o e _ => e) rfl (fun x hm => by cases List.mem_singleton.mp hm; exact ho) (fun _ hm => nomatch hm) List.nodup_nil
theorem plain_list_get : plainId "list.__getitem__" = true := by decide +kernel
theorem listGetC (a : Addr) (B : Array Value) (e : Nat) (k : Int) (h0 : 0 ≤ k) (t : Tok) (x : Value) (hx : B[k.toNat]? = some x) (hk : k < 2 ^ 63) : Ctr prog w kt D U (.builtin "list.__getitem__" ⟨[.ref a, .int k t], []⟩) [(a, lstO B e)] gl gl (α := Unit)
    (fun _ => .ok (.ret x)) (fun _ => [lstO B e]) (fun _ => []) := by
  intro A R h d os tok hh hD hU ht hp hn hl hR
  have ho : h.get? a = some (lstO B e) := hp _ (.head _)
  refine codeAny_builtin entry_list_getitem ?_
  rw [Around.under_plainId plain_list_get]
  show wpAny _ _ (Builtin.List.listSubscript? (.int k t) >>= _) _ _ _
  refine wpAny_bind (wpAny_listSubscript_int (fitsIndex_of h0 hk) ?_)
  clear hk
  obtain ⟨j, rfl⟩ := Int.eq_ofNat_of_zero_le h0
  have hx' : B[j]? = some x := hx
  show wpAny _ _ ((seqItemAt a j >>= fun r => pure (r.map (j, ·))) >>= _) _ _ _
  refine wpAny_bind (wpAny_bind (wpAny_seqItemAt ho rfl (wpAny_pure ?_)))
  rw [hx']
  have fin := hR () h tok (fun b o e _ => e) rfl (fun x hm => by cases List.mem_singleton.mp hm; exact ho) (fun _ hm => nomatch hm) List.nodup_nil
  first
    | exact wpAny_bind (wpAny_pure (wpAny_pure fin))
    | exact wpAny_pure fin
end
end Mine
namespace Mine
open PySem PySem.Spec PySem.Calls PyProof.Rows PySem.W PySem.W.X
section
variable {prog : Program} {w : World} {kt : KT} {D U : Nat} {gl : List GenState}
abbrev bitO (B : Array UInt8) (tb : Tok) (i : Nat) : Obj := ⟨.type "bytes_iterator", none, .fields #[.bytes B tb, .int i 0], #[]⟩
abbrev bitE (i : Nat) : Obj := ⟨.type "bytes_iterator", none, .fields #[.none, .int i 0], #[]⟩
abbrev tup0 : Obj := ⟨.type "tuple", none, .seq #[] 0, #[]⟩
abbrev stopO (t : Addr) : Obj := ⟨.type "StopIteration", none, .fields #[.ref t, .none, .none, .none, .bool false, .none], #[]⟩
theorem entry_bnext : entryFor table "bytes_iterator.__next__" = some Builtin.«bytes_iterator.__next__» := entryFor_of_tree (by kernel_rfl)
theorem plain_bnext : plainId "bytes_iterator.__next__" = true := by decide +kernel
theorem bnextC (it : Addr) (B : Array UInt8) (tb : Tok) (i : Nat) (c : UInt8) (hx : B[i]? = some c) : Ctr prog w kt D U (.builtin "bytes_iterator.__next__" ⟨[.ref it], []⟩) [(it, bitO B tb i)] gl gl (α := Tok)
    (fun t => .ok (.ret (.int (c.toNat : Int) t))) (fun _ => [bitO B tb (i + 1)]) (fun _ => []) := by
  intro A R h d os tok hh hD hU ht hp hn hl hR
  have ho : h.get? it = some (bitO B tb i) := hp _ (.head _)
  have hd : (bitO B tb i).data = .fields #[.bytes B tb, .int i 0] := rfl
  refine codeAny_builtin entry_bnext ?_
  rw [Around.under_plainId plain_bnext]
  show wpAny _ _ (field (.ref it) 0 >>= _) _ _ _
  refine wpAny_bind (wpAny_field ho hd (x := .bytes B tb) rfl ?_)
  show wpAny _ _ (if (Value.bytes B tb == Value.none) = true then _ else _) _ _ _
  rw [if_neg (show ¬ ((Value.bytes B tb == Value.none) = true) from Bool.false_ne_true)]
  show wpAny _ _ (field (.ref it) 1 >>= _) _ _ _
  refine wpAny_bind (wpAny_field ho hd (x := .int i 0) rfl ?_)
  refine wpAny_bind (wpAny_of_eq (a := B) rfl ?_)
  simp only [Int.toNat_natCast, hx]
  refine wpAny_bind (wpAny_setField ho hd (by simp) (wpAny_bind (wpAny_mkInt (wpAny_pure (hR _ _ _ (fun b o e hb => ?_) rfl (fun x hm => ?_) (fun _ hm => nomatch hm) List.nodup_nil)))))
  · exact (Heap.get?_update_other _ _ (fun z => hb (by rw [← z]; exact .head _))).trans e
  · cases List.mem_singleton.mp hm
    rw [Heap.get?_update_self _ ho (Obj.isFreed_of_fields (Obj.data_mapFields hd _))]
    show some (Obj.mapFields _ (bitO B tb i)) = some (bitO B tb (i + 1))
    congr 1
theorem get_ge {h : Heap} {a : Addr} (ha : h.objs.size ≤ a) : h.get? a = none := by
  cases e : h.get? a with
  | none => rfl
  | some o => exact absurd (Heap.lt_size e) (Nat.not_lt.mpr ha)
theorem stop_end {it : Addr} {o o' : Obj} {f : Obj → Obj} {h : Heap} {R : Result → Shared → Prop} {d : Drawn} {os : OsState} {tok : Nat} (ho : h.get? it = some o) (hf : f o = o') (hfr : o'.isFreed = false)
    (hR : ∀ (x : Addr × Addr) (h' : Heap) (tok' : Nat), (∀ (b : Addr) (o₂ : Obj), h.get? b = some o₂ → ¬b ∈ List.map Prod.fst [(it, o)] → h'.get? b = some o₂) → ((fun _ : Addr × Addr => [o']) x).length = [(it, o)].length →
      (∀ p ∈ (List.map Prod.fst [(it, o)]).zip ((fun _ : Addr × Addr => [o']) x), h'.get? p.1 = some p.2) → (∀ p ∈ (fun x : Addr × Addr => [(x.1, stopO x.2), (x.2, tup0)]) x, h'.get? p.1 = some p.2 ∧ h.get? p.1 = none) →
      (List.map Prod.fst ((fun x : Addr × Addr => [(x.1, stopO x.2), (x.2, tup0)]) x)).Nodup → R (.error (.ref x.1)) ⟨h', ⟨gl⟩, d, tok', os⟩) :
    R (.error (.ref ((h.update it f).push tup0).objs.size)) ⟨((h.update it f).push tup0).push (stopO (h.update it f).objs.size), ⟨gl⟩, d, tok, os⟩ := by
  have hs : Heap.SameBut it h (h.update it f) := Heap.SameBut.update ..
  have hsz : (h.update it f).objs.size = h.objs.size := hs.1
  have hsz1 : ((h.update it f).push tup0).objs.size = h.objs.size + 1 := by rw [Heap.size_push, hsz]
  have g1 : ((h.update it f).push tup0).get? (h.update it f).objs.size = some tup0 := Heap.get?_push_size _ rfl
  have gi : (h.update it f).get? it = some o' := by
    have := Heap.get?_update_self f ho (by rw [hf]; exact hfr)
    rw [hf] at this; exact this
  refine hR (((h.update it f).push tup0).objs.size, (h.update it f).objs.size) _ tok (fun b o₂ e hb => ?_) rfl (fun x hm => ?_) (fun p hm => ?_) ?_
  · exact Heap.get?_push_of_some _ (Heap.get?_push_of_some _ ((Heap.get?_update_other _ _ (fun z => hb (by rw [← z]; exact .head _))).trans e))
  · cases List.mem_singleton.mp hm
    exact Heap.get?_push_of_some _ (Heap.get?_push_of_some _ gi)
  · rcases List.mem_cons.mp hm with rfl | hm
    · exact ⟨Heap.get?_push_size _ rfl, get_ge (by show h.objs.size ≤ ((h.update it f).push tup0).objs.size; omega)⟩
    · cases List.mem_singleton.mp hm
      exact ⟨Heap.get?_push_of_some _ g1, get_ge (by show h.objs.size ≤ (h.update it f).objs.size; omega)⟩
  · refine List.nodup_cons.mpr ⟨fun hm => ?_, by simp⟩
    have : ((h.update it f).push tup0).objs.size = (h.update it f).objs.size := List.mem_singleton.mp hm
    omega
theorem bendC (it : Addr) (B : Array UInt8) (tb : Tok) (i : Nat) (hx : B[i]? = none) : Ctr prog w kt D U (.builtin "bytes_iterator.__next__" ⟨[.ref it], []⟩) [(it, bitO B tb i)] gl gl (α := Addr × Addr)
    (fun x => .error (.ref x.1)) (fun _ => [bitE i]) (fun x => [(x.1, stopO x.2), (x.2, tup0)]) := by
  intro A R h d os tok hh hD hU ht hp hn hl hR
  have ho : h.get? it = some (bitO B tb i) := hp _ (.head _)
  have hd : (bitO B tb i).data = .fields #[.bytes B tb, .int i 0] := rfl
  refine codeAny_builtin entry_bnext ?_
  rw [Around.under_plainId plain_bnext]
  show wpAny _ _ (field (.ref it) 0 >>= _) _ _ _
  refine wpAny_bind (wpAny_field ho hd (x := .bytes B tb) rfl ?_)
  show wpAny _ _ (if (Value.bytes B tb == Value.none) = true then _ else _) _ _ _
  rw [if_neg (show ¬ ((Value.bytes B tb == Value.none) = true) from Bool.false_ne_true)]
  show wpAny _ _ (field (.ref it) 1 >>= _) _ _ _
  refine wpAny_bind (wpAny_field ho hd (x := .int i 0) rfl ?_)
  refine wpAny_bind (wpAny_of_eq (a := B) rfl ?_)
  simp only [Int.toNat_natCast, hx]
  refine wpAny_bind (wpAny_rule (wpAny_bind (wpAny_setField ho hd (by simp) ?_)))
  show wpAny _ _ (newExc (.type "StopIteration") [] >>= _) _ _ _
  refine wpAny_bind ?_
  simp only [newExc, newTuple]
  refine wpAny_bind (wpAny_newObj_type ?_ (by size_fits))
  refine wpAny_bind (m := firstArgMember _ _) (wpAny_of_eq (a := Value.none) (by first | rfl | (simp only [firstArgMember]; rfl)) ?_)
  refine wpAny_newObj_type ?_ (by size_fits)
  simp only [raiseNew]
  refine wpAny_bind (wpAny_handled ?_)
  rw [show A.in1.handled = none from hh]
  refine wpAny_bind (wpAny_pure (wpAny_throw ?_))
  exact stop_end (o' := bitE i) ho rfl rfl hR
end
end Mine
namespace Mine
open PySem PySem.Spec PySem.Calls PyProof.Rows PySem.W PySem.W.X
theorem plain_dict_get : plainId "dict.__getitem__" = true := by decide +kernel
theorem map30 (prog : Program) (w : World) (P : Params) (h : Heap) (ho : h.get? 30 = some (k30 P)) : ∃ f, h.MapOf (intKind prog w) 30 f ∧ f 0 = some (.int 0 208) ∧ f 1 = some (.int 1 210) := by
  refine ⟨_, ⟨k30 P, _, _, ho, ⟨rfl, rfl, rfl⟩, rfl, ?_, fun k => rfl⟩, by kernel_rfl, by kernel_rfl⟩
  intro e he
  have he' := Array.mem_toList_iff.mpr he
  simp only [List.mem_cons, List.not_mem_nil, or_false] at he'
  rcases he' with rfl | rfl | rfl | rfl
  · exact ⟨0, by kernel_rfl, by kernel_rfl⟩
  · exact ⟨1, by kernel_rfl, by kernel_rfl⟩
  · exact ⟨48, by kernel_rfl, by kernel_rfl⟩
  · exact ⟨49, by kernel_rfl, by kernel_rfl⟩
theorem bitGet {prog : Program} {w : World} {P : Params} {D U : Nat} {gl : List GenState} (k : Int) (t u : Tok) (hk : ∀ h : Heap, h.get? 30 = some (k30 P) → ∃ f, h.MapOf (intKind prog w) 30 f ∧ f k = some (.int k u)) :
    Ctr prog w (kt P) D U (.builtin "dict.__getitem__" ⟨[.ref 30, .int k t], []⟩) [] gl gl (α := Unit) (fun _ => .ok (.ret (.int k u))) (fun _ => []) (fun _ => []) := by
  intro A R h d os tok hh hD hU ht hp hn hl hR
  have ho : h.get? 30 = some (k30 P) := ht 30 _ (by kernel_rfl)
  obtain ⟨f, hm, hf⟩ := hk h ho
  refine codeAny_builtin entry_dict_getitem ?_
  rw [Around.under_plainId plain_dict_get]
  refine meets_dict_getitem (knd := intKind prog w) (k := k) (key := .int k t) (d := 30) (by simp [intKind, Value.isInt]) A R _ ⟨f, _, hm, hf, ?_⟩
  exact hR () h _ (fun b o e _ => e) rfl (fun x hm => nomatch hm) (fun _ hm => nomatch hm) List.nodup_nil
theorem bit0C {prog : Program} {w : World} {P : Params} {D U : Nat} {gl : List GenState} (t : Tok) : Ctr prog w (kt P) D U (.builtin "dict.__getitem__" ⟨[.ref 30, .int 0 t], []⟩) [] gl gl (α := Unit) (fun _ => .ok (.ret (.int 0 208))) (fun _ => []) (fun _ => []) :=
  bitGet 0 t 208 fun h ho => let ⟨f, a, b, c⟩ := map30 prog w P h ho; ⟨f, a, b⟩
theorem bit1C {prog : Program} {w : World} {P : Params} {D U : Nat} {gl : List GenState} (t : Tok) : Ctr prog w (kt P) D U (.builtin "dict.__getitem__" ⟨[.ref 30, .int 1 t], []⟩) [] gl gl (α := Unit) (fun _ => .ok (.ret (.int 1 210))) (fun _ => []) (fun _ => []) :=
  bitGet 1 t 210 fun h ho => let ⟨f, a, b, c⟩ := map30 prog w P h ho; ⟨f, a, c⟩
end Mine
namespace Mine
open PySem PySem.Spec PySem.Calls PyProof.Rows PySem.W PySem.W.X
section
variable {prog : Program} {w : World} {kt : KT} {D U : Nat} {gl : List GenState}
abbrev slO (l u : Value) : Obj := ⟨.type "slice", none, .fields #[l, u, .none], #[]⟩
theorem plain_by_get : plainId "bytes.__getitem__" = true := by decide +kernel
theorem plain_by_add : plainId "bytes.__add__" = true := by decide +kernel
theorem bySliceC (sl : Addr) (B Z : Array UInt8) (tb : Tok) {l u : Value} {lo hi : Option Int} (hl : IsPart l lo) (hu : IsPart u hi) (hZ : KBy.picked B lo hi = Z) (hz : Z.size ≤ sizeLine) :
    Ctr prog w kt D U (.builtin "bytes.__getitem__" ⟨[.bytes B tb, .ref sl], []⟩) [(sl, slO l u)] gl gl (α := Tok) (fun t => .ok (.ret (.bytes Z t))) (fun _ => [slO l u]) (fun _ => []) := by
  intro A R h d os tok hh hD hU ht hp hn hll hR
  have ho : h.get? sl = some (slO l u) := hp _ (.head _)
  refine codeAny_builtin FB.entry_bytes_getitem ?_
  rw [Around.under_plainId plain_by_get]
  refine KBc.meets_slice2 B tb sl hl hu prog w A R _ ⟨⟨_, ho, rfl, rfl⟩, by rw [hZ]; exact hz, fun t' k => ?_⟩
  rw [hZ]
  exact hR t' h k (fun b o e _ => e) rfl (fun x hm => by cases List.mem_singleton.mp hm; exact ho) (fun _ hm => nomatch hm) List.nodup_nil
theorem byAddC (B C : Array UInt8) (t u : Tok) (hz : B.size + C.size ≤ 16777216) :
    Ctr prog w kt D U (.builtin "bytes.__add__" ⟨[.bytes B t, .bytes C u], []⟩) [] gl gl (α := Tok) (fun t => .ok (.ret (.bytes (B ++ C) t))) (fun _ => []) (fun _ => []) := by
  intro A R h d os tok hh hD hU ht hp hn hll hR
  refine codeAny_builtin FB.entry_bytes_add ?_
  rw [Around.under_plainId plain_by_add]
  have fin := fun t' k => hR t' h k (fun b o e _ => e) rfl (fun x hm => nomatch hm) (fun _ hm => nomatch hm) List.nodup_nil
  refine KBy.gives_bytes_add (KBy.tooLong_not hz) prog w A R _ ?_
  by_cases hb : B.isEmpty = true
  · rw [if_pos hb]
    have e : B ++ C = C := by
      have : B = #[] := Array.isEmpty_iff.mp hb
      rw [this]; simp
    rw [e] at fin
    exact fin u tok
  · rw [if_neg hb]
    by_cases hc : C.isEmpty = true
    · rw [if_pos hc]
      have e : B ++ C = B := by
        have : C = #[] := Array.isEmpty_iff.mp hc
        rw [this]; simp
      rw [e] at fin
      exact fin t tok
    · rw [if_neg hc]
      exact ⟨by rw [sizeLine_eq, Array.size_append]; exact hz, fin tok (tok + 1)⟩
theorem byGetC (B : Array UInt8) (i : Nat) (t u : Tok) (c : UInt8) (hx : B[i]? = some c) (hi : i < 1099511627776) :
    Ctr prog w kt D U (.builtin "bytes.__getitem__" ⟨[.bytes B t, .int i u], []⟩) [] gl gl (α := Nat) (fun t => .ok (.ret (.int (c.toNat : Int) t))) (fun _ => []) (fun _ => []) := by
  have hlt : i < B.size := by
    rcases Nat.lt_or_ge i B.size with h | h
    · exact h
    · rw [Array.getElem?_eq_none h] at hx; cases hx
  have g : ∀ j : Int, 0 ≤ j → j < (B.size : Int) → j < 1099511627776 → B[j.toNat]? = some c → Gives (Builtin.«bytes.__getitem__» ⟨[.bytes B t, .int j u], []⟩) (.int c.toNat) := fun j h0 h1 h2 h3 => by
    refine gives_bytes_getitem B j t u c ?_ ?_
    · simp only [Builtin.Bytes.fitsIndex, Bool.and_eq_true, decide_eq_true_eq]; omega
    · rw [seqIndex_of h0 h1]
      exact h3
  have h3 : B[(i : Int).toNat]? = some c := by
    have e : (i : Int).toNat = i := Int.toNat_natCast i
    rw [e]; exact hx
  have h4 : (i : Int) < 1099511627776 := by omega
  have h5 : (i : Int) < (B.size : Int) := by omega
  have h0 : (0 : Int) ≤ (i : Int) := by omega
  generalize (i : Int) = j at h3 h4 h5 h0 ⊢
  exact Ctr.of_gives (id := "bytes.__getitem__") (B := Builtin.«bytes.__getitem__») (args := ⟨[.bytes B t, .int j u], []⟩) (z := (c.toNat : Int)) plain_by_get FB.entry_bytes_getitem (g j h0 h5 h4 h3)
end
end Mine
namespace Mine
open PySem PySem.Spec PySem.Calls PyProof.Rows PySem.W PySem.W.X
section
variable {prog : Program} {w : World} {kt : KT} {D U : Nat}
theorem plain_list_init : plainId "list.__init__" = true := by decide +kernel
theorem pyIter_gen {A : Around} {E : Value → Shared → Prop} {s : Shared} {a : Addr} {Q : Value → Shared → Prop} (hT : s.TypeIs (.ref a) "generator") (h : Q (.ref a) s) : wpAny (model prog w) A (pyIter (.ref a)) Q E s := by
  refine wpAny_pyIter_slot hT slot_gen_iter (wpAny_call_entry slot_gen_iter hT entry_gen_iter ?_ (args_gen_iter _))
  show wpAny _ _ (ret (.ref a)) _ _ s
  exact wpAny_pure ⟨_, rfl, "generator", _, hT, slot_gen_next.lookup, h⟩
theorem listInitGC (l a : Addr) (go : Obj) (hgo : go.cls = .type "generator") (rest : List En) (gl gl' : List GenState) {α : Type} {res : α → Result} {upd : α → List Obj} {new : α → List En}
    (C : Ctr prog w kt D U (.builtin "list.extend.loop" ⟨[.ref l, .ref a, .none], []⟩) ((l, lstO #[] 2) :: (a, go) :: rest) gl gl' res upd new) :
    Ctr prog w kt D U (.builtin "list.__init__" ⟨[.ref l, .ref a], []⟩) ((l, lstO #[] 0) :: (a, go) :: rest) gl gl' res upd new := by
  intro A R h d os tok hh hD hU ht hp hn hl hR
  have hS : h.get? l = some (lstO #[] 0) := hp _ (.head _)
  have ha : h.get? a = some go := hp _ (.tail _ (.head _))
  have hla : l ≠ a := fun e => (List.nodup_cons.mp hn).1 (by rw [show l = a from e]; exact .head _)
  have hT : ∀ h' : Heap, h'.get? a = some go → Shared.TypeIs ⟨h', ⟨gl⟩, d, tok, os⟩ (.ref a) "generator" := fun h' e => ⟨go, e, hgo⟩
  refine codeAny_builtin F.entry_list_init ?_
  rw [Around.under_plainId plain_list_init]
  show wpAny _ A.in1 (do let old ← Builtin.List.listItems (.ref l); Builtin.List.listUpdate (.ref l) (fun _ => #[]); letGo old.toList.reverse; Builtin.List.listExtendWith (.ref l) (.ref a) .none) _ _ _
  refine wpAny_bind ?_
  unfold Builtin.List.listItems
  refine wpAny_bind (wpAny_seqItems hS rfl (wpAny_pure ?_))
  show wpAny _ A.in1 (updateSeq l (fun _ => #[]) >>= fun _ => letGo (#[] : Array Value).toList.reverse >>= fun _ => Builtin.List.listExtendWith (.ref l) (.ref a) .none) _ _ _
  refine wpAny_bind (wpAny_updateSeq hS rfl ?_)
  have hS₂ := Heap.get?_update_self (Obj.mapSeq (fun _ => (#[] : Array Value))) hS rfl
  have ha₂ : (h.update l (Obj.mapSeq (fun _ => (#[] : Array Value)))).get? a = some go := (Heap.get?_update_other _ _ hla).trans ha
  refine wpAny_bind (wpAny_letGo ?_)
  unfold Builtin.List.listExtendWith
  refine wpAny_bind (wpAny_typeOf (hT _ ha₂) ?_)
  have h1 : Builtin.List.listSameRef (.ref l) (.ref a) = false := by simp [Builtin.List.listSameRef, hla]
  have h2 : (Value.type "generator" == Value.type "list") = false := by decide
  have h3 : (Value.type "generator" == Value.type "tuple") = false := by decide
  simp only [h1, h2, h3, Bool.or_false, Bool.false_eq_true, if_false]
  refine wpAny_bind (pyIter_gen (hT _ ha₂) ?_)
  refine wpAny_bind (wpAny_holding ?_)
  unfold Builtin.List.listLengthHint
  refine wpAny_bind (wpAny_specialOf (hT _ ha₂) F.gen_no_len ?_)
  show wpAny _ A.in1 (specialOf (Value.ref a) (Str.ofString "__length_hint__") >>= _) _ _ _
  refine wpAny_bind (wpAny_specialOf (hT _ ha₂) F.gen_no_hint ?_)
  refine wpAny_pure ?_
  show wpAny _ A.in1 (rule "list.extend.makes-room" >>= fun _ => Builtin.List.listTouch (.ref l) >>= fun _ =>
    again (.builtin "list.extend.loop" ⟨[.ref l, .ref a, .none], []⟩)) _ _ _
  refine wpAny_bind (wpAny_rule ?_)
  refine wpAny_bind ?_
  show wpAny _ A.in1 (updateSeq l (·.push .none) >>= fun _ => updateSeq l (·.pop)) _ _ _
  refine wpAny_bind (wpAny_updateSeq hS₂ rfl ?_)
  have hS₃ := Heap.get?_update_self (Obj.mapSeq (·.push Value.none)) hS₂ rfl
  refine wpAny_updateSeq (hz := by seq_fits) hS₃ rfl ?_
  have hS₄ := Heap.get?_update_self (Obj.mapSeq (·.pop)) hS₃ rfl
  have oth : ∀ b o, b ≠ l → h.get? b = some o → (((h.update l (Obj.mapSeq (fun _ => (#[] : Array Value)))).update l (Obj.mapSeq (·.push Value.none))).update l (Obj.mapSeq (·.pop))).get? b = some o :=
    fun b o hb e => (Heap.get?_update_other _ _ (Ne.symm hb)).trans ((Heap.get?_update_other _ _ (Ne.symm hb)).trans ((Heap.get?_update_other _ _ (Ne.symm hb)).trans e))
  have hkl : kt.get l = none := hl _ (.head _)
  refine wpAny_pure ⟨plainId_quiet F.plain_extend_loop _, C A R _ d os tok hh hD hU (fun b o e => oth b o (fun z => by rw [z, hkl] at e; cases e) (ht b o e)) (fun p hm => ?_) hn (fun p hm => ?_) ?_⟩
  · rcases List.mem_cons.mp hm with rfl | hm
    · exact hS₄
    · have hm' : p.1 ∈ ((a, go) :: rest).map Prod.fst := List.mem_map_of_mem hm
      exact oth _ _ (fun z => (List.nodup_cons.mp hn).1 (by rw [z] at hm'; exact hm')) (hp p (.tail _ hm))
  · rcases List.mem_cons.mp hm with rfl | hm
    · exact hkl
    · exact hl p (.tail _ hm)
  · intro x h' tok' b1 b2 b3 b4 b5
    refine hR x h' tok' (fun b o e hb => b1 b o (oth b o (fun z => hb (by rw [z]; exact .head _)) e) hb) b2 b3 (fun p hm => ⟨(b4 p hm).1, ?_⟩) b5
    have z := (b4 p hm).2
    cases q : h.get? p.1 with
    | none => rfl
    | some o =>
      exfalso
      by_cases hpl : p.1 = l
      · rw [hpl, hS₄] at z; cases z
      · rw [oth _ _ hpl q] at z; cases z
end
end Mine
namespace Mine
open PySem PySem.Spec PySem.Calls PyProof.Rows PySem.W PySem.W.X
section
variable {prog : Program} {w : World} {kt : KT} {D U : Nat} {gl : List GenState}
theorem nextN {A : Around} {E : Value → Shared → Prop} {s : Shared} {a : Addr} {Q : Option Value → Shared → Prop} (hT : s.TypeIs (.ref a) "generator")
    (hc : codeAny (model prog w) A (.call (.builtin "generator.__next__") ⟨[.ref a], []⟩) (fun r s' => match r with | .ok (.ret v) => Q (some v) s' | .ok _ => False | .error e => (∃ x t, e = .ref x ∧ s'.heap.get? x = some (stopO t)) ∧ Q none s') s) :
    wpAny (model prog w) A (pyNext (.ref a)) Q E s := by
  unfold pyNext
  refine wpAny_bind (wpAny_attempt (wpAny_callSpecial?_slot (name := Str.ofString "__next__") hT slot_gen_next (wpAny_call (codeAny_mono hc fun r s' hr => ?_))))
  cases r with
  | ok f =>
    cases f with
    | ret v => exact wpAny_pure hr
    | _ => exact hr.elim
  | error e =>
    obtain ⟨⟨x, t, rfl, ho⟩, hq⟩ := hr
    refine wpAny_bind (wpAny_isInstance (T := "StopIteration") (b := true) ⟨_, ho, rfl⟩ isSubtype_stop ?_)
    exact wpAny_pure hq
def small (x : Int) : Prop := 0 ≤ x ∧ x < 1099511627776
/-- one turn of a sum over a generator -/
theorem sumStep {a S : Addr} {tot b : Int} {tk t : Tok} {e : Nat} {preN : List En} {go : Obj} {glN gE : List GenState} {α β : Type} {gl' : α → List GenState} {eqs : α → Sem Fin × Sem Fin} {updN : α → List Obj} {res : β → Result} {upd : β → List Obj} {new : β → List En}
    (ha : preN.head? = some (a, go)) (hgo : go.cls = .type "generator") (h1 : small b) (h2 : small tot) {DN UN : Nat} (hDN : D ≤ DN) (hUN : U + 1 ≤ UN)
    (N : CtrG prog w kt DN UN (.call (.builtin "generator.__next__") ⟨[.ref a], []⟩) preN glN gl' eqs (fun _ => .ok (.ret (.int b tk))) updN (fun _ => []))
    (L : ∀ x, (eqs x).1 = (eqs x).2 → ∀ t', Ctr prog w kt D U (.builtin "sum.loop" ⟨[.ref a, .ref S, .int 0 0, .int 0 0], []⟩) ((S, lstO #[.int (tot + b) t'] e) :: (preN.map Prod.fst).zip (updN x)) (gl' x) gE res upd new) :
    Ctr prog w kt D U (.builtin "sum.loop" ⟨[.ref a, .ref S, .int 0 0, .int 0 0], []⟩) ((S, lstO #[.int tot t] e) :: preN) glN gE res upd new := by
  intro A R h d os tok hh hD hU ht hp hn hl hR
  have hS : h.get? S = some (lstO #[.int tot t] e) := hp _ (.head _)
  have hpN : ∀ p ∈ preN, h.get? p.1 = some p.2 := fun p hm => hp p (.tail _ hm)
  have hnN : (preN.map Prod.fst).Nodup := (List.nodup_cons.mp hn).2
  have hSN : S ∉ preN.map Prod.fst := (List.nodup_cons.mp hn).1
  have hT : Shared.TypeIs ⟨h, ⟨glN⟩, d, tok, os⟩ (.ref a) "generator" := ⟨go, hpN (a, go) (by cases preN with | nil => cases ha | cons x l => cases ha; exact .head _), hgo⟩
  refine codeAny_builtin F.entry_sum_loop ?_
  rw [Around.under_plainId F.plain_sum_loop _]
  show wpAny _ A.in1 (seqItems? (.ref S) >>= _) _ _ _
  refine wpAny_bind (wpAny_seqItems hS rfl ?_)
  show wpAny _ A.in1 (tryCatch (pyNext (.ref a)) _ >>= _) _ _ _
  refine wpAny_bind (wpAny_tryCatch (nextN hT (N A.in1 _ h d os tok hh (Nat.le_trans hD hDN) (by show A.units + 1 ≤ UN; omega) ht hpN hnN (fun p hm => hl p (.tail _ hm)) fun x h' tok' k1 k2 k3 _ _ k6 => ?_)))
  have hS' : h'.get? S = some (lstO #[.int tot t] e) := k1 S _ hS hSN
  obtain ⟨h1a, h1b⟩ := h1
  obtain ⟨h2a, h2b⟩ := h2
  have hf : ((decide (-(2 ^ 63) ≤ b) && decide (b < 2 ^ 63)) && (decide (-(2 ^ 63) ≤ tot + b) && decide (tot + b < 2 ^ 63))) = true := by
    simp only [Bool.and_eq_true, decide_eq_true_eq]; omega
  show wpAny _ A.in1 (if ((decide (-(2 ^ 63) ≤ b) && decide (b < 2 ^ 63)) && (decide (-(2 ^ 63) ≤ tot + b) && decide (tot + b < 2 ^ 63))) = true then (mkInt (tot + b) >>= _) else _) _ _ _
  rw [if_pos hf]
  refine wpAny_bind (wpAny_mkInt ?_)
  show wpAny _ A.in1 (updateSeq S (fun _ => #[.int (tot + b) tok']) >>= _) _ _ _
  refine wpAny_bind ?_
  have hS2 := Heap.get?_update_self (Obj.mapSeq fun _ => #[Value.int (tot + b) tok']) hS' rfl
  have oth : ∀ c o, c ≠ S → h'.get? c = some o → (h'.update S (Obj.mapSeq fun _ => #[Value.int (tot + b) tok'])).get? c = some o := fun c o hc e => (Heap.get?_update_other _ _ (Ne.symm hc)).trans e
  have hkS : kt.get S = none := hl _ (.head _)
  have zf : ((preN.map Prod.fst).zip (updN x)).map Prod.fst = preN.map Prod.fst := List.map_fst_zip (by rw [List.length_map, k2]; exact Nat.le_refl _)
  refine wpAny_updateSeq hS' rfl (wpAny_pure ⟨plainId_quiet F.plain_sum_loop _, L x k6 tok' A R _ d os (tok' + 1) hh hD hU (fun c o ec => ?_) (fun p hm => ?_) ?_ (fun p hm => ?_) ?_⟩)
  · have hcS : c ≠ S := fun z => by rw [z, hkS] at ec; cases ec
    refine oth c o hcS (k1 c o (ht c o ec) fun hm => ?_)
    obtain ⟨p, hp', rfl⟩ := List.mem_map.mp hm
    rw [hl p (.tail _ hp')] at ec; cases ec
  · rcases List.mem_cons.mp hm with rfl | hm
    · exact hS2
    · have hm1 : p.1 ∈ preN.map Prod.fst := by rw [← zf]; exact List.mem_map_of_mem hm
      exact oth _ _ (fun z => hSN (z ▸ hm1)) (k3 p hm)
  · rw [List.map_cons, zf]; exact hn
  · rcases List.mem_cons.mp hm with rfl | hm
    · exact hkS
    · have hm1 : p.1 ∈ preN.map Prod.fst := by rw [← zf]; exact List.mem_map_of_mem hm
      obtain ⟨q, hq, e⟩ := List.mem_map.mp hm1
      rw [← e]; exact hl q (.tail _ hq)
  · intro y h2 tok2 b1 b2 b3 b4 b5
    refine hR y h2 tok2 (fun c o ec hc => ?_) (by rw [b2, List.length_cons, List.length_cons, List.length_zip, k2, List.length_map, Nat.min_self]) (by rw [List.map_cons] at b3 ⊢; rw [zf] at b3; exact b3) (fun p hm => ⟨(b4 p hm).1, ?_⟩) b5
    · have hcS : c ≠ S := fun z => hc (by rw [z]; exact .head _)
      have hcN : c ∉ preN.map Prod.fst := fun z => hc (.tail _ z)
      exact b1 c o (oth c o hcS (k1 c o ec hcN)) (by rw [List.map_cons, zf]; exact hc)
    · have z := (b4 p hm).2
      cases q : h.get? p.1 with
      | none => rfl
      | some o =>
        exfalso
        by_cases hpS : p.1 = S
        · rw [hpS, hS2] at z; cases z
        · by_cases hpN' : p.1 ∈ preN.map Prod.fst
          · rw [← zf] at hpN'
            obtain ⟨p', hp', e'⟩ := List.mem_map.mp hpN'
            have := oth _ _ (by rw [e']; exact hpS) (k3 p' hp')
            rw [e', z] at this; cases this
          · rw [oth _ _ hpS (k1 _ _ q hpN')] at z; cases z
theorem sumEnd {a S : Addr} {tot : Int} {t : Tok} {e : Nat} {preN : List En} {go : Obj} {glN gE : List GenState} {α : Type} {sx : α → Addr} {st : α → Addr} {updN : α → List Obj} {nw : α → List En}
    (ha : preN.head? = some (a, go)) (hgo : go.cls = .type "generator") {DN UN : Nat} (hDN : D ≤ DN) (hUN : U + 1 ≤ UN) (hnw : ∀ x, (sx x, stopO (st x)) ∈ nw x)
    (N : Ctr prog w kt DN UN (.call (.builtin "generator.__next__") ⟨[.ref a], []⟩) preN glN gE (fun x => .error (.ref (sx x))) updN nw) :
    Ctr prog w kt D U (.builtin "sum.loop" ⟨[.ref a, .ref S, .int 0 0, .int 0 0], []⟩) ((S, lstO #[.int tot t] e) :: preN) glN gE (α := α) (fun _ => .ok (.ret (.int tot t))) (fun x => lstO #[.int tot t] e :: updN x) nw := by
  intro A R h d os tok hh hD hU ht hp hn hl hR
  have hS : h.get? S = some (lstO #[.int tot t] e) := hp _ (.head _)
  have hpN : ∀ p ∈ preN, h.get? p.1 = some p.2 := fun p hm => hp p (.tail _ hm)
  have hnN : (preN.map Prod.fst).Nodup := (List.nodup_cons.mp hn).2
  have hSN : S ∉ preN.map Prod.fst := (List.nodup_cons.mp hn).1
  have hT : Shared.TypeIs ⟨h, ⟨glN⟩, d, tok, os⟩ (.ref a) "generator" := ⟨go, hpN (a, go) (by cases preN with | nil => cases ha | cons x l => cases ha; exact .head _), hgo⟩
  refine codeAny_builtin F.entry_sum_loop ?_
  rw [Around.under_plainId F.plain_sum_loop _]
  show wpAny _ A.in1 (seqItems? (.ref S) >>= _) _ _ _
  refine wpAny_bind (wpAny_seqItems hS rfl ?_)
  show wpAny _ A.in1 (tryCatch (pyNext (.ref a)) _ >>= _) _ _ _
  refine wpAny_bind (wpAny_tryCatch (nextN hT (N A.in1 _ h d os tok hh (Nat.le_trans hD hDN) (by show A.units + 1 ≤ UN; omega) ht hpN hnN (fun p hm => hl p (.tail _ hm)) fun x h' tok' k1 k2 k3 k4 k5 => ?_)))
  have hS' : h'.get? S = some (lstO #[.int tot t] e) := k1 S _ hS hSN
  refine ⟨⟨sx x, st x, rfl, (k4 _ (hnw x)).1⟩, ?_⟩
  refine wpAny_pure (hR x h' tok' (fun c o ec hc => k1 c o ec fun z => hc (.tail _ z)) (by rw [List.length_cons, List.length_cons, k2]) (fun p hm => ?_) k4 k5)
  rcases List.mem_cons.mp hm with rfl | hm
  · exact hS'
  · exact k3 p hm
end
end Mine
namespace Mine
open PySem PySem.Spec PySem.Calls PyProof.Rows PySem.W PySem.W.X
theorem plain_dict_has : plainId "dict.__contains__" = true := by decide +kernel
theorem entry_dict_has : entryFor table "dict.__contains__" = some Builtin.«dict.__contains__» := entryFor_of_tree (by kernel_rfl)
/-- nothing is in an empty dict of the call's own -/
theorem notInC {prog : Program} {w : World} {P : Params} {D U : Nat} {gl : List GenState} (d : Addr) (x : Str) (t : Tok) :
    Ctr prog w (kt P) D U (.builtin "dict.__contains__" ⟨[.ref d, .str x t], []⟩) [(d, ⟨.type "dict", none, .dict #[] 0, #[]⟩)] gl gl (α := Unit) (fun _ => .ok (.ret (.bool false))) (fun _ => [⟨.type "dict", none, .dict #[] 0, #[]⟩]) (fun _ => []) := by
  intro A R h dd os tok hh hD hU ht hp hn hl hR
  have ho : h.get? d = some ⟨.type "dict", none, .dict #[] 0, #[]⟩ := hp _ (.head _)
  have hd : (d == sysModules) = false := by
    rw [beq_eq_false_iff_ne]
    intro e
    have h1 : (kt P).get d = none := hl _ (.head _)
    rw [e] at h1
    have h2 : (kt P).get sysModules = some (k1 P) := by kernel_rfl
    rw [h2] at h1; cases h1
  refine codeAny_builtin entry_dict_has ?_
  rw [Around.under_plainId plain_dict_has]
  have hm : h.MapOf (PySem.strKind prog w) d (fun _ => none) := ⟨_, #[], 0, ho, ⟨rfl, rfl, rfl⟩, rfl, fun _ he => by simp at he, fun _ => rfl⟩
  refine meets_dict_contains (knd := PySem.strKind prog w) (k := x) (key := .str x t) (d := d) (by simp [PySem.strKind, Value.isStrOf]) hd A R _ ⟨_, hm, ?_⟩
  exact hR () h _ (fun b o e _ => e) rfl (fun y hm => by cases List.mem_singleton.mp hm; exact ho) (fun _ hm => nomatch hm) List.nodup_nil
end Mine
namespace Mine
open PySem PySem.Spec PySem.Calls PyProof.Rows PySem.W PySem.W.X
section
variable {prog : Program} {w : World} {kt : KT} {D U : Nat} {gl : List GenState}
abbrev tupO (xs : Array Value) : Obj := ⟨.type "tuple", none, .seq xs 0, #[]⟩
theorem plain_collect : plainId "proto.collect" = true := by decide +kernel
theorem entry_collect : entryFor table "proto.collect" = some Builtin.«proto.collect» := by exact entryFor_of_tree (by kernel_rfl)
theorem plain_iadd : plainId "list.__iadd__" = true := by decide +kernel
theorem entry_iadd : entryFor table "list.__iadd__" = some Builtin.«list.__iadd__» := entryFor_of_tree (by kernel_rfl)
theorem collectC (t : Addr) (xs : Array Value) (h1 : xs.size ≠ 0) (hz : xs.size ≤ 1000) : Ctr prog w kt D U (.builtin "proto.collect" ⟨[.ref t], []⟩) [(t, tupO xs)] gl gl (α := Addr)
    (fun a => .ok (.ret (.ref a))) (fun _ => [tupO xs]) (fun a => [(a, lstO xs 1)]) := by
  intro A R h d os tok hh hD hU ht hp hn hl hR
  have ho : h.get? t = some (tupO xs) := hp _ (.head _)
  have htl : t < h.objs.size := Heap.lt_size ho
  refine codeAny_builtin entry_collect ?_
  rw [Around.under_plainId plain_collect]
  show wpAny _ _ (newList [] >>= fun a => again (.builtin "list.__iadd__" ⟨[a, .ref t], []⟩)) _ _ _
  refine wpAny_bind ?_
  refine wpAny_newObj_type (wpAny_pure ⟨plainId_quiet plain_iadd _, codeAny_builtin entry_iadd ?_⟩) (by size_fits)
  rw [Around.under_plainId plain_iadd]
  have hS : (h.push (lstO #[] 0)).get? h.objs.size = some (lstO #[] 0) := Heap.get?_push_size _ rfl
  have hT : (h.push (lstO #[] 0)).get? t = some (tupO xs) := Heap.get?_push_of_some _ ho
  have hne : h.objs.size ≠ t := fun e => absurd htl (by rw [e]; exact Nat.lt_irrefl _)
  show wpAny _ _ (Builtin.List.listExtendWith (.ref h.objs.size) (.ref t) (.ref h.objs.size)) _ _ _
  unfold Builtin.List.listExtendWith
  refine wpAny_bind (wpAny_typeOf (T := "tuple") ⟨_, hT, rfl⟩ ?_)
  have e1 : Builtin.List.listSameRef (.ref h.objs.size) (.ref t) = false := by simp [Builtin.List.listSameRef, hne]
  have e2 : (Value.type "tuple" == Value.type "list") = false := by decide
  have e3 : (Value.type "tuple" == Value.type "tuple") = true := by decide
  simp only [e1, e2, e3, Bool.or_false, Bool.false_or, if_true]
  refine wpAny_bind ?_
  unfold Builtin.List.listItems
  refine wpAny_bind (wpAny_seqItems hT rfl (wpAny_pure ?_))
  refine wpAny_bind ?_
  refine wpAny_bind (wpAny_seqItems hS rfl (wpAny_pure ?_))
  show wpAny _ _ (if (!(#[] : Array Value).isEmpty && Builtin.List.listTooLong _) = true then _ else _) _ _ _
  rw [if_neg (by show ¬ ((false && _) = true); simp)]
  show wpAny _ _ (updateSeq h.objs.size (fun y => y ++ xs) >>= _) _ _ _
  refine wpAny_bind (wpAny_updateSeq hS rfl ?_ (by size_fits) (by rw [Array.size_append]; show 0 + xs.size ≤ _; rw [sizeLine_eq]; omega))
  have hS2 := Heap.get?_update_self (Obj.mapSeq fun y => y ++ xs) hS rfl
  have e4 : Obj.mapSeq (fun y => y ++ xs) (lstO #[] 0) = lstO xs 1 := by
    show (⟨.type "list", none, .seq (#[] ++ xs) (if (#[] ++ xs).size == (#[] : Array Value).size then 0 else 0 + 1), #[]⟩ : Obj) = _
    have : (#[] ++ xs : Array Value) = xs := by simp
    rw [this]
    have : (xs.size == (#[] : Array Value).size) = false := by rw [beq_eq_false_iff_ne]; exact h1
    rw [this]; rfl
  rw [e4] at hS2
  refine wpAny_pure (hR h.objs.size _ tok (fun b o e hb => ?_) rfl (fun p hm => ?_) (fun p hm => ?_) (by simp))
  · have hb' : h.objs.size ≠ b := fun z => absurd (Heap.lt_size e) (by rw [z]; exact Nat.lt_irrefl _)
    exact (Heap.get?_update_other _ _ hb').trans (Heap.get?_push_of_some _ e)
  · cases List.mem_singleton.mp hm
    exact (Heap.get?_update_other _ _ hne).trans hT
  · cases List.mem_singleton.mp hm
    exact ⟨hS2, get_size h⟩
end
end Mine
namespace Mine
open PySem PySem.Spec PySem.Calls PyProof.Rows PySem.W PySem.W.X
abbrev dict0 : Obj := ⟨.type "dict", none, .dict #[] 0, #[]⟩
def adAt (T : List En) (i : Nat) : Addr := match nth T i with
  | some e => e.1
  | none => 0
end Mine
namespace Mine
open PySem PySem.Spec PySem.Calls PyProof.Rows PySem.W PySem.W.X
abbrev lev (D : Nat) : Nat := 9000 - 7 * (900 - D)
def tokV : Value → Tok
  | .int _ t => t
  | .str _ t => t
  | .bytes _ t => t
  | _ => 0
def refV : Value → Addr
  | .ref a => a
  | _ => 0
def argA : Code → Nat → Value
  | .call _ a, i => match a.pos[i]? with
    | some v => v
    | none => .none
  | .builtin _ a, i => match a.pos[i]? with
    | some v => v
    | none => .none
  | _, _ => .none
def entO (o : Obj) (i : Nat) : Value × Value := match o.data with
  | .dict es _ => match es[i]? with
    | some e => (e.key, e.val)
    | none => (.none, .none)
  | _ => (.none, .none)
def fldO (o : Obj) (i : Nat) : Value := match o.data with
  | .fields vs => match vs[i]? with
    | some v => v
    | none => .none
  | .seq vs _ => match vs[i]? with
    | some v => v
    | none => .none
  | _ => .none
def isB {prog : Program} {w : World} {kt : KT} {α₀ : Type} (n : Nat) (e b : Bool) (h : e = b) (r : Hs prog w kt α₀) : Hs prog w kt α₀ :=
  .val n Unit (fun _ => ()) (fun _ => .bool e) (fun _ => .bool b) (fun _ => congrArg Value.bool h) r
/-- what stands for an open BytesIO -/
structure Bio where
  self : Addr
  dx : Addr
  ba : Addr
  k1 : Tok
  k2 : Tok
  tp : Tok
abbrev bioD (P : Params) (s : Bio) (p : Int) : Obj := ⟨.type "dict", none, .dict #[⟨PyData.keyHash P (S "_BytesIO__buf"), .str (S "_BytesIO__buf") s.k1, .ref s.ba⟩, ⟨PyData.keyHash P (S "_BytesIO__pos"), .str (S "_BytesIO__pos") s.k2, .int p s.tp⟩] 2, #[]⟩
abbrev bioS (s : Bio) : Obj := ⟨.ref 523, some s.dx, .plain, #[]⟩
abbrev bioL (P : Params) (s : Bio) (B : Array UInt8) (p : Int) : List En := [(s.self, bioS s), (s.dx, bioD P s p), (s.ba, baO B)]
abbrev bioU (P : Params) (s : Bio) (B : Array UInt8) (p : Int) : List Obj := [bioS s, bioD P s p, baO B]
def bioX (l : List (Option En)) : Bio := match l with
  | [some (a, _), some (d, o), some (b, _)] => ⟨a, d, b, tokV (entO o 0).1, tokV (entO o 1).1, tokV (entO o 1).2⟩
  | _ => ⟨0, 0, 0, 0, 0, 0⟩
section
variable {α₀ : Type} {w : World} {b1 b2 : Bool} {gl : List GenState}
theorem indexC (w : World) (b1 b2 : Bool) (gl : List GenState) (x : Int) (t : Tok) (what : Str) (tw : Tok) (h1 : decide (x > 1099511627776) = false) (h2 : decide (x < -1099511627776) = false) :
    Ctr prog (wr w b1 b2) (kt w.params) 860 (lev 860) (.call (.ref 236) ⟨[.int x t, .str what tw], []⟩) [] gl gl (α := Unit) (fun _ => .ok (.ret (.int x t))) (fun _ => []) (fun _ => []) := by
  cases b1 <;> (refine Ctr.of_go (NL w.params) (
    owns [(5, 0), (0, 0), (2, 0), (0, 0)] <|
    .stk 0 .enter 1 <|
    owns [(7, 0), (14, 0), (16, 0), (0, 0), (3, 0)] <|
    isB 5 _ false h1 <|
    owns [(2, 0)] <|
    isB 10 _ false h2 <|
    owns [(3, 0)] <|
    .fin 0 (fun _ _ => ()) [] []) ?_
   <;> (intro h dep fr gd un R d os tok b; kernel_rfl))
def cIndex (n : Nat) (x : Int) (what : Str) (h1 : decide (x > 1099511627776) = false) (h2 : decide (x < -1099511627776) = false) (r : Hs prog (wr w b1 b2) (kt w.params) α₀) : Hs prog (wr w b1 b2) (kt w.params) α₀ :=
  .cut n 860 (lev 860) [] (Tok × Tok) (fun c _ => (tokV (argA c 0), tokV (argA c 1))) (fun y => .call (.ref 236) ⟨[.int x y.1, .str what y.2], []⟩) (fun _ => []) gl gl Unit (fun y _ => .ok (.ret (.int x y.1))) (fun _ _ => []) (fun _ _ => [])
    (fun y => indexC w b1 b2 gl x y.1 what y.2 h1 h2) (fun _ _ _ _ => r)
theorem whenceC (w : World) (b1 b2 : Bool) (gl : List GenState) (t : Tok) (what : Str) (tw : Tok) :
    Ctr prog (wr w b1 b2) (kt w.params) 820 (lev 820) (.call (.ref 229) ⟨[.int 0 t, .str what tw], []⟩) [] gl gl (α := Unit) (fun _ => .ok (.ret (.int 0 t))) (fun _ => []) (fun _ => []) := by
  cases b1 <;> (refine Ctr.of_go (NL w.params) (
    owns [(5, 0), (0, 0), (2, 0), (0, 0)] <|
    .stk 0 .enter 1 <|
    owns [(6, 0), (1, 0)] <|
    cIndex (gl := gl) 2 0 what (by decide) (by decide) <|
    owns [(5, 0), (0, 0), (3, 0), (7, 0), (13, 0)] <|
    .fin 0 (fun _ _ => ()) [] []) ?_
   <;> (intro h dep fr gd un R d os tok b; kernel_rfl))
def cWhence (n : Nat) (what : Str) (r : Hs prog (wr w b1 b2) (kt w.params) α₀) : Hs prog (wr w b1 b2) (kt w.params) α₀ :=
  .cut n 820 (lev 820) [] (Tok × Tok) (fun c _ => (tokV (argA c 0), tokV (argA c 1))) (fun y => .call (.ref 229) ⟨[.int 0 y.1, .str what y.2], []⟩) (fun _ => []) gl gl Unit (fun y _ => .ok (.ret (.int 0 y.1))) (fun _ _ => []) (fun _ _ => [])
    (fun y => whenceC w b1 b2 gl y.1 what y.2) (fun _ _ _ _ => r)
theorem checkC (w : World) (b1 b2 : Bool) (gl : List GenState) (s : Bio) (B : Array UInt8) (p : Int) :
    Ctr prog (wr w b1 b2) (kt w.params) 860 (lev 860) (.call (.ref 317) ⟨[.ref s.self], []⟩) (bioL w.params s B p) gl gl (α := Unit) (fun _ => .ok (.ret .none)) (fun _ => bioU w.params s B p) (fun _ => []) := by
  cases b1 <;> (refine Ctr.of_go (NL w.params) (
    owns [(5, 0), (0, 0)] <|
    .stk 0 .enter 1 <|
    owns [(4, 0), (2, 1), (8, 1), (7, 1), (0, 1), (1, 2)] <|
    .fin 3 (fun _ _ => ()) [1, 2, 3] []) ?_
   <;> (intro h dep fr gd un R d os tok b; kernel_rfl))
def cCheck (n i : Nat) (B : Array UInt8) (p : Int) (r : Hs prog (wr w b1 b2) (kt w.params) α₀) : Hs prog (wr w b1 b2) (kt w.params) α₀ :=
  .cut n 860 (lev 860) [i, i + 1, i + 2] Bio (fun _ l => bioX l) (fun s => .call (.ref 317) ⟨[.ref s.self], []⟩) (fun s => bioL w.params s B p) gl gl Unit (fun _ _ => .ok (.ret .none)) (fun s _ => bioU w.params s B p) (fun _ _ => [])
    (fun s => checkC w b1 b2 gl s B p) (fun _ _ _ _ => r)
theorem seekC (w : World) (b1 b2 : Bool) (gl : List GenState) (s : Bio) (B : Array UInt8) (p : Int) (t : Tok) :
    Ctr prog (wr w b1 b2) (kt w.params) 780 (lev 780) (.call (.ref 431) ⟨[.ref s.self, .int 3 t], []⟩) (bioL w.params s B p) gl gl (α := Nat) (fun t' => .ok (.ret (.int 3 t'))) (fun _ => bioU w.params { s with tp := t } B 3) (fun _ => []) := by
  cases b1 <;> (refine Ctr.of_go (NL w.params) (
    owns [(6, 0), (0, 0), (2, 0), (0, 0), (2, 0), (0, 0)] <|
    .stk 0 .enter 1 <|
    owns [(6, 0)] <|
    cIndex (gl := gl) 3 3 (S "BytesIO.seek to what is no exact int, or a far one") (by decide) (by decide) <|
    owns [(5, 0), (0, 0), (5, 0)] <|
    cWhence (gl := gl) 3 (S "BytesIO.seek with a whence that is no exact int, or a far one") <|
    owns [(5, 0), (0, 0), (3, 0), (1, 1), (7, 1), (7, 1), (4, 1), (0, 2)] <|
    cCheck (gl := gl) 3 1 B p <|
    owns [(3, 0), (8, 0), (8, 0), (8, 0), (8, 0), (8, 0), (1, 0), (2, 1), (8, 1), (2, 1), (1, 1), (7, 1), (3, 2), (0, 2), (0, 2), (3, 0)] <|
    .fin 6 (fun r _ => tokV (valOf r)) [1, 2, 3] []) ?_
   <;> (intro h dep fr gd un R d os tok b; kernel_rfl))
end
end Mine
namespace Mine
open PySem PySem.Spec PySem.Calls PyProof.Rows PySem.W PySem.W.X
section
variable {α₀ : Type} {w : World} {b1 b2 : Bool} {gl : List GenState}
def cSlice {prog : Program} {w : World} {kt : KT} (n i j : Nat) (B : Array UInt8) (p q : Nat) (h1 : p ≤ q) (h2 : q ≤ B.size) (hz : B.size ≤ sizeLine) (r : Hs prog w kt α₀) : Hs prog w kt α₀ :=
  .cut n 900 9000 [i, j] (Addr × Addr × Tok × Tok) (fun _ l => match l with
    | [some (a, _), some (b, o)] => (a, b, tokV (fldO o 0), tokV (fldO o 1))
    | _ => (0, 0, 0, 0)) (fun y => .builtin "bytearray.__getitem__" ⟨[.ref y.1, .ref y.2.1], []⟩) (fun y => [(y.1, baO B), (y.2.1, sliO p q y.2.2.1 y.2.2.2)]) gl gl Addr
    (fun _ x => .ok (.ret (.ref x))) (fun y _ => [baO B, sliO p q y.2.2.1 y.2.2.2]) (fun _ x => [(x, baO (B.extract p q))]) (fun y => baSliceC y.1 y.2.1 B p q y.2.2.1 y.2.2.2 h1 h2 hz) (fun _ _ _ _ => r)
def cBytesOf {prog : Program} {w : World} {kt : KT} (n i : Nat) (B : Array UInt8) (hz : B.size ≤ sizeLine) (r : Hs prog w kt α₀) : Hs prog w kt α₀ :=
  .cut n 900 9000 [i] Addr (fun _ l => match l with
    | [some (a, _)] => a
    | _ => 0) (fun y => .builtin "bytes.__new__" ⟨[.type "bytes", .ref y], []⟩) (fun y => [(y, baO B)]) gl gl Nat
    (fun _ t => .ok (.ret (.bytes B t))) (fun _ _ => [baO B]) (fun _ _ => []) (fun y => bytesOfC y B hz) (fun _ _ _ _ => r)
def cLenBa {prog : Program} {w : World} {kt : KT} (n i : Nat) (B : Array UInt8) (hz : B.size ≤ 1099511627776) (r : Hs prog w kt α₀) : Hs prog w kt α₀ :=
  .cut n 900 9000 [i] Addr (fun _ l => match l with
    | [some (a, _)] => a
    | _ => 0) (fun y => .builtin "len" ⟨[.ref y], []⟩) (fun y => [(y, baO B)]) gl gl Nat
    (fun _ t => .ok (.ret (.int B.size t))) (fun _ _ => [baO B]) (fun _ _ => []) (fun y => lenBaC y B hz) (fun _ _ _ _ => r)
def cLenBy {prog : Program} {w : World} {kt : KT} (n : Nat) (B : Array UInt8) (hz : B.size ≤ 1099511627776) (r : Hs prog w kt α₀) : Hs prog w kt α₀ :=
  .cut n 900 9000 [] Tok (fun c _ => tokV (argA c 0)) (fun y => .builtin "len" ⟨[.bytes B y], []⟩) (fun _ => []) gl gl Nat
    (fun _ t => .ok (.ret (.int B.size t))) (fun _ _ => []) (fun _ _ => []) (fun y => lenByC y B hz) (fun _ _ _ _ => r)
theorem szl {B : Array UInt8} {p q : Nat} (hz : B.size ≤ sizeLine) : (B.extract p q).size ≤ sizeLine := by
  rw [Array.size_extract]
  omega
theorem sizeLine_le : sizeLine ≤ 1099511627776 := by decide +kernel
theorem readLt (w : World) (b1 b2 : Bool) (gl : List GenState) (s : Bio) (B : Array UInt8) (p n : Nat) (t : Tok) (hn : 1 ≤ n) (h : p + n < B.size) (hz : B.size ≤ sizeLine) :
    Ctr prog (wr w b1 b2) (kt w.params) 780 (lev 780) (.call (.ref 447) ⟨[.ref s.self, .int n t], []⟩) (bioL w.params s B p) gl gl (α := Tok × Tok) (fun x => .ok (.ret (.bytes (B.extract p (p + n)) x.1))) (fun x => bioU w.params { s with tp := x.2 } B ((p + n : Nat) : Int)) (fun _ => []) := by
  have hL := sizeLine_le
  have e1 : decide ((n : Int) > 1099511627776) = false := decide_eq_false (by omega)
  have e2 : decide ((n : Int) < -1099511627776) = false := decide_eq_false (by omega)
  have e3 : decide ((p : Int) ≥ (B.size : Int)) = false := decide_eq_false (by omega)
  have e4 : decide ((n : Int) ≥ 0) = true := decide_eq_true (by omega)
  have e5 : decide (((p + n : Nat) : Int) < (B.size : Int)) = true := decide_eq_true (by omega)
  cases b1 <;> (refine Ctr.of_go (NL w.params) (
    owns [(6, 0), (0, 0), (2, 0), (0, 0)] <|
    .stk 0 .enter 1 <|
    owns [(4, 0), (5, 0)] <|
    cIndex (gl := gl) 3 n (S "BytesIO.read of a size that is no exact int") e1 e2 <|
    owns [(5, 0), (0, 0), (3, 0), (1, 1), (7, 1), (7, 1), (4, 1), (0, 2)] <|
    cCheck (gl := gl) 3 1 B p <|
    owns [(3, 0), (2, 1), (8, 1), (7, 1), (0, 1), (1, 2), (6, 0), (0, 0), (6, 0), (2, 1), (8, 1), (7, 1), (0, 1), (1, 2)] <|
    cLenBa (gl := gl) 4 3 B (Nat.le_trans hz hL) <|
    owns [(6, 0), (0, 0), (3, 0), (1, 0)] <|
    isB 4 _ false e3 <|
    owns [(3, 0)] <|
    isB 5 _ true e4 <|
    owns [(2, 0), (1, 0), (6, 0)] <|
    isB 4 _ true e5 <|
    owns [(3, 0), (1, 0), (9, 0), (0, 0), (3, 0), (1, 0), (2, 1), (8, 1), (2, 1), (1, 1), (7, 1), (3, 2), (0, 2), (0, 2), (6, 0), (2, 1), (8, 1), (7, 1), (0, 1), (1, 2), (3, 0), (1, 0), (2, 4), (0, 4), (0, 4), (1, 4)] <|
    cSlice (gl := gl) 0 4 0 B p (p + n) (Nat.le_add_right p n) (Nat.le_of_lt h) hz <|
    cBytesOf (gl := gl) 8 0 (B.extract p (p + n)) (szl hz) <|
    .fin 6 (fun r T => (tokV (valOf r), tokV (entO (objAt T 4) 1).2)) [3, 4, 5] []) ?_
   <;> (intro h dep fr gd un R d os tok b; kernel_rfl))
theorem readEq (w : World) (b1 b2 : Bool) (gl : List GenState) (s : Bio) (B : Array UInt8) (p n : Nat) (t : Tok) (hn : 1 ≤ n) (h : p + n = B.size) (hz : B.size ≤ sizeLine) :
    Ctr prog (wr w b1 b2) (kt w.params) 780 (lev 780) (.call (.ref 447) ⟨[.ref s.self, .int n t], []⟩) (bioL w.params s B p) gl gl (α := Tok × Tok) (fun x => .ok (.ret (.bytes (B.extract p B.size) x.1))) (fun x => bioU w.params { s with tp := x.2 } B (B.size : Int)) (fun _ => []) := by
  have hL := sizeLine_le
  have e1 : decide ((n : Int) > 1099511627776) = false := decide_eq_false (by omega)
  have e2 : decide ((n : Int) < -1099511627776) = false := decide_eq_false (by omega)
  have e3 : decide ((p : Int) ≥ (B.size : Int)) = false := decide_eq_false (by omega)
  have e4 : decide ((n : Int) ≥ 0) = true := decide_eq_true (by omega)
  have e5 : decide (((p + n : Nat) : Int) < (B.size : Int)) = false := decide_eq_false (by omega)
  cases b1 <;> (refine Ctr.of_go (NL w.params) (
    owns [(6, 0), (0, 0), (2, 0), (0, 0)] <|
    .stk 0 .enter 1 <|
    owns [(4, 0), (5, 0)] <|
    cIndex (gl := gl) 3 n (S "BytesIO.read of a size that is no exact int") e1 e2 <|
    owns [(5, 0), (0, 0), (3, 0), (1, 1), (7, 1), (7, 1), (4, 1), (0, 2)] <|
    cCheck (gl := gl) 3 1 B p <|
    owns [(3, 0), (2, 1), (8, 1), (7, 1), (0, 1), (1, 2), (6, 0), (0, 0), (6, 0), (2, 1), (8, 1), (7, 1), (0, 1), (1, 2)] <|
    cLenBa (gl := gl) 4 3 B (Nat.le_trans hz hL) <|
    owns [(6, 0), (0, 0), (3, 0), (1, 0)] <|
    isB 4 _ false e3 <|
    owns [(3, 0)] <|
    isB 5 _ true e4 <|
    owns [(2, 0), (1, 0), (6, 0)] <|
    isB 4 _ false e5 <|
    owns [(3, 0), (1, 0), (2, 1), (8, 1), (2, 1), (1, 1), (7, 1), (3, 2), (0, 2), (0, 2), (6, 0), (2, 1), (8, 1), (7, 1), (0, 1), (1, 2), (3, 0), (1, 0), (2, 4), (0, 4), (0, 4), (1, 4)] <|
    cSlice (gl := gl) 0 4 0 B p B.size (by omega) (Nat.le_refl _) hz <|
    cBytesOf (gl := gl) 8 0 (B.extract p B.size) (szl hz) <|
    .fin 6 (fun r T => (tokV (valOf r), tokV (entO (objAt T 4) 1).2)) [3, 4, 5] []) ?_
   <;> (intro h dep fr gd un R d os tok b; kernel_rfl))
theorem readC (w : World) (b1 b2 : Bool) (gl : List GenState) (s : Bio) (B : Array UInt8) (p n : Nat) (t : Tok) (hn : 1 ≤ n) (h : p + n ≤ B.size) (hz : B.size ≤ sizeLine) :
    Ctr prog (wr w b1 b2) (kt w.params) 780 (lev 780) (.call (.ref 447) ⟨[.ref s.self, .int n t], []⟩) (bioL w.params s B p) gl gl (α := Tok × Tok) (fun x => .ok (.ret (.bytes (B.extract p (p + n)) x.1))) (fun x => bioU w.params { s with tp := x.2 } B ((p + n : Nat) : Int)) (fun _ => []) := by
  rcases Nat.lt_or_eq_of_le h with h | h
  · exact readLt w b1 b2 gl s B p n t hn h hz
  · have := readEq w b1 b2 gl s B p n t hn h hz
    rw [← h] at this
    exact this
theorem tellC (w : World) (b1 b2 : Bool) (gl : List GenState) (s : Bio) (B : Array UInt8) (p : Nat) :
    Ctr prog (wr w b1 b2) (kt w.params) 780 (lev 780) (.call (.ref 423) ⟨[.ref s.self], []⟩) (bioL w.params s B p) gl gl (α := Tok) (fun x => .ok (.ret (.int p x))) (fun _ => bioU w.params s B p) (fun _ => []) := by
  cases b1 <;> (refine Ctr.of_go (NL w.params) (
    owns [(5, 0), (0, 0)] <|
    .stk 0 .enter 1 <|
    owns [(4, 0), (1, 1), (7, 1), (7, 1), (4, 1), (0, 2)] <|
    cCheck (gl := gl) 3 1 B p <|
    owns [(3, 0), (2, 1), (8, 1), (7, 1), (0, 1), (1, 2)] <|
    .fin 8 (fun r _ => tokV (valOf r)) [1, 2, 3] []) ?_
   <;> (intro h dep fr gd un R d os tok b; kernel_rfl))
def cRead (n i : Nat) (B : Array UInt8) (p k : Nat) (hn : 1 ≤ k) (h : p + k ≤ B.size) (hz : B.size ≤ sizeLine) (r : Hs prog (wr w b1 b2) (kt w.params) α₀) : Hs prog (wr w b1 b2) (kt w.params) α₀ :=
  .cut n 780 (lev 780) [i, i + 1, i + 2] (Bio × Tok) (fun c l => (bioX l, tokV (argA c 1))) (fun s => .call (.ref 447) ⟨[.ref s.1.self, .int k s.2], []⟩) (fun s => bioL w.params s.1 B p) gl gl (Tok × Tok) (fun _ x => .ok (.ret (.bytes (B.extract p (p + k)) x.1)))
    (fun s x => bioU w.params { s.1 with tp := x.2 } B ((p + k : Nat) : Int)) (fun _ _ => []) (fun s => readC w b1 b2 gl s.1 B p k s.2 hn h hz) (fun _ _ _ _ => r)
end
end Mine
namespace Mine
open PySem PySem.Spec PySem.Calls PyProof.Rows PySem.W PySem.W.X
section
variable {α₀ : Type} {w : World} {b1 b2 : Bool} {gl : List GenState}
def cLenLi {prog : Program} {w : World} {kt : KT} (n i : Nat) (B : Array Value) (e : Nat) (hz : B.size ≤ 1099511627776) (r : Hs prog w kt α₀) : Hs prog w kt α₀ :=
  .cut n 900 9000 [i] Addr (fun _ l => match l with
    | [some (a, _)] => a
    | _ => 0) (fun y => .builtin "len" ⟨[.ref y], []⟩) (fun y => [(y, lstO B e)]) gl gl Nat
    (fun _ t => .ok (.ret (.int B.size t))) (fun _ _ => [lstO B e]) (fun _ _ => []) (fun y => lenLiC y B e hz) (fun _ _ _ _ => r)
def cGet {prog : Program} {w : World} {kt : KT} (n i : Nat) (B : Array Value) (e : Nat) (k : Int) (h0 : 0 ≤ k) (x : Value) (hx : B[k.toNat]? = some x) (hk : k < 2 ^ 63) (r : Hs prog w kt α₀) : Hs prog w kt α₀ :=
  .cut n 900 9000 [i] (Addr × Tok) (fun c l => match l with
    | [some (a, _)] => (a, tokV (argA c 1))
    | _ => (0, 0)) (fun y => .builtin "list.__getitem__" ⟨[.ref y.1, .int k y.2], []⟩) (fun y => [(y.1, lstO B e)]) gl gl Unit
    (fun _ _ => .ok (.ret x)) (fun _ _ => [lstO B e]) (fun _ _ => []) (fun y => listGetC y.1 B e k h0 y.2 x hx hk) (fun _ _ _ _ => r)
abbrev boxO (x y z : Int) (t0 t1 t2 : Tok) (sc : Addr) (e : Nat) : Obj := lstO #[.int x t0, .int y t1, .int z t2, .ref sc] e
theorem pgt (k : Nat) : decide (((k + 1 : Nat) : Int) > 0) = true := decide_eq_true (by omega)
theorem nz (m : Nat) : (((m + 1 : Nat) : Int) == 0) = false := by rw [beq_eq_false_iff_ne]; omega
abbrev TkC (w : World) (b1 b2 : Bool) (gl : List GenState) (box sc : Addr) (xs : Array Value) (e e' : Nat) (x y z : Int) (m : Nat) (t0 t1 t2 tm : Tok) (v x' y' z' : Int) : Prop :=
  Ctr prog (wr w b1 b2) (kt w.params) 800 (lev 800) (.call (.ref 1252) ⟨[.ref box, .int ((m + 1 : Nat) : Int) tm], []⟩) [(box, boxO x y z t0 t1 t2 sc e), (sc, lstO xs e')] gl gl (α := Tok × Tok × Tok × Tok)
    (fun p => .ok (.ret (.int v p.1))) (fun p => [boxO x' y' z' p.2.1 p.2.2.1 p.2.2.2 sc e, lstO xs e']) (fun _ => [])

theorem tkp1a (w : World) (b1 b2 : Bool) (gl : List GenState) (box sc : Addr) (xs : Array Value) (e e' : Nat) (m : Nat) (hm : m + 1 < 1073741824) (t0 t1 t2 tm : Tok) (x k z q : Nat) (hq : ((x : Nat) : Int).fdiv ((m + 1 : Nat) : Int) = ((q + 1 : Nat) : Int)) :
    TkC w b1 b2 gl box sc xs e e' x ((k + 1 : Nat) : Int) z m t0 t1 t2 tm ((x : Int).fmod ((m + 1 : Nat) : Int)) ((q + 1 : Nat) : Int) (((k + 1 : Nat) : Int) - 1) z := by
  cases b1 <;> (refine Ctr.of_go (NL w.params) (
    owns [(5, 0), (0, 0), (2, 0), (0, 0)] <|
    .stk 0 .enter 1 <|
    owns [(4, 0), (2, 1), (0, 1), (0, 1), (1, 1), (1, 1), (9, 0), (2, 1), (0, 1), (0, 1), (1, 1), (1, 1)] <|
    isB 6 _ true (pgt k) <|
    owns [(3, 0), (2, 1), (0, 1), (0, 1), (1, 1), (1, 1), (2, 0), (9, 0), (0, 0), (3, 0), (2, 1), (0, 1), (0, 1), (1, 1), (1, 1), (2, 0)] <|
    cutBin 2 gl "int.__floordiv__" (x : Nat) ((m + 1 : Nat) : Int) ((q + 1 : Nat) : Int) (divC' (nz m) hm hq) <|
    owns [(2, 0), (2, 1), (0, 1), (1, 1), (1, 1), (0, 1), (0, 1), (3, 0), (2, 1), (0, 1), (0, 1), (1, 1), (1, 1)] <|
    isB 6 _ true (pgt q) <|
    owns [(2, 0), (2, 1), (0, 1), (0, 1), (1, 1), (1, 1), (8, 0), (2, 1), (0, 1), (1, 1), (1, 1), (0, 1), (0, 1), (3, 0)] <|
    .fin 0 (fun r T => (tokV (valOf r), tokV (fldO (objAt T 1) 0), tokV (fldO (objAt T 1) 1), tokV (fldO (objAt T 1) 2))) [1, 2] []) ?_
   <;> (intro h dep fr gd un R d os tok b; kernel_rfl))

theorem tkp1b (w : World) (b1 b2 : Bool) (gl : List GenState) (box sc : Addr) (xs : Array Value) (e e' : Nat) (m : Nat) (hm : m + 1 < 1073741824) (t0 t1 t2 tm : Tok) (x k z : Nat) (hq : ((x : Nat) : Int).fdiv ((m + 1 : Nat) : Int) = 0) :
    TkC w b1 b2 gl box sc xs e e' x ((k + 1 : Nat) : Int) z m t0 t1 t2 tm ((x : Int).fmod ((m + 1 : Nat) : Int)) 0 0 z := by
  cases b1 <;> (refine Ctr.of_go (NL w.params) (
    owns [(5, 0), (0, 0), (2, 0), (0, 0)] <|
    .stk 0 .enter 1 <|
    owns [(4, 0), (2, 1), (0, 1), (0, 1), (1, 1), (1, 1), (9, 0), (2, 1), (0, 1), (0, 1), (1, 1), (1, 1)] <|
    isB 6 _ true (pgt k) <|
    owns [(3, 0), (2, 1), (0, 1), (0, 1), (1, 1), (1, 1), (2, 0), (9, 0), (0, 0), (3, 0), (2, 1), (0, 1), (0, 1), (1, 1), (1, 1), (2, 0)] <|
    cutBin 2 gl "int.__floordiv__" (x : Nat) ((m + 1 : Nat) : Int) 0 (divC' (nz m) hm hq) <|
    owns [(2, 0), (2, 1), (0, 1), (1, 1), (1, 1), (0, 1), (0, 1), (3, 0), (2, 1), (0, 1), (0, 1), (1, 1), (1, 1)] <|
    isB 6 (decide ((0 : Int) > 0)) false rfl <|
    owns [(3, 0), (2, 1), (0, 1), (1, 1), (1, 1), (0, 1), (0, 1), (3, 0)] <|
    .fin 0 (fun r T => (tokV (valOf r), tokV (fldO (objAt T 1) 0), tokV (fldO (objAt T 1) 1), tokV (fldO (objAt T 1) 2))) [1, 2] []) ?_
   <;> (intro h dep fr gd un R d os tok b; kernel_rfl))

theorem tkp2 (w : World) (b1 b2 : Bool) (gl : List GenState) (box sc : Addr) (xs : Array Value) (e e' : Nat) (m : Nat) (hm : m + 1 < 1073741824) (t0 t1 t2 tm : Tok) (hz : xs.size ≤ 1099511627776) (x z c q : Nat) (tc : Tok) (hx : xs[z]? = some (.int c tc)) (hl : decide ((z : Int) < (xs.size : Int)) = true) (hzz : (z : Int) < 2 ^ 63) (hc : decide ((c : Int) ≥ 1000000000000000000) = true) (hq : ((c : Nat) : Int).fdiv ((m + 1 : Nat) : Int) = ((q + 1 : Nat) : Int)) :
    TkC w b1 b2 gl box sc xs e e' x 0 z m t0 t1 t2 tm ((c : Int).fmod ((m + 1 : Nat) : Int)) ((q + 1 : Nat) : Int) 59 (z + 1) := by
  cases b1 <;> (refine Ctr.of_go (NL w.params) (
    owns [(5, 0), (0, 0), (2, 0), (0, 0)] <|
    .stk 0 .enter 1 <|
    owns [(4, 0), (2, 1), (0, 1), (0, 1), (1, 1), (1, 1), (9, 0), (2, 1), (0, 1), (0, 1), (1, 1), (1, 1), (5, 0), (2, 1), (0, 1), (0, 1), (1, 1), (1, 1)] <|
    cLenLi (gl := gl) 3 2 xs e' hz <|
    isB 6 _ true hl <|
    owns [(2, 0), (2, 1), (0, 1), (0, 1), (1, 1), (1, 1), (2, 0), (2, 1), (0, 1), (0, 1), (1, 1), (1, 1), (2, 2), (0, 2), (0, 2), (1, 2)] <|
    cGet (gl := gl) 0 2 xs e' z (Int.natCast_nonneg z) (.int c tc) hx hzz <|
    owns [(7, 0), (0, 0), (3, 0), (2, 1), (0, 1), (0, 1), (1, 1), (1, 1), (5, 0), (2, 1), (0, 1), (0, 1), (1, 1), (1, 1)] <|
    cLenLi (gl := gl) 3 2 xs e' hz <|
    isB 6 _ true hl <|
    owns [(3, 0)] <|
    isB 11 _ true hc <|
    owns [(3, 0), (2, 1), (0, 1), (1, 1), (1, 1), (0, 1), (0, 1), (3, 0), (2, 1), (0, 1), (0, 1), (1, 1), (1, 1), (8, 0), (2, 1), (0, 1), (1, 1), (1, 1), (0, 1), (0, 1), (3, 0), (1, 0), (2, 1), (0, 1), (1, 1), (1, 1), (0, 1), (0, 1), (3, 0), (2, 1), (0, 1), (0, 1), (1, 1), (1, 1), (9, 0), (2, 1), (0, 1), (0, 1), (1, 1), (1, 1)] <|
    isB 6 (decide ((60 : Int) > 0)) true rfl <|
    owns [(3, 0), (2, 1), (0, 1), (0, 1), (1, 1), (1, 1), (2, 0), (9, 0), (0, 0), (3, 0), (2, 1), (0, 1), (0, 1), (1, 1), (1, 1), (2, 0)] <|
    cutBin 2 gl "int.__floordiv__" (c : Nat) ((m + 1 : Nat) : Int) ((q + 1 : Nat) : Int) (divC' (nz m) hm hq) <|
    owns [(2, 0), (2, 1), (0, 1), (1, 1), (1, 1), (0, 1), (0, 1), (3, 0), (2, 1), (0, 1), (0, 1), (1, 1), (1, 1)] <|
    isB 6 _ true (pgt q) <|
    owns [(2, 0), (2, 1), (0, 1), (0, 1), (1, 1), (1, 1), (8, 0), (2, 1), (0, 1), (1, 1), (1, 1), (0, 1), (0, 1), (3, 0)] <|
    .fin 0 (fun r T => (tokV (valOf r), tokV (fldO (objAt T 1) 0), tokV (fldO (objAt T 1) 1), tokV (fldO (objAt T 1) 2))) [1, 2] []) ?_
   <;> (intro h dep fr gd un R d os tok b; kernel_rfl))

theorem tkp3 (w : World) (b1 b2 : Bool) (gl : List GenState) (box sc : Addr) (xs : Array Value) (e e' : Nat) (m : Nat) (t0 t1 t2 tm : Tok) (hz : xs.size ≤ 1099511627776) (x z c : Nat) (tc : Tok) (hx : xs[z]? = some (.int c tc)) (hl : decide ((z : Int) < (xs.size : Int)) = true) (hzz : (z : Int) < 2 ^ 63) (hc : decide ((c : Int) ≥ 1000000000000000000) = false) :
    TkC w b1 b2 gl box sc xs e e' x 0 z m t0 t1 t2 tm ((((((c : Int) * 48271 + 69621 * ((-9 : Int) + 1 + 20)).fmod 2147483647).fdiv 7 + (((c : Int) * 48271 + 69621 * ((-9 : Int) + 1 + 20)).fmod 2147483647)).fmod 1000003).fmod ((m + 1 : Nat) : Int)) (((c : Int) * 48271 + 69621 * ((-9 : Int) + 1 + 20)).fmod 2147483647) (-8) (z + 1) := by
  cases b1 <;> (refine Ctr.of_go (NL w.params) (
    owns [(5, 0), (0, 0), (2, 0), (0, 0)] <|
    .stk 0 .enter 1 <|
    owns [(4, 0), (2, 1), (0, 1), (0, 1), (1, 1), (1, 1), (9, 0), (2, 1), (0, 1), (0, 1), (1, 1), (1, 1), (5, 0), (2, 1), (0, 1), (0, 1), (1, 1), (1, 1)] <|
    cLenLi (gl := gl) 3 2 xs e' hz <|
    isB 6 _ true hl <|
    owns [(2, 0), (2, 1), (0, 1), (0, 1), (1, 1), (1, 1), (2, 0), (2, 1), (0, 1), (0, 1), (1, 1), (1, 1), (2, 2), (0, 2), (0, 2), (1, 2)] <|
    cGet (gl := gl) 0 2 xs e' z (Int.natCast_nonneg z) (.int c tc) hx hzz <|
    owns [(7, 0), (0, 0), (3, 0), (2, 1), (0, 1), (0, 1), (1, 1), (1, 1), (5, 0), (2, 1), (0, 1), (0, 1), (1, 1), (1, 1)] <|
    cLenLi (gl := gl) 3 2 xs e' hz <|
    isB 6 _ true hl <|
    owns [(3, 0)] <|
    isB 11 _ false hc <|
    owns [(8, 0), (2, 1), (0, 1), (1, 1), (1, 1), (0, 1), (0, 1), (3, 0), (2, 1), (0, 1), (0, 1), (1, 1), (1, 1), (8, 0), (2, 1), (0, 1), (1, 1), (1, 1), (0, 1), (0, 1), (3, 0), (1, 0), (2, 1), (0, 1), (1, 1), (1, 1), (0, 1), (0, 1), (3, 0), (2, 1), (0, 1), (0, 1), (1, 1), (1, 1), (9, 0), (2, 1), (0, 1), (0, 1), (1, 1), (1, 1)] <|
    isB 6 (decide ((-9 : Int) > 0)) false rfl <|
    owns [(3, 0), (2, 1), (0, 1), (0, 1), (1, 1), (1, 1), (8, 0), (2, 1), (0, 1), (1, 1), (1, 1), (0, 1), (0, 1), (3, 0), (2, 1), (0, 1), (0, 1), (1, 1), (1, 1)] <|
    cutBin 4 gl "int.__mul__" (c : Int) 48271 ((c : Int) * 48271) (mulC (.of_right (by decide))) <|
    owns [(3, 0), (2, 1), (0, 1), (0, 1), (1, 1), (1, 1)] <|
    cutBin 9 gl "int.__mul__" 69621 ((-9 : Int) + 1 + 20) (69621 * ((-9 : Int) + 1 + 20)) (mulC (.of_left (by decide))) <|
    owns [(13, 0), (2, 1), (0, 1), (1, 1), (1, 1), (0, 1), (0, 1), (3, 0), (2, 1), (0, 1), (0, 1), (1, 1), (1, 1)] <|
    cutBin 4 gl "int.__floordiv__" (((c : Int) * 48271 + 69621 * ((-9 : Int) + 1 + 20)).fmod 2147483647) 7 ((((c : Int) * 48271 + 69621 * ((-9 : Int) + 1 + 20)).fmod 2147483647).fdiv 7) (divC rfl (by decide)) <|
    owns [(2, 0), (2, 1), (0, 1), (0, 1), (1, 1), (1, 1), (13, 0)] <|
    .fin 5 (fun r T => (tokV (valOf r), tokV (fldO (objAt T 1) 0), tokV (fldO (objAt T 1) 1), tokV (fldO (objAt T 1) 2))) [1, 2] []) ?_
   <;> (intro h dep fr gd un R d os tok b; kernel_rfl))

theorem tkp4 (w : World) (b1 b2 : Bool) (gl : List GenState) (box sc : Addr) (xs : Array Value) (e e' : Nat) (m : Nat) (t0 t1 t2 tm : Tok) (hz : xs.size ≤ 1099511627776) (x z : Nat) (hl : decide ((z : Int) < (xs.size : Int)) = false) :
    TkC w b1 b2 gl box sc xs e e' x 0 z m t0 t1 t2 tm 0 0 0 (z + 1) := by
  cases b1 <;> (refine Ctr.of_go (NL w.params) (
    owns [(5, 0), (0, 0), (2, 0), (0, 0)] <|
    .stk 0 .enter 1 <|
    owns [(4, 0), (2, 1), (0, 1), (0, 1), (1, 1), (1, 1), (9, 0), (2, 1), (0, 1), (0, 1), (1, 1), (1, 1), (5, 0), (2, 1), (0, 1), (0, 1), (1, 1), (1, 1)] <|
    cLenLi (gl := gl) 3 2 xs e' hz <|
    isB 6 _ false hl <|
    owns [(6, 0), (0, 0), (3, 0), (2, 1), (0, 1), (0, 1), (1, 1), (1, 1), (5, 0), (2, 1), (0, 1), (0, 1), (1, 1), (1, 1)] <|
    cLenLi (gl := gl) 3 2 xs e' hz <|
    isB 6 _ false hl <|
    owns [(3, 0), (2, 1), (0, 1), (0, 1), (1, 1), (1, 1), (8, 0), (2, 1), (0, 1), (1, 1), (1, 1), (0, 1), (0, 1), (3, 0), (1, 0), (2, 1), (0, 1), (1, 1), (1, 1), (0, 1), (0, 1), (3, 0), (2, 1), (0, 1), (0, 1), (1, 1), (1, 1)] <|
    .fin 9 (fun r T => (tokV (valOf r), tokV (fldO (objAt T 1) 0), tokV (fldO (objAt T 1) 1), tokV (fldO (objAt T 1) 2))) [1, 2] []) ?_
   <;> (intro h dep fr gd un R d os tok b; kernel_rfl))

theorem tkp5 (w : World) (b1 b2 : Bool) (gl : List GenState) (box sc : Addr) (xs : Array Value) (e e' : Nat) (m : Nat) (t0 t1 t2 tm : Tok) (x k z : Nat) :
    TkC w b1 b2 gl box sc xs e e' x (.negSucc k) z m t0 t1 t2 tm ((((((x : Int) * 48271 + 69621 * ((Int.negSucc k) + 1 + 20)).fmod 2147483647).fdiv 7 + (((x : Int) * 48271 + 69621 * ((Int.negSucc k) + 1 + 20)).fmod 2147483647)).fmod 1000003).fmod ((m + 1 : Nat) : Int)) (((x : Int) * 48271 + 69621 * ((Int.negSucc k) + 1 + 20)).fmod 2147483647) (.negSucc k + 1) z := by
  cases b1 <;> (refine Ctr.of_go (NL w.params) (
    owns [(5, 0), (0, 0), (2, 0), (0, 0)] <|
    .stk 0 .enter 1 <|
    owns [(4, 0), (2, 1), (0, 1), (0, 1), (1, 1), (1, 1), (9, 0), (2, 1), (0, 1), (0, 1), (1, 1), (1, 1)] <|
    isB 6 (decide (Int.negSucc k > 0)) false rfl <|
    owns [(3, 0), (2, 1), (0, 1), (0, 1), (1, 1), (1, 1), (8, 0), (2, 1), (0, 1), (1, 1), (1, 1), (0, 1), (0, 1), (3, 0), (2, 1), (0, 1), (0, 1), (1, 1), (1, 1)] <|
    cutBin 4 gl "int.__mul__" (x : Int) 48271 ((x : Int) * 48271) (mulC (.of_right (by decide))) <|
    owns [(3, 0), (2, 1), (0, 1), (0, 1), (1, 1), (1, 1)] <|
    cutBin 9 gl "int.__mul__" 69621 ((Int.negSucc k) + 1 + 20) (69621 * ((Int.negSucc k) + 1 + 20)) (mulC (.of_left (by decide))) <|
    owns [(13, 0), (2, 1), (0, 1), (1, 1), (1, 1), (0, 1), (0, 1), (3, 0), (2, 1), (0, 1), (0, 1), (1, 1), (1, 1)] <|
    cutBin 4 gl "int.__floordiv__" (((x : Int) * 48271 + 69621 * ((Int.negSucc k) + 1 + 20)).fmod 2147483647) 7 ((((x : Int) * 48271 + 69621 * ((Int.negSucc k) + 1 + 20)).fmod 2147483647).fdiv 7) (divC rfl (by decide)) <|
    owns [(2, 0), (2, 1), (0, 1), (0, 1), (1, 1), (1, 1), (13, 0)] <|
    .fin 5 (fun r T => (tokV (valOf r), tokV (fldO (objAt T 1) 0), tokV (fldO (objAt T 1) 1), tokV (fldO (objAt T 1) 2))) [1, 2] []) ?_
   <;> (intro h dep fr gd un R d os tok b; kernel_rfl))

/-- a box whose cells are natural numbers -/
def Scr (xs : Array Value) : Prop := xs.size ≤ 1099511627776 ∧ ∀ z, z < xs.size → ∃ (c : Nat) (tc : Tok), xs[z]? = some (.int c tc)
structure TkR (m : Nat) where
  v : Nat
  hv : v < m + 1
  x : Nat
  y : Int
  z : Nat
  tv : Tok
  t0 : Tok
  t1 : Tok
  t2 : Tok
theorem fmod_nn (x : Int) (m : Nat) : ∃ v : Nat, v < m + 1 ∧ x.fmod ((m + 1 : Nat) : Int) = (v : Int) := by
  have h1 : 0 ≤ x.fmod ((m + 1 : Nat) : Int) := Int.fmod_nonneg_of_pos _ (by omega)
  have h2 : x.fmod ((m + 1 : Nat) : Int) < ((m + 1 : Nat) : Int) := Int.fmod_lt_of_pos _ (by omega)
  exact ⟨(x.fmod ((m + 1 : Nat) : Int)).toNat, by omega, by omega⟩
theorem fdiv_nn (x m : Nat) : ∃ q : Nat, (x : Int).fdiv ((m + 1 : Nat) : Int) = (q : Int) := ⟨x / (m + 1), by rw [Int.fdiv_eq_ediv_of_nonneg _ (by omega)]; simp⟩
theorem takeC (w : World) (b1 b2 : Bool) (gl : List GenState) (box sc : Addr) (xs : Array Value) (e e' : Nat) (m : Nat) (hm : m + 1 < 1073741824) (t0 t1 t2 tm : Tok) (x z : Nat) (y : Int) (S : Scr xs) :
    Ctr prog (wr w b1 b2) (kt w.params) 800 (lev 800) (.call (.ref 1252) ⟨[.ref box, .int ((m + 1 : Nat) : Int) tm], []⟩) [(box, boxO x y z t0 t1 t2 sc e), (sc, lstO xs e')] gl gl (α := TkR m)
      (fun p => .ok (.ret (.int p.v p.tv))) (fun p => [boxO p.x p.y p.z p.t0 p.t1 p.t2 sc e, lstO xs e']) (fun _ => []) := by
  obtain ⟨hz, S⟩ := S
  have P1 : ∀ k : Nat, Ctr prog (wr w b1 b2) (kt w.params) 800 (lev 800) (.call (.ref 1252) ⟨[.ref box, .int ((m + 1 : Nat) : Int) tm], []⟩) [(box, boxO x ((k + 1 : Nat) : Int) z t0 t1 t2 sc e), (sc, lstO xs e')] gl gl (α := TkR m)
      (fun p => .ok (.ret (.int p.v p.tv))) (fun p => [boxO p.x p.y p.z p.t0 p.t1 p.t2 sc e, lstO xs e']) (fun _ => []) := fun k => by
    obtain ⟨q, hq⟩ := fdiv_nn x m
    obtain ⟨v, hv, ev⟩ := fmod_nn x m
    cases q with
    | zero => exact (tkp1b w b1 b2 gl box sc xs e e' m hm t0 t1 t2 tm x k z hq).mono fun p => ⟨⟨v, hv, 0, 0, z, p.1, p.2.1, p.2.2.1, p.2.2.2⟩, by rw [ev], rfl, rfl⟩
    | succ q => exact (tkp1a w b1 b2 gl box sc xs e e' m hm t0 t1 t2 tm x k z q hq).mono fun p => ⟨⟨v, hv, q + 1, ((k + 1 : Nat) : Int) - 1, z, p.1, p.2.1, p.2.2.1, p.2.2.2⟩, by rw [ev], rfl, rfl⟩
  have lcg : ∀ u : Int, ∃ n : Nat, u.fmod 2147483647 = (n : Int) := fun u => (fmod_nn u 2147483646).imp fun v h => h.2
  cases y with
  | negSucc k =>
    obtain ⟨v, hv, ev⟩ := fmod_nn (((((x : Int) * 48271 + 69621 * (Int.negSucc k + 1 + 20)).fmod 2147483647).fdiv 7 + (((x : Int) * 48271 + 69621 * (Int.negSucc k + 1 + 20)).fmod 2147483647)).fmod 1000003) m
    obtain ⟨n, hn⟩ := lcg ((x : Int) * 48271 + 69621 * (Int.negSucc k + 1 + 20))
    exact (tkp5 w b1 b2 gl box sc xs e e' m t0 t1 t2 tm x k z).mono fun p => ⟨⟨v, hv, n, Int.negSucc k + 1, z, p.1, p.2.1, p.2.2.1, p.2.2.2⟩, by rw [ev], by rw [hn], rfl⟩
  | ofNat k =>
    cases k with
    | succ k => exact P1 k
    | zero =>
      by_cases hl : z < xs.size
      · have hl' : decide ((z : Int) < (xs.size : Int)) = true := decide_eq_true (by omega)
        have hzz : (z : Int) < 2 ^ 63 := by omega
        obtain ⟨c, tc, hx⟩ := S z hl
        by_cases hc : (c : Int) ≥ 1000000000000000000
        · obtain ⟨q, hq⟩ := fdiv_nn c m
          obtain ⟨v, hv, ev⟩ := fmod_nn c m
          cases q with
          | zero =>
            exfalso
            rw [Int.fdiv_eq_ediv_of_nonneg _ (by omega)] at hq
            have h1 : c / (m + 1) = 0 := by
              have : ((c / (m + 1) : Nat) : Int) = 0 := by rw [Int.natCast_ediv]; exact hq
              exact_mod_cast this
            rcases Nat.div_eq_zero_iff.mp h1 with h | h <;> omega
          | succ q => 
            have := tkp2 w b1 b2 gl box sc xs e e' m hm t0 t1 t2 tm hz x z c q tc hx hl' hzz (decide_eq_true hc) hq
            exact this.mono fun p => ⟨⟨v, hv, q + 1, 59, z + 1, p.1, p.2.1, p.2.2.1, p.2.2.2⟩, by rw [ev], rfl, rfl⟩
        · obtain ⟨v, hv, ev⟩ := fmod_nn (((((c : Int) * 48271 + 69621 * ((-9 : Int) + 1 + 20)).fmod 2147483647).fdiv 7 + (((c : Int) * 48271 + 69621 * ((-9 : Int) + 1 + 20)).fmod 2147483647)).fmod 1000003) m
          obtain ⟨n, hn⟩ := lcg ((c : Int) * 48271 + 69621 * ((-9 : Int) + 1 + 20))
          exact (tkp3 w b1 b2 gl box sc xs e e' m t0 t1 t2 tm hz x z c tc hx hl' hzz (decide_eq_false hc)).mono fun p => ⟨⟨v, hv, n, -8, z + 1, p.1, p.2.1, p.2.2.1, p.2.2.2⟩, by rw [ev], by rw [hn]; rfl, rfl⟩
      · have hl' : decide ((z : Int) < (xs.size : Int)) = false := decide_eq_false (by omega)
        exact (tkp4 w b1 b2 gl box sc xs e e' m t0 t1 t2 tm hz x z hl').mono fun p => ⟨⟨0, by omega, 0, 0, z + 1, p.1, p.2.1, p.2.2.1, p.2.2.2⟩, rfl, rfl, rfl⟩

end
end Mine
namespace Mine
open PySem PySem.Spec PySem.Calls PyProof.Rows PySem.W PySem.W.X
def isI {prog : Program} {w : World} {kt : KT} {α₀ : Type} (n : Nat) (e e' : Int) (h : e = e') (r : Hs prog w kt α₀) : Hs prog w kt α₀ :=
  .val n Tok tokV (fun t => .int e t) (fun t => .int e' t) (fun t => by rw [h]) r
def b2u : Bool → UInt8
  | true => 1
  | false => 0
def bitA (l : List Bool) : Array UInt8 := (l.map b2u).toArray
theorem bitA_get (l : List Bool) (i : Nat) : (bitA l)[i]? = (l[i]?).map b2u := by simp [bitA]
theorem bitA_size (l : List Bool) : (bitA l).size = l.length := by simp [bitA]
def b2n : Nat → List Bool → Nat
  | n, [] => n
  | n, b :: r => b2n (2 * n + b.toNat) r
def forT : Stmt → Expr
  | .For t _ _ _ _ => t
  | _ => default
def forB : Stmt → List Stmt
  | .For _ _ b _ _ => b
  | _ => []
def forE : Stmt → List Stmt
  | .For _ _ _ e _ => e
  | _ => []
def stAt (l : List Stmt) (i : Nat) : Stmt := match l[i]? with
  | some s => s
  | none => .Pass default
abbrev ent (P : Params) (x : String) (k : Tok) (v : Value) : DictEntry := ⟨PyData.keyHash P (S x), .str (S x) k, v⟩
abbrev frmO (l : List DictEntry) (n : Nat) : Obj := ⟨.type "frame", none, .dict l.toArray n, #[]⟩
def envF (f fn cd : Addr) (sc : Scope) (q : String) : Env := { scope := sc, locals := f, globals := 3, cells := [], qual := S q, func := some fn, code := .ref cd, frame := some f, builtins := 0 }
def lpB : Stmt := stAt (fBody (topSt 4)) 3
abbrev lpBc (f it : Addr) : Code := .forLoop (forT lpB) (.ref it) (forB lpB) (forE lpB) (envF f 38 37 (fScope (topSt 4)) "bin_to_int.<locals>.")
structure Ks where
  k1 : Tok
  k2 : Tok
  k3 : Tok
  k4 : Tok
abbrev fr4 (P : Params) (k : Ks) (B : Array UInt8) (tb : Tok) (sg : Bool) (n : Nat) (tn : Tok) (bi : Int) (ti : Tok) : Obj :=
  frmO [ent P "bits" k.k1 (.bytes B tb), ent P "signed" k.k2 (.bool sg), ent P "number" k.k3 (.int n tn), ent P "bias" k.k4 (.int bi ti)] 4
abbrev fr5 (P : Params) (k : Ks) (B : Array UInt8) (tb : Tok) (sg : Bool) (n : Nat) (tn : Tok) (bi : Int) (ti : Tok) (kb : Tok) (vb : Value) : Obj :=
  frmO [ent P "bits" k.k1 (.bytes B tb), ent P "signed" k.k2 (.bool sg), ent P "number" k.k3 (.int n tn), ent P "bias" k.k4 (.int bi ti), ent P "b" kb vb] 5
section
variable {α₀ : Type} {w : World} {b1 b2 : Bool} {gl : List GenState}
def cBnext {prog : Program} {w : World} {kt : KT} (n i : Nat) (B : Array UInt8) (j : Nat) (c : UInt8) (hx : B[j]? = some c) (r : Hs prog w kt α₀) : Hs prog w kt α₀ :=
  .cut n 900 9000 [i] (Addr × Tok) (fun _ l => match l with
    | [some (a, o)] => (a, tokV (fldO o 0))
    | _ => (0, 0)) (fun y => .builtin "bytes_iterator.__next__" ⟨[.ref y.1], []⟩) (fun y => [(y.1, bitO B y.2 j)]) gl gl Tok
    (fun _ t => .ok (.ret (.int (c.toNat : Int) t))) (fun y _ => [bitO B y.2 (j + 1)]) (fun _ _ => []) (fun y => bnextC y.1 B y.2 j c hx) (fun _ _ _ _ => r)
def cBend {prog : Program} {w : World} {kt : KT} (n i : Nat) (B : Array UInt8) (j : Nat) (hx : B[j]? = none) (r : Hs prog w kt α₀) : Hs prog w kt α₀ :=
  .cut n 900 9000 [i] (Addr × Tok) (fun _ l => match l with
    | [some (a, o)] => (a, tokV (fldO o 0))
    | _ => (0, 0)) (fun y => .builtin "bytes_iterator.__next__" ⟨[.ref y.1], []⟩) (fun y => [(y.1, bitO B y.2 j)]) gl gl (Addr × Addr)
    (fun _ x => .error (.ref x.1)) (fun _ _ => [bitE j]) (fun _ x => [(x.1, stopO x.2), (x.2, tup0)]) (fun y => bendC y.1 B y.2 j hx) (fun _ _ _ _ => r)
def cBit0 (n : Nat) (r : Hs prog (wr w b1 b2) (kt w.params) α₀) : Hs prog (wr w b1 b2) (kt w.params) α₀ :=
  .cut n 900 9000 [] Tok (fun c _ => tokV (argA c 1)) (fun y => .builtin "dict.__getitem__" ⟨[.ref 30, .int 0 y], []⟩) (fun _ => []) gl gl Unit (fun _ _ => .ok (.ret (.int 0 208))) (fun _ _ => []) (fun _ _ => []) (fun y => bit0C y) (fun _ _ _ _ => r)
def cBit1 (n : Nat) (r : Hs prog (wr w b1 b2) (kt w.params) α₀) : Hs prog (wr w b1 b2) (kt w.params) α₀ :=
  .cut n 900 9000 [] Tok (fun c _ => tokV (argA c 1)) (fun y => .builtin "dict.__getitem__" ⟨[.ref 30, .int 1 y], []⟩) (fun _ => []) gl gl Unit (fun _ _ => .ok (.ret (.int 1 210))) (fun _ _ => []) (fun _ _ => []) (fun y => bit1C y) (fun _ _ _ _ => r)
theorem or0 (n : Nat) : Builtin.bitOr ((2 * n : Nat) : Int) 0 = ((2 * n + 0 : Nat) : Int) := by
  have h : ¬ (0 : Int) ≤ -((2 * n : Nat) : Int) - 1 := by omega
  unfold Builtin.bitOr Builtin.bitAnd Builtin.bitNot
  rw [decide_eq_false h, show decide ((0 : Int) ≤ -0 - 1) = false from rfl]
  simp only []
  have e : (-(-((2 * n : Nat) : Int) - 1) - 1).toNat = 2 * n := by omega
  rw [e]
  show -(-(((2 * n ||| 0 : Nat) : Int)) - 1) - 1 = _
  rw [Nat.or_zero]; omega
theorem or1 (n : Nat) : Builtin.bitOr ((2 * n : Nat) : Int) 1 = ((2 * n + 1 : Nat) : Int) := by
  have h : ¬ (0 : Int) ≤ -((2 * n : Nat) : Int) - 1 := by omega
  unfold Builtin.bitOr Builtin.bitAnd Builtin.bitNot
  rw [decide_eq_false h, show decide ((0 : Int) ≤ -1 - 1) = false from rfl]
  simp only []
  have e : (-(-((2 * n : Nat) : Int) - 1) - 1).toNat = 2 * n := by omega
  rw [e]
  show -(-(((2 * n ||| 1 : Nat) : Int)) - 1) - 1 = _
  have : 2 * n ||| 1 = 2 * n + 1 := by
    have := Nat.two_pow_add_eq_or_of_lt (i := 1) (b := 1) (by decide) n
    simp at this
    omega
  rw [this]; omega
theorem lshz (n : Nat) : ((2 * n : Nat) : Int) = (n : Int) * 2 ^ 1 := by rw [show (2 : Int) ^ 1 = 2 from rfl]; omega
abbrev LpC (w : World) (b1 b2 : Bool) (gl : List GenState) (f it : Addr) (fo : Obj) (k : Ks) (l : List Bool) (tb : Tok) (sg : Bool) (bi : Int) (ti : Tok) (i : Nat) (N : Nat) : Prop :=
  Ctr prog (wr w b1 b2) (kt w.params) 860 (lev 860) (lpBc f it) [(f, fo), (it, bitO (bitA l) tb i)] gl gl (α := Tok × Tok × Value) (fun _ => .ok .next)
    (fun x => [fr5 w.params k (bitA l) tb sg N x.1 bi ti x.2.1 x.2.2, bitE l.length]) (fun _ => [])
abbrev LpS (w : World) (b1 b2 : Bool) (gl : List GenState) (f it : Addr) (k : Ks) (l : List Bool) (tb : Tok) (sg : Bool) (bi : Int) (ti : Tok) (i : Nat) (n N : Nat) : Prop :=
  ∀ (tn kb : Tok) (vb : Value), LpC w b1 b2 gl f it (fr5 w.params k (bitA l) tb sg n tn bi ti kb vb) k l tb sg bi ti i N
def cLp (n : Nat) (is : List Nat) (f it : Addr) (k : Ks) (l : List Bool) (tb : Tok) (sg : Bool) (bi : Int) (ti : Tok) (i m N : Nat) (h : LpS w b1 b2 gl f it k l tb sg bi ti i m N) (r : Hs prog (wr w b1 b2) (kt w.params) α₀) : Hs prog (wr w b1 b2) (kt w.params) α₀ :=
  .cut n 860 (lev 860) is (Tok × Tok × Value) (fun _ L => match L with
    | [some (_, o), _] => (tokV (entO o 2).2, tokV (entO o 4).1, (entO o 4).2)
    | _ => (0, 0, .none)) (fun _ => lpBc f it) (fun y => [(f, fr5 w.params k (bitA l) tb sg m y.1 bi ti y.2.1 y.2.2), (it, bitO (bitA l) tb i)]) gl gl (Tok × Tok × Value)
    (fun _ _ => .ok .next) (fun _ x => [fr5 w.params k (bitA l) tb sg N x.1 bi ti x.2.1 x.2.2, bitE l.length]) (fun _ _ => []) (fun y => h y.1 y.2.1 y.2.2) (fun _ _ _ _ => r)

theorem lp5_true (w : World) (b1 b2 : Bool) (gl : List GenState) (f it : Addr) (k : Ks) (l : List Bool) (tb : Tok) (sg : Bool) (bi : Int) (ti : Tok) (i n : Nat) (N : Nat) (tn kb : Tok) (vb : Value) (hx : (bitA l)[i]? = some 1) (hn : n < 2 ^ 1000) (IH : LpS w b1 b2 gl f it k l tb sg bi ti (i + 1) (2 * n + 1) N) :
    LpC w b1 b2 gl f it (fr5 w.params k (bitA l) tb sg n tn bi ti kb vb) k l tb sg bi ti i N := by
  cases b1 <;> (refine Ctr.of_go (NL w.params) (
    owns [(1, 1), (1, 1)] <|
    cBnext (gl := gl) 0 1 (bitA l) i 1 hx <|
    owns [(5, 0), (0, 0), (2, 0)] <|
    cutBin 3 gl "int.__lshift__" (n : Nat) ((1 : Nat) : Int) ((2 * n : Nat) : Int) (lshC hn (by decide) (lshz n)) <|
    owns [(5, 0), (0, 0), (2, 0), (3, 0)] <|
    cBit1 (gl := gl) 6 <|
    isI 5 _ ((2 * n + 1 : Nat) : Int) (or1 n) <|
    owns [(5, 0), (0, 0)] <|
    cLp (gl := gl) 1 [0, 1] f it k l tb sg bi ti (i + 1) (2 * n + 1) N IH <|
    .fin 0 (fun _ T => (tokV (entO (objAt T 0) 2).2, tokV (entO (objAt T 0) 4).1, (entO (objAt T 0) 4).2)) [0, 1] []) ?_
   <;> (intro h dep fr gd un R d os tok b; kernel_rfl))

theorem lp4_true (w : World) (b1 b2 : Bool) (gl : List GenState) (f it : Addr) (k : Ks) (l : List Bool) (tb : Tok) (sg : Bool) (bi : Int) (ti : Tok) (i n : Nat) (N : Nat) (tn kb : Tok) (vb : Value) (hx : (bitA l)[i]? = some 1) (hn : n < 2 ^ 1000) (IH : LpS w b1 b2 gl f it k l tb sg bi ti (i + 1) (2 * n + 1) N) :
    LpC w b1 b2 gl f it (fr4 w.params k (bitA l) tb sg n tn bi ti) k l tb sg bi ti i N := by
  cases b1 <;> (refine Ctr.of_go (NL w.params) (
    owns [(1, 1), (1, 1)] <|
    cBnext (gl := gl) 0 1 (bitA l) i 1 hx <|
    owns [(5, 0), (0, 0), (2, 0)] <|
    cutBin 3 gl "int.__lshift__" (n : Nat) ((1 : Nat) : Int) ((2 * n : Nat) : Int) (lshC hn (by decide) (lshz n)) <|
    owns [(5, 0), (0, 0), (2, 0), (3, 0)] <|
    cBit1 (gl := gl) 6 <|
    isI 5 _ ((2 * n + 1 : Nat) : Int) (or1 n) <|
    owns [(5, 0), (0, 0)] <|
    cLp (gl := gl) 1 [0, 1] f it k l tb sg bi ti (i + 1) (2 * n + 1) N IH <|
    .fin 0 (fun _ T => (tokV (entO (objAt T 0) 2).2, tokV (entO (objAt T 0) 4).1, (entO (objAt T 0) 4).2)) [0, 1] []) ?_
   <;> (intro h dep fr gd un R d os tok b; kernel_rfl))

theorem lp5_false (w : World) (b1 b2 : Bool) (gl : List GenState) (f it : Addr) (k : Ks) (l : List Bool) (tb : Tok) (sg : Bool) (bi : Int) (ti : Tok) (i n : Nat) (N : Nat) (tn kb : Tok) (vb : Value) (hx : (bitA l)[i]? = some 0) (hn : n < 2 ^ 1000) (IH : LpS w b1 b2 gl f it k l tb sg bi ti (i + 1) (2 * n + 0) N) :
    LpC w b1 b2 gl f it (fr5 w.params k (bitA l) tb sg n tn bi ti kb vb) k l tb sg bi ti i N := by
  cases b1 <;> (refine Ctr.of_go (NL w.params) (
    owns [(1, 1), (1, 1)] <|
    cBnext (gl := gl) 0 1 (bitA l) i 0 hx <|
    owns [(5, 0), (0, 0), (2, 0)] <|
    cutBin 3 gl "int.__lshift__" (n : Nat) ((1 : Nat) : Int) ((2 * n : Nat) : Int) (lshC hn (by decide) (lshz n)) <|
    owns [(5, 0), (0, 0), (2, 0), (3, 0)] <|
    cBit0 (gl := gl) 6 <|
    isI 5 _ ((2 * n + 0 : Nat) : Int) (or0 n) <|
    owns [(5, 0), (0, 0)] <|
    cLp (gl := gl) 1 [0, 1] f it k l tb sg bi ti (i + 1) (2 * n + 0) N IH <|
    .fin 0 (fun _ T => (tokV (entO (objAt T 0) 2).2, tokV (entO (objAt T 0) 4).1, (entO (objAt T 0) 4).2)) [0, 1] []) ?_
   <;> (intro h dep fr gd un R d os tok b; kernel_rfl))

theorem lp4_false (w : World) (b1 b2 : Bool) (gl : List GenState) (f it : Addr) (k : Ks) (l : List Bool) (tb : Tok) (sg : Bool) (bi : Int) (ti : Tok) (i n : Nat) (N : Nat) (tn kb : Tok) (vb : Value) (hx : (bitA l)[i]? = some 0) (hn : n < 2 ^ 1000) (IH : LpS w b1 b2 gl f it k l tb sg bi ti (i + 1) (2 * n + 0) N) :
    LpC w b1 b2 gl f it (fr4 w.params k (bitA l) tb sg n tn bi ti) k l tb sg bi ti i N := by
  cases b1 <;> (refine Ctr.of_go (NL w.params) (
    owns [(1, 1), (1, 1)] <|
    cBnext (gl := gl) 0 1 (bitA l) i 0 hx <|
    owns [(5, 0), (0, 0), (2, 0)] <|
    cutBin 3 gl "int.__lshift__" (n : Nat) ((1 : Nat) : Int) ((2 * n : Nat) : Int) (lshC hn (by decide) (lshz n)) <|
    owns [(5, 0), (0, 0), (2, 0), (3, 0)] <|
    cBit0 (gl := gl) 6 <|
    isI 5 _ ((2 * n + 0 : Nat) : Int) (or0 n) <|
    owns [(5, 0), (0, 0)] <|
    cLp (gl := gl) 1 [0, 1] f it k l tb sg bi ti (i + 1) (2 * n + 0) N IH <|
    .fin 0 (fun _ T => (tokV (entO (objAt T 0) 2).2, tokV (entO (objAt T 0) 4).1, (entO (objAt T 0) 4).2)) [0, 1] []) ?_
   <;> (intro h dep fr gd un R d os tok b; kernel_rfl))

theorem lp5_end (w : World) (b1 b2 : Bool) (gl : List GenState) (f it : Addr) (k : Ks) (l : List Bool) (tb : Tok) (sg : Bool) (bi : Int) (ti : Tok) (n : Nat) (tn kb : Tok) (vb : Value) (hx : (bitA l)[l.length]? = none) :
    LpC w b1 b2 gl f it (fr5 w.params k (bitA l) tb sg n tn bi ti kb vb) k l tb sg bi ti l.length n := by
  cases b1 <;> (refine Ctr.of_go (NL w.params) (
    owns [(1, 1), (1, 1)] <|
    cBend (gl := gl) 0 1 (bitA l) l.length hx <|
    owns [(1, 0)] <|
    .fin 1 (fun _ T => (tokV (entO (objAt T 2) 2).2, tokV (entO (objAt T 2) 4).1, (entO (objAt T 2) 4).2)) [2, 3] []) ?_
   <;> (intro h dep fr gd un R d os tok b; kernel_rfl))

theorem b2n_lt : ∀ (r : List Bool) (n i : Nat), n < 2 ^ i → b2n n r < 2 ^ (i + r.length)
  | [], n, i, h => h
  | b :: r, n, i, h => by
    have : 2 * n + b.toNat < 2 ^ (i + 1) := by
      rw [Nat.pow_succ]
      cases b <;> simp <;> omega
    have := b2n_lt r _ _ this
    rw [show i + 1 + r.length = i + (b :: r).length by simp; omega] at this
    exact this
theorem lp5C (w : World) (b1 b2 : Bool) (gl : List GenState) (f it : Addr) (k : Ks) (l : List Bool) (tb : Tok) (sg : Bool) (bi : Int) (ti : Tok) (hl : l.length ≤ 900) :
    ∀ (r : List Bool) (i n : Nat), l.drop i = r → i ≤ l.length → n < 2 ^ i → LpS w b1 b2 gl f it k l tb sg bi ti i n (b2n n r)
  | [], i, n, hr, hi, hn => fun tn kb vb => by
    have hi' : i = l.length := by
      have := List.drop_eq_nil_iff.mp hr
      omega
    subst hi'
    exact lp5_end w b1 b2 gl f it k l tb sg bi ti n tn kb vb (by rw [bitA_get]; simp)
  | b :: r, i, n, hr, hi, hn => fun tn kb vb => by
    have hlt : i < l.length := by
      rcases Nat.lt_or_ge i l.length with h | h
      · exact h
      · rw [List.drop_eq_nil_of_le h] at hr; cases hr
    have hb : l[i]? = some b := by
      have : (l.drop i)[0]? = some b := by rw [hr]; rfl
      simpa using this
    have hr' : l.drop (i + 1) = r := by
      have : (l.drop i).drop 1 = r := by rw [hr]; rfl
      rwa [List.drop_drop] at this
    have hn' : n < 2 ^ 1000 := Nat.lt_of_lt_of_le hn (Nat.pow_le_pow_right (by decide) (by omega))
    have hn2 : 2 * n + b.toNat < 2 ^ (i + 1) := by
      rw [Nat.pow_succ]
      cases b <;> simp <;> omega
    have IH := lp5C w b1 b2 gl f it k l tb sg bi ti hl r (i + 1) (2 * n + b.toNat) hr' hlt hn2
    cases b with
    | true => exact lp5_true w b1 b2 gl f it k l tb sg bi ti i n _ tn kb vb (by rw [bitA_get, hb]; rfl) hn' IH
    | false => exact lp5_false w b1 b2 gl f it k l tb sg bi ti i n _ tn kb vb (by rw [bitA_get, hb]; rfl) hn' IH

end
end Mine
namespace Mine
open PySem PySem.Spec PySem.Calls PyProof.Rows PySem.W PySem.W.X
section
variable {α₀ : Type} {w : World} {b1 b2 : Bool} {gl : List GenState}
def cByGet {prog : Program} {w : World} {kt : KT} (n : Nat) (B : Array UInt8) (j : Nat) (c : UInt8) (hx : B[j]? = some c) (hj : j < 1099511627776) (r : Hs prog w kt α₀) : Hs prog w kt α₀ :=
  .cut n 900 9000 [] (Tok × Tok) (fun c _ => (tokV (argA c 0), tokV (argA c 1))) (fun y => .builtin "bytes.__getitem__" ⟨[.bytes B y.1, .int j y.2], []⟩) (fun _ => []) gl gl Nat
    (fun _ t => .ok (.ret (.int (c.toNat : Int) t))) (fun _ _ => []) (fun _ _ => []) (fun y => byGetC B j y.1 y.2 c hx hj) (fun _ _ _ _ => r)
def cBySliN {prog : Program} {w : World} {kt : KT} (n i : Nat) (B Z : Array UInt8) (p : Int) (hZ : KBy.picked B (some p) none = Z) (hz : Z.size ≤ sizeLine) (r : Hs prog w kt α₀) : Hs prog w kt α₀ :=
  .cut n 900 9000 [i] (Addr × Tok × Tok) (fun c l => match l with
    | [some (a, o)] => (a, tokV (argA c 0), tokV (fldO o 0))
    | _ => (0, 0, 0)) (fun y => .builtin "bytes.__getitem__" ⟨[.bytes B y.2.1, .ref y.1], []⟩) (fun y => [(y.1, slO (.int p y.2.2) .none)]) gl gl Tok
    (fun _ t => .ok (.ret (.bytes Z t))) (fun y _ => [slO (.int p y.2.2) .none]) (fun _ _ => []) (fun y => bySliceC y.1 B Z y.2.1 (.int p y.2.2) .none hZ hz) (fun _ _ _ _ => r)
theorem bitA_tail (b : Bool) (r : List Bool) : KBy.picked (bitA (b :: r)) (some 1) none = bitA r := by
  rw [KBc.picked_eq]
  have e : clipAt (bitA (b :: r)).size 1 = 1 := by
    rw [show (1 : Int) = ((1 : Nat) : Int) from rfl, clipAt_nat, bitA_size]
    simp
  simp only [Option.elim, e]
  unfold bitA
  simp
  rw [List.take_of_length_le]
  simp
/-- the loop from its start: the octets are a bit and a rest -/
theorem lp4C (w : World) (b1 b2 : Bool) (gl : List GenState) (f it : Addr) (k : Ks) (b : Bool) (r : List Bool) (tb : Tok) (sg : Bool) (bi : Int) (ti tn : Tok) (hl : (b :: r).length ≤ 900) :
    LpC w b1 b2 gl f it (fr4 w.params k (bitA (b :: r)) tb sg 0 tn bi ti) k (b :: r) tb sg bi ti 0 (b2n 0 (b :: r)) := by
  have hx : (bitA (b :: r))[0]? = some (b2u b) := by rw [bitA_get]; rfl
  have IH := lp5C w b1 b2 gl f it k (b :: r) tb sg bi ti hl r 1 (2 * 0 + b.toNat) rfl (by simp) (by cases b <;> decide)
  cases b with
  | true => exact lp4_true w b1 b2 gl f it k _ tb sg bi ti 0 0 _ tn tn .none hx (by decide) IH
  | false => exact lp4_false w b1 b2 gl f it k _ tb sg bi ti 0 0 _ tn tn .none hx (by decide) IH
def cLp4 (n : Nat) (is : List Nat) (b : Bool) (r : List Bool) (sg : Bool) (bi : Int) (hl : (b :: r).length ≤ 900) (rr : Hs prog (wr w b1 b2) (kt w.params) α₀) : Hs prog (wr w b1 b2) (kt w.params) α₀ :=
  .cut n 860 (lev 860) is (Addr × Addr × Ks × Tok × Tok × Tok) (fun _ L => match L with
    | [some (f, o), some (it, _)] => (f, it, ⟨tokV (entO o 0).1, tokV (entO o 1).1, tokV (entO o 2).1, tokV (entO o 3).1⟩, tokV (entO o 0).2, tokV (entO o 2).2, tokV (entO o 3).2)
    | _ => (0, 0, ⟨0, 0, 0, 0⟩, 0, 0, 0)) (fun y => lpBc y.1 y.2.1) (fun y => [(y.1, fr4 w.params y.2.2.1 (bitA (b :: r)) y.2.2.2.1 sg 0 y.2.2.2.2.1 bi y.2.2.2.2.2), (y.2.1, bitO (bitA (b :: r)) y.2.2.2.1 0)]) gl gl (Tok × Tok × Value)
    (fun _ _ => .ok .next) (fun y x => [fr5 w.params y.2.2.1 (bitA (b :: r)) y.2.2.2.1 sg (b2n 0 (b :: r)) x.1 bi y.2.2.2.2.2 x.2.1 x.2.2, bitE (b :: r).length]) (fun _ _ => [])
    (fun y => lp4C w b1 b2 gl y.1 y.2.1 y.2.2.1 b r y.2.2.2.1 sg bi y.2.2.2.2.2 y.2.2.2.2.1 hl) (fun _ _ _ _ => rr)

theorem lp4_end (w : World) (b1 b2 : Bool) (gl : List GenState) (f it : Addr) (k : Ks) (tb : Tok) (sg : Bool) (bi : Int) (ti : Tok) (n : Nat) (tn : Tok) :
    Ctr prog (wr w b1 b2) (kt w.params) 860 (lev 860) (lpBc f it) [(f, fr4 w.params k (bitA []) tb sg n tn bi ti), (it, bitO (bitA []) tb 0)] gl gl (α := Unit) (fun _ => .ok .next)
    (fun _ => [fr4 w.params k (bitA []) tb sg n tn bi ti, bitE 0]) (fun _ => []) := by
  cases b1 <;> (refine Ctr.of_go (NL w.params) (
    owns [(1, 1), (1, 1)] <|
    cBend (gl := gl) 0 1 (bitA []) 0 rfl <|
    owns [(1, 0)] <|
    .fin 1 (fun _ _ => ()) [2, 3] []) ?_
   <;> (intro h dep fr gd un R d os tok b; kernel_rfl))

def cLp4e (n : Nat) (is : List Nat) (sg : Bool) (bi : Int) (m : Nat) (rr : Hs prog (wr w b1 b2) (kt w.params) α₀) : Hs prog (wr w b1 b2) (kt w.params) α₀ :=
  .cut n 860 (lev 860) is (Addr × Addr × Ks × Tok × Tok × Tok) (fun _ L => match L with
    | [some (f, o), some (it, _)] => (f, it, ⟨tokV (entO o 0).1, tokV (entO o 1).1, tokV (entO o 2).1, tokV (entO o 3).1⟩, tokV (entO o 0).2, tokV (entO o 2).2, tokV (entO o 3).2)
    | _ => (0, 0, ⟨0, 0, 0, 0⟩, 0, 0, 0)) (fun y => lpBc y.1 y.2.1) (fun y => [(y.1, fr4 w.params y.2.2.1 (bitA []) y.2.2.2.1 sg m y.2.2.2.2.1 bi y.2.2.2.2.2), (y.2.1, bitO (bitA []) y.2.2.2.1 0)]) gl gl Unit
    (fun _ _ => .ok .next) (fun y x => [fr4 w.params y.2.2.1 (bitA []) y.2.2.2.1 sg m y.2.2.2.2.1 bi y.2.2.2.2.2, bitE 0]) (fun _ _ => [])
    (fun y => lp4_end w b1 b2 gl y.1 y.2.1 y.2.2.1 y.2.2.2.1 sg bi y.2.2.2.2.2 m y.2.2.2.2.1) (fun _ _ _ _ => rr)
/-- what bin_to_int gives -/
def dec : Bool → List Bool → Int
  | true, true :: r => (b2n 0 r : Int) - (2 ^ r.length : Nat)
  | _, l => (b2n 0 l : Int)
abbrev BiC (w : World) (b1 b2 : Bool) (gl : List GenState) (l : List Bool) (tb : Tok) (sg : Bool) (z : Int) : Prop :=
  Ctr prog (wr w b1 b2) (kt w.params) 820 (lev 820) (.call (.ref 38) ⟨[.bytes (bitA l) tb], [(S "signed", .bool sg)]⟩) [] gl gl (α := Tok) (fun t => .ok (.ret (.int z t))) (fun _ => []) (fun _ => [])
theorem sub0 (n : Nat) : (n : Int) - 0 = n := by omega
theorem lsh1 (n : Nat) : ((2 ^ n : Nat) : Int) = ((1 : Nat) : Int) * 2 ^ n := by rw [Int.natCast_pow]; simp
theorem bitA_fits {l : List Bool} (hl : l.length ≤ 900) : (bitA l).size ≤ sizeLine := by rw [bitA_size, sizeLine_eq]; omega
theorem bitA_len {l : List Bool} (hl : l.length ≤ 900) : (bitA l).size ≤ 1099511627776 := by rw [bitA_size]; omega
theorem bitA_szc (l : List Bool) : ((bitA l).size : Int) = ((l.length : Nat) : Int) := by rw [bitA_size]

theorem bi_A (w : World) (b1 b2 : Bool) (gl : List GenState) (b : Bool) (r : List Bool) (tb : Tok) (hl : (b :: r).length ≤ 900) :
    BiC w b1 b2 gl (b :: r) tb false (b2n 0 (b :: r) : Nat) := by
  cases b1 <;> (refine Ctr.of_go (NL w.params) (
    owns [(6, 0), (0, 0), (2, 0), (0, 0)] <|
    .stk 0 .enter 1 <|
    owns [(8, 0), (0, 0), (7, 0), (0, 0), (3, 0), (3, 0), (6, 0)] <|
    cLp4 (gl := gl) 0 [1, 0] b r false 0 hl <|
    owns [(2, 1), (1, 1)] <|
    isI 4 _ _ (sub0 (b2n 0 (b :: r))) <|
    .fin 1 (fun r _ => tokV (valOf r)) [] []) ?_
   <;> (intro h dep fr gd un R d os tok b; kernel_rfl))

theorem bi_B (w : World) (b1 b2 : Bool) (gl : List GenState) (r : List Bool) (tb : Tok) (hl : (false :: r).length ≤ 900) :
    BiC w b1 b2 gl (false :: r) tb true (b2n 0 (false :: r) : Nat) := by
  cases b1 <;> (refine Ctr.of_go (NL w.params) (
    owns [(6, 0), (0, 0), (2, 0), (0, 0)] <|
    .stk 0 .enter 1 <|
    owns [(8, 0), (0, 0), (7, 0), (0, 0), (3, 0), (4, 0)] <|
    cByGet (gl := gl) 3 (bitA (false :: r)) 0 0 (by rw [bitA_get]; rfl) (by decide) <|
    cBit0 (gl := gl) 7 <|
    owns [(9, 0), (6, 0)] <|
    cLp4 (gl := gl) 0 [1, 0] false r true 0 hl <|
    owns [(2, 1), (1, 1)] <|
    isI 4 _ _ (sub0 (b2n 0 (false :: r))) <|
    .fin 1 (fun r _ => tokV (valOf r)) [] []) ?_
   <;> (intro h dep fr gd un R d os tok b; kernel_rfl))

theorem bi_C (w : World) (b1 b2 : Bool) (gl : List GenState) (c : Bool) (r : List Bool) (tb : Tok) (hl : (true :: c :: r).length ≤ 900) :
    BiC w b1 b2 gl (true :: c :: r) tb true ((b2n 0 (c :: r) : Nat) - (2 ^ (c :: r).length : Nat)) := by
  cases b1 <;> (refine Ctr.of_go (NL w.params) (
    owns [(6, 0), (0, 0), (2, 0), (0, 0)] <|
    .stk 0 .enter 1 <|
    owns [(8, 0), (0, 0), (7, 0), (0, 0), (3, 0), (4, 0)] <|
    cByGet (gl := gl) 3 (bitA (true :: c :: r)) 0 1 (by rw [bitA_get]; rfl) (by decide) <|
    cBit1 (gl := gl) 7 <|
    owns [(9, 0)] <|
    cBySliN (gl := gl) 4 0 (bitA (true :: c :: r)) (bitA (c :: r)) 1 (bitA_tail _ _) (bitA_fits (by simp at hl ⊢; omega)) <|
    owns [(5, 1), (0, 1), (7, 1)] <|
    cLenBy (gl := gl) 2 (bitA (c :: r)) (bitA_len (by simp at hl ⊢; omega)) <|
    cutBin 4 gl "int.__lshift__" ((1 : Nat) : Int) ((bitA (c :: r)).size : Int) ((2 ^ (c :: r).length : Nat) : Int) (lshC (by decide) (by rw [bitA_size]; simp at hl ⊢; omega) (by rw [bitA_size]; exact lsh1 _)) <|
    owns [(5, 1), (0, 1), (3, 1), (6, 0)] <|
    cLp4 (gl := gl) 0 [2, 0] c r true ((2 ^ (c :: r).length : Nat) : Int) (by simp at hl ⊢; omega) <|
    owns [(2, 2), (1, 2)] <|
    .fin 5 (fun r _ => tokV (valOf r)) [] []) ?_
   <;> (intro h dep fr gd un R d os tok b; kernel_rfl))

theorem bi_D (w : World) (b1 b2 : Bool) (gl : List GenState) (tb : Tok) :
    BiC w b1 b2 gl [true] tb true (-1) := by
  cases b1 <;> (refine Ctr.of_go (NL w.params) (
    owns [(6, 0), (0, 0), (2, 0), (0, 0)] <|
    .stk 0 .enter 1 <|
    owns [(8, 0), (0, 0), (7, 0), (0, 0), (3, 0), (4, 0)] <|
    cByGet (gl := gl) 3 (bitA [true]) 0 1 (by rw [bitA_get]; rfl) (by decide) <|
    cBit1 (gl := gl) 7 <|
    owns [(9, 0)] <|
    cBySliN (gl := gl) 4 0 (bitA [true]) (bitA []) 1 (bitA_tail _ _) (bitA_fits (by decide)) <|
    owns [(5, 1), (0, 1), (7, 1)] <|
    cLenBy (gl := gl) 2 (bitA []) (bitA_len (by decide)) <|
    cutBin 4 gl "int.__lshift__" ((1 : Nat) : Int) ((bitA []).size : Int) 1 (lshC (by decide) (by decide) (by decide)) <|
    owns [(5, 1), (0, 1), (3, 1), (6, 0)] <|
    cLp4e (gl := gl) 0 [2, 0] true 1 0 <|
    owns [(2, 2), (1, 2)] <|
    .fin 5 (fun r _ => tokV (valOf r)) [] []) ?_
   <;> (intro h dep fr gd un R d os tok b; kernel_rfl))

theorem biC (w : World) (b1 b2 : Bool) (gl : List GenState) (l : List Bool) (tb : Tok) (sg : Bool) (h1 : 1 ≤ l.length) (hl : l.length ≤ 900) : BiC w b1 b2 gl l tb sg (dec sg l) := by
  match sg, l, h1, hl with
  | false, b :: r, _, hl => exact bi_A w b1 b2 gl b r tb hl
  | true, false :: r, _, hl => exact bi_B w b1 b2 gl r tb hl
  | true, true :: c :: r, _, hl => exact bi_C w b1 b2 gl c r tb hl
  | true, [true], _, hl => exact bi_D w b1 b2 gl tb
end
end Mine
namespace Mine
open PySem PySem.Spec PySem.Calls PyProof.Rows PySem.W PySem.W.X
section
variable {α₀ : Type} {w : World} {b1 b2 : Bool} {gl : List GenState}
abbrev SwC (w : World) (b1 b2 : Bool) (gl : List GenState) (l l' : List Bool) (tb : Tok) : Prop :=
  Ctr prog (wr w b1 b2) (kt w.params) 820 (lev 820) (.call (.ref 46) ⟨[.bytes (bitA l) tb], [(S "bytesize", .int 8 1662)]⟩) [] gl gl (α := Tok) (fun t => .ok (.ret (.bytes (bitA l') t))) (fun _ => []) (fun _ => [])

theorem sw8 (w : World) (b1 b2 : Bool) (gl : List GenState) (x0 x1 x2 x3 x4 x5 x6 x7 : Bool) (tb : Tok) :
    SwC w b1 b2 gl [x0, x1, x2, x3, x4, x5, x6, x7] [x0, x1, x2, x3, x4, x5, x6, x7] tb := by
  cases b1 <;> (refine Ctr.of_go (NL w.params) (
    owns [(6, 0), (0, 0), (2, 0), (0, 0)] <|
    .stk 0 .enter 1 <|
    owns [(8, 0), (0, 0), (6, 0), (15, 0), (0, 0), (6, 1), (1, 1), (12, 0), (2, 0), (2, 0), (2, 0), (1, 0), (6, 2), (0, 2), (6, 2), (3, 0), (1, 0), (1, 0), (16, 2), (0, 2), (4, 2), (1, 2), (7, 2), (1, 2), (1, 2), (1, 2), (9, 0), (0, 0), (0, 0), (0, 0), (0, 0), (3, 3), (1, 3), (1, 1), (0, 1), (1, 1), (1, 1), (0, 1), (0, 1), (2, 3), (1, 3), (9, 3), (0, 3), (2, 3), (10, 3), (0, 3), (3, 3), (1, 3), (11, 3), (3, 1), (0, 1), (0, 1), (0, 1), (0, 1), (0, 1)] <|
    .fin 6 (fun r _ => tokV (valOf r)) [] []) ?_
   <;> (intro h dep fr gd un R d os tok b; kernel_rfl))

theorem sw16 (w : World) (b1 b2 : Bool) (gl : List GenState) (x0 x1 x2 x3 x4 x5 x6 x7 x8 x9 x10 x11 x12 x13 x14 x15 : Bool) (tb : Tok) :
    SwC w b1 b2 gl [x0, x1, x2, x3, x4, x5, x6, x7, x8, x9, x10, x11, x12, x13, x14, x15] [x8, x9, x10, x11, x12, x13, x14, x15, x0, x1, x2, x3, x4, x5, x6, x7] tb := by
  cases b1 <;> (refine Ctr.of_go (NL w.params) (
    owns [(6, 0), (0, 0), (2, 0), (0, 0)] <|
    .stk 0 .enter 1 <|
    owns [(8, 0), (0, 0), (6, 0), (15, 0), (0, 0), (6, 1), (1, 1), (12, 0), (2, 0), (2, 0), (2, 0), (1, 0), (6, 2), (0, 2), (6, 2), (3, 0), (1, 0), (1, 0), (16, 2), (0, 2), (4, 2), (1, 2), (7, 2), (1, 2), (1, 2), (1, 2), (9, 0), (0, 0), (0, 0), (0, 0), (0, 0), (3, 3), (1, 3), (1, 1), (0, 1), (1, 1), (1, 1), (0, 1), (0, 1), (2, 3), (1, 3), (9, 3), (0, 3), (2, 3), (10, 3), (0, 3), (3, 3), (1, 3), (7, 3), (1, 3), (1, 3), (1, 3), (9, 0), (0, 0), (0, 0), (0, 0), (0, 0), (3, 4), (1, 4), (1, 2), (0, 2), (1, 2), (1, 2), (0, 2), (0, 2), (2, 4), (1, 4), (9, 4), (0, 4), (2, 4), (10, 4), (0, 4), (3, 4), (1, 4), (11, 4), (3, 2), (0, 2), (0, 2), (0, 2), (0, 2), (0, 2), (0, 2), (0, 2)] <|
    .fin 7 (fun r _ => tokV (valOf r)) [] []) ?_
   <;> (intro h dep fr gd un R d os tok b; kernel_rfl))

/-- what swap_bytes gives of eight or sixteen bits -/
def swp (l : List Bool) : List Bool := l.drop 8 ++ l.take 8
theorem swC (w : World) (b1 b2 : Bool) (gl : List GenState) (l : List Bool) (tb : Tok) (h : l.length = 8 ∨ l.length = 16) : SwC w b1 b2 gl l (swp l) tb := by
  rcases h with h | h
  · match l, h with
    | [x0, x1, x2, x3, x4, x5, x6, x7], _ => exact sw8 w b1 b2 gl x0 x1 x2 x3 x4 x5 x6 x7 tb
  · match l, h with
    | [x0, x1, x2, x3, x4, x5, x6, x7, x8, x9, x10, x11, x12, x13, x14, x15], _ => exact sw16 w b1 b2 gl x0 x1 x2 x3 x4 x5 x6 x7 x8 x9 x10 x11 x12 x13 x14 x15 tb
end
end Mine
namespace Mine
open PySem PySem.Spec PySem.Calls PyProof.Rows PySem.W PySem.W.X
def whT : Stmt → Expr
  | .While t _ _ _ => t
  | _ => default
def whB : Stmt → List Stmt
  | .While _ b _ _ => b
  | _ => []
def whE : Stmt → List Stmt
  | .While _ _ e _ => e
  | _ => []
def whS : Stmt := stAt (fBody (topSt 2)) 3
abbrev whC (f : Addr) : Code := .whileLoop (whT whS) (whB whS) (whE whS) (envF f 29 28 (fScope (topSt 2)) "int_to_bin.<locals>.")
abbrev frW (P : Params) (k : Ks) (vn vw vi : Value) (l : Addr) : Obj := frmO [ent P "number" k.k1 vn, ent P "width" k.k2 vw, ent P "i" k.k3 vi, ent P "bits" k.k4 (.ref l)] 4
/-- the last k digits of n, and as many zeroes -/
def zv : Nat → Nat → (Nat → Tok) → List Value
  | 0, _, _ => []
  | k + 1, n, x => zv k (n / 2) x ++ [.int ((n % 2 : Nat) : Int) (x k)]
def zo : Nat → (Nat → Tok) → List Value
  | 0, _ => []
  | k + 1, x => zo k x ++ [.int 0 (x k)]
def bb : Nat → Nat → List Bool
  | 0, _ => []
  | k + 1, n => bb k (n / 2) ++ [n % 2 == 1]
section
variable {α₀ : Type} {w : World} {b1 b2 : Bool} {gl : List GenState}
abbrev WhC (w : World) (b1 b2 : Bool) (gl : List GenState) (k : Nat) (f l : Addr) (ks : Ks) (vw : Value) (rest : List Value) (e : Nat) (x : Nat → Tok) (n : Nat) (tn ti : Tok) : Prop :=
  Ctr prog (wr w b1 b2) (kt w.params) 860 (lev 860) (whC f) [(f, frW w.params ks (.int n tn) vw (.int ((k : Int) - 1) ti) l), (l, lstO (zo k x ++ rest).toArray e)] gl gl (α := Value × Value × (Nat → Tok)) (fun _ => .ok .next)
    (fun y => [frW w.params ks y.1 vw y.2.1 l, lstO (zv k n y.2.2 ++ rest).toArray e]) (fun _ => [])
def cWh (j : Nat) (is : List Nat) (k : Nat) (f l : Addr) (ks : Ks) (vw : Value) (e : Nat) (x : Nat → Tok) (n : Nat) (m : Tok → List Value) (h : ∀ t tn ti, WhC w b1 b2 gl k f l ks vw (m t) e x n tn ti) (g : Obj → Tok) (r : Hs prog (wr w b1 b2) (kt w.params) α₀) : Hs prog (wr w b1 b2) (kt w.params) α₀ :=
  .cut j 860 (lev 860) is (Tok × Tok × Tok) (fun _ L => match L with
    | [some (_, o), some (_, q)] => (g q, tokV (entO o 0).2, tokV (entO o 2).2)
    | _ => (0, 0, 0)) (fun _ => whC f) (fun y => [(f, frW w.params ks (.int n y.2.1) vw (.int ((k : Int) - 1) y.2.2) l), (l, lstO (zo k x ++ m y.1).toArray e)]) gl gl (Value × Value × (Nat → Tok)) (fun _ _ => .ok .next)
    (fun y z => [frW w.params ks z.1 vw z.2.1 l, lstO (zv k n z.2.2 ++ m y.1).toArray e]) (fun _ _ => []) (fun y => h y.1 y.2.1 y.2.2) (fun _ _ _ _ => r)
theorem and1 (n : Nat) : Builtin.bitAnd ((n : Nat) : Int) 1 = ((n % 2 : Nat) : Int) := by rw [bitAnd_m1]; omega
theorem rsh1 (n : Nat) : ((n / 2 : Nat) : Int) = ((n / 2 ^ 1 : Nat) : Int) := rfl

theorem wz0 (w : World) (b1 b2 : Bool) (gl : List GenState) (f l : Addr) (ks : Ks) (vw : Value) (r0 r1 r2 r3 r4 r5 r6 r7 : Value) (e : Nat) (x : Nat → Tok) (tn ti : Tok) :
    WhC w b1 b2 gl 0 f l ks vw [r0, r1, r2, r3, r4, r5, r6, r7] e x 0 tn ti := by
  cases b1 <;> (refine Ctr.of_go (NL w.params) (
    owns [(1, 0)] <|
    .fin 4 (fun _ T => ((entO (objAt T 0) 0).2, (entO (objAt T 0) 2).2, fun j => tokV (fldO (objAt T 1) j))) [0, 1] []) ?_
   <;> (intro h dep fr gd un R d os tok b; kernel_rfl))

theorem wz1 (w : World) (b1 b2 : Bool) (gl : List GenState) (f l : Addr) (ks : Ks) (vw : Value) (r1 r2 r3 r4 r5 r6 r7 : Value) (e : Nat) (x : Nat → Tok) (tn ti : Tok) :
    WhC w b1 b2 gl 1 f l ks vw [r1, r2, r3, r4, r5, r6, r7] e x 0 tn ti := by
  cases b1 <;> (refine Ctr.of_go (NL w.params) (
    owns [(1, 0)] <|
    .fin 4 (fun _ T => ((entO (objAt T 0) 0).2, (entO (objAt T 0) 2).2, fun j => tokV (fldO (objAt T 1) j))) [0, 1] []) ?_
   <;> (intro h dep fr gd un R d os tok b; kernel_rfl))

theorem wz2 (w : World) (b1 b2 : Bool) (gl : List GenState) (f l : Addr) (ks : Ks) (vw : Value) (r2 r3 r4 r5 r6 r7 : Value) (e : Nat) (x : Nat → Tok) (tn ti : Tok) :
    WhC w b1 b2 gl 2 f l ks vw [r2, r3, r4, r5, r6, r7] e x 0 tn ti := by
  cases b1 <;> (refine Ctr.of_go (NL w.params) (
    owns [(1, 0)] <|
    .fin 4 (fun _ T => ((entO (objAt T 0) 0).2, (entO (objAt T 0) 2).2, fun j => tokV (fldO (objAt T 1) j))) [0, 1] []) ?_
   <;> (intro h dep fr gd un R d os tok b; kernel_rfl))

theorem wz3 (w : World) (b1 b2 : Bool) (gl : List GenState) (f l : Addr) (ks : Ks) (vw : Value) (r3 r4 r5 r6 r7 : Value) (e : Nat) (x : Nat → Tok) (tn ti : Tok) :
    WhC w b1 b2 gl 3 f l ks vw [r3, r4, r5, r6, r7] e x 0 tn ti := by
  cases b1 <;> (refine Ctr.of_go (NL w.params) (
    owns [(1, 0)] <|
    .fin 4 (fun _ T => ((entO (objAt T 0) 0).2, (entO (objAt T 0) 2).2, fun j => tokV (fldO (objAt T 1) j))) [0, 1] []) ?_
   <;> (intro h dep fr gd un R d os tok b; kernel_rfl))

theorem wz4 (w : World) (b1 b2 : Bool) (gl : List GenState) (f l : Addr) (ks : Ks) (vw : Value) (r4 r5 r6 r7 : Value) (e : Nat) (x : Nat → Tok) (tn ti : Tok) :
    WhC w b1 b2 gl 4 f l ks vw [r4, r5, r6, r7] e x 0 tn ti := by
  cases b1 <;> (refine Ctr.of_go (NL w.params) (
    owns [(1, 0)] <|
    .fin 4 (fun _ T => ((entO (objAt T 0) 0).2, (entO (objAt T 0) 2).2, fun j => tokV (fldO (objAt T 1) j))) [0, 1] []) ?_
   <;> (intro h dep fr gd un R d os tok b; kernel_rfl))

theorem wz5 (w : World) (b1 b2 : Bool) (gl : List GenState) (f l : Addr) (ks : Ks) (vw : Value) (r5 r6 r7 : Value) (e : Nat) (x : Nat → Tok) (tn ti : Tok) :
    WhC w b1 b2 gl 5 f l ks vw [r5, r6, r7] e x 0 tn ti := by
  cases b1 <;> (refine Ctr.of_go (NL w.params) (
    owns [(1, 0)] <|
    .fin 4 (fun _ T => ((entO (objAt T 0) 0).2, (entO (objAt T 0) 2).2, fun j => tokV (fldO (objAt T 1) j))) [0, 1] []) ?_
   <;> (intro h dep fr gd un R d os tok b; kernel_rfl))

theorem wz6 (w : World) (b1 b2 : Bool) (gl : List GenState) (f l : Addr) (ks : Ks) (vw : Value) (r6 r7 : Value) (e : Nat) (x : Nat → Tok) (tn ti : Tok) :
    WhC w b1 b2 gl 6 f l ks vw [r6, r7] e x 0 tn ti := by
  cases b1 <;> (refine Ctr.of_go (NL w.params) (
    owns [(1, 0)] <|
    .fin 4 (fun _ T => ((entO (objAt T 0) 0).2, (entO (objAt T 0) 2).2, fun j => tokV (fldO (objAt T 1) j))) [0, 1] []) ?_
   <;> (intro h dep fr gd un R d os tok b; kernel_rfl))

theorem wz7 (w : World) (b1 b2 : Bool) (gl : List GenState) (f l : Addr) (ks : Ks) (vw : Value) (r7 : Value) (e : Nat) (x : Nat → Tok) (tn ti : Tok) :
    WhC w b1 b2 gl 7 f l ks vw [r7] e x 0 tn ti := by
  cases b1 <;> (refine Ctr.of_go (NL w.params) (
    owns [(1, 0)] <|
    .fin 4 (fun _ T => ((entO (objAt T 0) 0).2, (entO (objAt T 0) 2).2, fun j => tokV (fldO (objAt T 1) j))) [0, 1] []) ?_
   <;> (intro h dep fr gd un R d os tok b; kernel_rfl))

theorem wz8 (w : World) (b1 b2 : Bool) (gl : List GenState) (f l : Addr) (ks : Ks) (vw : Value) (e : Nat) (x : Nat → Tok) (tn ti : Tok) :
    WhC w b1 b2 gl 8 f l ks vw [] e x 0 tn ti := by
  cases b1 <;> (refine Ctr.of_go (NL w.params) (
    owns [(1, 0)] <|
    .fin 4 (fun _ T => ((entO (objAt T 0) 0).2, (entO (objAt T 0) 2).2, fun j => tokV (fldO (objAt T 1) j))) [0, 1] []) ?_
   <;> (intro h dep fr gd un R d os tok b; kernel_rfl))

theorem ws1 (w : World) (b1 b2 : Bool) (gl : List GenState) (f l : Addr) (ks : Ks) (vw : Value) (r1 r2 r3 r4 r5 r6 r7 : Value) (e : Nat) (x : Nat → Tok) (tn ti : Tok) (m : Nat) (IH : ∀ t tn ti, WhC w b1 b2 gl 0 f l ks vw (.int (((m + 1) % 2 : Nat) : Int) t :: [r1, r2, r3, r4, r5, r6, r7]) e x ((m + 1) / 2) tn ti) :
    WhC w b1 b2 gl 1 f l ks vw [r1, r2, r3, r4, r5, r6, r7] e x (m + 1) tn ti := by
  cases b1 <;> (refine Ctr.of_go (NL w.params) (
    owns [(1, 0), (5, 0), (8, 0)] <|
    isI 5 _ _ (and1 (m + 1)) <|
    owns [(2, 0), (1, 0), (1, 1), (0, 1), (1, 1), (1, 1), (0, 1), (0, 1), (2, 0)] <|
    cutBin 3 gl "int.__rshift__" ((m + 1 : Nat) : Int) ((1 : Nat) : Int) (((m + 1) / 2 : Nat) : Int) (rshC (rsh1 (m + 1))) <|
    owns [(5, 0), (0, 0), (2, 0), (10, 0), (0, 0)] <|
    cWh (gl := gl) 1 [0, 1] 0 f l ks vw e x ((m + 1) / 2) (fun t => .int (((m + 1) % 2 : Nat) : Int) t :: [r1, r2, r3, r4, r5, r6, r7]) IH (fun q => tokV (fldO q 0)) <|
    .fin 0 (fun _ T => ((entO (objAt T 0) 0).2, (entO (objAt T 0) 2).2, fun j => tokV (fldO (objAt T 1) j))) [0, 1] []) ?_
   <;> (intro h dep fr gd un R d os tok b; kernel_rfl))

theorem ws2 (w : World) (b1 b2 : Bool) (gl : List GenState) (f l : Addr) (ks : Ks) (vw : Value) (r2 r3 r4 r5 r6 r7 : Value) (e : Nat) (x : Nat → Tok) (tn ti : Tok) (m : Nat) (IH : ∀ t tn ti, WhC w b1 b2 gl 1 f l ks vw (.int (((m + 1) % 2 : Nat) : Int) t :: [r2, r3, r4, r5, r6, r7]) e x ((m + 1) / 2) tn ti) :
    WhC w b1 b2 gl 2 f l ks vw [r2, r3, r4, r5, r6, r7] e x (m + 1) tn ti := by
  cases b1 <;> (refine Ctr.of_go (NL w.params) (
    owns [(1, 0), (5, 0), (8, 0)] <|
    isI 5 _ _ (and1 (m + 1)) <|
    owns [(2, 0), (1, 0), (1, 1), (0, 1), (1, 1), (1, 1), (0, 1), (0, 1), (2, 0)] <|
    cutBin 3 gl "int.__rshift__" ((m + 1 : Nat) : Int) ((1 : Nat) : Int) (((m + 1) / 2 : Nat) : Int) (rshC (rsh1 (m + 1))) <|
    owns [(5, 0), (0, 0), (2, 0), (10, 0), (0, 0)] <|
    cWh (gl := gl) 1 [0, 1] 1 f l ks vw e x ((m + 1) / 2) (fun t => .int (((m + 1) % 2 : Nat) : Int) t :: [r2, r3, r4, r5, r6, r7]) IH (fun q => tokV (fldO q 1)) <|
    .fin 0 (fun _ T => ((entO (objAt T 0) 0).2, (entO (objAt T 0) 2).2, fun j => tokV (fldO (objAt T 1) j))) [0, 1] []) ?_
   <;> (intro h dep fr gd un R d os tok b; kernel_rfl))

theorem ws3 (w : World) (b1 b2 : Bool) (gl : List GenState) (f l : Addr) (ks : Ks) (vw : Value) (r3 r4 r5 r6 r7 : Value) (e : Nat) (x : Nat → Tok) (tn ti : Tok) (m : Nat) (IH : ∀ t tn ti, WhC w b1 b2 gl 2 f l ks vw (.int (((m + 1) % 2 : Nat) : Int) t :: [r3, r4, r5, r6, r7]) e x ((m + 1) / 2) tn ti) :
    WhC w b1 b2 gl 3 f l ks vw [r3, r4, r5, r6, r7] e x (m + 1) tn ti := by
  cases b1 <;> (refine Ctr.of_go (NL w.params) (
    owns [(1, 0), (5, 0), (8, 0)] <|
    isI 5 _ _ (and1 (m + 1)) <|
    owns [(2, 0), (1, 0), (1, 1), (0, 1), (1, 1), (1, 1), (0, 1), (0, 1), (2, 0)] <|
    cutBin 3 gl "int.__rshift__" ((m + 1 : Nat) : Int) ((1 : Nat) : Int) (((m + 1) / 2 : Nat) : Int) (rshC (rsh1 (m + 1))) <|
    owns [(5, 0), (0, 0), (2, 0), (10, 0), (0, 0)] <|
    cWh (gl := gl) 1 [0, 1] 2 f l ks vw e x ((m + 1) / 2) (fun t => .int (((m + 1) % 2 : Nat) : Int) t :: [r3, r4, r5, r6, r7]) IH (fun q => tokV (fldO q 2)) <|
    .fin 0 (fun _ T => ((entO (objAt T 0) 0).2, (entO (objAt T 0) 2).2, fun j => tokV (fldO (objAt T 1) j))) [0, 1] []) ?_
   <;> (intro h dep fr gd un R d os tok b; kernel_rfl))

theorem ws4 (w : World) (b1 b2 : Bool) (gl : List GenState) (f l : Addr) (ks : Ks) (vw : Value) (r4 r5 r6 r7 : Value) (e : Nat) (x : Nat → Tok) (tn ti : Tok) (m : Nat) (IH : ∀ t tn ti, WhC w b1 b2 gl 3 f l ks vw (.int (((m + 1) % 2 : Nat) : Int) t :: [r4, r5, r6, r7]) e x ((m + 1) / 2) tn ti) :
    WhC w b1 b2 gl 4 f l ks vw [r4, r5, r6, r7] e x (m + 1) tn ti := by
  cases b1 <;> (refine Ctr.of_go (NL w.params) (
    owns [(1, 0), (5, 0), (8, 0)] <|
    isI 5 _ _ (and1 (m + 1)) <|
    owns [(2, 0), (1, 0), (1, 1), (0, 1), (1, 1), (1, 1), (0, 1), (0, 1), (2, 0)] <|
    cutBin 3 gl "int.__rshift__" ((m + 1 : Nat) : Int) ((1 : Nat) : Int) (((m + 1) / 2 : Nat) : Int) (rshC (rsh1 (m + 1))) <|
    owns [(5, 0), (0, 0), (2, 0), (10, 0), (0, 0)] <|
    cWh (gl := gl) 1 [0, 1] 3 f l ks vw e x ((m + 1) / 2) (fun t => .int (((m + 1) % 2 : Nat) : Int) t :: [r4, r5, r6, r7]) IH (fun q => tokV (fldO q 3)) <|
    .fin 0 (fun _ T => ((entO (objAt T 0) 0).2, (entO (objAt T 0) 2).2, fun j => tokV (fldO (objAt T 1) j))) [0, 1] []) ?_
   <;> (intro h dep fr gd un R d os tok b; kernel_rfl))

theorem ws5 (w : World) (b1 b2 : Bool) (gl : List GenState) (f l : Addr) (ks : Ks) (vw : Value) (r5 r6 r7 : Value) (e : Nat) (x : Nat → Tok) (tn ti : Tok) (m : Nat) (IH : ∀ t tn ti, WhC w b1 b2 gl 4 f l ks vw (.int (((m + 1) % 2 : Nat) : Int) t :: [r5, r6, r7]) e x ((m + 1) / 2) tn ti) :
    WhC w b1 b2 gl 5 f l ks vw [r5, r6, r7] e x (m + 1) tn ti := by
  cases b1 <;> (refine Ctr.of_go (NL w.params) (
    owns [(1, 0), (5, 0), (8, 0)] <|
    isI 5 _ _ (and1 (m + 1)) <|
    owns [(2, 0), (1, 0), (1, 1), (0, 1), (1, 1), (1, 1), (0, 1), (0, 1), (2, 0)] <|
    cutBin 3 gl "int.__rshift__" ((m + 1 : Nat) : Int) ((1 : Nat) : Int) (((m + 1) / 2 : Nat) : Int) (rshC (rsh1 (m + 1))) <|
    owns [(5, 0), (0, 0), (2, 0), (10, 0), (0, 0)] <|
    cWh (gl := gl) 1 [0, 1] 4 f l ks vw e x ((m + 1) / 2) (fun t => .int (((m + 1) % 2 : Nat) : Int) t :: [r5, r6, r7]) IH (fun q => tokV (fldO q 4)) <|
    .fin 0 (fun _ T => ((entO (objAt T 0) 0).2, (entO (objAt T 0) 2).2, fun j => tokV (fldO (objAt T 1) j))) [0, 1] []) ?_
   <;> (intro h dep fr gd un R d os tok b; kernel_rfl))

theorem ws6 (w : World) (b1 b2 : Bool) (gl : List GenState) (f l : Addr) (ks : Ks) (vw : Value) (r6 r7 : Value) (e : Nat) (x : Nat → Tok) (tn ti : Tok) (m : Nat) (IH : ∀ t tn ti, WhC w b1 b2 gl 5 f l ks vw (.int (((m + 1) % 2 : Nat) : Int) t :: [r6, r7]) e x ((m + 1) / 2) tn ti) :
    WhC w b1 b2 gl 6 f l ks vw [r6, r7] e x (m + 1) tn ti := by
  cases b1 <;> (refine Ctr.of_go (NL w.params) (
    owns [(1, 0), (5, 0), (8, 0)] <|
    isI 5 _ _ (and1 (m + 1)) <|
    owns [(2, 0), (1, 0), (1, 1), (0, 1), (1, 1), (1, 1), (0, 1), (0, 1), (2, 0)] <|
    cutBin 3 gl "int.__rshift__" ((m + 1 : Nat) : Int) ((1 : Nat) : Int) (((m + 1) / 2 : Nat) : Int) (rshC (rsh1 (m + 1))) <|
    owns [(5, 0), (0, 0), (2, 0), (10, 0), (0, 0)] <|
    cWh (gl := gl) 1 [0, 1] 5 f l ks vw e x ((m + 1) / 2) (fun t => .int (((m + 1) % 2 : Nat) : Int) t :: [r6, r7]) IH (fun q => tokV (fldO q 5)) <|
    .fin 0 (fun _ T => ((entO (objAt T 0) 0).2, (entO (objAt T 0) 2).2, fun j => tokV (fldO (objAt T 1) j))) [0, 1] []) ?_
   <;> (intro h dep fr gd un R d os tok b; kernel_rfl))

theorem ws7 (w : World) (b1 b2 : Bool) (gl : List GenState) (f l : Addr) (ks : Ks) (vw : Value) (r7 : Value) (e : Nat) (x : Nat → Tok) (tn ti : Tok) (m : Nat) (IH : ∀ t tn ti, WhC w b1 b2 gl 6 f l ks vw (.int (((m + 1) % 2 : Nat) : Int) t :: [r7]) e x ((m + 1) / 2) tn ti) :
    WhC w b1 b2 gl 7 f l ks vw [r7] e x (m + 1) tn ti := by
  cases b1 <;> (refine Ctr.of_go (NL w.params) (
    owns [(1, 0), (5, 0), (8, 0)] <|
    isI 5 _ _ (and1 (m + 1)) <|
    owns [(2, 0), (1, 0), (1, 1), (0, 1), (1, 1), (1, 1), (0, 1), (0, 1), (2, 0)] <|
    cutBin 3 gl "int.__rshift__" ((m + 1 : Nat) : Int) ((1 : Nat) : Int) (((m + 1) / 2 : Nat) : Int) (rshC (rsh1 (m + 1))) <|
    owns [(5, 0), (0, 0), (2, 0), (10, 0), (0, 0)] <|
    cWh (gl := gl) 1 [0, 1] 6 f l ks vw e x ((m + 1) / 2) (fun t => .int (((m + 1) % 2 : Nat) : Int) t :: [r7]) IH (fun q => tokV (fldO q 6)) <|
    .fin 0 (fun _ T => ((entO (objAt T 0) 0).2, (entO (objAt T 0) 2).2, fun j => tokV (fldO (objAt T 1) j))) [0, 1] []) ?_
   <;> (intro h dep fr gd un R d os tok b; kernel_rfl))

theorem ws8 (w : World) (b1 b2 : Bool) (gl : List GenState) (f l : Addr) (ks : Ks) (vw : Value) (e : Nat) (x : Nat → Tok) (tn ti : Tok) (m : Nat) (IH : ∀ t tn ti, WhC w b1 b2 gl 7 f l ks vw (.int (((m + 1) % 2 : Nat) : Int) t :: []) e x ((m + 1) / 2) tn ti) :
    WhC w b1 b2 gl 8 f l ks vw [] e x (m + 1) tn ti := by
  cases b1 <;> (refine Ctr.of_go (NL w.params) (
    owns [(1, 0), (5, 0), (8, 0)] <|
    isI 5 _ _ (and1 (m + 1)) <|
    owns [(2, 0), (1, 0), (1, 1), (0, 1), (1, 1), (1, 1), (0, 1), (0, 1), (2, 0)] <|
    cutBin 3 gl "int.__rshift__" ((m + 1 : Nat) : Int) ((1 : Nat) : Int) (((m + 1) / 2 : Nat) : Int) (rshC (rsh1 (m + 1))) <|
    owns [(5, 0), (0, 0), (2, 0), (10, 0), (0, 0)] <|
    cWh (gl := gl) 1 [0, 1] 7 f l ks vw e x ((m + 1) / 2) (fun t => .int (((m + 1) % 2 : Nat) : Int) t :: []) IH (fun q => tokV (fldO q 7)) <|
    .fin 0 (fun _ T => ((entO (objAt T 0) 0).2, (entO (objAt T 0) 2).2, fun j => tokV (fldO (objAt T 1) j))) [0, 1] []) ?_
   <;> (intro h dep fr gd un R d os tok b; kernel_rfl))

theorem wh0 (w : World) (b1 b2 : Bool) (gl : List GenState) (f l : Addr) (ks : Ks) (vw : Value) (r0 r1 r2 r3 r4 r5 r6 r7 : Value) (e : Nat) (x : Nat → Tok) (tn ti : Tok) (n : Nat) (h : n < 2 ^ 0) : WhC w b1 b2 gl 0 f l ks vw [r0, r1, r2, r3, r4, r5, r6, r7] e x n tn ti := by
  obtain rfl : n = 0 := by simpa using h
  exact wz0 w b1 b2 gl f l ks vw r0 r1 r2 r3 r4 r5 r6 r7 e x tn ti
theorem wh1 (w : World) (b1 b2 : Bool) (gl : List GenState) (f l : Addr) (ks : Ks) (vw : Value) (r1 r2 r3 r4 r5 r6 r7 : Value) (e : Nat) (x : Nat → Tok) (tn ti : Tok) (n : Nat) (h : n < 2 ^ 1) : WhC w b1 b2 gl 1 f l ks vw [r1, r2, r3, r4, r5, r6, r7] e x n tn ti := by
  cases n with
  | zero => exact wz1 w b1 b2 gl f l ks vw r1 r2 r3 r4 r5 r6 r7 e x tn ti
  | succ m => exact ws1 w b1 b2 gl f l ks vw r1 r2 r3 r4 r5 r6 r7 e x tn ti m (fun t tn ti => wh0 w b1 b2 gl f l ks vw _ r1 r2 r3 r4 r5 r6 r7 e x tn ti _ (by omega))
theorem wh2 (w : World) (b1 b2 : Bool) (gl : List GenState) (f l : Addr) (ks : Ks) (vw : Value) (r2 r3 r4 r5 r6 r7 : Value) (e : Nat) (x : Nat → Tok) (tn ti : Tok) (n : Nat) (h : n < 2 ^ 2) : WhC w b1 b2 gl 2 f l ks vw [r2, r3, r4, r5, r6, r7] e x n tn ti := by
  cases n with
  | zero => exact wz2 w b1 b2 gl f l ks vw r2 r3 r4 r5 r6 r7 e x tn ti
  | succ m => exact ws2 w b1 b2 gl f l ks vw r2 r3 r4 r5 r6 r7 e x tn ti m (fun t tn ti => wh1 w b1 b2 gl f l ks vw _ r2 r3 r4 r5 r6 r7 e x tn ti _ (by omega))
theorem wh3 (w : World) (b1 b2 : Bool) (gl : List GenState) (f l : Addr) (ks : Ks) (vw : Value) (r3 r4 r5 r6 r7 : Value) (e : Nat) (x : Nat → Tok) (tn ti : Tok) (n : Nat) (h : n < 2 ^ 3) : WhC w b1 b2 gl 3 f l ks vw [r3, r4, r5, r6, r7] e x n tn ti := by
  cases n with
  | zero => exact wz3 w b1 b2 gl f l ks vw r3 r4 r5 r6 r7 e x tn ti
  | succ m => exact ws3 w b1 b2 gl f l ks vw r3 r4 r5 r6 r7 e x tn ti m (fun t tn ti => wh2 w b1 b2 gl f l ks vw _ r3 r4 r5 r6 r7 e x tn ti _ (by omega))
theorem wh4 (w : World) (b1 b2 : Bool) (gl : List GenState) (f l : Addr) (ks : Ks) (vw : Value) (r4 r5 r6 r7 : Value) (e : Nat) (x : Nat → Tok) (tn ti : Tok) (n : Nat) (h : n < 2 ^ 4) : WhC w b1 b2 gl 4 f l ks vw [r4, r5, r6, r7] e x n tn ti := by
  cases n with
  | zero => exact wz4 w b1 b2 gl f l ks vw r4 r5 r6 r7 e x tn ti
  | succ m => exact ws4 w b1 b2 gl f l ks vw r4 r5 r6 r7 e x tn ti m (fun t tn ti => wh3 w b1 b2 gl f l ks vw _ r4 r5 r6 r7 e x tn ti _ (by omega))
theorem wh5 (w : World) (b1 b2 : Bool) (gl : List GenState) (f l : Addr) (ks : Ks) (vw : Value) (r5 r6 r7 : Value) (e : Nat) (x : Nat → Tok) (tn ti : Tok) (n : Nat) (h : n < 2 ^ 5) : WhC w b1 b2 gl 5 f l ks vw [r5, r6, r7] e x n tn ti := by
  cases n with
  | zero => exact wz5 w b1 b2 gl f l ks vw r5 r6 r7 e x tn ti
  | succ m => exact ws5 w b1 b2 gl f l ks vw r5 r6 r7 e x tn ti m (fun t tn ti => wh4 w b1 b2 gl f l ks vw _ r5 r6 r7 e x tn ti _ (by omega))
theorem wh6 (w : World) (b1 b2 : Bool) (gl : List GenState) (f l : Addr) (ks : Ks) (vw : Value) (r6 r7 : Value) (e : Nat) (x : Nat → Tok) (tn ti : Tok) (n : Nat) (h : n < 2 ^ 6) : WhC w b1 b2 gl 6 f l ks vw [r6, r7] e x n tn ti := by
  cases n with
  | zero => exact wz6 w b1 b2 gl f l ks vw r6 r7 e x tn ti
  | succ m => exact ws6 w b1 b2 gl f l ks vw r6 r7 e x tn ti m (fun t tn ti => wh5 w b1 b2 gl f l ks vw _ r6 r7 e x tn ti _ (by omega))
theorem wh7 (w : World) (b1 b2 : Bool) (gl : List GenState) (f l : Addr) (ks : Ks) (vw : Value) (r7 : Value) (e : Nat) (x : Nat → Tok) (tn ti : Tok) (n : Nat) (h : n < 2 ^ 7) : WhC w b1 b2 gl 7 f l ks vw [r7] e x n tn ti := by
  cases n with
  | zero => exact wz7 w b1 b2 gl f l ks vw r7 e x tn ti
  | succ m => exact ws7 w b1 b2 gl f l ks vw r7 e x tn ti m (fun t tn ti => wh6 w b1 b2 gl f l ks vw _ r7 e x tn ti _ (by omega))
theorem wh8 (w : World) (b1 b2 : Bool) (gl : List GenState) (f l : Addr) (ks : Ks) (vw : Value) (e : Nat) (x : Nat → Tok) (tn ti : Tok) (n : Nat) (h : n < 2 ^ 8) : WhC w b1 b2 gl 8 f l ks vw [] e x n tn ti := by
  cases n with
  | zero => exact wz8 w b1 b2 gl f l ks vw  e x tn ti
  | succ m => exact ws8 w b1 b2 gl f l ks vw  e x tn ti m (fun t tn ti => wh7 w b1 b2 gl f l ks vw _  e x tn ti _ (by omega))
end
end Mine
namespace Mine
open PySem PySem.Spec PySem.Calls PyProof.Rows PySem.W PySem.W.X
section
variable {α₀ : Type} {w : World} {b1 b2 : Bool} {gl : List GenState}
theorem byNewC {prog : Program} {w : World} {kt : KT} {D U : Nat} (l : Addr) (vs : List Value) (e : Nat) (ns : List Int) (Z : Array UInt8) (hi : IntsAre vs ns) (hr : ∀ n ∈ ns, 0 ≤ n ∧ n < 256) (hz : ns.length ≤ sizeLine) (hZ : byteArr ns = Z) :
    Ctr prog w kt D U (.call (.builtin "bytes.__new__") ⟨[.type "bytes", .ref l], []⟩) [(l, lstO vs.toArray e)] gl gl (α := Tok) (fun t => .ok (.ret (.bytes Z t))) (fun _ => [lstO vs.toArray e]) (fun _ => []) := by
  intro A R h d os tok hh hD hU ht hp hn hl hR
  have ho : h.get? l = some (lstO vs.toArray e) := hp _ (.head _)
  refine codeAny_mono (bm_new (A := A) (E := fun _ _ => False) (Q := fun v s => R (.ok (.ret v)) s) hh ⟨_, ho, rfl, _, rfl⟩ hi hr hz fun h' t k hk => ?_) fun r s hr => ?_
  · rw [hZ]
    exact hR t h' k (fun b o e _ => hk b o e) rfl (fun x hm => by cases List.mem_singleton.mp hm; exact hk _ _ ho) (fun _ hm => nomatch hm) List.nodup_nil
  · unfold wants at hr
    split at hr
    · exact hr
    all_goals exact hr.elim
def cByNew {prog : Program} {w : World} {kt : KT} (n i : Nat) (β : Type) (g : Obj → β) (vs : β → List Value) (e : Nat) (ns : List Int) (Z : Array UInt8) (hi : ∀ y, IntsAre (vs y) ns) (hr : ∀ n ∈ ns, 0 ≤ n ∧ n < 256) (hz : ns.length ≤ sizeLine) (hZ : byteArr ns = Z) (r : Hs prog w kt α₀) : Hs prog w kt α₀ :=
  .cut n 900 9000 [i] (Addr × β) (fun _ L => match L with
    | [some (a, o)] => (a, g o)
    | _ => (0, g default)) (fun y => .call (.builtin "bytes.__new__") ⟨[.type "bytes", .ref y.1], []⟩) (fun y => [(y.1, lstO (vs y.2).toArray e)]) gl gl Tok
    (fun _ t => .ok (.ret (.bytes Z t))) (fun y _ => [lstO (vs y.2).toArray e]) (fun _ _ => []) (fun y => byNewC y.1 (vs y.2) e ns Z (hi y.2) hr hz hZ) (fun _ _ _ _ => r)
def zn : Nat → Nat → List Int
  | 0, _ => []
  | k + 1, n => zn k (n / 2) ++ [((n % 2 : Nat) : Int)]
theorem IntsAre.app {a : List Value} {b : List Int} (h : IntsAre a b) (n : Int) (t : Tok) : IntsAre (a ++ [.int n t]) (b ++ [n]) := by
  induction h with
  | nil => exact .cons _ _ .nil
  | cons _ _ _ ih => exact .cons _ _ ih
theorem zn_are : ∀ (k n : Nat) (x : Nat → Tok), IntsAre (zv k n x) (zn k n)
  | 0, _, _ => .nil
  | k + 1, n, x => IntsAre.app (zn_are k (n / 2) x) _ _
theorem zn_rng : ∀ (k n : Nat), ∀ m ∈ zn k n, 0 ≤ m ∧ m < 256
  | 0, _, _, h => nomatch h
  | k + 1, n, m, h => by
    rcases List.mem_append.mp h with h | h
    · exact zn_rng k _ m h
    · cases List.mem_singleton.mp h
      omega
theorem zn_bb : ∀ (k n : Nat), (zn k n).map (fun n : Int => n.toNat.toUInt8) = (bb k n).map b2u
  | 0, _ => rfl
  | k + 1, n => by
    show (zn k (n / 2) ++ [((n % 2 : Nat) : Int)]).map _ = (bb k (n / 2) ++ [n % 2 == 1]).map _
    rw [List.map_append, List.map_append, zn_bb k (n / 2)]
    congr 1
    rcases Nat.mod_two_eq_zero_or_one n with h | h <;> (rw [h]; rfl)
theorem bb_len : ∀ (k n : Nat), (bb k n).length = k
  | 0, _ => rfl
  | k + 1, n => by show (bb k (n / 2) ++ [_]).length = _; rw [List.length_append, bb_len k]; rfl
theorem zn_len : ∀ (k n : Nat), (zn k n).length = k
  | 0, _ => rfl
  | k + 1, n => by show (zn k (n / 2) ++ [_]).length = _; rw [List.length_append, zn_len k]; rfl
def cWh8 (j : Nat) (is : List Nat) (n : Nat) (hn : n < 2 ^ 8) (r : Hs prog (wr w b1 b2) (kt w.params) α₀) : Hs prog (wr w b1 b2) (kt w.params) α₀ :=
  .cut j 860 (lev 860) is (Addr × Addr × Ks × Tok × Tok × Value × (Nat → Tok)) (fun _ L => match L with
    | [some (f, o), some (l, q)] => (f, l, ⟨tokV (entO o 0).1, tokV (entO o 1).1, tokV (entO o 2).1, tokV (entO o 3).1⟩, tokV (entO o 0).2, tokV (entO o 2).2, (entO o 1).2, fun j => tokV (fldO q j))
    | _ => (0, 0, ⟨0, 0, 0, 0⟩, 0, 0, .none, fun _ => 0)) (fun y => whC y.1)
    (fun y => [(y.1, frW w.params y.2.2.1 (.int n y.2.2.2.1) y.2.2.2.2.2.1 (.int (((8 : Nat) : Int) - 1) y.2.2.2.2.1) y.2.1), (y.2.1, lstO (zo 8 y.2.2.2.2.2.2 ++ []).toArray 0)]) gl gl (Value × Value × (Nat → Tok)) (fun _ _ => .ok .next)
    (fun y z => [frW w.params y.2.2.1 z.1 y.2.2.2.2.2.1 z.2.1 y.2.1, lstO (zv 8 n z.2.2 ++ []).toArray 0]) (fun _ _ => [])
    (fun y => wh8 w b1 b2 gl y.1 y.2.1 y.2.2.1 y.2.2.2.2.2.1 0 y.2.2.2.2.2.2 y.2.2.2.1 y.2.2.2.2.1 n hn) (fun _ _ _ _ => r)

theorem i2bC (w : World) (b1 b2 : Bool) (gl : List GenState) (n : Nat) (hn : n < 2 ^ 8) (tn t8 : Tok) :
    Ctr prog (wr w b1 b2) (kt w.params) 820 (lev 820) (.call (.ref 29) ⟨[.int n tn, .int 8 t8], []⟩) [] gl gl (α := Tok) (fun t => .ok (.ret (.bytes (bitA (bb 8 n)) t))) (fun _ => []) (fun _ => []) := by
  cases b1 <;> (refine Ctr.of_go (NL w.params) (
    owns [(6, 0), (0, 0), (2, 0), (0, 0)] <|
    .stk 0 .enter 1 <|
    owns [(4, 0), (8, 0), (10, 0), (0, 0), (6, 1), (1, 0), (2, 0), (2, 0), (2, 0), (1, 0), (6, 2), (0, 2)] <|
    cWh8 (gl := gl) 2 [2, 0] n hn <|
    owns [(5, 2)] <|
    cByNew (gl := gl) 3 0 (Nat → Tok) (fun q j => tokV (fldO q j)) (fun x => zv 8 n x) 0 (zn 8 n) (bitA (bb 8 n)) (fun x => zn_are 8 n x) (zn_rng 8 n) (by rw [zn_len, sizeLine_eq]; decide) (by unfold byteArr bitA; rw [zn_bb]) <|
    .fin 5 (fun r _ => tokV (valOf r)) [] []) ?_
   <;> (intro h dep fr gd un R d os tok b; kernel_rfl))

end
end Mine
namespace Mine
open PySem PySem.Spec PySem.Calls PyProof.Rows PySem.W PySem.W.X
def sub (l : List Bool) (p k : Nat) : List Bool := (l.drop p).take k
theorem sub_ext (l : List Bool) (p k : Nat) : (bitA l).extract p (p + k) = bitA (sub l p k) := by
  unfold bitA sub
  simp [List.map_drop, List.map_take]
theorem sub_len {l : List Bool} {p k : Nat} (h : p + k ≤ l.length) : (sub l p k).length = k := by
  unfold sub
  rw [List.length_take, List.length_drop]; omega
theorem nn (n : Nat) : decide ((n : Int) < 0) = false := decide_eq_false (by omega)
theorem ne_self (n : Int) : (n != n) = false := by simp
/-- a field: its adapter, the field under it, their dicts -/
structure Fd where
  bi : Addr
  dx : Addr
  sf : Addr
  sx : Addr
  tw : Tok
abbrev sfo (x : Fd) (nv : Value) (w : Int) : Obj := ⟨.ref 971, some x.sx, .plain, #[some (.int w x.tw), some (.int 0 1136), some nv]⟩
abbrev bio (x : Fd) (nv : Value) (w : Int) (sw sg : Bool) : Obj := ⟨.ref 1126, some x.dx, .plain, #[some (.int 8 1662), some (.bool sg), some (.bool sw), some (.int w x.tw), some (.ref x.sf), some (.int 0 1136), some nv]⟩
abbrev pao (x : Fd) (tb : Tok) : Obj := ⟨.ref 1159, some x.dx, .plain, #[some (.bytes #[0] tb), some (.bool false), some (.ref x.sf), some (.int 0 1136), some .none]⟩
def sltO (o : Obj) (i : Nat) : Value := match o.slots[i]? with
  | some (some v) => v
  | _ => .none
abbrev sfL (x : Fd) (nv : Value) (w : Int) : List En := [(x.sf, sfo x nv w), (x.sx, dict0)]
abbrev sfU (x : Fd) (nv : Value) (w : Int) : List Obj := [sfo x nv w, dict0]
abbrev biL (x : Fd) (nv : Value) (w : Int) (sw sg : Bool) : List En := [(x.bi, bio x nv w sw sg), (x.dx, dict0), (x.sf, sfo x nv w), (x.sx, dict0)]
abbrev biU (x : Fd) (nv : Value) (w : Int) (sw sg : Bool) : List Obj := [bio x nv w sw sg, dict0, sfo x nv w, dict0]
abbrev paL (x : Fd) (tb : Tok) (w : Int) : List En := [(x.bi, pao x tb), (x.dx, dict0), (x.sf, sfo x .none w), (x.sx, dict0)]
abbrev paU (x : Fd) (tb : Tok) (w : Int) : List Obj := [pao x tb, dict0, sfo x .none w, dict0]
def sfX (l : List (Option En)) : Fd := match l with
  | some (a, o) :: some (b, _) :: _ => ⟨0, 0, a, b, tokV (sltO o 0)⟩
  | _ => ⟨0, 0, 0, 0, 0⟩
def fdX (l : List (Option En)) : Fd := match l with
  | some (a, _) :: some (b, _) :: some (c, o) :: some (d, _) :: _ => ⟨a, b, c, d, tokV (sltO o 0)⟩
  | _ => ⟨0, 0, 0, 0, 0⟩
section
variable {α₀ : Type} {w : World} {b1 b2 : Bool} {gl : List GenState}
theorem readZ (w : World) (b1 b2 : Bool) (gl : List GenState) (s : Bio) (B Z : Array UInt8) (p n : Nat) (t : Tok) (hn : 1 ≤ n) (h : p + n ≤ B.size) (hz : B.size ≤ sizeLine) (hZ : B.extract p (p + n) = Z) :
    Ctr prog (wr w b1 b2) (kt w.params) 780 (lev 780) (.call (.ref 447) ⟨[.ref s.self, .int n t], []⟩) (bioL w.params s B p) gl gl (α := Tok × Tok) (fun x => .ok (.ret (.bytes Z x.1))) (fun x => bioU w.params { s with tp := x.2 } B ((p + n : Nat) : Int)) (fun _ => []) :=
  hZ ▸ readC w b1 b2 gl s B p n t hn h hz
def cReadZ (n : Nat) (is : List Nat) (B Z : Array UInt8) (p k : Nat) (hn : 1 ≤ k) (h : p + k ≤ B.size) (hz : B.size ≤ sizeLine) (hZ : B.extract p (p + k) = Z) (r : Hs prog (wr w b1 b2) (kt w.params) α₀) : Hs prog (wr w b1 b2) (kt w.params) α₀ :=
  .cutg n 780 (lev 780) is (Bio × Tok) (fun c l => (bioX l, tokV (argA c 1))) (fun s => .call (.ref 447) ⟨[.ref s.1.self, .int k s.2], []⟩) (fun s => bioL w.params s.1 B p) (Tok × Tok) (fun _ x => .ok (.ret (.bytes Z x.1)))
    (fun s x => bioU w.params { s.1 with tp := x.2 } B ((p + k : Nat) : Int)) (fun _ _ => []) (fun s gl => readZ w b1 b2 gl s.1 B Z p k s.2 hn h hz hZ) (fun _ _ _ _ => r)

theorem swp_len {l : List Bool} (h : l.length = 8 ∨ l.length = 16) : (swp l).length = l.length := by
  unfold swp
  rw [List.length_append, List.length_drop, List.length_take]
  omega

theorem rsC (w : World) (b1 b2 : Bool) (gl : List GenState) (s : Bio) (B Z : Array UInt8) (p n : Nat) (t : Tok) (hn : 1 ≤ n) (h : p + n ≤ B.size) (hz : B.size ≤ sizeLine) (hZ : B.extract p (p + n) = Z) (hs : (Z.size : Int) = n) :
    Ctr prog (wr w b1 b2) (kt w.params) 740 (lev 740) (.call (.ref 938) ⟨[.ref s.self, .int n t], []⟩) (bioL w.params s B p) gl gl (α := Tok × Tok) (fun x => .ok (.ret (.bytes Z x.1))) (fun x => bioU w.params { s with tp := x.2 } B ((p + n : Nat) : Int)) (fun _ => []) := by
  have hzz : Z.size ≤ 1099511627776 := by
    rw [← hZ, Array.size_extract]; rw [sizeLine_eq] at hz; omega
  cases b1 <;> (refine Ctr.of_go (NL w.params) (
    owns [(5, 0), (0, 0), (2, 0), (0, 0)] <|
    .stk 0 .enter 1 <|
    owns [(4, 0)] <|
    isB 5 _ false (nn n) <|
    owns [(3, 0), (1, 1), (7, 1), (7, 1), (4, 1), (0, 2), (2, 0)] <|
    cReadZ 2 [1, 2, 3] B Z p n hn h hz hZ <|
    owns [(5, 0), (0, 0), (6, 0)] <|
    cLenBy (gl := gl) 2 Z hzz <|
    owns [(3, 0)] <|
    isB 4 ((Z.size : Int) != (n : Int)) false (by rw [hs]; exact ne_self _) <|
    owns [(3, 0)] <|
    .fin 0 (fun r T => (tokV (valOf r), tokV (entO (objAt T 2) 1).2)) [1, 2, 3] []) ?_
   <;> (intro h dep fr gd un R d os tok b; kernel_rfl))

def cRs (n : Nat) (is : List Nat) (B Z : Array UInt8) (p k : Nat) (hn : 1 ≤ k) (h : p + k ≤ B.size) (hz : B.size ≤ sizeLine) (hZ : B.extract p (p + k) = Z) (hs : (Z.size : Int) = k) (r : Hs prog (wr w b1 b2) (kt w.params) α₀) : Hs prog (wr w b1 b2) (kt w.params) α₀ :=
  .cutg n 740 (lev 740) is (Bio × Tok) (fun c l => (bioX l, tokV (argA c 1))) (fun s => .call (.ref 938) ⟨[.ref s.1.self, .int k s.2], []⟩) (fun s => bioL w.params s.1 B p) (Tok × Tok) (fun _ x => .ok (.ret (.bytes Z x.1)))
    (fun s x => bioU w.params { s.1 with tp := x.2 } B ((p + k : Nat) : Int)) (fun _ _ => []) (fun s gl => rsC w b1 b2 gl s.1 B Z p k s.2 hn h hz hZ hs) (fun _ _ _ _ => r)

theorem sfpC (w : World) (b1 b2 : Bool) (gl : List GenState) (x : Fd) (nv : Value) (s : Bio) (ctx : Addr) (L : List Bool) (p k : Nat) (hk : 1 ≤ k) (h : p + k ≤ L.length) (hL : L.length ≤ 900) :
    Ctr prog (wr w b1 b2) (kt w.params) 700 (lev 700) (.call (.ref 960) ⟨[.ref x.sf, .ref s.self, .ref ctx], []⟩) (sfL x nv k ++ bioL w.params s (bitA L) p) gl gl (α := Tok × Tok) (fun y => .ok (.ret (.bytes (bitA (sub L p k)) y.1))) (fun y => sfU x nv k ++ bioU w.params { s with tp := y.2 } (bitA L) ((p + k : Nat) : Int)) (fun _ => []) := by
  cases b1 <;> (refine Ctr.of_go (NL w.params) (
    owns [(5, 0), (0, 0), (2, 0), (0, 0), (2, 0), (0, 0)] <|
    .stk 0 .enter 1 <|
    owns [(6, 0), (1, 0), (2, 1), (6, 1), (16, 1), (7, 1), (1, 1)] <|
    cRs 4 [3, 4, 5] (bitA L) (bitA (sub L p k)) p k hk (by rw [bitA_size]; exact h) (bitA_fits hL) (sub_ext L p k) (by rw [bitA_size, sub_len h]) <|
    .fin 1 (fun r T => (tokV (valOf r), tokV (entO (objAt T 4) 1).2)) [1, 2, 3, 4, 5] []) ?_
   <;> (intro h dep fr gd un R d os tok b; kernel_rfl))

def cSfp (n : Nat) (is : List Nat) (nv : Value) (L : List Bool) (p k : Nat) (hk : 1 ≤ k) (h : p + k ≤ L.length) (hL : L.length ≤ 900) (r : Hs prog (wr w b1 b2) (kt w.params) α₀) : Hs prog (wr w b1 b2) (kt w.params) α₀ :=
  .cutg n 700 (lev 700) is (Fd × Bio × Addr) (fun c l => (sfX l, bioX (l.drop 2), refV (argA c 2))) (fun y => .call (.ref 960) ⟨[.ref y.1.sf, .ref y.2.1.self, .ref y.2.2], []⟩) (fun y => sfL y.1 nv k ++ bioL w.params y.2.1 (bitA L) p) (Tok × Tok) (fun _ x => .ok (.ret (.bytes (bitA (sub L p k)) x.1)))
    (fun y x => sfU y.1 nv k ++ bioU w.params { y.2.1 with tp := x.2 } (bitA L) ((p + k : Nat) : Int)) (fun _ _ => []) (fun y gl => sfpC w b1 b2 gl y.1 nv y.2.1 y.2.2 L p k hk h hL) (fun _ _ _ _ => r)
def cBi (n : Nat) (l : List Bool) (sg : Bool) (h1 : 1 ≤ l.length) (hl : l.length ≤ 900) (r : Hs prog (wr w b1 b2) (kt w.params) α₀) : Hs prog (wr w b1 b2) (kt w.params) α₀ :=
  .cutg n 820 (lev 820) [] Tok (fun c _ => tokV (argA c 0)) (fun y => .call (.ref 38) ⟨[.bytes (bitA l) y], [(S "signed", .bool sg)]⟩) (fun _ => []) Tok (fun _ t => .ok (.ret (.int (dec sg l) t))) (fun _ _ => []) (fun _ _ => [])
    (fun y gl => biC w b1 b2 gl l y sg h1 hl) (fun _ _ _ _ => r)
def cSw (n : Nat) (l : List Bool) (h : l.length = 8 ∨ l.length = 16) (r : Hs prog (wr w b1 b2) (kt w.params) α₀) : Hs prog (wr w b1 b2) (kt w.params) α₀ :=
  .cutg n 820 (lev 820) [] Tok (fun c _ => tokV (argA c 0)) (fun y => .call (.ref 46) ⟨[.bytes (bitA l) y], [(S "bytesize", .int 8 1662)]⟩) (fun _ => []) Tok (fun _ t => .ok (.ret (.bytes (bitA (swp l)) t))) (fun _ _ => []) (fun _ _ => [])
    (fun y gl => swC w b1 b2 gl l y h) (fun _ _ _ _ => r)
abbrev bhL (x : Fd) (nv : Value) (w : Int) (sw sg : Bool) : List En := [(x.bi, bio x nv w sw sg), (x.dx, dict0)]
abbrev bhU (x : Fd) (nv : Value) (w : Int) (sw sg : Bool) : List Obj := [bio x nv w sw sg, dict0]

theorem bid0 (w : World) (b1 b2 : Bool) (gl : List GenState) (x : Fd) (nv : Value) (k : Int) (sg : Bool) (ctx : Addr) (l : List Bool) (tb : Tok) (h1 : 1 ≤ l.length) (hl : l.length ≤ 900) :
    Ctr prog (wr w b1 b2) (kt w.params) 760 (lev 760) (.call (.ref 1122) ⟨[.ref x.bi, .bytes (bitA l) tb, .ref ctx], []⟩) (bhL x nv k false sg) gl gl (α := Tok) (fun t => .ok (.ret (.int (dec sg l) t))) (fun _ => bhU x nv k false sg) (fun _ => []) := by
  cases b1 <;> (refine Ctr.of_go (NL w.params) (
    owns [(5, 0), (0, 0), (2, 0), (0, 0), (2, 0), (0, 0)] <|
    .stk 0 .enter 1 <|
    owns [(4, 0), (2, 1), (10, 1), (20, 1), (7, 1), (1, 1), (7, 0), (1, 0), (2, 1), (10, 1), (20, 1), (7, 1), (1, 1)] <|
    cBi 5 l sg h1 hl <|
    .fin 1 (fun r _ => tokV (valOf r)) [1, 2] []) ?_
   <;> (intro h dep fr gd un R d os tok b; kernel_rfl))

theorem bid1 (w : World) (b1 b2 : Bool) (gl : List GenState) (x : Fd) (nv : Value) (k : Int) (sg : Bool) (ctx : Addr) (l : List Bool) (tb : Tok) (h1 : 1 ≤ l.length) (hl : l.length ≤ 900) (h : l.length = 8 ∨ l.length = 16) :
    Ctr prog (wr w b1 b2) (kt w.params) 760 (lev 760) (.call (.ref 1122) ⟨[.ref x.bi, .bytes (bitA l) tb, .ref ctx], []⟩) (bhL x nv k true sg) gl gl (α := Tok) (fun t => .ok (.ret (.int (dec sg (swp l)) t))) (fun _ => bhU x nv k true sg) (fun _ => []) := by
  cases b1 <;> (refine Ctr.of_go (NL w.params) (
    owns [(5, 0), (0, 0), (2, 0), (0, 0), (2, 0), (0, 0)] <|
    .stk 0 .enter 1 <|
    owns [(4, 0), (2, 1), (10, 1), (20, 1), (7, 1), (1, 1), (7, 0), (1, 0), (2, 1), (10, 1), (20, 1), (7, 1), (1, 1)] <|
    cSw 5 l h <|
    owns [(5, 0), (0, 0), (5, 0), (1, 0), (2, 1), (10, 1), (20, 1), (7, 1), (1, 1)] <|
    cBi 5 (swp l) sg (by rw [swp_len h]; exact h1) (by rw [swp_len h]; exact hl) <|
    .fin 1 (fun r _ => tokV (valOf r)) [1, 2] []) ?_
   <;> (intro h dep fr gd un R d os tok b; kernel_rfl))

/-- what a field gives of its bits -/
def fv (sw sg : Bool) (l : List Bool) : Int := match sw with
  | true => dec sg (swp l)
  | false => dec sg l
theorem bidC (w : World) (b1 b2 : Bool) (gl : List GenState) (x : Fd) (nv : Value) (k : Int) (sw sg : Bool) (ctx : Addr) (l : List Bool) (tb : Tok) (h1 : 1 ≤ l.length) (hl : l.length ≤ 900) (h : sw = true → l.length = 8 ∨ l.length = 16) :
    Ctr prog (wr w b1 b2) (kt w.params) 760 (lev 760) (.call (.ref 1122) ⟨[.ref x.bi, .bytes (bitA l) tb, .ref ctx], []⟩) (bhL x nv k sw sg) gl gl (α := Tok) (fun t => .ok (.ret (.int (fv sw sg l) t))) (fun _ => bhU x nv k sw sg) (fun _ => []) := by
  cases sw with
  | true => exact bid1 w b1 b2 gl x nv k sg ctx l tb h1 hl (h rfl)
  | false => exact bid0 w b1 b2 gl x nv k sg ctx l tb h1 hl
def cBid (n : Nat) (is : List Nat) (nv : Value) (k : Int) (sw sg : Bool) (l : List Bool) (h1 : 1 ≤ l.length) (hl : l.length ≤ 900) (h : sw = true → l.length = 8 ∨ l.length = 16) (r : Hs prog (wr w b1 b2) (kt w.params) α₀) : Hs prog (wr w b1 b2) (kt w.params) α₀ :=
  .cutg n 760 (lev 760) is (Fd × Tok × Addr) (fun c L => match L with
    | [some (a, o), some (b, _)] => (⟨a, b, refV (sltO o 4), 0, tokV (sltO o 3)⟩, tokV (argA c 1), refV (argA c 2))
    | _ => (⟨0, 0, 0, 0, 0⟩, 0, 0)) (fun y => .call (.ref 1122) ⟨[.ref y.1.bi, .bytes (bitA l) y.2.1, .ref y.2.2], []⟩) (fun y => bhL y.1 nv k sw sg) Tok (fun _ t => .ok (.ret (.int (fv sw sg l) t)))
    (fun y _ => bhU y.1 nv k sw sg) (fun _ _ => []) (fun y gl => bidC w b1 b2 gl y.1 nv k sw sg y.2.2 l y.2.1 h1 hl h) (fun _ _ _ _ => r)

theorem bipC (w : World) (b1 b2 : Bool) (gl : List GenState) (x : Fd) (nv : Value) (s : Bio) (ctx : Addr) (L : List Bool) (p k : Nat) (hk : 1 ≤ k) (h : p + k ≤ L.length) (hL : L.length ≤ 900) (sw sg : Bool) (hsw : sw = true → k = 8 ∨ k = 16) :
    Ctr prog (wr w b1 b2) (kt w.params) 660 (lev 660) (.call (.ref 918) ⟨[.ref x.bi, .ref s.self, .ref ctx], []⟩) (biL x nv k sw sg ++ bioL w.params s (bitA L) p) gl gl (α := Tok × Tok) (fun y => .ok (.ret (.int (fv sw sg (sub L p k)) y.1))) (fun y => biU x nv k sw sg ++ bioU w.params { s with tp := y.2 } (bitA L) ((p + k : Nat) : Int)) (fun _ => []) := by
  cases b1 <;> (refine Ctr.of_go (NL w.params) (
    owns [(5, 0), (0, 0), (2, 0), (0, 0), (2, 0), (0, 0)] <|
    .stk 0 .enter 1 <|
    owns [(4, 0), (1, 1), (9, 1), (9, 1), (4, 1), (0, 2), (2, 0), (2, 1), (10, 1), (24, 1), (7, 1), (1, 1), (3, 3), (5, 3), (5, 3), (4, 3), (0, 4), (2, 0), (1, 0)] <|
    cSfp 2 [3, 4, 5, 6, 7] nv L p k hk h hL <|
    owns [(2, 0)] <|
    cBid 2 [1, 2] nv k sw sg (sub L p k) (by rw [sub_len h]; exact hk) (by rw [sub_len h]; omega) (by rw [sub_len h]; exact hsw) <|
    .fin 1 (fun r T => (tokV (valOf r), tokV (entO (objAt T 6) 1).2)) [1, 2, 3, 4, 5, 6, 7] []) ?_
   <;> (intro h dep fr gd un R d os tok b; kernel_rfl))

theorem padC (w : World) (b1 b2 : Bool) (gl : List GenState) (x : Fd) (tp : Tok) (ctx : Addr) (l : List Bool) (tb : Tok) :
    Ctr prog (wr w b1 b2) (kt w.params) 760 (lev 760) (.call (.ref 1155) ⟨[.ref x.bi, .bytes (bitA l) tb, .ref ctx], []⟩) [(x.bi, pao x tp), (x.dx, dict0)] gl gl (α := Unit) (fun _ => .ok (.ret (.bytes (bitA l) tb))) (fun _ => [pao x tp, dict0]) (fun _ => []) := by
  cases b1 <;> (refine Ctr.of_go (NL w.params) (
    owns [(5, 0), (0, 0), (2, 0), (0, 0), (2, 0), (0, 0)] <|
    .stk 0 .enter 1 <|
    owns [(4, 0), (2, 1), (10, 1), (20, 1), (7, 1), (1, 1), (5, 0)] <|
    .fin 0 (fun _ _ => ()) [1, 2] []) ?_
   <;> (intro h dep fr gd un R d os tok b; kernel_rfl))

def cPad (n : Nat) (is : List Nat) (l : List Bool) (r : Hs prog (wr w b1 b2) (kt w.params) α₀) : Hs prog (wr w b1 b2) (kt w.params) α₀ :=
  .cutg n 760 (lev 760) is (Fd × Tok × Tok × Addr) (fun c L => match L with
    | [some (a, o), some (b, _)] => (⟨a, b, refV (sltO o 2), 0, 0⟩, tokV (sltO o 0), tokV (argA c 1), refV (argA c 2))
    | _ => (⟨0, 0, 0, 0, 0⟩, 0, 0, 0)) (fun y => .call (.ref 1155) ⟨[.ref y.1.bi, .bytes (bitA l) y.2.2.1, .ref y.2.2.2], []⟩) (fun y => [(y.1.bi, pao y.1 y.2.1), (y.1.dx, dict0)]) Unit (fun y _ => .ok (.ret (.bytes (bitA l) y.2.2.1)))
    (fun y _ => [pao y.1 y.2.1, dict0]) (fun _ _ => []) (fun y gl => padC w b1 b2 gl y.1 y.2.1 y.2.2.2 l y.2.2.1) (fun _ _ _ _ => r)

theorem papC (w : World) (b1 b2 : Bool) (gl : List GenState) (x : Fd) (tp : Tok) (s : Bio) (ctx : Addr) (L : List Bool) (p k : Nat) (hk : 1 ≤ k) (h : p + k ≤ L.length) (hL : L.length ≤ 900) :
    Ctr prog (wr w b1 b2) (kt w.params) 660 (lev 660) (.call (.ref 918) ⟨[.ref x.bi, .ref s.self, .ref ctx], []⟩) (paL x tp k ++ bioL w.params s (bitA L) p) gl gl (α := Tok × Tok) (fun y => .ok (.ret (.bytes (bitA (sub L p k)) y.1))) (fun y => paU x tp k ++ bioU w.params { s with tp := y.2 } (bitA L) ((p + k : Nat) : Int)) (fun _ => []) := by
  cases b1 <;> (refine Ctr.of_go (NL w.params) (
    owns [(5, 0), (0, 0), (2, 0), (0, 0), (2, 0), (0, 0)] <|
    .stk 0 .enter 1 <|
    owns [(4, 0), (1, 1), (9, 1), (9, 1), (4, 1), (0, 2), (2, 0), (2, 1), (10, 1), (24, 1), (7, 1), (1, 1), (3, 3), (5, 3), (5, 3), (4, 3), (0, 4), (2, 0), (1, 0)] <|
    cSfp 2 [3, 4, 5, 6, 7] .none L p k hk h hL <|
    owns [(2, 0)] <|
    cPad 2 [1, 2] (sub L p k) <|
    .fin 1 (fun r T => (tokV (valOf r), tokV (entO (objAt T 6) 1).2)) [1, 2, 3, 4, 5, 6, 7] []) ?_
   <;> (intro h dep fr gd un R d os tok b; kernel_rfl))

theorem sfzC (w : World) (b1 b2 : Bool) (gl : List GenState) (x : Fd) (nv : Value) (ctx : Addr) (k : Int) :
    Ctr prog (wr w b1 b2) (kt w.params) 760 (lev 760) (.call (.ref 967) ⟨[.ref x.sf, .ref ctx], []⟩) (sfL x nv k) gl gl (α := Unit) (fun _ => .ok (.ret (.int k x.tw))) (fun _ => sfU x nv k) (fun _ => []) := by
  cases b1 <;> (refine Ctr.of_go (NL w.params) (
    owns [(5, 0), (0, 0), (2, 0), (0, 0)] <|
    .stk 0 .enter 1 <|
    owns [(4, 0), (2, 1), (6, 1), (16, 1), (7, 1), (1, 1)] <|
    .fin 2 (fun _ _ => ()) [1, 2] []) ?_
   <;> (intro h dep fr gd un R d os tok b; kernel_rfl))

def cSfz (n : Nat) (is : List Nat) (nv : Value) (k : Int) (r : Hs prog (wr w b1 b2) (kt w.params) α₀) : Hs prog (wr w b1 b2) (kt w.params) α₀ :=
  .cutg n 760 (lev 760) is (Fd × Addr) (fun c l => (sfX l, refV (argA c 1))) (fun y => .call (.ref 967) ⟨[.ref y.1.sf, .ref y.2], []⟩) (fun y => sfL y.1 nv k) Unit (fun y _ => .ok (.ret (.int k y.1.tw)))
    (fun y _ => sfU y.1 nv k) (fun _ _ => []) (fun y gl => sfzC w b1 b2 gl y.1 nv y.2 k) (fun _ _ _ _ => r)

theorem bizC (w : World) (b1 b2 : Bool) (gl : List GenState) (x : Fd) (nv : Value) (ctx : Addr) (k : Int) (sw sg : Bool) :
    Ctr prog (wr w b1 b2) (kt w.params) 720 (lev 720) (.call (.ref 896) ⟨[.ref x.bi, .ref ctx], []⟩) (biL x nv k sw sg) gl gl (α := Unit) (fun _ => .ok (.ret (.int k x.tw))) (fun _ => biU x nv k sw sg) (fun _ => []) := by
  cases b1 <;> (refine Ctr.of_go (NL w.params) (
    owns [(5, 0), (0, 0), (2, 0), (0, 0)] <|
    .stk 0 .enter 1 <|
    owns [(4, 0), (2, 1), (10, 1), (24, 1), (7, 1), (1, 1), (3, 3), (5, 3), (5, 3), (4, 3), (0, 4), (2, 0)] <|
    cSfz 2 [3, 4] nv k <|
    .fin 1 (fun _ _ => ()) [1, 2, 3, 4] []) ?_
   <;> (intro h dep fr gd un R d os tok b; kernel_rfl))

theorem pazC (w : World) (b1 b2 : Bool) (gl : List GenState) (x : Fd) (tp : Tok) (ctx : Addr) (k : Int) :
    Ctr prog (wr w b1 b2) (kt w.params) 720 (lev 720) (.call (.ref 896) ⟨[.ref x.bi, .ref ctx], []⟩) (paL x tp k) gl gl (α := Unit) (fun _ => .ok (.ret (.int k x.tw))) (fun _ => paU x tp k) (fun _ => []) := by
  cases b1 <;> (refine Ctr.of_go (NL w.params) (
    owns [(5, 0), (0, 0), (2, 0), (0, 0)] <|
    .stk 0 .enter 1 <|
    owns [(4, 0), (2, 1), (10, 1), (24, 1), (7, 1), (1, 1), (3, 3), (5, 3), (5, 3), (4, 3), (0, 4), (2, 0)] <|
    cSfz 2 [3, 4] .none k <|
    .fin 1 (fun _ _ => ()) [1, 2, 3, 4] []) ?_
   <;> (intro h dep fr gd un R d os tok b; kernel_rfl))

end
end Mine
namespace Mine
open PySem PySem.Spec PySem.Calls PyProof.Rows PySem.W PySem.W.X
def bitsOf (B : List UInt8) : List Bool := B.flatMap fun u => bb 8 u.toNat
/-- a def's activation in the stack -/
structure Fc where
  b : List Stmt
  e : Env
  p : Pos
def stk (l : List Fc) (q : Pos) : Stk := match l with
  | [] => [(.builtin "claim.caller" {}, q)]
  | x :: l => (.func x.b x.e, x.p) :: stk l q
def fcX (x : Code × Pos) : Fc := match x.1 with
  | .func b e => ⟨b, e, x.2⟩
  | _ => ⟨[], default, x.2⟩
def posAt (l : Stk) (i : Nat) : Pos := match l[i]? with
  | some x => x.2
  | none => default
def fcAt (l : Stk) (i : Nat) : Fc := match l[i]? with
  | some x => fcX x
  | none => ⟨[], default, default⟩
def ownsX {prog : Program} {w : World} {kt : KT} {α₀ : Type} (l : List (Nat × Nat)) (r : Hx prog w kt α₀) : Hx prog w kt α₀ := match l with
  | [] => r
  | p :: l => .own p.1 p.2 (ownsX l r)
/-- a cut by a contract for any stack -/
def fldA (o : Obj) : Array Value := match o.data with
  | .fields v => v
  | _ => #[]
abbrev meA (v : Array Value) : Obj := ⟨.none, none, .fields v, #[]⟩
def cutT {prog : Program} {w : World} {kt : KT} {α₀ : Type} (n D U : Nat) (idx : List Nat) (β : Type) (ext : Code → List (Option En) → β) (c : β → Code) (pre : β → List En) (α : Type) (res : β → α → Result) (upd : β → α → List Obj) (new : β → α → List En)
    (h : ∀ y gl, Ctr prog w kt D U (c y) (pre y) gl gl (res y) (upd y) (new y)) (r : β → α → Nat → Nat → Hx prog w kt α₀) : Hx prog w kt α₀ :=
  .cut n D U idx (β × List GenState × Stk) (fun c l g s => (ext c l, g, s)) (fun y => c y.1) (fun y => y.2.2) (fun y => pre y.1) (fun y => y.2.1) (fun y => y.2.1) α (fun y => res y.1) (fun y => upd y.1) (fun y => new y.1)
    (fun y => (h y.1 y.2.1).toX y.2.2) (fun y => r y.1)
section
variable {α₀ : Type} {w : World} {b1 b2 : Bool} {gl : List GenState}
def cNewList {prog : Program} {w : World} {kt : KT} (n : Nat) (r : Hs prog w kt α₀) : Hs prog w kt α₀ :=
  .cutg n 900 9000 [] Value (fun c _ => argA c 1) (fun y => .call (.builtin "list.__new__") ⟨[.type "list", y], []⟩) (fun _ => []) Addr (fun _ a => .ok (.ret (.ref a))) (fun _ _ => []) (fun _ a => [(a, lstO #[] 0)])
    (fun y _ => newListC y) (fun _ _ _ _ => r)
def cI2b (n : Nat) (m : Nat) (hm : m < 2 ^ 8) (r : Hs prog (wr w b1 b2) (kt w.params) α₀) : Hs prog (wr w b1 b2) (kt w.params) α₀ :=
  .cutg n 820 (lev 820) [] (Tok × Tok) (fun c _ => (tokV (argA c 0), tokV (argA c 1))) (fun y => .call (.ref 29) ⟨[.int m y.1, .int 8 y.2], []⟩) (fun _ => []) Tok (fun _ t => .ok (.ret (.bytes (bitA (bb 8 m)) t))) (fun _ _ => []) (fun _ _ => [])
    (fun y gl => i2bC w b1 b2 gl m hm y.1 y.2) (fun _ _ _ _ => r)
theorem u8lt (u : UInt8) : u.toNat < 2 ^ 8 := u.toNat_lt
def retE : Stmt → Expr
  | .Return (some e) _ => e
  | _ => default
def callA : Expr → Expr
  | .Call _ (x :: _) _ _ => x
  | _ => default
def genS : Expr → Scope
  | .GeneratorExp _ _ s _ => s
  | _ => default
def geE : Expr := callA (retE (stAt (fBody (topSt 6)) 0))
/-- the objects of a generator, ready to run -/
structure Gn where
  a : Addr
  f : Addr
  it : Addr
  cd : Addr
  k0 : Tok
  t1 : Tok
  t2 : Tok
def geC (y : Gn) : Code := .compStart geE 0 (.ref y.it) .none { scope := genS geE, locals := y.f, globals := 3, cells := [], qual := S "encode_bin.<locals>.<genexpr>.", func := none, code := .ref y.cd, frame := some y.f, builtins := 0 }
abbrev genO (i : Nat) (q : String) (y : Gn) : Obj := ⟨.type "generator", none, .fields #[.int i 0, .str (S "<genexpr>") y.t1, .str (S q) y.t2], #[]⟩
abbrev geL (P : Params) (B : List UInt8) (tb : Tok) (y : Gn) : List En := [(y.a, genO 1 "encode_bin.<locals>.<genexpr>" y), (y.f, frmO [ent P ".0" y.k0 (.ref y.it)] 1), (y.it, bitO B.toArray tb 0)]
def jv : List UInt8 → Nat → (Nat → Tok) → List Value
  | [], _, _ => []
  | u :: r, i, x => .bytes (bitA (bb 8 u.toNat)) (x i) :: jv r (i + 1) x
abbrev LpG (w : World) (b1 b2 : Bool) (l : Addr) (B : List UInt8) (n : Nat) (tb : Tok) (y : Gn) : Prop :=
  Ctr prog (wr w b1 b2) (kt w.params) 790 (lev 790) (.builtin "list.extend.loop" ⟨[.ref l, .ref y.a, .none], []⟩) ((l, lstO #[] 2) :: geL w.params B tb y) [.finished, .fresh (geC y)] [.finished, .finished] (α := (Nat → Tok) × Obj × Obj × Obj) (fun _ => .ok (.ret .none))
    (fun x => [lstO (jv B 0 x.1).toArray n, x.2.1, x.2.2.1, x.2.2.2]) (fun _ => [])
abbrev LiG (w : World) (b1 b2 : Bool) (l : Addr) (B : List UInt8) (n : Nat) (tb : Tok) (y : Gn) : Prop :=
  Ctr prog (wr w b1 b2) (kt w.params) 790 (lev 790) (.builtin "list.__init__" ⟨[.ref l, .ref y.a], []⟩) ((l, lstO #[] 0) :: geL w.params B tb y) [.finished, .fresh (geC y)] [.finished, .finished] (α := (Nat → Tok) × Obj × Obj × Obj) (fun _ => .ok (.ret .none))
    (fun x => [lstO (jv B 0 x.1).toArray n, x.2.1, x.2.2.1, x.2.2.2]) (fun _ => [])
def cLi (k : Nat) (is : List Nat) (B : List UInt8) (n : Nat) (tb : Tok) (y : Gn) (h : ∀ l, LiG w b1 b2 l B n tb y) (r : Hs prog (wr w b1 b2) (kt w.params) α₀) : Hs prog (wr w b1 b2) (kt w.params) α₀ :=
  .cut k 790 (lev 790) is Addr (fun c _ => refV (argA c 0)) (fun l => .builtin "list.__init__" ⟨[.ref l, .ref y.a], []⟩) (fun l => (l, lstO #[] 0) :: geL w.params B tb y) [.finished, .fresh (geC y)] [.finished, .finished] ((Nat → Tok) × Obj × Obj × Obj) (fun _ _ => .ok (.ret .none))
    (fun _ x => [lstO (jv B 0 x.1).toArray n, x.2.1, x.2.2.1, x.2.2.2]) (fun _ _ => []) (fun l => h l) (fun _ _ _ _ => r)
abbrev JnC (w : World) (b1 b2 : Bool) (B : List UInt8) (tb te : Tok) (y : Gn) : Prop :=
  Ctr prog (wr w b1 b2) (kt w.params) 760 (lev 760) (.call (.builtin "bytes.join") ⟨[.bytes #[] te, .ref y.a], []⟩) (geL w.params B tb y) [.finished, .fresh (geC y)] [.finished, .finished] (α := Tok × Obj × Obj × Obj) (fun x => .ok (.ret (.bytes (bitA (bitsOf B)) x.1)))
    (fun x => [x.2.1, x.2.2.1, x.2.2.2]) (fun _ => [])

theorem lg1_true (w : World) (b1 : Bool) (l : Addr) (u0 : UInt8) (tb : Tok) (y : Gn) :
    LpG w b1 true l [u0] 3 tb y := by
  cases b1 <;> (refine Ctr.of_go (NL w.params) (
    owns [(0, 1), (1, 1), (1, 1)] <|
    .stk 1 .wake 1 <|
    owns [(4, 3), (1, 3), (1, 3), (0, 3), (0, 3), (0, 3), (6, 2), (0, 2), (4, 2)] <|
    cI2b 3 u0.toNat (u8lt u0) <|
    owns [(4, 0), (0, 0), (0, 0), (1, 1), (1, 1), (1, 1)] <|
    .stk 1 .wake 1 <|
    owns [(3, 3), (1, 3), (1, 3), (0, 3), (1, 3), (0, 3), (4, 0), (5, 0)] <|
    .fin 0 (fun r T => (fun j => tokV (fldO (objAt T 4) j), objAt T 5, objAt T 6, objAt T 7)) [4, 5, 6, 7] []) ?_
   <;> (intro h dep fr gd un R d os tok b; kernel_rfl))

theorem lg1_false (w : World) (b1 : Bool) (l : Addr) (u0 : UInt8) (tb : Tok) (y : Gn) :
    LpG w b1 false l [u0] 3 tb y := by
  cases b1 <;> (refine Ctr.of_go (NL w.params) (
    owns [(0, 1), (1, 1), (1, 1)] <|
    .stk 1 .wake 1 <|
    owns [(4, 3), (0, 3), (2, 3), (2, 3), (2, 3), (1, 3), (1, 3), (0, 3), (0, 3), (0, 3), (6, 2), (0, 2), (4, 2)] <|
    cI2b 3 u0.toNat (u8lt u0) <|
    owns [(4, 0), (0, 0), (0, 0), (1, 1), (1, 1), (1, 1)] <|
    .stk 1 .wake 1 <|
    owns [(3, 3), (1, 3), (1, 3), (0, 3), (1, 3), (0, 3), (4, 0), (5, 0)] <|
    .fin 0 (fun r T => (fun j => tokV (fldO (objAt T 4) j), objAt T 5, objAt T 6, objAt T 7)) [4, 5, 6, 7] []) ?_
   <;> (intro h dep fr gd un R d os tok b; kernel_rfl))

theorem lg1 (w : World) (b1 b2 : Bool) (l : Addr) (u0 : UInt8) (tb : Tok) (y : Gn) : LpG w b1 b2 l [u0] 3 tb y := by
  cases b2 with
  | true => exact lg1_true w b1 l u0 tb y
  | false => exact lg1_false w b1 l u0 tb y

theorem jn1 (w : World) (b1 b2 : Bool) (u0 : UInt8) (tb te : Tok) (y : Gn) :
    JnC w b1 b2 [u0] tb te y := by
  cases b1 <;> (refine Ctr.of_go (NL w.params) (
    owns [(1, 0), (0, 0), (0, 0), (2, 0), (2, 0)] <|
    cNewList 2 <|
    owns [(0, 0), (0, 0), (1, 0)] <|
    cLi 0 [0, 1, 2, 3] [u0] 3 tb y (fun a => listInitGC a y.a _ rfl _ _ _ (lg1 w _ b2 a u0 tb y)) <|
    owns [(2, 0)] <|
    .fin 1 (fun r T => (tokV (valOf r), objAt T 1, objAt T 2, objAt T 3)) [1, 2, 3] []) ?_
   <;> (intro h dep fr gd un R d os tok b; kernel_rfl))

theorem lg2_true (w : World) (b1 : Bool) (l : Addr) (u0 u1 : UInt8) (tb : Tok) (y : Gn) :
    LpG w b1 true l [u0, u1] 4 tb y := by
  cases b1 <;> (refine Ctr.of_go (NL w.params) (
    owns [(0, 1), (1, 1), (1, 1)] <|
    .stk 1 .wake 1 <|
    owns [(4, 3), (1, 3), (1, 3), (0, 3), (0, 3), (0, 3), (6, 2), (0, 2), (4, 2)] <|
    cI2b 3 u0.toNat (u8lt u0) <|
    owns [(4, 0), (0, 0), (0, 0), (1, 1), (1, 1), (1, 1)] <|
    .stk 1 .wake 1 <|
    owns [(3, 3), (1, 3), (1, 3), (0, 3), (0, 3), (0, 3), (6, 2), (0, 2), (4, 2)] <|
    cI2b 3 u1.toNat (u8lt u1) <|
    owns [(4, 0), (0, 0), (0, 0), (1, 1), (1, 1), (1, 1)] <|
    .stk 1 .wake 1 <|
    owns [(3, 3), (1, 3), (1, 3), (0, 3), (1, 3), (0, 3), (4, 0), (5, 0)] <|
    .fin 0 (fun r T => (fun j => tokV (fldO (objAt T 4) j), objAt T 5, objAt T 6, objAt T 7)) [4, 5, 6, 7] []) ?_
   <;> (intro h dep fr gd un R d os tok b; kernel_rfl))

theorem lg2_false (w : World) (b1 : Bool) (l : Addr) (u0 u1 : UInt8) (tb : Tok) (y : Gn) :
    LpG w b1 false l [u0, u1] 4 tb y := by
  cases b1 <;> (refine Ctr.of_go (NL w.params) (
    owns [(0, 1), (1, 1), (1, 1)] <|
    .stk 1 .wake 1 <|
    owns [(4, 3), (0, 3), (2, 3), (2, 3), (2, 3), (1, 3), (1, 3), (0, 3), (0, 3), (0, 3), (6, 2), (0, 2), (4, 2)] <|
    cI2b 3 u0.toNat (u8lt u0) <|
    owns [(4, 0), (0, 0), (0, 0), (1, 1), (1, 1), (1, 1)] <|
    .stk 1 .wake 1 <|
    owns [(3, 3), (1, 3), (1, 3), (0, 3), (0, 3), (0, 3), (6, 2), (0, 2), (4, 2)] <|
    cI2b 3 u1.toNat (u8lt u1) <|
    owns [(4, 0), (0, 0), (0, 0), (1, 1), (1, 1), (1, 1)] <|
    .stk 1 .wake 1 <|
    owns [(3, 3), (1, 3), (1, 3), (0, 3), (1, 3), (0, 3), (4, 0), (5, 0)] <|
    .fin 0 (fun r T => (fun j => tokV (fldO (objAt T 4) j), objAt T 5, objAt T 6, objAt T 7)) [4, 5, 6, 7] []) ?_
   <;> (intro h dep fr gd un R d os tok b; kernel_rfl))

theorem lg2 (w : World) (b1 b2 : Bool) (l : Addr) (u0 u1 : UInt8) (tb : Tok) (y : Gn) : LpG w b1 b2 l [u0, u1] 4 tb y := by
  cases b2 with
  | true => exact lg2_true w b1 l u0 u1 tb y
  | false => exact lg2_false w b1 l u0 u1 tb y

theorem jn2 (w : World) (b1 b2 : Bool) (u0 u1 : UInt8) (tb te : Tok) (y : Gn) :
    JnC w b1 b2 [u0, u1] tb te y := by
  cases b1 <;> (refine Ctr.of_go (NL w.params) (
    owns [(1, 0), (0, 0), (0, 0), (2, 0), (2, 0)] <|
    cNewList 2 <|
    owns [(0, 0), (0, 0), (1, 0)] <|
    cLi 0 [0, 1, 2, 3] [u0, u1] 4 tb y (fun a => listInitGC a y.a _ rfl _ _ _ (lg2 w _ b2 a u0 u1 tb y)) <|
    owns [(2, 0), (0, 0), (0, 0), (0, 0), (0, 0)] <|
    .fin 4 (fun r T => (tokV (valOf r), objAt T 1, objAt T 2, objAt T 3)) [1, 2, 3] []) ?_
   <;> (intro h dep fr gd un R d os tok b; kernel_rfl))

theorem lg3_true (w : World) (b1 : Bool) (l : Addr) (u0 u1 u2 : UInt8) (tb : Tok) (y : Gn) :
    LpG w b1 true l [u0, u1, u2] 5 tb y := by
  cases b1 <;> (refine Ctr.of_go (NL w.params) (
    owns [(0, 1), (1, 1), (1, 1)] <|
    .stk 1 .wake 1 <|
    owns [(4, 3), (1, 3), (1, 3), (0, 3), (0, 3), (0, 3), (6, 2), (0, 2), (4, 2)] <|
    cI2b 3 u0.toNat (u8lt u0) <|
    owns [(4, 0), (0, 0), (0, 0), (1, 1), (1, 1), (1, 1)] <|
    .stk 1 .wake 1 <|
    owns [(3, 3), (1, 3), (1, 3), (0, 3), (0, 3), (0, 3), (6, 2), (0, 2), (4, 2)] <|
    cI2b 3 u1.toNat (u8lt u1) <|
    owns [(4, 0), (0, 0), (0, 0), (1, 1), (1, 1), (1, 1)] <|
    .stk 1 .wake 1 <|
    owns [(3, 3), (1, 3), (1, 3), (0, 3), (0, 3), (0, 3), (6, 2), (0, 2), (4, 2)] <|
    cI2b 3 u2.toNat (u8lt u2) <|
    owns [(4, 0), (0, 0), (0, 0), (1, 1), (1, 1), (1, 1)] <|
    .stk 1 .wake 1 <|
    owns [(3, 3), (1, 3), (1, 3), (0, 3), (1, 3), (0, 3), (4, 0), (5, 0)] <|
    .fin 0 (fun r T => (fun j => tokV (fldO (objAt T 4) j), objAt T 5, objAt T 6, objAt T 7)) [4, 5, 6, 7] []) ?_
   <;> (intro h dep fr gd un R d os tok b; kernel_rfl))

theorem lg3_false (w : World) (b1 : Bool) (l : Addr) (u0 u1 u2 : UInt8) (tb : Tok) (y : Gn) :
    LpG w b1 false l [u0, u1, u2] 5 tb y := by
  cases b1 <;> (refine Ctr.of_go (NL w.params) (
    owns [(0, 1), (1, 1), (1, 1)] <|
    .stk 1 .wake 1 <|
    owns [(4, 3), (0, 3), (2, 3), (2, 3), (2, 3), (1, 3), (1, 3), (0, 3), (0, 3), (0, 3), (6, 2), (0, 2), (4, 2)] <|
    cI2b 3 u0.toNat (u8lt u0) <|
    owns [(4, 0), (0, 0), (0, 0), (1, 1), (1, 1), (1, 1)] <|
    .stk 1 .wake 1 <|
    owns [(3, 3), (1, 3), (1, 3), (0, 3), (0, 3), (0, 3), (6, 2), (0, 2), (4, 2)] <|
    cI2b 3 u1.toNat (u8lt u1) <|
    owns [(4, 0), (0, 0), (0, 0), (1, 1), (1, 1), (1, 1)] <|
    .stk 1 .wake 1 <|
    owns [(3, 3), (1, 3), (1, 3), (0, 3), (0, 3), (0, 3), (6, 2), (0, 2), (4, 2)] <|
    cI2b 3 u2.toNat (u8lt u2) <|
    owns [(4, 0), (0, 0), (0, 0), (1, 1), (1, 1), (1, 1)] <|
    .stk 1 .wake 1 <|
    owns [(3, 3), (1, 3), (1, 3), (0, 3), (1, 3), (0, 3), (4, 0), (5, 0)] <|
    .fin 0 (fun r T => (fun j => tokV (fldO (objAt T 4) j), objAt T 5, objAt T 6, objAt T 7)) [4, 5, 6, 7] []) ?_
   <;> (intro h dep fr gd un R d os tok b; kernel_rfl))

theorem lg3 (w : World) (b1 b2 : Bool) (l : Addr) (u0 u1 u2 : UInt8) (tb : Tok) (y : Gn) : LpG w b1 b2 l [u0, u1, u2] 5 tb y := by
  cases b2 with
  | true => exact lg3_true w b1 l u0 u1 u2 tb y
  | false => exact lg3_false w b1 l u0 u1 u2 tb y

theorem jn3 (w : World) (b1 b2 : Bool) (u0 u1 u2 : UInt8) (tb te : Tok) (y : Gn) :
    JnC w b1 b2 [u0, u1, u2] tb te y := by
  cases b1 <;> (refine Ctr.of_go (NL w.params) (
    owns [(1, 0), (0, 0), (0, 0), (2, 0), (2, 0)] <|
    cNewList 2 <|
    owns [(0, 0), (0, 0), (1, 0)] <|
    cLi 0 [0, 1, 2, 3] [u0, u1, u2] 5 tb y (fun a => listInitGC a y.a _ rfl _ _ _ (lg3 w _ b2 a u0 u1 u2 tb y)) <|
    owns [(2, 0), (0, 0), (0, 0), (0, 0), (0, 0), (0, 0), (0, 0)] <|
    .fin 5 (fun r T => (tokV (valOf r), objAt T 1, objAt T 2, objAt T 3)) [1, 2, 3] []) ?_
   <;> (intro h dep fr gd un R d os tok b; kernel_rfl))

theorem lg4_true (w : World) (b1 : Bool) (l : Addr) (u0 u1 u2 u3 : UInt8) (tb : Tok) (y : Gn) :
    LpG w b1 true l [u0, u1, u2, u3] 6 tb y := by
  cases b1 <;> (refine Ctr.of_go (NL w.params) (
    owns [(0, 1), (1, 1), (1, 1)] <|
    .stk 1 .wake 1 <|
    owns [(4, 3), (1, 3), (1, 3), (0, 3), (0, 3), (0, 3), (6, 2), (0, 2), (4, 2)] <|
    cI2b 3 u0.toNat (u8lt u0) <|
    owns [(4, 0), (0, 0), (0, 0), (1, 1), (1, 1), (1, 1)] <|
    .stk 1 .wake 1 <|
    owns [(3, 3), (1, 3), (1, 3), (0, 3), (0, 3), (0, 3), (6, 2), (0, 2), (4, 2)] <|
    cI2b 3 u1.toNat (u8lt u1) <|
    owns [(4, 0), (0, 0), (0, 0), (1, 1), (1, 1), (1, 1)] <|
    .stk 1 .wake 1 <|
    owns [(3, 3), (1, 3), (1, 3), (0, 3), (0, 3), (0, 3), (6, 2), (0, 2), (4, 2)] <|
    cI2b 3 u2.toNat (u8lt u2) <|
    owns [(4, 0), (0, 0), (0, 0), (1, 1), (1, 1), (1, 1)] <|
    .stk 1 .wake 1 <|
    owns [(3, 3), (1, 3), (1, 3), (0, 3), (0, 3), (0, 3), (6, 2), (0, 2), (4, 2)] <|
    cI2b 3 u3.toNat (u8lt u3) <|
    owns [(4, 0), (0, 0), (0, 0), (1, 1), (1, 1), (1, 1)] <|
    .stk 1 .wake 1 <|
    owns [(3, 3), (1, 3), (1, 3), (0, 3), (1, 3), (0, 3), (4, 0), (5, 0)] <|
    .fin 0 (fun r T => (fun j => tokV (fldO (objAt T 4) j), objAt T 5, objAt T 6, objAt T 7)) [4, 5, 6, 7] []) ?_
   <;> (intro h dep fr gd un R d os tok b; kernel_rfl))

theorem lg4_false (w : World) (b1 : Bool) (l : Addr) (u0 u1 u2 u3 : UInt8) (tb : Tok) (y : Gn) :
    LpG w b1 false l [u0, u1, u2, u3] 6 tb y := by
  cases b1 <;> (refine Ctr.of_go (NL w.params) (
    owns [(0, 1), (1, 1), (1, 1)] <|
    .stk 1 .wake 1 <|
    owns [(4, 3), (0, 3), (2, 3), (2, 3), (2, 3), (1, 3), (1, 3), (0, 3), (0, 3), (0, 3), (6, 2), (0, 2), (4, 2)] <|
    cI2b 3 u0.toNat (u8lt u0) <|
    owns [(4, 0), (0, 0), (0, 0), (1, 1), (1, 1), (1, 1)] <|
    .stk 1 .wake 1 <|
    owns [(3, 3), (1, 3), (1, 3), (0, 3), (0, 3), (0, 3), (6, 2), (0, 2), (4, 2)] <|
    cI2b 3 u1.toNat (u8lt u1) <|
    owns [(4, 0), (0, 0), (0, 0), (1, 1), (1, 1), (1, 1)] <|
    .stk 1 .wake 1 <|
    owns [(3, 3), (1, 3), (1, 3), (0, 3), (0, 3), (0, 3), (6, 2), (0, 2), (4, 2)] <|
    cI2b 3 u2.toNat (u8lt u2) <|
    owns [(4, 0), (0, 0), (0, 0), (1, 1), (1, 1), (1, 1)] <|
    .stk 1 .wake 1 <|
    owns [(3, 3), (1, 3), (1, 3), (0, 3), (0, 3), (0, 3), (6, 2), (0, 2), (4, 2)] <|
    cI2b 3 u3.toNat (u8lt u3) <|
    owns [(4, 0), (0, 0), (0, 0), (1, 1), (1, 1), (1, 1)] <|
    .stk 1 .wake 1 <|
    owns [(3, 3), (1, 3), (1, 3), (0, 3), (1, 3), (0, 3), (4, 0), (5, 0)] <|
    .fin 0 (fun r T => (fun j => tokV (fldO (objAt T 4) j), objAt T 5, objAt T 6, objAt T 7)) [4, 5, 6, 7] []) ?_
   <;> (intro h dep fr gd un R d os tok b; kernel_rfl))

theorem lg4 (w : World) (b1 b2 : Bool) (l : Addr) (u0 u1 u2 u3 : UInt8) (tb : Tok) (y : Gn) : LpG w b1 b2 l [u0, u1, u2, u3] 6 tb y := by
  cases b2 with
  | true => exact lg4_true w b1 l u0 u1 u2 u3 tb y
  | false => exact lg4_false w b1 l u0 u1 u2 u3 tb y

theorem jn4 (w : World) (b1 b2 : Bool) (u0 u1 u2 u3 : UInt8) (tb te : Tok) (y : Gn) :
    JnC w b1 b2 [u0, u1, u2, u3] tb te y := by
  cases b1 <;> (refine Ctr.of_go (NL w.params) (
    owns [(1, 0), (0, 0), (0, 0), (2, 0), (2, 0)] <|
    cNewList 2 <|
    owns [(0, 0), (0, 0), (1, 0)] <|
    cLi 0 [0, 1, 2, 3] [u0, u1, u2, u3] 6 tb y (fun a => listInitGC a y.a _ rfl _ _ _ (lg4 w _ b2 a u0 u1 u2 u3 tb y)) <|
    owns [(2, 0), (0, 0), (0, 0), (0, 0), (0, 0), (0, 0), (0, 0), (0, 0), (0, 0)] <|
    .fin 6 (fun r T => (tokV (valOf r), objAt T 1, objAt T 2, objAt T 3)) [1, 2, 3] []) ?_
   <;> (intro h dep fr gd un R d os tok b; kernel_rfl))

theorem lg5_true (w : World) (b1 : Bool) (l : Addr) (u0 u1 u2 u3 u4 : UInt8) (tb : Tok) (y : Gn) :
    LpG w b1 true l [u0, u1, u2, u3, u4] 7 tb y := by
  cases b1 <;> (refine Ctr.of_go (NL w.params) (
    owns [(0, 1), (1, 1), (1, 1)] <|
    .stk 1 .wake 1 <|
    owns [(4, 3), (1, 3), (1, 3), (0, 3), (0, 3), (0, 3), (6, 2), (0, 2), (4, 2)] <|
    cI2b 3 u0.toNat (u8lt u0) <|
    owns [(4, 0), (0, 0), (0, 0), (1, 1), (1, 1), (1, 1)] <|
    .stk 1 .wake 1 <|
    owns [(3, 3), (1, 3), (1, 3), (0, 3), (0, 3), (0, 3), (6, 2), (0, 2), (4, 2)] <|
    cI2b 3 u1.toNat (u8lt u1) <|
    owns [(4, 0), (0, 0), (0, 0), (1, 1), (1, 1), (1, 1)] <|
    .stk 1 .wake 1 <|
    owns [(3, 3), (1, 3), (1, 3), (0, 3), (0, 3), (0, 3), (6, 2), (0, 2), (4, 2)] <|
    cI2b 3 u2.toNat (u8lt u2) <|
    owns [(4, 0), (0, 0), (0, 0), (1, 1), (1, 1), (1, 1)] <|
    .stk 1 .wake 1 <|
    owns [(3, 3), (1, 3), (1, 3), (0, 3), (0, 3), (0, 3), (6, 2), (0, 2), (4, 2)] <|
    cI2b 3 u3.toNat (u8lt u3) <|
    owns [(4, 0), (0, 0), (0, 0), (1, 1), (1, 1), (1, 1)] <|
    .stk 1 .wake 1 <|
    owns [(3, 3), (1, 3), (1, 3), (0, 3), (0, 3), (0, 3), (6, 2), (0, 2), (4, 2)] <|
    cI2b 3 u4.toNat (u8lt u4) <|
    owns [(4, 0), (0, 0), (0, 0), (1, 1), (1, 1), (1, 1)] <|
    .stk 1 .wake 1 <|
    owns [(3, 3), (1, 3), (1, 3), (0, 3), (1, 3), (0, 3), (4, 0), (5, 0)] <|
    .fin 0 (fun r T => (fun j => tokV (fldO (objAt T 4) j), objAt T 5, objAt T 6, objAt T 7)) [4, 5, 6, 7] []) ?_
   <;> (intro h dep fr gd un R d os tok b; kernel_rfl))

theorem lg5_false (w : World) (b1 : Bool) (l : Addr) (u0 u1 u2 u3 u4 : UInt8) (tb : Tok) (y : Gn) :
    LpG w b1 false l [u0, u1, u2, u3, u4] 7 tb y := by
  cases b1 <;> (refine Ctr.of_go (NL w.params) (
    owns [(0, 1), (1, 1), (1, 1)] <|
    .stk 1 .wake 1 <|
    owns [(4, 3), (0, 3), (2, 3), (2, 3), (2, 3), (1, 3), (1, 3), (0, 3), (0, 3), (0, 3), (6, 2), (0, 2), (4, 2)] <|
    cI2b 3 u0.toNat (u8lt u0) <|
    owns [(4, 0), (0, 0), (0, 0), (1, 1), (1, 1), (1, 1)] <|
    .stk 1 .wake 1 <|
    owns [(3, 3), (1, 3), (1, 3), (0, 3), (0, 3), (0, 3), (6, 2), (0, 2), (4, 2)] <|
    cI2b 3 u1.toNat (u8lt u1) <|
    owns [(4, 0), (0, 0), (0, 0), (1, 1), (1, 1), (1, 1)] <|
    .stk 1 .wake 1 <|
    owns [(3, 3), (1, 3), (1, 3), (0, 3), (0, 3), (0, 3), (6, 2), (0, 2), (4, 2)] <|
    cI2b 3 u2.toNat (u8lt u2) <|
    owns [(4, 0), (0, 0), (0, 0), (1, 1), (1, 1), (1, 1)] <|
    .stk 1 .wake 1 <|
    owns [(3, 3), (1, 3), (1, 3), (0, 3), (0, 3), (0, 3), (6, 2), (0, 2), (4, 2)] <|
    cI2b 3 u3.toNat (u8lt u3) <|
    owns [(4, 0), (0, 0), (0, 0), (1, 1), (1, 1), (1, 1)] <|
    .stk 1 .wake 1 <|
    owns [(3, 3), (1, 3), (1, 3), (0, 3), (0, 3), (0, 3), (6, 2), (0, 2), (4, 2)] <|
    cI2b 3 u4.toNat (u8lt u4) <|
    owns [(4, 0), (0, 0), (0, 0), (1, 1), (1, 1), (1, 1)] <|
    .stk 1 .wake 1 <|
    owns [(3, 3), (1, 3), (1, 3), (0, 3), (1, 3), (0, 3), (4, 0), (5, 0)] <|
    .fin 0 (fun r T => (fun j => tokV (fldO (objAt T 4) j), objAt T 5, objAt T 6, objAt T 7)) [4, 5, 6, 7] []) ?_
   <;> (intro h dep fr gd un R d os tok b; kernel_rfl))

theorem lg5 (w : World) (b1 b2 : Bool) (l : Addr) (u0 u1 u2 u3 u4 : UInt8) (tb : Tok) (y : Gn) : LpG w b1 b2 l [u0, u1, u2, u3, u4] 7 tb y := by
  cases b2 with
  | true => exact lg5_true w b1 l u0 u1 u2 u3 u4 tb y
  | false => exact lg5_false w b1 l u0 u1 u2 u3 u4 tb y

theorem jn5 (w : World) (b1 b2 : Bool) (u0 u1 u2 u3 u4 : UInt8) (tb te : Tok) (y : Gn) :
    JnC w b1 b2 [u0, u1, u2, u3, u4] tb te y := by
  cases b1 <;> (refine Ctr.of_go (NL w.params) (
    owns [(1, 0), (0, 0), (0, 0), (2, 0), (2, 0)] <|
    cNewList 2 <|
    owns [(0, 0), (0, 0), (1, 0)] <|
    cLi 0 [0, 1, 2, 3] [u0, u1, u2, u3, u4] 7 tb y (fun a => listInitGC a y.a _ rfl _ _ _ (lg5 w _ b2 a u0 u1 u2 u3 u4 tb y)) <|
    owns [(2, 0), (0, 0), (0, 0), (0, 0), (0, 0), (0, 0), (0, 0), (0, 0), (0, 0), (0, 0), (0, 0)] <|
    .fin 7 (fun r T => (tokV (valOf r), objAt T 1, objAt T 2, objAt T 3)) [1, 2, 3] []) ?_
   <;> (intro h dep fr gd un R d os tok b; kernel_rfl))

theorem lg6_true (w : World) (b1 : Bool) (l : Addr) (u0 u1 u2 u3 u4 u5 : UInt8) (tb : Tok) (y : Gn) :
    LpG w b1 true l [u0, u1, u2, u3, u4, u5] 8 tb y := by
  cases b1 <;> (refine Ctr.of_go (NL w.params) (
    owns [(0, 1), (1, 1), (1, 1)] <|
    .stk 1 .wake 1 <|
    owns [(4, 3), (1, 3), (1, 3), (0, 3), (0, 3), (0, 3), (6, 2), (0, 2), (4, 2)] <|
    cI2b 3 u0.toNat (u8lt u0) <|
    owns [(4, 0), (0, 0), (0, 0), (1, 1), (1, 1), (1, 1)] <|
    .stk 1 .wake 1 <|
    owns [(3, 3), (1, 3), (1, 3), (0, 3), (0, 3), (0, 3), (6, 2), (0, 2), (4, 2)] <|
    cI2b 3 u1.toNat (u8lt u1) <|
    owns [(4, 0), (0, 0), (0, 0), (1, 1), (1, 1), (1, 1)] <|
    .stk 1 .wake 1 <|
    owns [(3, 3), (1, 3), (1, 3), (0, 3), (0, 3), (0, 3), (6, 2), (0, 2), (4, 2)] <|
    cI2b 3 u2.toNat (u8lt u2) <|
    owns [(4, 0), (0, 0), (0, 0), (1, 1), (1, 1), (1, 1)] <|
    .stk 1 .wake 1 <|
    owns [(3, 3), (1, 3), (1, 3), (0, 3), (0, 3), (0, 3), (6, 2), (0, 2), (4, 2)] <|
    cI2b 3 u3.toNat (u8lt u3) <|
    owns [(4, 0), (0, 0), (0, 0), (1, 1), (1, 1), (1, 1)] <|
    .stk 1 .wake 1 <|
    owns [(3, 3), (1, 3), (1, 3), (0, 3), (0, 3), (0, 3), (6, 2), (0, 2), (4, 2)] <|
    cI2b 3 u4.toNat (u8lt u4) <|
    owns [(4, 0), (0, 0), (0, 0), (1, 1), (1, 1), (1, 1)] <|
    .stk 1 .wake 1 <|
    owns [(3, 3), (1, 3), (1, 3), (0, 3), (0, 3), (0, 3), (6, 2), (0, 2), (4, 2)] <|
    cI2b 3 u5.toNat (u8lt u5) <|
    owns [(4, 0), (0, 0), (0, 0), (1, 1), (1, 1), (1, 1)] <|
    .stk 1 .wake 1 <|
    owns [(3, 3), (1, 3), (1, 3), (0, 3), (1, 3), (0, 3), (4, 0), (5, 0)] <|
    .fin 0 (fun r T => (fun j => tokV (fldO (objAt T 4) j), objAt T 5, objAt T 6, objAt T 7)) [4, 5, 6, 7] []) ?_
   <;> (intro h dep fr gd un R d os tok b; kernel_rfl))

theorem lg6_false (w : World) (b1 : Bool) (l : Addr) (u0 u1 u2 u3 u4 u5 : UInt8) (tb : Tok) (y : Gn) :
    LpG w b1 false l [u0, u1, u2, u3, u4, u5] 8 tb y := by
  cases b1 <;> (refine Ctr.of_go (NL w.params) (
    owns [(0, 1), (1, 1), (1, 1)] <|
    .stk 1 .wake 1 <|
    owns [(4, 3), (0, 3), (2, 3), (2, 3), (2, 3), (1, 3), (1, 3), (0, 3), (0, 3), (0, 3), (6, 2), (0, 2), (4, 2)] <|
    cI2b 3 u0.toNat (u8lt u0) <|
    owns [(4, 0), (0, 0), (0, 0), (1, 1), (1, 1), (1, 1)] <|
    .stk 1 .wake 1 <|
    owns [(3, 3), (1, 3), (1, 3), (0, 3), (0, 3), (0, 3), (6, 2), (0, 2), (4, 2)] <|
    cI2b 3 u1.toNat (u8lt u1) <|
    owns [(4, 0), (0, 0), (0, 0), (1, 1), (1, 1), (1, 1)] <|
    .stk 1 .wake 1 <|
    owns [(3, 3), (1, 3), (1, 3), (0, 3), (0, 3), (0, 3), (6, 2), (0, 2), (4, 2)] <|
    cI2b 3 u2.toNat (u8lt u2) <|
    owns [(4, 0), (0, 0), (0, 0), (1, 1), (1, 1), (1, 1)] <|
    .stk 1 .wake 1 <|
    owns [(3, 3), (1, 3), (1, 3), (0, 3), (0, 3), (0, 3), (6, 2), (0, 2), (4, 2)] <|
    cI2b 3 u3.toNat (u8lt u3) <|
    owns [(4, 0), (0, 0), (0, 0), (1, 1), (1, 1), (1, 1)] <|
    .stk 1 .wake 1 <|
    owns [(3, 3), (1, 3), (1, 3), (0, 3), (0, 3), (0, 3), (6, 2), (0, 2), (4, 2)] <|
    cI2b 3 u4.toNat (u8lt u4) <|
    owns [(4, 0), (0, 0), (0, 0), (1, 1), (1, 1), (1, 1)] <|
    .stk 1 .wake 1 <|
    owns [(3, 3), (1, 3), (1, 3), (0, 3), (0, 3), (0, 3), (6, 2), (0, 2), (4, 2)] <|
    cI2b 3 u5.toNat (u8lt u5) <|
    owns [(4, 0), (0, 0), (0, 0), (1, 1), (1, 1), (1, 1)] <|
    .stk 1 .wake 1 <|
    owns [(3, 3), (1, 3), (1, 3), (0, 3), (1, 3), (0, 3), (4, 0), (5, 0)] <|
    .fin 0 (fun r T => (fun j => tokV (fldO (objAt T 4) j), objAt T 5, objAt T 6, objAt T 7)) [4, 5, 6, 7] []) ?_
   <;> (intro h dep fr gd un R d os tok b; kernel_rfl))

theorem lg6 (w : World) (b1 b2 : Bool) (l : Addr) (u0 u1 u2 u3 u4 u5 : UInt8) (tb : Tok) (y : Gn) : LpG w b1 b2 l [u0, u1, u2, u3, u4, u5] 8 tb y := by
  cases b2 with
  | true => exact lg6_true w b1 l u0 u1 u2 u3 u4 u5 tb y
  | false => exact lg6_false w b1 l u0 u1 u2 u3 u4 u5 tb y

theorem jn6 (w : World) (b1 b2 : Bool) (u0 u1 u2 u3 u4 u5 : UInt8) (tb te : Tok) (y : Gn) :
    JnC w b1 b2 [u0, u1, u2, u3, u4, u5] tb te y := by
  cases b1 <;> (refine Ctr.of_go (NL w.params) (
    owns [(1, 0), (0, 0), (0, 0), (2, 0), (2, 0)] <|
    cNewList 2 <|
    owns [(0, 0), (0, 0), (1, 0)] <|
    cLi 0 [0, 1, 2, 3] [u0, u1, u2, u3, u4, u5] 8 tb y (fun a => listInitGC a y.a _ rfl _ _ _ (lg6 w _ b2 a u0 u1 u2 u3 u4 u5 tb y)) <|
    owns [(2, 0), (0, 0), (0, 0), (0, 0), (0, 0), (0, 0), (0, 0), (0, 0), (0, 0), (0, 0), (0, 0), (0, 0), (0, 0)] <|
    .fin 8 (fun r T => (tokV (valOf r), objAt T 1, objAt T 2, objAt T 3)) [1, 2, 3] []) ?_
   <;> (intro h dep fr gd un R d os tok b; kernel_rfl))

theorem lg7_true (w : World) (b1 : Bool) (l : Addr) (u0 u1 u2 u3 u4 u5 u6 : UInt8) (tb : Tok) (y : Gn) :
    LpG w b1 true l [u0, u1, u2, u3, u4, u5, u6] 9 tb y := by
  cases b1 <;> (refine Ctr.of_go (NL w.params) (
    owns [(0, 1), (1, 1), (1, 1)] <|
    .stk 1 .wake 1 <|
    owns [(4, 3), (1, 3), (1, 3), (0, 3), (0, 3), (0, 3), (6, 2), (0, 2), (4, 2)] <|
    cI2b 3 u0.toNat (u8lt u0) <|
    owns [(4, 0), (0, 0), (0, 0), (1, 1), (1, 1), (1, 1)] <|
    .stk 1 .wake 1 <|
    owns [(3, 3), (1, 3), (1, 3), (0, 3), (0, 3), (0, 3), (6, 2), (0, 2), (4, 2)] <|
    cI2b 3 u1.toNat (u8lt u1) <|
    owns [(4, 0), (0, 0), (0, 0), (1, 1), (1, 1), (1, 1)] <|
    .stk 1 .wake 1 <|
    owns [(3, 3), (1, 3), (1, 3), (0, 3), (0, 3), (0, 3), (6, 2), (0, 2), (4, 2)] <|
    cI2b 3 u2.toNat (u8lt u2) <|
    owns [(4, 0), (0, 0), (0, 0), (1, 1), (1, 1), (1, 1)] <|
    .stk 1 .wake 1 <|
    owns [(3, 3), (1, 3), (1, 3), (0, 3), (0, 3), (0, 3), (6, 2), (0, 2), (4, 2)] <|
    cI2b 3 u3.toNat (u8lt u3) <|
    owns [(4, 0), (0, 0), (0, 0), (1, 1), (1, 1), (1, 1)] <|
    .stk 1 .wake 1 <|
    owns [(3, 3), (1, 3), (1, 3), (0, 3), (0, 3), (0, 3), (6, 2), (0, 2), (4, 2)] <|
    cI2b 3 u4.toNat (u8lt u4) <|
    owns [(4, 0), (0, 0), (0, 0), (1, 1), (1, 1), (1, 1)] <|
    .stk 1 .wake 1 <|
    owns [(3, 3), (1, 3), (1, 3), (0, 3), (0, 3), (0, 3), (6, 2), (0, 2), (4, 2)] <|
    cI2b 3 u5.toNat (u8lt u5) <|
    owns [(4, 0), (0, 0), (0, 0), (1, 1), (1, 1), (1, 1)] <|
    .stk 1 .wake 1 <|
    owns [(3, 3), (1, 3), (1, 3), (0, 3), (0, 3), (0, 3), (6, 2), (0, 2), (4, 2)] <|
    cI2b 3 u6.toNat (u8lt u6) <|
    owns [(4, 0), (0, 0), (0, 0), (1, 1), (1, 1), (1, 1)] <|
    .stk 1 .wake 1 <|
    owns [(3, 3), (1, 3), (1, 3), (0, 3), (1, 3), (0, 3), (4, 0), (5, 0)] <|
    .fin 0 (fun r T => (fun j => tokV (fldO (objAt T 4) j), objAt T 5, objAt T 6, objAt T 7)) [4, 5, 6, 7] []) ?_
   <;> (intro h dep fr gd un R d os tok b; kernel_rfl))

theorem lg7_false (w : World) (b1 : Bool) (l : Addr) (u0 u1 u2 u3 u4 u5 u6 : UInt8) (tb : Tok) (y : Gn) :
    LpG w b1 false l [u0, u1, u2, u3, u4, u5, u6] 9 tb y := by
  cases b1 <;> (refine Ctr.of_go (NL w.params) (
    owns [(0, 1), (1, 1), (1, 1)] <|
    .stk 1 .wake 1 <|
    owns [(4, 3), (0, 3), (2, 3), (2, 3), (2, 3), (1, 3), (1, 3), (0, 3), (0, 3), (0, 3), (6, 2), (0, 2), (4, 2)] <|
    cI2b 3 u0.toNat (u8lt u0) <|
    owns [(4, 0), (0, 0), (0, 0), (1, 1), (1, 1), (1, 1)] <|
    .stk 1 .wake 1 <|
    owns [(3, 3), (1, 3), (1, 3), (0, 3), (0, 3), (0, 3), (6, 2), (0, 2), (4, 2)] <|
    cI2b 3 u1.toNat (u8lt u1) <|
    owns [(4, 0), (0, 0), (0, 0), (1, 1), (1, 1), (1, 1)] <|
    .stk 1 .wake 1 <|
    owns [(3, 3), (1, 3), (1, 3), (0, 3), (0, 3), (0, 3), (6, 2), (0, 2), (4, 2)] <|
    cI2b 3 u2.toNat (u8lt u2) <|
    owns [(4, 0), (0, 0), (0, 0), (1, 1), (1, 1), (1, 1)] <|
    .stk 1 .wake 1 <|
    owns [(3, 3), (1, 3), (1, 3), (0, 3), (0, 3), (0, 3), (6, 2), (0, 2), (4, 2)] <|
    cI2b 3 u3.toNat (u8lt u3) <|
    owns [(4, 0), (0, 0), (0, 0), (1, 1), (1, 1), (1, 1)] <|
    .stk 1 .wake 1 <|
    owns [(3, 3), (1, 3), (1, 3), (0, 3), (0, 3), (0, 3), (6, 2), (0, 2), (4, 2)] <|
    cI2b 3 u4.toNat (u8lt u4) <|
    owns [(4, 0), (0, 0), (0, 0), (1, 1), (1, 1), (1, 1)] <|
    .stk 1 .wake 1 <|
    owns [(3, 3), (1, 3), (1, 3), (0, 3), (0, 3), (0, 3), (6, 2), (0, 2), (4, 2)] <|
    cI2b 3 u5.toNat (u8lt u5) <|
    owns [(4, 0), (0, 0), (0, 0), (1, 1), (1, 1), (1, 1)] <|
    .stk 1 .wake 1 <|
    owns [(3, 3), (1, 3), (1, 3), (0, 3), (0, 3), (0, 3), (6, 2), (0, 2), (4, 2)] <|
    cI2b 3 u6.toNat (u8lt u6) <|
    owns [(4, 0), (0, 0), (0, 0), (1, 1), (1, 1), (1, 1)] <|
    .stk 1 .wake 1 <|
    owns [(3, 3), (1, 3), (1, 3), (0, 3), (1, 3), (0, 3), (4, 0), (5, 0)] <|
    .fin 0 (fun r T => (fun j => tokV (fldO (objAt T 4) j), objAt T 5, objAt T 6, objAt T 7)) [4, 5, 6, 7] []) ?_
   <;> (intro h dep fr gd un R d os tok b; kernel_rfl))

theorem lg7 (w : World) (b1 b2 : Bool) (l : Addr) (u0 u1 u2 u3 u4 u5 u6 : UInt8) (tb : Tok) (y : Gn) : LpG w b1 b2 l [u0, u1, u2, u3, u4, u5, u6] 9 tb y := by
  cases b2 with
  | true => exact lg7_true w b1 l u0 u1 u2 u3 u4 u5 u6 tb y
  | false => exact lg7_false w b1 l u0 u1 u2 u3 u4 u5 u6 tb y

theorem jn7 (w : World) (b1 b2 : Bool) (u0 u1 u2 u3 u4 u5 u6 : UInt8) (tb te : Tok) (y : Gn) :
    JnC w b1 b2 [u0, u1, u2, u3, u4, u5, u6] tb te y := by
  cases b1 <;> (refine Ctr.of_go (NL w.params) (
    owns [(1, 0), (0, 0), (0, 0), (2, 0), (2, 0)] <|
    cNewList 2 <|
    owns [(0, 0), (0, 0), (1, 0)] <|
    cLi 0 [0, 1, 2, 3] [u0, u1, u2, u3, u4, u5, u6] 9 tb y (fun a => listInitGC a y.a _ rfl _ _ _ (lg7 w _ b2 a u0 u1 u2 u3 u4 u5 u6 tb y)) <|
    owns [(2, 0), (0, 0), (0, 0), (0, 0), (0, 0), (0, 0), (0, 0), (0, 0), (0, 0), (0, 0), (0, 0), (0, 0), (0, 0), (0, 0), (0, 0)] <|
    .fin 9 (fun r T => (tokV (valOf r), objAt T 1, objAt T 2, objAt T 3)) [1, 2, 3] []) ?_
   <;> (intro h dep fr gd un R d os tok b; kernel_rfl))

theorem lg8_true (w : World) (b1 : Bool) (l : Addr) (u0 u1 u2 u3 u4 u5 u6 u7 : UInt8) (tb : Tok) (y : Gn) :
    LpG w b1 true l [u0, u1, u2, u3, u4, u5, u6, u7] 10 tb y := by
  cases b1 <;> (refine Ctr.of_go (NL w.params) (
    owns [(0, 1), (1, 1), (1, 1)] <|
    .stk 1 .wake 1 <|
    owns [(4, 3), (1, 3), (1, 3), (0, 3), (0, 3), (0, 3), (6, 2), (0, 2), (4, 2)] <|
    cI2b 3 u0.toNat (u8lt u0) <|
    owns [(4, 0), (0, 0), (0, 0), (1, 1), (1, 1), (1, 1)] <|
    .stk 1 .wake 1 <|
    owns [(3, 3), (1, 3), (1, 3), (0, 3), (0, 3), (0, 3), (6, 2), (0, 2), (4, 2)] <|
    cI2b 3 u1.toNat (u8lt u1) <|
    owns [(4, 0), (0, 0), (0, 0), (1, 1), (1, 1), (1, 1)] <|
    .stk 1 .wake 1 <|
    owns [(3, 3), (1, 3), (1, 3), (0, 3), (0, 3), (0, 3), (6, 2), (0, 2), (4, 2)] <|
    cI2b 3 u2.toNat (u8lt u2) <|
    owns [(4, 0), (0, 0), (0, 0), (1, 1), (1, 1), (1, 1)] <|
    .stk 1 .wake 1 <|
    owns [(3, 3), (1, 3), (1, 3), (0, 3), (0, 3), (0, 3), (6, 2), (0, 2), (4, 2)] <|
    cI2b 3 u3.toNat (u8lt u3) <|
    owns [(4, 0), (0, 0), (0, 0), (1, 1), (1, 1), (1, 1)] <|
    .stk 1 .wake 1 <|
    owns [(3, 3), (1, 3), (1, 3), (0, 3), (0, 3), (0, 3), (6, 2), (0, 2), (4, 2)] <|
    cI2b 3 u4.toNat (u8lt u4) <|
    owns [(4, 0), (0, 0), (0, 0), (1, 1), (1, 1), (1, 1)] <|
    .stk 1 .wake 1 <|
    owns [(3, 3), (1, 3), (1, 3), (0, 3), (0, 3), (0, 3), (6, 2), (0, 2), (4, 2)] <|
    cI2b 3 u5.toNat (u8lt u5) <|
    owns [(4, 0), (0, 0), (0, 0), (1, 1), (1, 1), (1, 1)] <|
    .stk 1 .wake 1 <|
    owns [(3, 3), (1, 3), (1, 3), (0, 3), (0, 3), (0, 3), (6, 2), (0, 2), (4, 2)] <|
    cI2b 3 u6.toNat (u8lt u6) <|
    owns [(4, 0), (0, 0), (0, 0), (1, 1), (1, 1), (1, 1)] <|
    .stk 1 .wake 1 <|
    owns [(3, 3), (1, 3), (1, 3), (0, 3), (0, 3), (0, 3), (6, 2), (0, 2), (4, 2)] <|
    cI2b 3 u7.toNat (u8lt u7) <|
    owns [(4, 0), (0, 0), (0, 0), (1, 1), (1, 1), (1, 1)] <|
    .stk 1 .wake 1 <|
    owns [(3, 3), (1, 3), (1, 3), (0, 3), (1, 3), (0, 3), (4, 0), (5, 0)] <|
    .fin 0 (fun r T => (fun j => tokV (fldO (objAt T 4) j), objAt T 5, objAt T 6, objAt T 7)) [4, 5, 6, 7] []) ?_
   <;> (intro h dep fr gd un R d os tok b; kernel_rfl))

theorem lg8_false (w : World) (b1 : Bool) (l : Addr) (u0 u1 u2 u3 u4 u5 u6 u7 : UInt8) (tb : Tok) (y : Gn) :
    LpG w b1 false l [u0, u1, u2, u3, u4, u5, u6, u7] 10 tb y := by
  cases b1 <;> (refine Ctr.of_go (NL w.params) (
    owns [(0, 1), (1, 1), (1, 1)] <|
    .stk 1 .wake 1 <|
    owns [(4, 3), (0, 3), (2, 3), (2, 3), (2, 3), (1, 3), (1, 3), (0, 3), (0, 3), (0, 3), (6, 2), (0, 2), (4, 2)] <|
    cI2b 3 u0.toNat (u8lt u0) <|
    owns [(4, 0), (0, 0), (0, 0), (1, 1), (1, 1), (1, 1)] <|
    .stk 1 .wake 1 <|
    owns [(3, 3), (1, 3), (1, 3), (0, 3), (0, 3), (0, 3), (6, 2), (0, 2), (4, 2)] <|
    cI2b 3 u1.toNat (u8lt u1) <|
    owns [(4, 0), (0, 0), (0, 0), (1, 1), (1, 1), (1, 1)] <|
    .stk 1 .wake 1 <|
    owns [(3, 3), (1, 3), (1, 3), (0, 3), (0, 3), (0, 3), (6, 2), (0, 2), (4, 2)] <|
    cI2b 3 u2.toNat (u8lt u2) <|
    owns [(4, 0), (0, 0), (0, 0), (1, 1), (1, 1), (1, 1)] <|
    .stk 1 .wake 1 <|
    owns [(3, 3), (1, 3), (1, 3), (0, 3), (0, 3), (0, 3), (6, 2), (0, 2), (4, 2)] <|
    cI2b 3 u3.toNat (u8lt u3) <|
    owns [(4, 0), (0, 0), (0, 0), (1, 1), (1, 1), (1, 1)] <|
    .stk 1 .wake 1 <|
    owns [(3, 3), (1, 3), (1, 3), (0, 3), (0, 3), (0, 3), (6, 2), (0, 2), (4, 2)] <|
    cI2b 3 u4.toNat (u8lt u4) <|
    owns [(4, 0), (0, 0), (0, 0), (1, 1), (1, 1), (1, 1)] <|
    .stk 1 .wake 1 <|
    owns [(3, 3), (1, 3), (1, 3), (0, 3), (0, 3), (0, 3), (6, 2), (0, 2), (4, 2)] <|
    cI2b 3 u5.toNat (u8lt u5) <|
    owns [(4, 0), (0, 0), (0, 0), (1, 1), (1, 1), (1, 1)] <|
    .stk 1 .wake 1 <|
    owns [(3, 3), (1, 3), (1, 3), (0, 3), (0, 3), (0, 3), (6, 2), (0, 2), (4, 2)] <|
    cI2b 3 u6.toNat (u8lt u6) <|
    owns [(4, 0), (0, 0), (0, 0), (1, 1), (1, 1), (1, 1)] <|
    .stk 1 .wake 1 <|
    owns [(3, 3), (1, 3), (1, 3), (0, 3), (0, 3), (0, 3), (6, 2), (0, 2), (4, 2)] <|
    cI2b 3 u7.toNat (u8lt u7) <|
    owns [(4, 0), (0, 0), (0, 0), (1, 1), (1, 1), (1, 1)] <|
    .stk 1 .wake 1 <|
    owns [(3, 3), (1, 3), (1, 3), (0, 3), (1, 3), (0, 3), (4, 0), (5, 0)] <|
    .fin 0 (fun r T => (fun j => tokV (fldO (objAt T 4) j), objAt T 5, objAt T 6, objAt T 7)) [4, 5, 6, 7] []) ?_
   <;> (intro h dep fr gd un R d os tok b; kernel_rfl))

theorem lg8 (w : World) (b1 b2 : Bool) (l : Addr) (u0 u1 u2 u3 u4 u5 u6 u7 : UInt8) (tb : Tok) (y : Gn) : LpG w b1 b2 l [u0, u1, u2, u3, u4, u5, u6, u7] 10 tb y := by
  cases b2 with
  | true => exact lg8_true w b1 l u0 u1 u2 u3 u4 u5 u6 u7 tb y
  | false => exact lg8_false w b1 l u0 u1 u2 u3 u4 u5 u6 u7 tb y

theorem jn8 (w : World) (b1 b2 : Bool) (u0 u1 u2 u3 u4 u5 u6 u7 : UInt8) (tb te : Tok) (y : Gn) :
    JnC w b1 b2 [u0, u1, u2, u3, u4, u5, u6, u7] tb te y := by
  cases b1 <;> (refine Ctr.of_go (NL w.params) (
    owns [(1, 0), (0, 0), (0, 0), (2, 0), (2, 0)] <|
    cNewList 2 <|
    owns [(0, 0), (0, 0), (1, 0)] <|
    cLi 0 [0, 1, 2, 3] [u0, u1, u2, u3, u4, u5, u6, u7] 10 tb y (fun a => listInitGC a y.a _ rfl _ _ _ (lg8 w _ b2 a u0 u1 u2 u3 u4 u5 u6 u7 tb y)) <|
    owns [(2, 0), (0, 0), (0, 0), (0, 0), (0, 0), (0, 0), (0, 0), (0, 0), (0, 0), (0, 0), (0, 0), (0, 0), (0, 0), (0, 0), (0, 0), (0, 0), (0, 0)] <|
    .fin 10 (fun r T => (tokV (valOf r), objAt T 1, objAt T 2, objAt T 3)) [1, 2, 3] []) ?_
   <;> (intro h dep fr gd un R d os tok b; kernel_rfl))

theorem lg9_true (w : World) (b1 : Bool) (l : Addr) (u0 u1 u2 u3 u4 u5 u6 u7 u8 : UInt8) (tb : Tok) (y : Gn) :
    LpG w b1 true l [u0, u1, u2, u3, u4, u5, u6, u7, u8] 11 tb y := by
  cases b1 <;> (refine Ctr.of_go (NL w.params) (
    owns [(0, 1), (1, 1), (1, 1)] <|
    .stk 1 .wake 1 <|
    owns [(4, 3), (1, 3), (1, 3), (0, 3), (0, 3), (0, 3), (6, 2), (0, 2), (4, 2)] <|
    cI2b 3 u0.toNat (u8lt u0) <|
    owns [(4, 0), (0, 0), (0, 0), (1, 1), (1, 1), (1, 1)] <|
    .stk 1 .wake 1 <|
    owns [(3, 3), (1, 3), (1, 3), (0, 3), (0, 3), (0, 3), (6, 2), (0, 2), (4, 2)] <|
    cI2b 3 u1.toNat (u8lt u1) <|
    owns [(4, 0), (0, 0), (0, 0), (1, 1), (1, 1), (1, 1)] <|
    .stk 1 .wake 1 <|
    owns [(3, 3), (1, 3), (1, 3), (0, 3), (0, 3), (0, 3), (6, 2), (0, 2), (4, 2)] <|
    cI2b 3 u2.toNat (u8lt u2) <|
    owns [(4, 0), (0, 0), (0, 0), (1, 1), (1, 1), (1, 1)] <|
    .stk 1 .wake 1 <|
    owns [(3, 3), (1, 3), (1, 3), (0, 3), (0, 3), (0, 3), (6, 2), (0, 2), (4, 2)] <|
    cI2b 3 u3.toNat (u8lt u3) <|
    owns [(4, 0), (0, 0), (0, 0), (1, 1), (1, 1), (1, 1)] <|
    .stk 1 .wake 1 <|
    owns [(3, 3), (1, 3), (1, 3), (0, 3), (0, 3), (0, 3), (6, 2), (0, 2), (4, 2)] <|
    cI2b 3 u4.toNat (u8lt u4) <|
    owns [(4, 0), (0, 0), (0, 0), (1, 1), (1, 1), (1, 1)] <|
    .stk 1 .wake 1 <|
    owns [(3, 3), (1, 3), (1, 3), (0, 3), (0, 3), (0, 3), (6, 2), (0, 2), (4, 2)] <|
    cI2b 3 u5.toNat (u8lt u5) <|
    owns [(4, 0), (0, 0), (0, 0), (1, 1), (1, 1), (1, 1)] <|
    .stk 1 .wake 1 <|
    owns [(3, 3), (1, 3), (1, 3), (0, 3), (0, 3), (0, 3), (6, 2), (0, 2), (4, 2)] <|
    cI2b 3 u6.toNat (u8lt u6) <|
    owns [(4, 0), (0, 0), (0, 0), (1, 1), (1, 1), (1, 1)] <|
    .stk 1 .wake 1 <|
    owns [(3, 3), (1, 3), (1, 3), (0, 3), (0, 3), (0, 3), (6, 2), (0, 2), (4, 2)] <|
    cI2b 3 u7.toNat (u8lt u7) <|
    owns [(4, 0), (0, 0), (0, 0), (1, 1), (1, 1), (1, 1)] <|
    .stk 1 .wake 1 <|
    owns [(3, 3), (1, 3), (1, 3), (0, 3), (0, 3), (0, 3), (6, 2), (0, 2), (4, 2)] <|
    cI2b 3 u8.toNat (u8lt u8) <|
    owns [(4, 0), (0, 0), (0, 0), (1, 1), (1, 1), (1, 1)] <|
    .stk 1 .wake 1 <|
    owns [(3, 3), (1, 3), (1, 3), (0, 3), (1, 3), (0, 3), (4, 0), (5, 0)] <|
    .fin 0 (fun r T => (fun j => tokV (fldO (objAt T 4) j), objAt T 5, objAt T 6, objAt T 7)) [4, 5, 6, 7] []) ?_
   <;> (intro h dep fr gd un R d os tok b; kernel_rfl))

theorem lg9_false (w : World) (b1 : Bool) (l : Addr) (u0 u1 u2 u3 u4 u5 u6 u7 u8 : UInt8) (tb : Tok) (y : Gn) :
    LpG w b1 false l [u0, u1, u2, u3, u4, u5, u6, u7, u8] 11 tb y := by
  cases b1 <;> (refine Ctr.of_go (NL w.params) (
    owns [(0, 1), (1, 1), (1, 1)] <|
    .stk 1 .wake 1 <|
    owns [(4, 3), (0, 3), (2, 3), (2, 3), (2, 3), (1, 3), (1, 3), (0, 3), (0, 3), (0, 3), (6, 2), (0, 2), (4, 2)] <|
    cI2b 3 u0.toNat (u8lt u0) <|
    owns [(4, 0), (0, 0), (0, 0), (1, 1), (1, 1), (1, 1)] <|
    .stk 1 .wake 1 <|
    owns [(3, 3), (1, 3), (1, 3), (0, 3), (0, 3), (0, 3), (6, 2), (0, 2), (4, 2)] <|
    cI2b 3 u1.toNat (u8lt u1) <|
    owns [(4, 0), (0, 0), (0, 0), (1, 1), (1, 1), (1, 1)] <|
    .stk 1 .wake 1 <|
    owns [(3, 3), (1, 3), (1, 3), (0, 3), (0, 3), (0, 3), (6, 2), (0, 2), (4, 2)] <|
    cI2b 3 u2.toNat (u8lt u2) <|
    owns [(4, 0), (0, 0), (0, 0), (1, 1), (1, 1), (1, 1)] <|
    .stk 1 .wake 1 <|
    owns [(3, 3), (1, 3), (1, 3), (0, 3), (0, 3), (0, 3), (6, 2), (0, 2), (4, 2)] <|
    cI2b 3 u3.toNat (u8lt u3) <|
    owns [(4, 0), (0, 0), (0, 0), (1, 1), (1, 1), (1, 1)] <|
    .stk 1 .wake 1 <|
    owns [(3, 3), (1, 3), (1, 3), (0, 3), (0, 3), (0, 3), (6, 2), (0, 2), (4, 2)] <|
    cI2b 3 u4.toNat (u8lt u4) <|
    owns [(4, 0), (0, 0), (0, 0), (1, 1), (1, 1), (1, 1)] <|
    .stk 1 .wake 1 <|
    owns [(3, 3), (1, 3), (1, 3), (0, 3), (0, 3), (0, 3), (6, 2), (0, 2), (4, 2)] <|
    cI2b 3 u5.toNat (u8lt u5) <|
    owns [(4, 0), (0, 0), (0, 0), (1, 1), (1, 1), (1, 1)] <|
    .stk 1 .wake 1 <|
    owns [(3, 3), (1, 3), (1, 3), (0, 3), (0, 3), (0, 3), (6, 2), (0, 2), (4, 2)] <|
    cI2b 3 u6.toNat (u8lt u6) <|
    owns [(4, 0), (0, 0), (0, 0), (1, 1), (1, 1), (1, 1)] <|
    .stk 1 .wake 1 <|
    owns [(3, 3), (1, 3), (1, 3), (0, 3), (0, 3), (0, 3), (6, 2), (0, 2), (4, 2)] <|
    cI2b 3 u7.toNat (u8lt u7) <|
    owns [(4, 0), (0, 0), (0, 0), (1, 1), (1, 1), (1, 1)] <|
    .stk 1 .wake 1 <|
    owns [(3, 3), (1, 3), (1, 3), (0, 3), (0, 3), (0, 3), (6, 2), (0, 2), (4, 2)] <|
    cI2b 3 u8.toNat (u8lt u8) <|
    owns [(4, 0), (0, 0), (0, 0), (1, 1), (1, 1), (1, 1)] <|
    .stk 1 .wake 1 <|
    owns [(3, 3), (1, 3), (1, 3), (0, 3), (1, 3), (0, 3), (4, 0), (5, 0)] <|
    .fin 0 (fun r T => (fun j => tokV (fldO (objAt T 4) j), objAt T 5, objAt T 6, objAt T 7)) [4, 5, 6, 7] []) ?_
   <;> (intro h dep fr gd un R d os tok b; kernel_rfl))

theorem lg9 (w : World) (b1 b2 : Bool) (l : Addr) (u0 u1 u2 u3 u4 u5 u6 u7 u8 : UInt8) (tb : Tok) (y : Gn) : LpG w b1 b2 l [u0, u1, u2, u3, u4, u5, u6, u7, u8] 11 tb y := by
  cases b2 with
  | true => exact lg9_true w b1 l u0 u1 u2 u3 u4 u5 u6 u7 u8 tb y
  | false => exact lg9_false w b1 l u0 u1 u2 u3 u4 u5 u6 u7 u8 tb y

theorem jn9 (w : World) (b1 b2 : Bool) (u0 u1 u2 u3 u4 u5 u6 u7 u8 : UInt8) (tb te : Tok) (y : Gn) :
    JnC w b1 b2 [u0, u1, u2, u3, u4, u5, u6, u7, u8] tb te y := by
  cases b1 <;> (refine Ctr.of_go (NL w.params) (
    owns [(1, 0), (0, 0), (0, 0), (2, 0), (2, 0)] <|
    cNewList 2 <|
    owns [(0, 0), (0, 0), (1, 0)] <|
    cLi 0 [0, 1, 2, 3] [u0, u1, u2, u3, u4, u5, u6, u7, u8] 11 tb y (fun a => listInitGC a y.a _ rfl _ _ _ (lg9 w _ b2 a u0 u1 u2 u3 u4 u5 u6 u7 u8 tb y)) <|
    owns [(2, 0), (0, 0), (0, 0), (0, 0), (0, 0), (0, 0), (0, 0), (0, 0), (0, 0), (0, 0), (0, 0), (0, 0), (0, 0), (0, 0), (0, 0), (0, 0), (0, 0), (0, 0), (0, 0)] <|
    .fin 11 (fun r T => (tokV (valOf r), objAt T 1, objAt T 2, objAt T 3)) [1, 2, 3] []) ?_
   <;> (intro h dep fr gd un R d os tok b; kernel_rfl))

theorem lg10_true (w : World) (b1 : Bool) (l : Addr) (u0 u1 u2 u3 u4 u5 u6 u7 u8 u9 : UInt8) (tb : Tok) (y : Gn) :
    LpG w b1 true l [u0, u1, u2, u3, u4, u5, u6, u7, u8, u9] 12 tb y := by
  cases b1 <;> (refine Ctr.of_go (NL w.params) (
    owns [(0, 1), (1, 1), (1, 1)] <|
    .stk 1 .wake 1 <|
    owns [(4, 3), (1, 3), (1, 3), (0, 3), (0, 3), (0, 3), (6, 2), (0, 2), (4, 2)] <|
    cI2b 3 u0.toNat (u8lt u0) <|
    owns [(4, 0), (0, 0), (0, 0), (1, 1), (1, 1), (1, 1)] <|
    .stk 1 .wake 1 <|
    owns [(3, 3), (1, 3), (1, 3), (0, 3), (0, 3), (0, 3), (6, 2), (0, 2), (4, 2)] <|
    cI2b 3 u1.toNat (u8lt u1) <|
    owns [(4, 0), (0, 0), (0, 0), (1, 1), (1, 1), (1, 1)] <|
    .stk 1 .wake 1 <|
    owns [(3, 3), (1, 3), (1, 3), (0, 3), (0, 3), (0, 3), (6, 2), (0, 2), (4, 2)] <|
    cI2b 3 u2.toNat (u8lt u2) <|
    owns [(4, 0), (0, 0), (0, 0), (1, 1), (1, 1), (1, 1)] <|
    .stk 1 .wake 1 <|
    owns [(3, 3), (1, 3), (1, 3), (0, 3), (0, 3), (0, 3), (6, 2), (0, 2), (4, 2)] <|
    cI2b 3 u3.toNat (u8lt u3) <|
    owns [(4, 0), (0, 0), (0, 0), (1, 1), (1, 1), (1, 1)] <|
    .stk 1 .wake 1 <|
    owns [(3, 3), (1, 3), (1, 3), (0, 3), (0, 3), (0, 3), (6, 2), (0, 2), (4, 2)] <|
    cI2b 3 u4.toNat (u8lt u4) <|
    owns [(4, 0), (0, 0), (0, 0), (1, 1), (1, 1), (1, 1)] <|
    .stk 1 .wake 1 <|
    owns [(3, 3), (1, 3), (1, 3), (0, 3), (0, 3), (0, 3), (6, 2), (0, 2), (4, 2)] <|
    cI2b 3 u5.toNat (u8lt u5) <|
    owns [(4, 0), (0, 0), (0, 0), (1, 1), (1, 1), (1, 1)] <|
    .stk 1 .wake 1 <|
    owns [(3, 3), (1, 3), (1, 3), (0, 3), (0, 3), (0, 3), (6, 2), (0, 2), (4, 2)] <|
    cI2b 3 u6.toNat (u8lt u6) <|
    owns [(4, 0), (0, 0), (0, 0), (1, 1), (1, 1), (1, 1)] <|
    .stk 1 .wake 1 <|
    owns [(3, 3), (1, 3), (1, 3), (0, 3), (0, 3), (0, 3), (6, 2), (0, 2), (4, 2)] <|
    cI2b 3 u7.toNat (u8lt u7) <|
    owns [(4, 0), (0, 0), (0, 0), (1, 1), (1, 1), (1, 1)] <|
    .stk 1 .wake 1 <|
    owns [(3, 3), (1, 3), (1, 3), (0, 3), (0, 3), (0, 3), (6, 2), (0, 2), (4, 2)] <|
    cI2b 3 u8.toNat (u8lt u8) <|
    owns [(4, 0), (0, 0), (0, 0), (1, 1), (1, 1), (1, 1)] <|
    .stk 1 .wake 1 <|
    owns [(3, 3), (1, 3), (1, 3), (0, 3), (0, 3), (0, 3), (6, 2), (0, 2), (4, 2)] <|
    cI2b 3 u9.toNat (u8lt u9) <|
    owns [(4, 0), (0, 0), (0, 0), (1, 1), (1, 1), (1, 1)] <|
    .stk 1 .wake 1 <|
    owns [(3, 3), (1, 3), (1, 3), (0, 3), (1, 3), (0, 3), (4, 0), (5, 0)] <|
    .fin 0 (fun r T => (fun j => tokV (fldO (objAt T 4) j), objAt T 5, objAt T 6, objAt T 7)) [4, 5, 6, 7] []) ?_
   <;> (intro h dep fr gd un R d os tok b; kernel_rfl))

theorem lg10_false (w : World) (b1 : Bool) (l : Addr) (u0 u1 u2 u3 u4 u5 u6 u7 u8 u9 : UInt8) (tb : Tok) (y : Gn) :
    LpG w b1 false l [u0, u1, u2, u3, u4, u5, u6, u7, u8, u9] 12 tb y := by
  cases b1 <;> (refine Ctr.of_go (NL w.params) (
    owns [(0, 1), (1, 1), (1, 1)] <|
    .stk 1 .wake 1 <|
    owns [(4, 3), (0, 3), (2, 3), (2, 3), (2, 3), (1, 3), (1, 3), (0, 3), (0, 3), (0, 3), (6, 2), (0, 2), (4, 2)] <|
    cI2b 3 u0.toNat (u8lt u0) <|
    owns [(4, 0), (0, 0), (0, 0), (1, 1), (1, 1), (1, 1)] <|
    .stk 1 .wake 1 <|
    owns [(3, 3), (1, 3), (1, 3), (0, 3), (0, 3), (0, 3), (6, 2), (0, 2), (4, 2)] <|
    cI2b 3 u1.toNat (u8lt u1) <|
    owns [(4, 0), (0, 0), (0, 0), (1, 1), (1, 1), (1, 1)] <|
    .stk 1 .wake 1 <|
    owns [(3, 3), (1, 3), (1, 3), (0, 3), (0, 3), (0, 3), (6, 2), (0, 2), (4, 2)] <|
    cI2b 3 u2.toNat (u8lt u2) <|
    owns [(4, 0), (0, 0), (0, 0), (1, 1), (1, 1), (1, 1)] <|
    .stk 1 .wake 1 <|
    owns [(3, 3), (1, 3), (1, 3), (0, 3), (0, 3), (0, 3), (6, 2), (0, 2), (4, 2)] <|
    cI2b 3 u3.toNat (u8lt u3) <|
    owns [(4, 0), (0, 0), (0, 0), (1, 1), (1, 1), (1, 1)] <|
    .stk 1 .wake 1 <|
    owns [(3, 3), (1, 3), (1, 3), (0, 3), (0, 3), (0, 3), (6, 2), (0, 2), (4, 2)] <|
    cI2b 3 u4.toNat (u8lt u4) <|
    owns [(4, 0), (0, 0), (0, 0), (1, 1), (1, 1), (1, 1)] <|
    .stk 1 .wake 1 <|
    owns [(3, 3), (1, 3), (1, 3), (0, 3), (0, 3), (0, 3), (6, 2), (0, 2), (4, 2)] <|
    cI2b 3 u5.toNat (u8lt u5) <|
    owns [(4, 0), (0, 0), (0, 0), (1, 1), (1, 1), (1, 1)] <|
    .stk 1 .wake 1 <|
    owns [(3, 3), (1, 3), (1, 3), (0, 3), (0, 3), (0, 3), (6, 2), (0, 2), (4, 2)] <|
    cI2b 3 u6.toNat (u8lt u6) <|
    owns [(4, 0), (0, 0), (0, 0), (1, 1), (1, 1), (1, 1)] <|
    .stk 1 .wake 1 <|
    owns [(3, 3), (1, 3), (1, 3), (0, 3), (0, 3), (0, 3), (6, 2), (0, 2), (4, 2)] <|
    cI2b 3 u7.toNat (u8lt u7) <|
    owns [(4, 0), (0, 0), (0, 0), (1, 1), (1, 1), (1, 1)] <|
    .stk 1 .wake 1 <|
    owns [(3, 3), (1, 3), (1, 3), (0, 3), (0, 3), (0, 3), (6, 2), (0, 2), (4, 2)] <|
    cI2b 3 u8.toNat (u8lt u8) <|
    owns [(4, 0), (0, 0), (0, 0), (1, 1), (1, 1), (1, 1)] <|
    .stk 1 .wake 1 <|
    owns [(3, 3), (1, 3), (1, 3), (0, 3), (0, 3), (0, 3), (6, 2), (0, 2), (4, 2)] <|
    cI2b 3 u9.toNat (u8lt u9) <|
    owns [(4, 0), (0, 0), (0, 0), (1, 1), (1, 1), (1, 1)] <|
    .stk 1 .wake 1 <|
    owns [(3, 3), (1, 3), (1, 3), (0, 3), (1, 3), (0, 3), (4, 0), (5, 0)] <|
    .fin 0 (fun r T => (fun j => tokV (fldO (objAt T 4) j), objAt T 5, objAt T 6, objAt T 7)) [4, 5, 6, 7] []) ?_
   <;> (intro h dep fr gd un R d os tok b; kernel_rfl))

theorem lg10 (w : World) (b1 b2 : Bool) (l : Addr) (u0 u1 u2 u3 u4 u5 u6 u7 u8 u9 : UInt8) (tb : Tok) (y : Gn) : LpG w b1 b2 l [u0, u1, u2, u3, u4, u5, u6, u7, u8, u9] 12 tb y := by
  cases b2 with
  | true => exact lg10_true w b1 l u0 u1 u2 u3 u4 u5 u6 u7 u8 u9 tb y
  | false => exact lg10_false w b1 l u0 u1 u2 u3 u4 u5 u6 u7 u8 u9 tb y

theorem jn10 (w : World) (b1 b2 : Bool) (u0 u1 u2 u3 u4 u5 u6 u7 u8 u9 : UInt8) (tb te : Tok) (y : Gn) :
    JnC w b1 b2 [u0, u1, u2, u3, u4, u5, u6, u7, u8, u9] tb te y := by
  cases b1 <;> (refine Ctr.of_go (NL w.params) (
    owns [(1, 0), (0, 0), (0, 0), (2, 0), (2, 0)] <|
    cNewList 2 <|
    owns [(0, 0), (0, 0), (1, 0)] <|
    cLi 0 [0, 1, 2, 3] [u0, u1, u2, u3, u4, u5, u6, u7, u8, u9] 12 tb y (fun a => listInitGC a y.a _ rfl _ _ _ (lg10 w _ b2 a u0 u1 u2 u3 u4 u5 u6 u7 u8 u9 tb y)) <|
    owns [(2, 0), (0, 0), (0, 0), (0, 0), (0, 0), (0, 0), (0, 0), (0, 0), (0, 0), (0, 0), (0, 0), (0, 0), (0, 0), (0, 0), (0, 0), (0, 0), (0, 0), (0, 0), (0, 0), (0, 0), (0, 0)] <|
    .fin 12 (fun r T => (tokV (valOf r), objAt T 1, objAt T 2, objAt T 3)) [1, 2, 3] []) ?_
   <;> (intro h dep fr gd un R d os tok b; kernel_rfl))

theorem jnC (w : World) (b1 b2 : Bool) (B : List UInt8) (tb te : Tok) (y : Gn) (h1 : 1 ≤ B.length) (h2 : B.length ≤ 10) : JnC w b1 b2 B tb te y := by
  match B, h1, h2 with
  | [u0], _, _ => exact jn1 w b1 b2 u0 tb te y
  | [u0, u1], _, _ => exact jn2 w b1 b2 u0 u1 tb te y
  | [u0, u1, u2], _, _ => exact jn3 w b1 b2 u0 u1 u2 tb te y
  | [u0, u1, u2, u3], _, _ => exact jn4 w b1 b2 u0 u1 u2 u3 tb te y
  | [u0, u1, u2, u3, u4], _, _ => exact jn5 w b1 b2 u0 u1 u2 u3 u4 tb te y
  | [u0, u1, u2, u3, u4, u5], _, _ => exact jn6 w b1 b2 u0 u1 u2 u3 u4 u5 tb te y
  | [u0, u1, u2, u3, u4, u5, u6], _, _ => exact jn7 w b1 b2 u0 u1 u2 u3 u4 u5 u6 tb te y
  | [u0, u1, u2, u3, u4, u5, u6, u7], _, _ => exact jn8 w b1 b2 u0 u1 u2 u3 u4 u5 u6 u7 tb te y
  | [u0, u1, u2, u3, u4, u5, u6, u7, u8], _, _ => exact jn9 w b1 b2 u0 u1 u2 u3 u4 u5 u6 u7 u8 tb te y
  | [u0, u1, u2, u3, u4, u5, u6, u7, u8, u9], _, _ => exact jn10 w b1 b2 u0 u1 u2 u3 u4 u5 u6 u7 u8 u9 tb te y
  | _ :: _ :: _ :: _ :: _ :: _ :: _ :: _ :: _ :: _ :: _ :: r, _, h2 => simp at h2
def cJn (n : Nat) (is : List Nat) (B : List UInt8) (h1 : 1 ≤ B.length) (h2 : B.length ≤ 10) (r : Hx prog (wr w b1 b2) (kt w.params) α₀) : Hx prog (wr w b1 b2) (kt w.params) α₀ :=
  .cut n 760 (lev 760) is (Gn × Tok × Tok × Stk) (fun c L g s => match L, g with
    | [some (a, o), some (f, fo), some (it, io)], [_, .fresh (.compStart _ _ _ _ e)] => (⟨a, f, it, refV e.code, tokV (entO fo 0).1, tokV (fldO o 1), tokV (fldO o 2)⟩, tokV (fldO io 0), tokV (argA c 0), s)
    | _, _ => (⟨0, 0, 0, 0, 0, 0, 0⟩, 0, 0, s)) (fun y => .call (.builtin "bytes.join") ⟨[.bytes #[] y.2.2.1, .ref y.1.a], []⟩) (fun y => y.2.2.2) (fun y => geL w.params B y.2.1 y.1) (fun y => [.finished, .fresh (geC y.1)]) (fun _ => [.finished, .finished]) (Tok × Obj × Obj × Obj)
    (fun _ x => .ok (.ret (.bytes (bitA (bitsOf B)) x.1))) (fun _ x => [x.2.1, x.2.2.1, x.2.2.2]) (fun _ _ => []) (fun y => (jnC w b1 b2 B y.2.1 y.2.2.1 y.1 h1 h2).toX y.2.2.2) (fun _ _ _ _ => r)

theorem encC (w : World) (b1 b2 : Bool) (x1 x2 x3 x4 : Fc) (q : Pos) (B : List UInt8) (tb : Tok) (h1 : 1 ≤ B.length) (h2 : B.length ≤ 10) :
    CtrX prog (wr w b1 b2) (kt w.params) 700 (lev 700) (stk [x1, x2, x3, x4] q) (.call (.ref 53) ⟨[.bytes B.toArray tb], []⟩) [(48, ⟨.none, none, .fields #[], #[]⟩)] [.finished] [.finished, .finished] (α := Tok × Array Value) (fun x => .ok (.ret (.bytes (bitA (bitsOf B)) x.1))) (fun x => [meA x.2]) (fun _ => []) := by
  cases b1 <;> (refine CtrX.of_go (
    ownsX [(5, 0), (0, 0)] <|
    ownsX [(9, 0), (6, 0)] <|
    ownsX [(3, 2), (8, 5), (0, 5), (0, 5), (5, 0), (0, 0)] <|
    cJn 5 [0, 1, 5] B h1 h2 <|
    .fin 1 (fun r T => (tokV (valOf r), fldA (objAt T 7))) [7] []) ?_
   <;> (intro h dep fr gd un R d os tok b; kernel_rfl))

end
end Mine
namespace Mine
open PySem PySem.Spec PySem.Calls PyProof.Rows PySem.W PySem.W.X
def szE : Expr := callA (retE (stAt (fBody (clsSt 30 3)) 1))
/-- the five fields -/
structure Sh where
  a : Fd
  p : Fd
  b : Fd
  c : Fd
  d : Fd
  na : Value
  nb : Value
  nc : Value
  nd : Value
  tp : Tok
/-- what the fields are -/
structure Sp where
  wa : Nat
  wp : Nat
  wb : Nat
  wc : Nat
  wd : Nat
  sa : Bool
  sb : Bool
  sc : Bool
  sd : Bool
  sw : Bool
abbrev fL (z : Sh) (s : Sp) : List En := biL z.a z.na s.wa false s.sa ++ (paL z.p z.tp s.wp ++ (biL z.b z.nb s.wb s.sw s.sb ++ (biL z.c z.nc s.wc false s.sc ++ biL z.d z.nd s.wd false s.sd)))
abbrev fU (z : Sh) (s : Sp) : List Obj := biU z.a z.na s.wa false s.sa ++ (paU z.p z.tp s.wp ++ (biU z.b z.nb s.wb s.sw s.sb ++ (biU z.c z.nc s.wc false s.sc ++ biU z.d z.nd s.wd false s.sd)))
/-- the generator of the sizes, its objects -/
structure Gs where
  a : Addr
  f : Addr
  it : Addr
  cd : Addr
  cx : Addr
  tp : Addr
  ct : Addr
  k0 : Tok
  t1 : Tok
  t2 : Tok
def szN (y : Gs) : Env := { scope := genS szE, locals := y.f, globals := 3, cells := [(S "context", y.cx)], qual := S "Struct._sizeof.<locals>.<genexpr>.", func := none, code := .ref y.cd, frame := some y.f, builtins := 0 }
def szC (y : Gs) : Code := .compStart szE 0 (.ref y.it) .none (szN y)
def szL (y : Gs) : Code := .compLoop szE 0 (.ref y.it) .none (szN y)
abbrev sgO (i : Nat) (y : Gs) : Obj := ⟨.type "generator", none, .fields #[.int i 0, .str (S "<genexpr>") y.t1, .str (S "Struct._sizeof.<locals>.<genexpr>") y.t2], #[]⟩
abbrev cellO (a : Addr) : Obj := ⟨.type "cell", none, .cell (some (.ref a)), #[]⟩
abbrev titO (t : Addr) (i : Nat) : Obj := ⟨.type "tuple_iterator", none, .fields #[.ref t, .int i 0], #[]⟩
abbrev titE (i : Nat) : Obj := ⟨.type "tuple_iterator", none, .fields #[.none, .int i 0], #[]⟩
abbrev tup5 (z : Sh) : Obj := ⟨.type "tuple", none, .seq #[.ref z.a.bi, .ref z.p.bi, .ref z.b.bi, .ref z.c.bi, .ref z.d.bi] 0, #[]⟩
abbrev sfr1 (P : Params) (y : Gs) : Obj := frmO [ent P ".0" y.k0 (.ref y.it)] 1
abbrev sfr2 (P : Params) (y : Gs) (ks : Tok) (v : Value) : Obj := frmO [ent P ".0" y.k0 (.ref y.it), ent P "sc" ks v] 2
/-- a generator at rest -/
structure Su where
  k : Resume → Sem Fin
  l : List Value
  p : Pos
  cl : Bool
def Su.g (x : Su) (c : Code) : GenState := .suspended x.k x.l c x.p [] x.cl
abbrev Su.q (x : Su) (c : Code) : Sem Fin × Sem Fin := (x.k (.send .none), .pure (.again c))
def suX (l : List GenState) : Su := match l with
  | [.suspended k l _ p _ cl] => ⟨k, l, p, cl⟩
  | [_, _, .suspended k l _ p _ cl] => ⟨k, l, p, cl⟩
  | _ => ⟨fun _ => .unsupported "", [], default, false⟩
/-- the generators before this one -/
def pg : Nat → List GenState
  | 0 => []
  | n + 1 => .finished :: pg n
section
variable {α₀ : Type} {w : World} {b1 b2 : Bool} {gl : List GenState}
def cBiz (n : Nat) (is : List Nat) (nv : Value) (k : Int) (sw sg : Bool) (r : Hs prog (wr w b1 b2) (kt w.params) α₀) : Hs prog (wr w b1 b2) (kt w.params) α₀ :=
  .cutg n 720 (lev 720) is (Fd × Addr) (fun c l => (fdX l, refV (argA c 1))) (fun y => .call (.ref 896) ⟨[.ref y.1.bi, .ref y.2], []⟩) (fun y => biL y.1 nv k sw sg) Unit (fun y _ => .ok (.ret (.int k y.1.tw)))
    (fun y _ => biU y.1 nv k sw sg) (fun _ _ => []) (fun y gl => bizC w b1 b2 gl y.1 nv y.2 k sw sg) (fun _ _ _ _ => r)
def cPaz (n : Nat) (is : List Nat) (tp : Tok) (k : Int) (r : Hs prog (wr w b1 b2) (kt w.params) α₀) : Hs prog (wr w b1 b2) (kt w.params) α₀ :=
  .cutg n 720 (lev 720) is (Fd × Addr) (fun c l => (fdX l, refV (argA c 1))) (fun y => .call (.ref 896) ⟨[.ref y.1.bi, .ref y.2], []⟩) (fun y => paL y.1 tp k) Unit (fun y _ => .ok (.ret (.int k y.1.tw)))
    (fun y _ => paU y.1 tp k) (fun _ _ => []) (fun y gl => pazC w b1 b2 gl y.1 tp y.2 k) (fun _ _ _ _ => r)
abbrev szH (y : Gs) (z : Sh) (s : Sp) (i j : Nat) (fo : Obj) : List En := [(y.a, sgO i y), (y.f, fo), (y.it, titO y.tp j), (y.cx, cellO y.ct), (y.tp, tup5 z)] ++ fL z s
abbrev szU (y : Gs) (z : Sh) (s : Sp) (i : Nat) (to fo : Obj) : List Obj := [sgO i y, fo, to, cellO y.ct, tup5 z] ++ fU z s
abbrev NxC (w : World) (b1 b2 : Bool) (y : Gs) (z : Sh) (sp : Sp) (i j : Nat) (fj : Addr) (fo : Obj) (gs : GenState) (k : Int) (tk : Tok) : Prop :=
  CtrG prog (wr w b1 b2) (kt w.params) 660 (lev 660) (.call (.builtin "generator.__next__") ⟨[.ref y.a], []⟩) (szH y z sp i j fo) (pg i ++ [gs]) (α := Su × Tok) (fun x => pg i ++ [x.1.g (szL y)]) (fun x => x.1.q (szL y)) (fun _ => .ok (.ret (.int k tk)))
    (fun x => szU y z sp i (titO y.tp (j + 1)) (sfr2 w.params y x.2 (.ref fj))) (fun _ => [])

theorem nx0_0_true (w : World) (b1 : Bool) (y : Gs) (z : Sh) (sp : Sp) :
    NxC w b1 true y z sp 0 0 z.a.bi (sfr1 w.params y) (.fresh (szC y)) sp.wa z.a.tw := by
  cases b1 <;> (refine CtrG.of_go (NL w.params) (
    owns [(0, 0), (1, 0)] <|
    .stk 1 .wake 1 <|
    owns [(4, 2), (1, 2), (1, 2), (0, 2), (0, 4), (0, 2), (0, 2), (5, 1), (0, 1), (2, 1), (1, 5), (9, 5), (9, 5), (8, 5), (0, 6), (2, 3)] <|
    cBiz 2 [5, 6, 7, 8] z.na sp.wa false sp.sa <|
    .fin 3 (fun _ T gl => (suX gl, tokV (entO (objAt T 1) 1).1)) [0, 1, 2, 3, 4, 5, 6, 7, 8, 9, 10, 11, 12, 13, 14, 15, 16, 17, 18, 19, 20, 21, 22, 23, 24] []) ?_
   <;> (intro h dep fr gd un R d os tok b; kernel_rfl))

theorem nx0_0_false (w : World) (b1 : Bool) (y : Gs) (z : Sh) (sp : Sp) :
    NxC w b1 false y z sp 0 0 z.a.bi (sfr1 w.params y) (.fresh (szC y)) sp.wa z.a.tw := by
  cases b1 <;> (refine CtrG.of_go (NL w.params) (
    owns [(0, 0), (1, 0)] <|
    .stk 1 .wake 1 <|
    owns [(4, 2), (0, 2), (2, 2), (2, 2), (2, 2), (1, 2), (1, 2), (0, 2), (0, 4), (0, 2), (0, 2), (5, 1), (0, 1), (2, 1), (1, 5), (9, 5), (9, 5), (8, 5), (0, 6), (2, 3)] <|
    cBiz 2 [5, 6, 7, 8] z.na sp.wa false sp.sa <|
    .fin 3 (fun _ T gl => (suX gl, tokV (entO (objAt T 1) 1).1)) [0, 1, 2, 3, 4, 5, 6, 7, 8, 9, 10, 11, 12, 13, 14, 15, 16, 17, 18, 19, 20, 21, 22, 23, 24] []) ?_
   <;> (intro h dep fr gd un R d os tok b; kernel_rfl))

theorem nx0_0 (w : World) (b1 b2 : Bool) (y : Gs) (z : Sh) (sp : Sp) : NxC w b1 b2 y z sp 0 0 z.a.bi (sfr1 w.params y) (.fresh (szC y)) sp.wa z.a.tw := by
  cases b2 with
  | true => exact nx0_0_true w b1 y z sp
  | false => exact nx0_0_false w b1 y z sp
theorem nx0_1 (w : World) (b1 b2 : Bool) (y : Gs) (z : Sh) (sp : Sp) (ks : Tok) (v : Value) (s : Su) (hs : s.k (.send .none) = .pure (.again (szL y))) :
    NxC w b1 b2 y z sp 0 1 z.p.bi (sfr2 w.params y ks v) (s.g (szL y)) sp.wp z.p.tw := by
  cases b1 <;> (refine CtrG.of_go (NL w.params) (
    owns [(0, 0), (1, 0)] <|
    .stk 1 .wake 1 <|
    .tre 1 (s.k (.send .none)) (.pure (.again (szL y))) hs <|
    owns [(2, 2), (1, 2), (1, 2), (0, 2), (0, 4), (0, 2), (0, 2), (5, 1), (0, 1), (2, 1), (1, 9), (9, 9), (9, 9), (8, 9), (0, 10), (2, 3)] <|
    cPaz 2 [9, 10, 11, 12] z.tp sp.wp <|
    .fin 3 (fun _ T gl => (suX gl, tokV (entO (objAt T 1) 1).1)) [0, 1, 2, 3, 4, 5, 6, 7, 8, 9, 10, 11, 12, 13, 14, 15, 16, 17, 18, 19, 20, 21, 22, 23, 24] []) ?_
   <;> (intro h dep fr gd un R d os tok b; kernel_rfl))

theorem nx0_2 (w : World) (b1 b2 : Bool) (y : Gs) (z : Sh) (sp : Sp) (ks : Tok) (v : Value) (s : Su) (hs : s.k (.send .none) = .pure (.again (szL y))) :
    NxC w b1 b2 y z sp 0 2 z.b.bi (sfr2 w.params y ks v) (s.g (szL y)) sp.wb z.b.tw := by
  cases b1 <;> (refine CtrG.of_go (NL w.params) (
    owns [(0, 0), (1, 0)] <|
    .stk 1 .wake 1 <|
    .tre 1 (s.k (.send .none)) (.pure (.again (szL y))) hs <|
    owns [(2, 2), (1, 2), (1, 2), (0, 2), (0, 4), (0, 2), (0, 2), (5, 1), (0, 1), (2, 1), (1, 13), (9, 13), (9, 13), (8, 13), (0, 14), (2, 3)] <|
    cBiz 2 [13, 14, 15, 16] z.nb sp.wb sp.sw sp.sb <|
    .fin 3 (fun _ T gl => (suX gl, tokV (entO (objAt T 1) 1).1)) [0, 1, 2, 3, 4, 5, 6, 7, 8, 9, 10, 11, 12, 13, 14, 15, 16, 17, 18, 19, 20, 21, 22, 23, 24] []) ?_
   <;> (intro h dep fr gd un R d os tok b; kernel_rfl))

theorem nx0_3 (w : World) (b1 b2 : Bool) (y : Gs) (z : Sh) (sp : Sp) (ks : Tok) (v : Value) (s : Su) (hs : s.k (.send .none) = .pure (.again (szL y))) :
    NxC w b1 b2 y z sp 0 3 z.c.bi (sfr2 w.params y ks v) (s.g (szL y)) sp.wc z.c.tw := by
  cases b1 <;> (refine CtrG.of_go (NL w.params) (
    owns [(0, 0), (1, 0)] <|
    .stk 1 .wake 1 <|
    .tre 1 (s.k (.send .none)) (.pure (.again (szL y))) hs <|
    owns [(2, 2), (1, 2), (1, 2), (0, 2), (0, 4), (0, 2), (0, 2), (5, 1), (0, 1), (2, 1), (1, 17), (9, 17), (9, 17), (8, 17), (0, 18), (2, 3)] <|
    cBiz 2 [17, 18, 19, 20] z.nc sp.wc false sp.sc <|
    .fin 3 (fun _ T gl => (suX gl, tokV (entO (objAt T 1) 1).1)) [0, 1, 2, 3, 4, 5, 6, 7, 8, 9, 10, 11, 12, 13, 14, 15, 16, 17, 18, 19, 20, 21, 22, 23, 24] []) ?_
   <;> (intro h dep fr gd un R d os tok b; kernel_rfl))

theorem nx0_4 (w : World) (b1 b2 : Bool) (y : Gs) (z : Sh) (sp : Sp) (ks : Tok) (v : Value) (s : Su) (hs : s.k (.send .none) = .pure (.again (szL y))) :
    NxC w b1 b2 y z sp 0 4 z.d.bi (sfr2 w.params y ks v) (s.g (szL y)) sp.wd z.d.tw := by
  cases b1 <;> (refine CtrG.of_go (NL w.params) (
    owns [(0, 0), (1, 0)] <|
    .stk 1 .wake 1 <|
    .tre 1 (s.k (.send .none)) (.pure (.again (szL y))) hs <|
    owns [(2, 2), (1, 2), (1, 2), (0, 2), (0, 4), (0, 2), (0, 2), (5, 1), (0, 1), (2, 1), (1, 21), (9, 21), (9, 21), (8, 21), (0, 22), (2, 3)] <|
    cBiz 2 [21, 22, 23, 24] z.nd sp.wd false sp.sd <|
    .fin 3 (fun _ T gl => (suX gl, tokV (entO (objAt T 1) 1).1)) [0, 1, 2, 3, 4, 5, 6, 7, 8, 9, 10, 11, 12, 13, 14, 15, 16, 17, 18, 19, 20, 21, 22, 23, 24] []) ?_
   <;> (intro h dep fr gd un R d os tok b; kernel_rfl))

theorem nx0_5 (w : World) (b1 b2 : Bool) (y : Gs) (z : Sh) (sp : Sp) (ks : Tok) (v : Value) (s : Su) (hs : s.k (.send .none) = .pure (.again (szL y))) :
    Ctr prog (wr w b1 b2) (kt w.params) 660 (lev 660) (.call (.builtin "generator.__next__") ⟨[.ref y.a], []⟩) (szH y z sp 0 5 (sfr2 w.params y ks v)) (pg 0 ++ [s.g (szL y)]) (pg 0 ++ [.finished]) (α := Addr × Addr × Addr × Addr) (fun x => .error (.ref x.1)) (fun _ => szU y z sp 0 (titE 5) (sfr2 w.params y ks v)) (fun x => [(x.1, stopO x.2.1), (x.2.1, tup0), (x.2.2.1, stopO x.2.2.2), (x.2.2.2, tup0)]) := by
  cases b1 <;> (refine Ctr.of_go (NL w.params) (
    owns [(0, 0), (1, 0)] <|
    .stk 1 .wake 1 <|
    .tre 1 (s.k (.send .none)) (.pure (.again (szL y))) hs <|
    owns [(2, 2), (1, 2), (1, 2), (0, 2), (0, 4), (1, 2), (0, 2), (4, 0)] <|
    .fin 4 (fun r T => match T with | (a, _) :: (b, _) :: (c, _) :: (d, _) :: _ => (a, b, c, d) | _ => (0, 0, 0, 0)) [4, 5, 6, 7, 8, 9, 10, 11, 12, 13, 14, 15, 16, 17, 18, 19, 20, 21, 22, 23, 24, 25, 26, 27, 28] [0, 1, 2, 3]) ?_
   <;> (intro h dep fr gd un R d os tok b; kernel_rfl))

theorem szLoop0 (w : World) (b1 b2 : Bool) (y : Gs) (z : Sh) (sp : Sp) (S : Addr) (t : Tok) (ha : sp.wa ≤ 1000) (hp : sp.wp ≤ 1000) (hb : sp.wb ≤ 1000) (hc : sp.wc ≤ 1000) (hd : sp.wd ≤ 1000) :
    Ctr prog (wr w b1 b2) (kt w.params) 640 (lev 640) (.builtin "sum.loop" ⟨[.ref y.a, .ref S, .int 0 0, .int 0 0], []⟩) ((S, lstO #[.int 0 t] 0) :: szH y z sp 0 0 (sfr1 w.params y)) (pg 0 ++ [.fresh (szC y)]) (pg 0 ++ [.finished])
      (α := Tok × Tok × (Addr × Addr × Addr × Addr)) (fun x => .ok (.ret (.int (0 + sp.wa + sp.wp + sp.wb + sp.wc + sp.wd) x.1))) (fun x => lstO #[.int (0 + sp.wa + sp.wp + sp.wb + sp.wc + sp.wd) x.1] 0 :: szU y z sp 0 (titE 5) (sfr2 w.params y x.2.1 (.ref z.d.bi))) (fun x => [(x.2.2.1, stopO x.2.2.2.1), (x.2.2.2.1, tup0), (x.2.2.2.2.1, stopO x.2.2.2.2.2), (x.2.2.2.2.2, tup0)]) := by
  refine sumStep (DN := 660) (UN := lev 660) rfl rfl (by unfold small; omega) (by unfold small; omega) (by decide) (by decide) (nx0_0 w b1 b2 y z sp) fun x0 h0 t0 => ?_
  refine sumStep (DN := 660) (UN := lev 660) rfl rfl (by unfold small; omega) (by unfold small; omega) (by decide) (by decide) (nx0_1 w b1 b2 y z sp x0.2 _ x0.1 h0) fun x1 h1 t1 => ?_
  refine sumStep (DN := 660) (UN := lev 660) rfl rfl (by unfold small; omega) (by unfold small; omega) (by decide) (by decide) (nx0_2 w b1 b2 y z sp x1.2 _ x1.1 h1) fun x2 h2 t2 => ?_
  refine sumStep (DN := 660) (UN := lev 660) rfl rfl (by unfold small; omega) (by unfold small; omega) (by decide) (by decide) (nx0_3 w b1 b2 y z sp x2.2 _ x2.1 h2) fun x3 h3 t3 => ?_
  refine sumStep (DN := 660) (UN := lev 660) rfl rfl (by unfold small; omega) (by unfold small; omega) (by decide) (by decide) (nx0_4 w b1 b2 y z sp x3.2 _ x3.1 h3) fun x4 h4 t4 => ?_
  exact (sumEnd (DN := 660) (UN := lev 660) (sx := fun x => x.1) (st := fun x => x.2.1) rfl rfl (by decide) (by decide) (fun x => .head _) (nx0_5 w b1 b2 y z sp x4.2 _ x4.1 h4)).mono fun x => ⟨(t4, x4.2, x), rfl, rfl, rfl⟩

theorem nx2_0_true (w : World) (b1 : Bool) (y : Gs) (z : Sh) (sp : Sp) :
    NxC w b1 true y z sp 2 0 z.a.bi (sfr1 w.params y) (.fresh (szC y)) sp.wa z.a.tw := by
  cases b1 <;> (refine CtrG.of_go (NL w.params) (
    owns [(0, 0), (1, 0)] <|
    .stk 1 .wake 1 <|
    owns [(4, 2), (1, 2), (1, 2), (0, 2), (0, 4), (0, 2), (0, 2), (5, 1), (0, 1), (2, 1), (1, 5), (9, 5), (9, 5), (8, 5), (0, 6), (2, 3)] <|
    cBiz 2 [5, 6, 7, 8] z.na sp.wa false sp.sa <|
    .fin 3 (fun _ T gl => (suX gl, tokV (entO (objAt T 1) 1).1)) [0, 1, 2, 3, 4, 5, 6, 7, 8, 9, 10, 11, 12, 13, 14, 15, 16, 17, 18, 19, 20, 21, 22, 23, 24] []) ?_
   <;> (intro h dep fr gd un R d os tok b; kernel_rfl))

theorem nx2_0_false (w : World) (b1 : Bool) (y : Gs) (z : Sh) (sp : Sp) :
    NxC w b1 false y z sp 2 0 z.a.bi (sfr1 w.params y) (.fresh (szC y)) sp.wa z.a.tw := by
  cases b1 <;> (refine CtrG.of_go (NL w.params) (
    owns [(0, 0), (1, 0)] <|
    .stk 1 .wake 1 <|
    owns [(4, 2), (0, 2), (2, 2), (2, 2), (2, 2), (1, 2), (1, 2), (0, 2), (0, 4), (0, 2), (0, 2), (5, 1), (0, 1), (2, 1), (1, 5), (9, 5), (9, 5), (8, 5), (0, 6), (2, 3)] <|
    cBiz 2 [5, 6, 7, 8] z.na sp.wa false sp.sa <|
    .fin 3 (fun _ T gl => (suX gl, tokV (entO (objAt T 1) 1).1)) [0, 1, 2, 3, 4, 5, 6, 7, 8, 9, 10, 11, 12, 13, 14, 15, 16, 17, 18, 19, 20, 21, 22, 23, 24] []) ?_
   <;> (intro h dep fr gd un R d os tok b; kernel_rfl))

theorem nx2_0 (w : World) (b1 b2 : Bool) (y : Gs) (z : Sh) (sp : Sp) : NxC w b1 b2 y z sp 2 0 z.a.bi (sfr1 w.params y) (.fresh (szC y)) sp.wa z.a.tw := by
  cases b2 with
  | true => exact nx2_0_true w b1 y z sp
  | false => exact nx2_0_false w b1 y z sp
theorem nx2_1 (w : World) (b1 b2 : Bool) (y : Gs) (z : Sh) (sp : Sp) (ks : Tok) (v : Value) (s : Su) (hs : s.k (.send .none) = .pure (.again (szL y))) :
    NxC w b1 b2 y z sp 2 1 z.p.bi (sfr2 w.params y ks v) (s.g (szL y)) sp.wp z.p.tw := by
  cases b1 <;> (refine CtrG.of_go (NL w.params) (
    owns [(0, 0), (1, 0)] <|
    .stk 1 .wake 1 <|
    .tre 1 (s.k (.send .none)) (.pure (.again (szL y))) hs <|
    owns [(2, 2), (1, 2), (1, 2), (0, 2), (0, 4), (0, 2), (0, 2), (5, 1), (0, 1), (2, 1), (1, 9), (9, 9), (9, 9), (8, 9), (0, 10), (2, 3)] <|
    cPaz 2 [9, 10, 11, 12] z.tp sp.wp <|
    .fin 3 (fun _ T gl => (suX gl, tokV (entO (objAt T 1) 1).1)) [0, 1, 2, 3, 4, 5, 6, 7, 8, 9, 10, 11, 12, 13, 14, 15, 16, 17, 18, 19, 20, 21, 22, 23, 24] []) ?_
   <;> (intro h dep fr gd un R d os tok b; kernel_rfl))

theorem nx2_2 (w : World) (b1 b2 : Bool) (y : Gs) (z : Sh) (sp : Sp) (ks : Tok) (v : Value) (s : Su) (hs : s.k (.send .none) = .pure (.again (szL y))) :
    NxC w b1 b2 y z sp 2 2 z.b.bi (sfr2 w.params y ks v) (s.g (szL y)) sp.wb z.b.tw := by
  cases b1 <;> (refine CtrG.of_go (NL w.params) (
    owns [(0, 0), (1, 0)] <|
    .stk 1 .wake 1 <|
    .tre 1 (s.k (.send .none)) (.pure (.again (szL y))) hs <|
    owns [(2, 2), (1, 2), (1, 2), (0, 2), (0, 4), (0, 2), (0, 2), (5, 1), (0, 1), (2, 1), (1, 13), (9, 13), (9, 13), (8, 13), (0, 14), (2, 3)] <|
    cBiz 2 [13, 14, 15, 16] z.nb sp.wb sp.sw sp.sb <|
    .fin 3 (fun _ T gl => (suX gl, tokV (entO (objAt T 1) 1).1)) [0, 1, 2, 3, 4, 5, 6, 7, 8, 9, 10, 11, 12, 13, 14, 15, 16, 17, 18, 19, 20, 21, 22, 23, 24] []) ?_
   <;> (intro h dep fr gd un R d os tok b; kernel_rfl))

theorem nx2_3 (w : World) (b1 b2 : Bool) (y : Gs) (z : Sh) (sp : Sp) (ks : Tok) (v : Value) (s : Su) (hs : s.k (.send .none) = .pure (.again (szL y))) :
    NxC w b1 b2 y z sp 2 3 z.c.bi (sfr2 w.params y ks v) (s.g (szL y)) sp.wc z.c.tw := by
  cases b1 <;> (refine CtrG.of_go (NL w.params) (
    owns [(0, 0), (1, 0)] <|
    .stk 1 .wake 1 <|
    .tre 1 (s.k (.send .none)) (.pure (.again (szL y))) hs <|
    owns [(2, 2), (1, 2), (1, 2), (0, 2), (0, 4), (0, 2), (0, 2), (5, 1), (0, 1), (2, 1), (1, 17), (9, 17), (9, 17), (8, 17), (0, 18), (2, 3)] <|
    cBiz 2 [17, 18, 19, 20] z.nc sp.wc false sp.sc <|
    .fin 3 (fun _ T gl => (suX gl, tokV (entO (objAt T 1) 1).1)) [0, 1, 2, 3, 4, 5, 6, 7, 8, 9, 10, 11, 12, 13, 14, 15, 16, 17, 18, 19, 20, 21, 22, 23, 24] []) ?_
   <;> (intro h dep fr gd un R d os tok b; kernel_rfl))

theorem nx2_4 (w : World) (b1 b2 : Bool) (y : Gs) (z : Sh) (sp : Sp) (ks : Tok) (v : Value) (s : Su) (hs : s.k (.send .none) = .pure (.again (szL y))) :
    NxC w b1 b2 y z sp 2 4 z.d.bi (sfr2 w.params y ks v) (s.g (szL y)) sp.wd z.d.tw := by
  cases b1 <;> (refine CtrG.of_go (NL w.params) (
    owns [(0, 0), (1, 0)] <|
    .stk 1 .wake 1 <|
    .tre 1 (s.k (.send .none)) (.pure (.again (szL y))) hs <|
    owns [(2, 2), (1, 2), (1, 2), (0, 2), (0, 4), (0, 2), (0, 2), (5, 1), (0, 1), (2, 1), (1, 21), (9, 21), (9, 21), (8, 21), (0, 22), (2, 3)] <|
    cBiz 2 [21, 22, 23, 24] z.nd sp.wd false sp.sd <|
    .fin 3 (fun _ T gl => (suX gl, tokV (entO (objAt T 1) 1).1)) [0, 1, 2, 3, 4, 5, 6, 7, 8, 9, 10, 11, 12, 13, 14, 15, 16, 17, 18, 19, 20, 21, 22, 23, 24] []) ?_
   <;> (intro h dep fr gd un R d os tok b; kernel_rfl))

theorem nx2_5 (w : World) (b1 b2 : Bool) (y : Gs) (z : Sh) (sp : Sp) (ks : Tok) (v : Value) (s : Su) (hs : s.k (.send .none) = .pure (.again (szL y))) :
    Ctr prog (wr w b1 b2) (kt w.params) 660 (lev 660) (.call (.builtin "generator.__next__") ⟨[.ref y.a], []⟩) (szH y z sp 2 5 (sfr2 w.params y ks v)) (pg 2 ++ [s.g (szL y)]) (pg 2 ++ [.finished]) (α := Addr × Addr × Addr × Addr) (fun x => .error (.ref x.1)) (fun _ => szU y z sp 2 (titE 5) (sfr2 w.params y ks v)) (fun x => [(x.1, stopO x.2.1), (x.2.1, tup0), (x.2.2.1, stopO x.2.2.2), (x.2.2.2, tup0)]) := by
  cases b1 <;> (refine Ctr.of_go (NL w.params) (
    owns [(0, 0), (1, 0)] <|
    .stk 1 .wake 1 <|
    .tre 1 (s.k (.send .none)) (.pure (.again (szL y))) hs <|
    owns [(2, 2), (1, 2), (1, 2), (0, 2), (0, 4), (1, 2), (0, 2), (4, 0)] <|
    .fin 4 (fun r T => match T with | (a, _) :: (b, _) :: (c, _) :: (d, _) :: _ => (a, b, c, d) | _ => (0, 0, 0, 0)) [4, 5, 6, 7, 8, 9, 10, 11, 12, 13, 14, 15, 16, 17, 18, 19, 20, 21, 22, 23, 24, 25, 26, 27, 28] [0, 1, 2, 3]) ?_
   <;> (intro h dep fr gd un R d os tok b; kernel_rfl))

theorem szLoop2 (w : World) (b1 b2 : Bool) (y : Gs) (z : Sh) (sp : Sp) (S : Addr) (t : Tok) (ha : sp.wa ≤ 1000) (hp : sp.wp ≤ 1000) (hb : sp.wb ≤ 1000) (hc : sp.wc ≤ 1000) (hd : sp.wd ≤ 1000) :
    Ctr prog (wr w b1 b2) (kt w.params) 640 (lev 640) (.builtin "sum.loop" ⟨[.ref y.a, .ref S, .int 0 0, .int 0 0], []⟩) ((S, lstO #[.int 0 t] 0) :: szH y z sp 2 0 (sfr1 w.params y)) (pg 2 ++ [.fresh (szC y)]) (pg 2 ++ [.finished])
      (α := Tok × Tok × (Addr × Addr × Addr × Addr)) (fun x => .ok (.ret (.int (0 + sp.wa + sp.wp + sp.wb + sp.wc + sp.wd) x.1))) (fun x => lstO #[.int (0 + sp.wa + sp.wp + sp.wb + sp.wc + sp.wd) x.1] 0 :: szU y z sp 2 (titE 5) (sfr2 w.params y x.2.1 (.ref z.d.bi))) (fun x => [(x.2.2.1, stopO x.2.2.2.1), (x.2.2.2.1, tup0), (x.2.2.2.2.1, stopO x.2.2.2.2.2), (x.2.2.2.2.2, tup0)]) := by
  refine sumStep (DN := 660) (UN := lev 660) rfl rfl (by unfold small; omega) (by unfold small; omega) (by decide) (by decide) (nx2_0 w b1 b2 y z sp) fun x0 h0 t0 => ?_
  refine sumStep (DN := 660) (UN := lev 660) rfl rfl (by unfold small; omega) (by unfold small; omega) (by decide) (by decide) (nx2_1 w b1 b2 y z sp x0.2 _ x0.1 h0) fun x1 h1 t1 => ?_
  refine sumStep (DN := 660) (UN := lev 660) rfl rfl (by unfold small; omega) (by unfold small; omega) (by decide) (by decide) (nx2_2 w b1 b2 y z sp x1.2 _ x1.1 h1) fun x2 h2 t2 => ?_
  refine sumStep (DN := 660) (UN := lev 660) rfl rfl (by unfold small; omega) (by unfold small; omega) (by decide) (by decide) (nx2_3 w b1 b2 y z sp x2.2 _ x2.1 h2) fun x3 h3 t3 => ?_
  refine sumStep (DN := 660) (UN := lev 660) rfl rfl (by unfold small; omega) (by unfold small; omega) (by decide) (by decide) (nx2_4 w b1 b2 y z sp x3.2 _ x3.1 h3) fun x4 h4 t4 => ?_
  exact (sumEnd (DN := 660) (UN := lev 660) (sx := fun x => x.1) (st := fun x => x.2.1) rfl rfl (by decide) (by decide) (fun x => .head _) (nx2_5 w b1 b2 y z sp x4.2 _ x4.1 h4)).mono fun x => ⟨(t4, x4.2, x), rfl, rfl, rfl⟩

end
end Mine
namespace Mine
open PySem PySem.Spec PySem.Calls PyProof.Rows PySem.W PySem.W.X
/-- the resizer's code -/
structure Co where
  t1 : Tok
  t2 : Tok
  t3 : Tok
  t4 : Tok
  r1 : Addr
  r2 : Addr
  r3 : Addr
  r4 : Addr
  r5 : Addr
  v : Value
abbrev coO (c : Co) : Obj := ⟨.type "code", none, .fields #[.str (S "resizer") c.t1, .str (S "Bitwise.<locals>.resizer") c.t2, .str (S "/claim/cut.py") c.t3, .int 687 0, .int 1 0, .int 0 0, .int 0 0, .int 19 0, .ref c.r1, .bool true, .int 181 0, .ref c.r2, .none, .ref c.r3, .ref c.r4, .ref c.r5, c.v, .int 687 0, .str (S "/claim/cut.py") c.t4], #[]⟩
def coX (o : Obj) : Co := ⟨tokV (fldO o 0), tokV (fldO o 1), tokV (fldO o 2), tokV (fldO o 18), refV (fldO o 8), refV (fldO o 11), refV (fldO o 13), refV (fldO o 14), refV (fldO o 15), fldO o 16⟩
def co0 : Co := ⟨0, 0, 0, 0, 0, 0, 0, 0, 0, .none⟩
/-- the shape: its objects -/
structure Bq where
  bu : Addr
  bx : Addr
  rz : Addr
  rc : Addr
  st : Addr
  sx : Addr
  tp : Addr
  tf : Tok
  tn : Tok
  co : Co
def rzS : Stmt := stAt (fBody (topSt 40)) 0
abbrev rzO (q : Bq) : Obj := ⟨.type "function", none, .func { name := S "resizer", qualname := S "Bitwise.<locals>.resizer", params := fArgs rzS, body := .stmts (fBody rzS), scope := fScope rzS, globals := 3, closure := [], defaults := .none, kwdefaults := .none, doc := .none, pyModule := .str (S "law_ez0263_01") 1756, annotations := none, code := .ref q.rc, closureTuple := .none, builtins := 0 }, #[]⟩
abbrev buO (q : Bq) : Obj := ⟨.ref 1081, some q.bx, .plain, #[some (.ref 53), some (.ref q.rz), some (.ref q.st), some (.int 0 q.tf), some (.str (S "bits") q.tn)]⟩
abbrev stO (q : Bq) : Obj := ⟨.ref 1044, some q.sx, .plain, #[some (.bool true), some (.ref q.tp), some (.int 0 q.tf), some (.str (S "bits") q.tn)]⟩
abbrev stL (q : Bq) (z : Sh) (s : Sp) : List En := [(q.st, stO q), (q.sx, dict0), (q.tp, tup5 z)] ++ fL z s
abbrev stU (q : Bq) (z : Sh) (s : Sp) : List Obj := [stO q, dict0, tup5 z] ++ fU z s
abbrev bufL (q : Bq) (z : Sh) (s : Sp) : List En := [(q.bu, buO q), (q.bx, dict0), (q.rz, rzO q), (q.rc, coO q.co)] ++ stL q z s
abbrev bufU (q : Bq) (z : Sh) (s : Sp) : List Obj := [buO q, dict0, rzO q, coO q.co] ++ stU q z s
abbrev me0 : Obj := ⟨.none, none, .fields #[], #[]⟩
abbrev meS (a : Addr) : Obj := ⟨.none, none, .fields #[.int 627 0, .int 19 0, .ref a], #[]⟩
def meX (o : Obj) : Addr := refV (fldO o 2)
def enO (l : List (Option En)) (i : Nat) : Obj := match l[i]? with
  | some (some e) => e.2
  | _ => default
def enA (l : List (Option En)) (i : Nat) : Addr := match l[i]? with
  | some (some e) => e.1
  | _ => 0
def shX (l : List (Option En)) : Sh := ⟨fdX l, fdX (l.drop 4), fdX (l.drop 8), fdX (l.drop 12), fdX (l.drop 16), sltO (enO l 0) 6, sltO (enO l 8) 6, sltO (enO l 12) 6, sltO (enO l 16) 6, tokV (sltO (enO l 4) 0)⟩
def cellA (o : Obj) : Addr := match o.data with
  | .cell (some (.ref a)) => a
  | _ => 0
def gsX (l : List (Option En)) (g : List GenState) : Gs := match g.getLast? with
  | some (.fresh (.compStart _ _ _ _ e)) => ⟨enA l 1, enA l 2, enA l 3, refV e.code, enA l 4, enA l 5, cellA (enO l 4), tokV (entO (enO l 2) 0).1, tokV (fldO (enO l 1) 1), tokV (fldO (enO l 1) 2)⟩
  | _ => ⟨0, 0, 0, 0, 0, 0, 0, 0, 0, 0⟩
/-- of a struct's objects -/
def stX (l : List (Option En)) : Bq := ⟨0, 0, 0, 0, enA l 0, enA l 1, enA l 2, tokV (sltO (enO l 0) 2), tokV (sltO (enO l 0) 3), co0⟩
def buX (l : List (Option En)) : Bq := ⟨enA l 0, enA l 1, enA l 2, enA l 3, enA l 4, enA l 5, enA l 6, tokV (sltO (enO l 0) 3), tokV (sltO (enO l 0) 4), coX (enO l 3)⟩
def xBin {prog : Program} {w : World} {kt : KT} {α₀ : Type} (n : Nat) (id : String) (x y z : Int) (h : ∀ gl, BinC prog w kt gl id x y z) (r : Hx prog w kt α₀) : Hx prog w kt α₀ :=
  cutT n 900 9000 [] (Nat × Nat) (fun c _ => tk2 c) (fun y' => .builtin id ⟨[.int x y'.1, .int y y'.2], []⟩) (fun _ => []) Nat (fun _ tk => .ok (.ret (.int z tk))) (fun _ _ => []) (fun _ _ => []) (fun y' gl => h gl y'.1 y'.2) (fun _ _ _ _ => r)
def isX {prog : Program} {w : World} {kt : KT} {α₀ : Type} (n : Nat) (e b : Bool) (h : e = b) (r : Hx prog w kt α₀) : Hx prog w kt α₀ :=
  .val n Unit (fun _ => ()) (fun _ => .bool e) (fun _ => .bool b) (fun _ => congrArg Value.bool h) r
def isY {prog : Program} {w : World} {kt : KT} {α₀ : Type} (n : Nat) (e e' : Int) (h : e = e') (r : Hx prog w kt α₀) : Hx prog w kt α₀ :=
  .val n Tok tokV (fun t => .int e t) (fun t => .int e' t) (fun t => by rw [h]) r
/-- the widths fill so many octets -/
def Fits (s : Sp) (N : Nat) : Prop := s.wa + s.wp + s.wb + s.wc + s.wd = 8 * N ∧ N ≤ 100
section
variable {α₀ : Type} {w : World} {b1 b2 : Bool} {gl : List GenState}

theorem szT0 (w : World) (b1 b2 : Bool) (y : Gs) (z : Sh) (sp : Sp) (N : Nat) (S : Addr) (t : Tok) (h : Fits sp N) :
    Ctr prog (wr w b1 b2) (kt w.params) 640 (lev 640) (.builtin "sum.loop" ⟨[.ref y.a, .ref S, .int 0 0, .int 0 0], []⟩) ((S, lstO #[.int 0 t] 0) :: szH y z sp 0 0 (sfr1 w.params y)) (pg 0 ++ [.fresh (szC y)]) (pg 0 ++ [.finished])
      (α := Tok × Tok × (Addr × Addr × Addr × Addr)) (fun x => .ok (.ret (.int ((8 * N : Nat) : Int) x.1))) (fun x => lstO #[.int ((8 * N : Nat) : Int) x.1] 0 :: szU y z sp 0 (titE 5) (sfr2 w.params y x.2.1 (.ref z.d.bi))) (fun x => [(x.2.2.1, stopO x.2.2.2.1), (x.2.2.2.1, tup0), (x.2.2.2.2.1, stopO x.2.2.2.2.2), (x.2.2.2.2.2, tup0)]) := by
  obtain ⟨h1, h2⟩ := h
  have e : (0 + (sp.wa : Int) + sp.wp + sp.wb + sp.wc + sp.wd) = ((8 * N : Nat) : Int) := by omega
  exact e ▸ szLoop0 w b1 b2 y z sp S t (by omega) (by omega) (by omega) (by omega) (by omega)
def cSzT0 (n : Nat) (is : List Nat) (sp : Sp) (N : Nat) (h : Fits sp N) (r : Hx prog (wr w b1 b2) (kt w.params) α₀) : Hx prog (wr w b1 b2) (kt w.params) α₀ :=
  .cut n 640 (lev 640) is (Gs × Sh × Addr × Tok × Stk) (fun _ l g s => (gsX l g, shX (l.drop 6), enA l 0, tokV (fldO (enO l 0) 0), s)) (fun y => .builtin "sum.loop" ⟨[.ref y.1.a, .ref y.2.2.1, .int 0 0, .int 0 0], []⟩) (fun y => y.2.2.2.2)
    (fun y => (y.2.2.1, lstO #[.int 0 y.2.2.2.1] 0) :: szH y.1 y.2.1 sp 0 0 (sfr1 w.params y.1)) (fun y => pg 0 ++ [.fresh (szC y.1)]) (fun _ => pg 0 ++ [.finished]) (Tok × Tok × (Addr × Addr × Addr × Addr)) (fun _ x => .ok (.ret (.int ((8 * N : Nat) : Int) x.1)))
    (fun y x => lstO #[.int ((8 * N : Nat) : Int) x.1] 0 :: szU y.1 y.2.1 sp 0 (titE 5) (sfr2 w.params y.1 x.2.1 (.ref y.2.1.d.bi))) (fun _ x => [(x.2.2.1, stopO x.2.2.2.1), (x.2.2.2.1, tup0), (x.2.2.2.2.1, stopO x.2.2.2.2.2), (x.2.2.2.2.2, tup0)])
    (fun y => (szT0 w b1 b2 y.1 y.2.1 sp N y.2.2.1 y.2.2.2.1 h).toX y.2.2.2.2) (fun _ _ _ _ => r)

theorem szT2 (w : World) (b1 b2 : Bool) (y : Gs) (z : Sh) (sp : Sp) (N : Nat) (S : Addr) (t : Tok) (h : Fits sp N) :
    Ctr prog (wr w b1 b2) (kt w.params) 640 (lev 640) (.builtin "sum.loop" ⟨[.ref y.a, .ref S, .int 0 0, .int 0 0], []⟩) ((S, lstO #[.int 0 t] 0) :: szH y z sp 2 0 (sfr1 w.params y)) (pg 2 ++ [.fresh (szC y)]) (pg 2 ++ [.finished])
      (α := Tok × Tok × (Addr × Addr × Addr × Addr)) (fun x => .ok (.ret (.int ((8 * N : Nat) : Int) x.1))) (fun x => lstO #[.int ((8 * N : Nat) : Int) x.1] 0 :: szU y z sp 2 (titE 5) (sfr2 w.params y x.2.1 (.ref z.d.bi))) (fun x => [(x.2.2.1, stopO x.2.2.2.1), (x.2.2.2.1, tup0), (x.2.2.2.2.1, stopO x.2.2.2.2.2), (x.2.2.2.2.2, tup0)]) := by
  obtain ⟨h1, h2⟩ := h
  have e : (0 + (sp.wa : Int) + sp.wp + sp.wb + sp.wc + sp.wd) = ((8 * N : Nat) : Int) := by omega
  exact e ▸ szLoop2 w b1 b2 y z sp S t (by omega) (by omega) (by omega) (by omega) (by omega)
def cSzT2 (n : Nat) (is : List Nat) (sp : Sp) (N : Nat) (h : Fits sp N) (r : Hx prog (wr w b1 b2) (kt w.params) α₀) : Hx prog (wr w b1 b2) (kt w.params) α₀ :=
  .cut n 640 (lev 640) is (Gs × Sh × Addr × Tok × Stk) (fun _ l g s => (gsX l g, shX (l.drop 6), enA l 0, tokV (fldO (enO l 0) 0), s)) (fun y => .builtin "sum.loop" ⟨[.ref y.1.a, .ref y.2.2.1, .int 0 0, .int 0 0], []⟩) (fun y => y.2.2.2.2)
    (fun y => (y.2.2.1, lstO #[.int 0 y.2.2.2.1] 0) :: szH y.1 y.2.1 sp 2 0 (sfr1 w.params y.1)) (fun y => pg 2 ++ [.fresh (szC y.1)]) (fun _ => pg 2 ++ [.finished]) (Tok × Tok × (Addr × Addr × Addr × Addr)) (fun _ x => .ok (.ret (.int ((8 * N : Nat) : Int) x.1)))
    (fun y x => lstO #[.int ((8 * N : Nat) : Int) x.1] 0 :: szU y.1 y.2.1 sp 2 (titE 5) (sfr2 w.params y.1 x.2.1 (.ref y.2.1.d.bi))) (fun _ x => [(x.2.2.1, stopO x.2.2.2.1), (x.2.2.2.1, tup0), (x.2.2.2.2.1, stopO x.2.2.2.2.2), (x.2.2.2.2.2, tup0)])
    (fun y => (szT2 w b1 b2 y.1 y.2.1 sp N y.2.2.1 y.2.2.2.1 h).toX y.2.2.2.2) (fun _ _ _ _ => r)

theorem ssz1 (w : World) (b1 b2 : Bool) (x1 x2 x3 x4 x5 : Fc) (p : Pos) (q : Bq) (z : Sh) (sp : Sp) (ctx : Addr) (N : Nat) (h : Fits sp N) :
    CtrX prog (wr w b1 b2) (kt w.params) 600 (lev 600) (stk [x1, x2, x3, x4, x5] p) (.call (.ref 1040) ⟨[.ref q.st, .ref ctx], []⟩) ((1035, me0) :: stL q z sp) [] [.finished] (α := Tok × Addr) (fun x => .ok (.ret (.int ((8 * N : Nat) : Int) x.1))) (fun x => meS x.2 :: stU q z sp) (fun x => []) := by
  cases b1 <;> (refine CtrX.of_go (
    ownsX [(6, 1), (0, 1), (0, 0), (0, 0)] <|
    ownsX [(6, 1), (2, 3), (6, 3), (16, 3), (7, 3), (1, 3), (7, 0), (38, 0), (1, 0), (10, 0), (0, 0), (3, 0), (0, 0), (2, 0), (0, 0)] <|
    ownsX [(6, 0), (1, 0), (2, 2), (4, 2), (2, 2), (1, 2), (3, 2), (3, 3), (0, 3), (0, 3), (7, 4), (0, 4), (6, 5), (2, 7), (6, 7), (16, 7), (7, 7), (1, 7), (3, 9), (0, 9), (2, 9), (3, 0)] <|
    ownsX [(3, 7), (9, 10), (0, 10), (0, 10), (5, 0), (0, 0), (7, 0), (0, 0), (2, 0), (2, 0)] <|
    cSzT0 2 [0, 1, 2, 6, 11, 16, 17, 18, 19, 20, 21, 22, 23, 24, 25, 26, 27, 28, 29, 30, 31, 32, 33, 34, 35, 36] sp N h <|
    .fin 2 (fun r T => (tokV (valOf r), meX (objAt T 17))) [17, 18, 19, 20, 21, 22, 23, 24, 25, 26, 27, 28, 29, 30, 31, 32, 33, 34, 35, 36, 37, 38, 39, 40] []) ?_
   <;> (intro h dep fr gd un R d os tok b; kernel_rfl))

def cSsz1 (n : Nat) (is : List Nat) (sp : Sp) (N : Nat) (h : Fits sp N) (r : Hx prog (wr w b1 b2) (kt w.params) α₀) : Hx prog (wr w b1 b2) (kt w.params) α₀ :=
  .cut n 600 (lev 600) is (Bq × Sh × Addr × Pos × Fc × Fc × Fc × Fc × Fc) (fun c l _ s => (stX (l.drop 1), shX (l.drop 4), refV (argA c 1), posAt s 5, fcAt s 0, fcAt s 1, fcAt s 2, fcAt s 3, fcAt s 4)) (fun y => .call (.ref 1040) ⟨[.ref y.1.st, .ref y.2.2.1], []⟩) (fun y => stk [y.2.2.2.2.1, y.2.2.2.2.2.1, y.2.2.2.2.2.2.1, y.2.2.2.2.2.2.2.1, y.2.2.2.2.2.2.2.2] y.2.2.2.1)
    (fun y => (1035, me0) :: stL y.1 y.2.1 sp) (fun _ => []) (fun _ => [.finished]) (Tok × Addr) (fun _ x => .ok (.ret (.int ((8 * N : Nat) : Int) x.1))) (fun y x => meS x.2 :: stU y.1 y.2.1 sp) (fun _ _ => [])
    (fun y => ssz1 w b1 b2 y.2.2.2.2.1 y.2.2.2.2.2.1 y.2.2.2.2.2.2.1 y.2.2.2.2.2.2.2.1 y.2.2.2.2.2.2.2.2 y.2.2.2.1 y.1 y.2.1 sp y.2.2.1 N h) (fun _ _ _ _ => r)

theorem ssz2 (w : World) (b1 b2 : Bool) (x1 x2 x3 : Fc) (p : Pos) (q : Bq) (z : Sh) (sp : Sp) (ctx : Addr) (cd : Addr) (N : Nat) (h : Fits sp N) :
    CtrX prog (wr w b1 b2) (kt w.params) 600 (lev 600) (stk [x1, x2, x3] p) (.call (.ref 1040) ⟨[.ref q.st, .ref ctx], []⟩) ((1035, meS cd) :: stL q z sp) [.finished, .finished] [.finished, .finished, .finished] (α := Tok) (fun x => .ok (.ret (.int ((8 * N : Nat) : Int) x))) (fun x => meS cd :: stU q z sp) (fun x => []) := by
  cases b1 <;> (refine CtrX.of_go (
    ownsX [(6, 1), (0, 1), (0, 0), (0, 0)] <|
    ownsX [(6, 1), (2, 3), (6, 3), (16, 3), (7, 3), (1, 3), (7, 0), (38, 0), (1, 0), (10, 0), (0, 0), (3, 0), (0, 0), (2, 0), (0, 0)] <|
    ownsX [(6, 0), (1, 0), (2, 2), (4, 2), (2, 2), (1, 2), (3, 2), (3, 3), (0, 3), (0, 3), (7, 4), (0, 4), (6, 5), (2, 7), (6, 7), (16, 7), (7, 7), (1, 7), (3, 9), (0, 9), (2, 9), (3, 0)] <|
    ownsX [(3, 7), (5, 0), (0, 0), (7, 0), (0, 0), (2, 0), (2, 0)] <|
    cSzT2 2 [0, 1, 2, 3, 8, 13, 14, 15, 16, 17, 18, 19, 20, 21, 22, 23, 24, 25, 26, 27, 28, 29, 30, 31, 32, 33] sp N h <|
    .fin 2 (fun r _ => tokV (valOf r)) [14, 15, 16, 17, 18, 19, 20, 21, 22, 23, 24, 25, 26, 27, 28, 29, 30, 31, 32, 33, 34, 35, 36, 37] []) ?_
   <;> (intro h dep fr gd un R d os tok b; kernel_rfl))

def cSsz2 (n : Nat) (is : List Nat) (sp : Sp) (N : Nat) (h : Fits sp N) (r : Hx prog (wr w b1 b2) (kt w.params) α₀) : Hx prog (wr w b1 b2) (kt w.params) α₀ :=
  .cut n 600 (lev 600) is (Bq × Sh × Addr × Pos × Fc × Fc × Fc × Addr) (fun c l _ s => (stX (l.drop 1), shX (l.drop 4), refV (argA c 1), posAt s 3, fcAt s 0, fcAt s 1, fcAt s 2, meX (enO l 0))) (fun y => .call (.ref 1040) ⟨[.ref y.1.st, .ref y.2.2.1], []⟩) (fun y => stk [y.2.2.2.2.1, y.2.2.2.2.2.1, y.2.2.2.2.2.2.1] y.2.2.2.1)
    (fun y => (1035, meS y.2.2.2.2.2.2.2) :: stL y.1 y.2.1 sp) (fun _ => [.finished, .finished]) (fun _ => [.finished, .finished, .finished]) (Tok) (fun _ x => .ok (.ret (.int ((8 * N : Nat) : Int) x))) (fun y x => meS y.2.2.2.2.2.2.2 :: stU y.1 y.2.1 sp) (fun _ _ => [])
    (fun y => ssz2 w b1 b2 y.2.2.2.2.1 y.2.2.2.2.2.1 y.2.2.2.2.2.2.1 y.2.2.2.1 y.1 y.2.1 sp y.2.2.1 y.2.2.2.2.2.2.2 N h) (fun _ _ _ _ => r)

theorem and7 (N : Nat) : Builtin.bitAnd ((8 * N : Nat) : Int) 7 = 0 := by rw [bitAnd_m3]; omega
theorem shr3 (N : Nat) : ((N : Nat) : Int) = ((8 * N / 2 ^ 3 : Nat) : Int) := by omega

theorem rzC (w : World) (b1 b2 : Bool) (gl : List GenState) (q : Bq) (N : Nat) (t : Tok) :
    Ctr prog (wr w b1 b2) (kt w.params) 760 (lev 760) (.call (.ref q.rz) ⟨[.int ((8 * N : Nat) : Int) t], []⟩) [(q.rz, rzO q), (q.rc, coO q.co)] gl gl (α := Tok) (fun x => .ok (.ret (.int N x))) (fun _ => [rzO q, coO q.co]) (fun _ => []) := by
  cases b1 <;> (refine Ctr.of_go (NL w.params) (
    owns [(0, 0), (0, 1), (3, 0), (0, 0)] <|
    .stk 0 .enter 1 <|
    owns [(4, 0)] <|
    isI 5 _ 0 (and7 N) <|
    owns [(7, 0)] <|
    cutBin 3 gl "int.__rshift__" ((8 * N : Nat) : Int) ((3 : Nat) : Int) ((N : Nat) : Int) (rshC (shr3 N)) <|
    .fin 1 (fun r _ => tokV (valOf r)) [1, 2] []) ?_
   <;> (intro h dep fr gd un R d os tok b; kernel_rfl))

def cRz (n : Nat) (is : List Nat) (N : Nat) (r : Hx prog (wr w b1 b2) (kt w.params) α₀) : Hx prog (wr w b1 b2) (kt w.params) α₀ :=
  cutT n 760 (lev 760) is (Bq × Tok) (fun c l => (⟨0, 0, enA l 0, enA l 1, 0, 0, 0, 0, 0, coX (enO l 1)⟩, tokV (argA c 0))) (fun y => .call (.ref y.1.rz) ⟨[.int ((8 * N : Nat) : Int) y.2], []⟩) (fun y => [(y.1.rz, rzO y.1), (y.1.rc, coO y.1.co)]) Tok (fun _ x => .ok (.ret (.int N x))) (fun y _ => [rzO y.1, coO y.1.co]) (fun _ _ => [])
    (fun y gl => rzC w b1 b2 gl y.1 N y.2) (fun _ _ _ _ => r)

theorem bsz1 (w : World) (b1 b2 : Bool) (x1 x2 x3 x4 : Fc) (p : Pos) (q : Bq) (z : Sh) (sp : Sp) (ctx : Addr) (N : Nat) (h : Fits sp N) :
    CtrX prog (wr w b1 b2) (kt w.params) 560 (lev 560) (stk [x1, x2, x3, x4] p) (.call (.ref 1077) ⟨[.ref q.bu, .ref ctx], []⟩) ((1035, me0) :: bufL q z sp) [] [.finished] (α := Tok × Addr) (fun x => .ok (.ret (.int (N : Int) x.1))) (fun x => meS x.2 :: bufU q z sp) (fun x => []) := by
  cases b1 <;> (refine CtrX.of_go (
    ownsX [(5, 0), (0, 0), (2, 0), (0, 0)] <|
    ownsX [(6, 0), (1, 2), (7, 2), (7, 2), (5, 2), (8, 2), (18, 2), (7, 2), (1, 2), (3, 0), (2, 2), (8, 2), (20, 2), (7, 2), (1, 2), (3, 6), (5, 6), (5, 6), (4, 6), (0, 7), (2, 0)] <|
    cSsz1 2 [1, 6, 7, 8, 9, 10, 11, 12, 13, 14, 15, 16, 17, 18, 19, 20, 21, 22, 23, 24, 25, 26, 27, 28] sp N h <|
    ownsX [(2, 4)] <|
    cRz 0 [4, 5] N <|
    .fin 1 (fun r T => (tokV (valOf r), meX (objAt T 1))) [1, 2, 3, 4, 5, 6, 7, 8, 9, 10, 11, 12, 13, 14, 15, 16, 17, 18, 19, 20, 21, 22, 23, 24, 25, 26, 27, 28] []) ?_
   <;> (intro h dep fr gd un R d os tok b; kernel_rfl))

def cBsz1 (n : Nat) (is : List Nat) (sp : Sp) (N : Nat) (h : Fits sp N) (r : Hx prog (wr w b1 b2) (kt w.params) α₀) : Hx prog (wr w b1 b2) (kt w.params) α₀ :=
  .cut n 560 (lev 560) is (Bq × Sh × Addr × Pos × Fc × Fc × Fc × Fc) (fun c l _ s => (buX (l.drop 1), shX (l.drop 8), refV (argA c 1), posAt s 4, fcAt s 0, fcAt s 1, fcAt s 2, fcAt s 3)) (fun y => .call (.ref 1077) ⟨[.ref y.1.bu, .ref y.2.2.1], []⟩) (fun y => stk [y.2.2.2.2.1, y.2.2.2.2.2.1, y.2.2.2.2.2.2.1, y.2.2.2.2.2.2.2] y.2.2.2.1)
    (fun y => (1035, me0) :: bufL y.1 y.2.1 sp) (fun _ => []) (fun _ => [.finished]) (Tok × Addr) (fun _ x => .ok (.ret (.int (N : Int) x.1))) (fun y x => meS x.2 :: bufU y.1 y.2.1 sp) (fun _ _ => [])
    (fun y => bsz1 w b1 b2 y.2.2.2.2.1 y.2.2.2.2.2.1 y.2.2.2.2.2.2.1 y.2.2.2.2.2.2.2 y.2.2.2.1 y.1 y.2.1 sp y.2.2.1 N h) (fun _ _ _ _ => r)

theorem bsz2 (w : World) (b1 b2 : Bool) (x1 x2 : Fc) (p : Pos) (q : Bq) (z : Sh) (sp : Sp) (ctx : Addr) (cd : Addr) (N : Nat) (h : Fits sp N) :
    CtrX prog (wr w b1 b2) (kt w.params) 560 (lev 560) (stk [x1, x2] p) (.call (.ref 1077) ⟨[.ref q.bu, .ref ctx], []⟩) ((1035, meS cd) :: bufL q z sp) [.finished, .finished] [.finished, .finished, .finished] (α := Tok) (fun x => .ok (.ret (.int (N : Int) x))) (fun x => meS cd :: bufU q z sp) (fun x => []) := by
  cases b1 <;> (refine CtrX.of_go (
    ownsX [(5, 0), (0, 0), (2, 0), (0, 0)] <|
    ownsX [(6, 0), (1, 2), (7, 2), (7, 2), (5, 2), (8, 2), (18, 2), (7, 2), (1, 2), (3, 0), (2, 2), (8, 2), (20, 2), (7, 2), (1, 2), (3, 6), (5, 6), (5, 6), (4, 6), (0, 7), (2, 0)] <|
    cSsz2 2 [1, 6, 7, 8, 9, 10, 11, 12, 13, 14, 15, 16, 17, 18, 19, 20, 21, 22, 23, 24, 25, 26, 27, 28] sp N h <|
    ownsX [(2, 4)] <|
    cRz 0 [4, 5] N <|
    .fin 1 (fun r _ => tokV (valOf r)) [1, 2, 3, 4, 5, 6, 7, 8, 9, 10, 11, 12, 13, 14, 15, 16, 17, 18, 19, 20, 21, 22, 23, 24, 25, 26, 27, 28] []) ?_
   <;> (intro h dep fr gd un R d os tok b; kernel_rfl))

def cBsz2 (n : Nat) (is : List Nat) (sp : Sp) (N : Nat) (h : Fits sp N) (r : Hx prog (wr w b1 b2) (kt w.params) α₀) : Hx prog (wr w b1 b2) (kt w.params) α₀ :=
  .cut n 560 (lev 560) is (Bq × Sh × Addr × Pos × Fc × Fc × Addr) (fun c l _ s => (buX (l.drop 1), shX (l.drop 8), refV (argA c 1), posAt s 2, fcAt s 0, fcAt s 1, meX (enO l 0))) (fun y => .call (.ref 1077) ⟨[.ref y.1.bu, .ref y.2.2.1], []⟩) (fun y => stk [y.2.2.2.2.1, y.2.2.2.2.2.1] y.2.2.2.1)
    (fun y => (1035, meS y.2.2.2.2.2.2) :: bufL y.1 y.2.1 sp) (fun _ => [.finished, .finished]) (fun _ => [.finished, .finished, .finished]) (Tok) (fun _ x => .ok (.ret (.int (N : Int) x))) (fun y x => meS y.2.2.2.2.2.2 :: bufU y.1 y.2.1 sp) (fun _ _ => [])
    (fun y => bsz2 w b1 b2 y.2.2.2.2.1 y.2.2.2.2.2.1 y.2.2.2.1 y.1 y.2.1 sp y.2.2.1 y.2.2.2.2.2.2 N h) (fun _ _ _ _ => r)

theorem csz (w : World) (b1 b2 : Bool) (x1 : Fc) (p : Pos) (q : Bq) (z : Sh) (sp : Sp) (cd : Addr) (N : Nat) (h : Fits sp N) :
    CtrX prog (wr w b1 b2) (kt w.params) 520 (lev 520) (stk [x1] p) (.call (.ref 852) ⟨[.ref q.bu], []⟩) ((1035, meS cd) :: bufL q z sp) [.finished, .finished] [.finished, .finished, .finished] (α := Tok) (fun x => .ok (.ret (.int (N : Int) x))) (fun x => meS cd :: bufU q z sp) (fun x => []) := by
  cases b1 <;> (refine CtrX.of_go (
    ownsX [(6, 0), (0, 0), (2, 0), (0, 0)] <|
    ownsX [(6, 0), (36, 0), (1, 0), (11, 0), (0, 0), (2, 0), (0, 0)] <|
    ownsX [(6, 0), (1, 0), (2, 2), (4, 2), (2, 2), (1, 2), (3, 2), (3, 3), (0, 3), (0, 3), (9, 4), (0, 4), (4, 4), (1, 6), (7, 6), (7, 6), (4, 6), (0, 7), (2, 4)] <|
    cBsz2 2 [5, 6, 7, 8, 9, 10, 11, 12, 13, 14, 15, 16, 17, 18, 19, 20, 21, 22, 23, 24, 25, 26, 27, 28, 29, 30, 31, 32] sp N h <|
    .fin 1 (fun r _ => tokV (valOf r)) [5, 6, 7, 8, 9, 10, 11, 12, 13, 14, 15, 16, 17, 18, 19, 20, 21, 22, 23, 24, 25, 26, 27, 28, 29, 30, 31, 32] []) ?_
   <;> (intro h dep fr gd un R d os tok b; kernel_rfl))

def cCsz (n : Nat) (is : List Nat) (sp : Sp) (N : Nat) (h : Fits sp N) (r : Hx prog (wr w b1 b2) (kt w.params) α₀) : Hx prog (wr w b1 b2) (kt w.params) α₀ :=
  .cut n 520 (lev 520) is (Bq × Sh × Pos × Fc × Addr) (fun c l _ s => (buX (l.drop 1), shX (l.drop 8), posAt s 1, fcAt s 0, meX (enO l 0))) (fun y => .call (.ref 852) ⟨[.ref y.1.bu], []⟩) (fun y => stk [y.2.2.2.1] y.2.2.1)
    (fun y => (1035, meS y.2.2.2.2) :: bufL y.1 y.2.1 sp) (fun _ => [.finished, .finished]) (fun _ => [.finished, .finished, .finished]) Tok (fun _ x => .ok (.ret (.int (N : Int) x))) (fun y _ => meS y.2.2.2.2 :: bufU y.1 y.2.1 sp) (fun _ _ => [])
    (fun y => csz w b1 b2 y.2.2.2.1 y.2.2.1 y.1 y.2.1 sp y.2.2.2.2 N h) (fun _ _ _ _ => r)
end
end Mine
namespace Mine
open PySem PySem.Spec PySem.Calls PyProof.Rows PySem.W PySem.W.X
/-- the names of the fields -/
structure Nt where
  a : Tok
  b : Tok
  c : Tok
  d : Tok
def nm (z : Sh) (t : Nt) : Sh := { z with na := .str (S "a") t.a, nb := .str (S "b") t.b, nc := .str (S "c") t.c, nd := .str (S "d") t.d }
def ntX (l : List (Option En)) : Nt := ⟨tokV (sltO (enO l 0) 6), tokV (sltO (enO l 8) 6), tokV (sltO (enO l 12) 6), tokV (sltO (enO l 16) 6)⟩
/-- the widths are fit to be read of so many bits -/
structure Good (s : Sp) (n : Nat) : Prop where
  sum : s.wa + s.wp + s.wb + s.wc + s.wd = n
  le : n ≤ 900
  a : 1 ≤ s.wa
  p : 1 ≤ s.wp
  b : 1 ≤ s.wb
  c : 1 ≤ s.wc
  d : 1 ≤ s.wd
  sw : s.sw = true → s.wb = 8 ∨ s.wb = 16
/-- a container: its dict, its dict of fields -/
structure Cn where
  o : Addr
  dx : Addr
  f : Addr
  k : Tok
abbrev cnO (x : Cn) : Obj := ⟨.ref 162, some x.dx, .plain, #[]⟩
abbrev cnD (P : Params) (x : Cn) : Obj := ⟨.type "dict", none, .dict #[ent P "fields" x.k (.ref x.f)] 1, #[]⟩
abbrev cnL (P : Params) (x : Cn) (fo : Obj) : List En := [(x.o, cnO x), (x.dx, cnD P x), (x.f, fo)]
abbrev cnU (P : Params) (x : Cn) (fo : Obj) : List Obj := [cnO x, cnD P x, fo]
def cnX (l : List (Option En)) : Cn := ⟨enA l 0, enA l 1, enA l 2, tokV (entO (enO l 1) 0).1⟩
/-- the parsed fields -/
abbrev tdO (P : Params) (t : Nt) (s : Sp) (L : List Bool) (v : Nt) : Obj := ⟨.type "dict", none, .dict #[ent P "a" t.a (.int (fv false s.sa (sub L 0 s.wa)) v.a), ent P "b" t.b (.int (fv s.sw s.sb (sub L (0 + s.wa + s.wp) s.wb)) v.b), ent P "c" t.c (.int (fv false s.sc (sub L (0 + s.wa + s.wp + s.wb) s.wc)) v.c),
  ent P "d" t.d (.int (fv false s.sd (sub L (0 + s.wa + s.wp + s.wb + s.wc) s.wd)) v.d)] 4, #[]⟩
section
variable {α₀ : Type} {w : World} {b1 b2 : Bool} {gl : List GenState}
def cBip (n : Nat) (is : List Nat) (nv : Value) (L : List Bool) (p k : Nat) (sw sg : Bool) (hk : 1 ≤ k) (h : p + k ≤ L.length) (hL : L.length ≤ 900) (hsw : sw = true → k = 8 ∨ k = 16) (r : Hs prog (wr w b1 b2) (kt w.params) α₀) : Hs prog (wr w b1 b2) (kt w.params) α₀ :=
  .cutg n 660 (lev 660) is (Fd × Bio × Addr) (fun c l => (fdX l, bioX (l.drop 4), refV (argA c 2))) (fun y => .call (.ref 918) ⟨[.ref y.1.bi, .ref y.2.1.self, .ref y.2.2], []⟩) (fun y => biL y.1 nv k sw sg ++ bioL w.params y.2.1 (bitA L) p) (Tok × Tok) (fun _ x => .ok (.ret (.int (fv sw sg (sub L p k)) x.1)))
    (fun y x => biU y.1 nv k sw sg ++ bioU w.params { y.2.1 with tp := x.2 } (bitA L) ((p + k : Nat) : Int)) (fun _ _ => []) (fun y gl => bipC w b1 b2 gl y.1 nv y.2.1 y.2.2 L p k hk h hL sw sg hsw) (fun _ _ _ _ => r)
def cPap (n : Nat) (is : List Nat) (tp : Tok) (L : List Bool) (p k : Nat) (hk : 1 ≤ k) (h : p + k ≤ L.length) (hL : L.length ≤ 900) (r : Hs prog (wr w b1 b2) (kt w.params) α₀) : Hs prog (wr w b1 b2) (kt w.params) α₀ :=
  .cutg n 660 (lev 660) is (Fd × Bio × Addr) (fun c l => (fdX l, bioX (l.drop 4), refV (argA c 2))) (fun y => .call (.ref 918) ⟨[.ref y.1.bi, .ref y.2.1.self, .ref y.2.2], []⟩) (fun y => paL y.1 tp k ++ bioL w.params y.2.1 (bitA L) p) (Tok × Tok) (fun _ x => .ok (.ret (.bytes (bitA (sub L p k)) x.1)))
    (fun y x => paU y.1 tp k ++ bioU w.params { y.2.1 with tp := x.2 } (bitA L) ((p + k : Nat) : Int)) (fun _ _ => []) (fun y gl => papC w b1 b2 gl y.1 tp y.2.1 y.2.2 L p k hk h hL) (fun _ _ _ _ => r)
def cNotIn (n : Nat) (is : List Nat) (x : Str) (r : Hs prog (wr w b1 b2) (kt w.params) α₀) : Hs prog (wr w b1 b2) (kt w.params) α₀ :=
  .cutg n 900 9000 is (Addr × Tok) (fun c l => (enA l 0, tokV (argA c 1))) (fun y => .builtin "dict.__contains__" ⟨[.ref y.1, .str x y.2], []⟩) (fun y => [(y.1, dict0)]) Unit (fun _ _ => .ok (.ret (.bool false))) (fun _ _ => [dict0]) (fun _ _ => []) (fun y gl => notInC y.1 x y.2) (fun _ _ _ _ => r)

theorem spC (w : World) (b1 b2 : Bool) (gl : List GenState) (q : Bq) (z : Sh) (t : Nt) (sp : Sp) (s : Bio) (L : List Bool) (cx : Cn) (G : Good sp L.length) :
    Ctr prog (wr w b1 b2) (kt w.params) 600 (lev 600) (.call (.ref 1033) ⟨[.ref q.st, .ref s.self, .ref cx.o], []⟩) (stL q (nm z t) sp ++ (bioL w.params s (bitA L) 0 ++ cnL w.params cx dict0)) gl gl (α := Cn × Nt × Tok) (fun x => .ok (.ret (.ref x.1.o))) (fun x => stU q (nm z t) sp ++ (bioU w.params { s with tp := x.2.2 } (bitA L) ((0 + sp.wa + sp.wp + sp.wb + sp.wc + sp.wd : Nat) : Int) ++ cnU w.params cx dict0)) (fun x => cnL w.params x.1 (tdO w.params t sp L x.2.1)) := by
  cases b1 <;> (refine Ctr.of_go (NL w.params) (
    owns [(5, 0), (0, 0), (2, 0), (0, 0), (2, 0), (0, 0)] <|
    .stk 0 .enter 1 <|
    owns [(5, 0), (1, 27), (3, 27), (10, 0), (0, 0), (2, 0), (0, 0)] <|
    .stk 0 .enter 1 <|
    owns [(4, 0), (1, 0), (2, 28), (4, 28), (3, 28), (0, 28), (1, 29), (3, 30), (0, 30), (1, 30)] <|
    cNotIn 0 [30] (S "<obj>") <|
    owns [(37, 0), (1, 0), (11, 0), (0, 0), (2, 0), (0, 0)] <|
    .stk 0 .enter 1 <|
    owns [(4, 0), (1, 0), (2, 2), (4, 2), (2, 2), (1, 2), (3, 2), (3, 3), (0, 3), (0, 3), (9, 5), (0, 5), (3, 5), (2, 6), (6, 6), (16, 6), (7, 6), (1, 6), (7, 5), (38, 0), (1, 0), (10, 0), (0, 0), (3, 0), (0, 0), (2, 0), (0, 0)] <|
    .stk 0 .enter 1 <|
    owns [(4, 0), (1, 0), (2, 2), (4, 2), (2, 2), (1, 2), (3, 2), (3, 3), (0, 3), (0, 3), (9, 9), (0, 9), (3, 9), (2, 10), (6, 10), (16, 10), (7, 10), (1, 10), (3, 12), (0, 12), (2, 12), (3, 0), (2, 0), (1, 0), (1, 0), (0, 0), (0, 13), (0, 0), (0, 0), (5, 10), (0, 10), (3, 10), (2, 14), (10, 14), (26, 14), (7, 14), (1, 14), (3, 10), (2, 11), (6, 11), (5, 11), (0, 11), (14, 10), (1, 14), (9, 14), (9, 14), (6, 14), (0, 15), (2, 10), (1, 10)] <|
    cBip 2 [14, 15, 16, 17, 34, 35, 36] (.str (S "a") t.a) L 0 sp.wa false sp.sa G.a (by have := G.sum; have := G.le; omega) G.le (fun h => nomatch h) <|
    owns [(5, 10), (0, 10), (3, 10), (2, 14), (10, 14), (26, 14), (7, 14), (1, 14), (5, 10), (1, 10), (1, 10), (2, 14), (10, 14), (26, 14), (7, 14), (1, 14), (3, 7), (1, 7), (10, 0), (0, 0), (2, 0), (0, 0), (2, 0), (0, 0)] <|
    .stk 0 .enter 1 <|
    owns [(4, 0), (1, 0), (2, 8), (4, 8), (3, 8), (0, 8), (1, 9), (3, 0), (1, 7), (0, 7), (1, 7), (1, 7), (7, 7), (1, 7), (0, 7), (0, 7), (4, 11), (1, 11), (1, 11), (2, 15), (10, 15), (26, 15), (7, 15), (1, 15), (3, 4), (1, 4), (10, 0), (0, 0), (2, 0), (0, 0), (2, 0), (0, 0)] <|
    .stk 0 .enter 1 <|
    owns [(4, 0), (1, 0), (2, 5), (4, 5), (3, 5), (0, 5), (1, 6), (3, 0), (1, 4), (0, 4), (1, 4), (1, 4), (7, 4), (1, 4), (0, 4), (0, 4), (4, 2), (1, 2), (1, 2), (0, 2), (0, 15), (0, 2), (0, 2), (5, 12), (0, 12), (3, 12), (2, 20), (10, 20), (26, 20), (7, 20), (1, 20), (3, 12), (2, 13), (6, 13), (5, 13), (0, 13), (14, 12), (1, 20), (9, 20), (9, 20), (6, 20), (0, 21), (2, 12), (1, 12)] <|
    cPap 2 [20, 21, 22, 23, 36, 37, 38] z.tp L (0 + sp.wa) sp.wp G.p (by have := G.sum; have := G.le; omega) G.le <|
    owns [(5, 12), (0, 12), (3, 12), (2, 20), (10, 20), (26, 20), (7, 20), (1, 20), (5, 2), (1, 2), (1, 2), (0, 2), (0, 15), (0, 2), (0, 2), (5, 12), (0, 12), (3, 12), (2, 24), (10, 24), (26, 24), (7, 24), (1, 24), (3, 12), (2, 13), (6, 13), (5, 13), (0, 13), (14, 12), (1, 24), (9, 24), (9, 24), (6, 24), (0, 25), (2, 12), (1, 12)] <|
    cBip 2 [24, 25, 26, 27, 36, 37, 38] (.str (S "b") t.b) L (0 + sp.wa + sp.wp) sp.wb sp.sw sp.sb G.b (by have := G.sum; have := G.le; omega) G.le G.sw <|
    owns [(5, 12), (0, 12), (3, 12), (2, 24), (10, 24), (26, 24), (7, 24), (1, 24), (5, 12), (1, 12), (1, 12), (2, 24), (10, 24), (26, 24), (7, 24), (1, 24), (3, 9), (1, 9), (10, 0), (0, 0), (2, 0), (0, 0), (2, 0), (0, 0)] <|
    .stk 0 .enter 1 <|
    owns [(4, 0), (1, 0), (2, 10), (4, 10), (3, 10), (0, 10), (1, 11), (3, 0), (1, 9), (0, 9), (1, 9), (1, 9), (7, 9), (1, 9), (0, 9), (0, 9), (4, 13), (1, 13), (1, 13), (2, 25), (10, 25), (26, 25), (7, 25), (1, 25), (3, 6), (1, 6), (10, 0), (0, 0), (2, 0), (0, 0), (2, 0), (0, 0)] <|
    .stk 0 .enter 1 <|
    owns [(4, 0), (1, 0), (2, 7), (4, 7), (3, 7), (0, 7), (1, 8), (3, 0), (1, 6), (0, 6), (1, 6), (1, 6), (7, 6), (1, 6), (0, 6), (0, 6), (4, 4), (1, 4), (1, 4), (0, 4), (0, 17), (0, 4), (0, 4), (5, 14), (0, 14), (3, 14), (2, 30), (10, 30), (26, 30), (7, 30), (1, 30), (3, 14), (2, 15), (6, 15), (5, 15), (0, 15), (14, 14), (1, 30), (9, 30), (9, 30), (6, 30), (0, 31), (2, 14), (1, 14)] <|
    cBip 2 [30, 31, 32, 33, 38, 39, 40] (.str (S "c") t.c) L (0 + sp.wa + sp.wp + sp.wb) sp.wc false sp.sc G.c (by have := G.sum; have := G.le; omega) G.le (fun h => nomatch h) <|
    owns [(5, 14), (0, 14), (3, 14), (2, 30), (10, 30), (26, 30), (7, 30), (1, 30), (5, 14), (1, 14), (1, 14), (2, 30), (10, 30), (26, 30), (7, 30), (1, 30), (3, 11), (1, 11), (10, 0), (0, 0), (2, 0), (0, 0), (2, 0), (0, 0)] <|
    .stk 0 .enter 1 <|
    owns [(4, 0), (1, 0), (2, 12), (4, 12), (3, 12), (0, 12), (1, 13), (3, 0), (1, 11), (0, 11), (1, 11), (1, 11), (7, 11), (1, 11), (0, 11), (0, 11), (4, 15), (1, 15), (1, 15), (2, 31), (10, 31), (26, 31), (7, 31), (1, 31), (3, 8), (1, 8), (10, 0), (0, 0), (2, 0), (0, 0), (2, 0), (0, 0)] <|
    .stk 0 .enter 1 <|
    owns [(4, 0), (1, 0), (2, 9), (4, 9), (3, 9), (0, 9), (1, 10), (3, 0), (1, 8), (0, 8), (1, 8), (1, 8), (7, 8), (1, 8), (0, 8), (0, 8), (4, 6), (1, 6), (1, 6), (0, 6), (0, 19), (0, 6), (0, 6), (5, 16), (0, 16), (3, 16), (2, 36), (10, 36), (26, 36), (7, 36), (1, 36), (3, 16), (2, 17), (6, 17), (5, 17), (0, 17), (14, 16), (1, 36), (9, 36), (9, 36), (6, 36), (0, 37), (2, 16), (1, 16)] <|
    cBip 2 [36, 37, 38, 39, 40, 41, 42] (.str (S "d") t.d) L (0 + sp.wa + sp.wp + sp.wb + sp.wc) sp.wd false sp.sd G.d (by have := G.sum; have := G.le; omega) G.le (fun h => nomatch h) <|
    owns [(5, 16), (0, 16), (3, 16), (2, 36), (10, 36), (26, 36), (7, 36), (1, 36), (5, 16), (1, 16), (1, 16), (2, 36), (10, 36), (26, 36), (7, 36), (1, 36), (3, 13), (1, 13), (10, 0), (0, 0), (2, 0), (0, 0), (2, 0), (0, 0)] <|
    .stk 0 .enter 1 <|
    owns [(4, 0), (1, 0), (2, 14), (4, 14), (3, 14), (0, 14), (1, 15), (3, 0), (1, 13), (0, 13), (1, 13), (1, 13), (7, 13), (1, 13), (0, 13), (0, 13), (4, 17), (1, 17), (1, 17), (2, 37), (10, 37), (26, 37), (7, 37), (1, 37), (3, 10), (1, 10), (10, 0), (0, 0), (2, 0), (0, 0), (2, 0), (0, 0)] <|
    .stk 0 .enter 1 <|
    owns [(4, 0), (1, 0), (2, 11), (4, 11), (3, 11), (0, 11), (1, 12), (3, 0), (1, 10), (0, 10), (1, 10), (1, 10), (7, 10), (1, 10), (0, 10), (0, 10), (4, 8), (1, 8), (1, 8), (0, 8), (0, 21), (1, 8), (0, 8), (4, 0), (4, 20)] <|
    .fin 0 (fun r T => (⟨adAt T 17, adAt T 18, adAt T 16, tokV (entO (objAt T 18) 0).1⟩, ⟨tokV (entO (objAt T 16) 0).2, tokV (entO (objAt T 16) 1).2, tokV (entO (objAt T 16) 2).2, tokV (entO (objAt T 16) 3).2⟩, tokV (entO (objAt T 45) 1).2)) [21, 22, 23, 24, 25, 26, 27, 28, 29, 30, 31, 32, 33, 34, 35, 36, 37, 38, 39, 40, 41, 42, 43, 44, 45, 46, 47, 48, 49] [17, 18, 16]) ?_
   <;> (intro h dep fr gd un R d os tok b; kernel_rfl))

def cSp (n : Nat) (is : List Nat) (sp : Sp) (L : List Bool) (G : Good sp L.length) (r : Addr → Hx prog (wr w b1 b2) (kt w.params) α₀) : Hx prog (wr w b1 b2) (kt w.params) α₀ :=
  cutT n 600 (lev 600) is (Bq × Sh × Nt × Bio × Cn) (fun _ l => (stX l, shX (l.drop 3), ntX (l.drop 3), bioX ((l.drop 23).take 3), cnX (l.drop 26))) (fun y => .call (.ref 1033) ⟨[.ref y.1.st, .ref y.2.2.2.1.self, .ref y.2.2.2.2.o], []⟩)
    (fun y => stL y.1 (nm y.2.1 y.2.2.1) sp ++ (bioL w.params y.2.2.2.1 (bitA L) 0 ++ cnL w.params y.2.2.2.2 dict0)) (Cn × Nt × Tok) (fun _ x => .ok (.ret (.ref x.1.o)))
    (fun y x => stU y.1 (nm y.2.1 y.2.2.1) sp ++ (bioU w.params { y.2.2.2.1 with tp := x.2.2 } (bitA L) ((0 + sp.wa + sp.wp + sp.wb + sp.wc + sp.wd : Nat) : Int) ++ cnU w.params y.2.2.2.2 dict0)) (fun y x => cnL w.params x.1 (tdO w.params y.2.2.1 sp L x.2.1))
    (fun y gl => spC w b1 b2 gl y.1 y.2.1 y.2.2.1 sp y.2.2.2.1 L y.2.2.2.2 G) (fun _ x _ _ => r x.1.o)
end
end Mine
namespace Mine
open PySem PySem.Spec PySem.Calls PyProof.Rows PySem.W PySem.W.X
def ownsP {prog : Program} {w : World} {kt : KT} {α₀ : Type} (l : List (Nat × Nat)) (r : Hp prog w kt α₀) : Hp prog w kt α₀ := match l with
  | [] => r
  | p :: l => .own p.1 p.2 (ownsP l r)
section
variable {α₀ : Type} {w : World} {b1 b2 : Bool} {gl : List GenState}
def pBaNew {prog : Program} {w : World} {kt : KT} (n : Nat) (r : Hp prog w kt α₀) : Hp prog w kt α₀ :=
  .cutg n 900 9000 [] Value (fun c _ => argA c 1) (fun y => .call (.builtin "bytearray.__new__") ⟨[.type "bytearray", y], []⟩) (fun _ => []) Addr (fun _ a => .ok (.ret (.ref a))) (fun _ _ => []) (fun _ a => [(a, baO #[])])
    (fun y _ => (baNewC y).toP) (fun _ _ _ _ => r)
def pBaInit {prog : Program} {w : World} {kt : KT} (n : Nat) (is : List Nat) (B : Array UInt8) (hz : B.size ≤ sizeLine) (r : Hp prog w kt α₀) : Hp prog w kt α₀ :=
  .cutg n 900 9000 is (Addr × Tok) (fun c _ => (refV (argA c 0), tokV (argA c 1))) (fun y => .builtin "bytearray.__init__" ⟨[.ref y.1, .bytes B y.2], []⟩) (fun y => [(y.1, baO #[])]) Unit (fun _ _ => .ok (.ret .none)) (fun _ _ => [baO B]) (fun _ _ => [])
    (fun y _ => baInitC y.1 B hz y.2) (fun _ _ _ _ => r)

theorem bnC (w : World) (b1 b2 : Bool) (gl : List GenState) (B : Array UInt8) (hz : B.size ≤ sizeLine) (t : Tok) :
    CtrP prog (wr w b1 b2) (kt w.params) 700 (lev 700) (.call (.ref 523) ⟨[.bytes B t], []⟩) [] gl gl (α := Bio) (fun x => .ok (.ret (.ref x.self))) (fun _ => []) (fun x => bioL w.params x B 0) := by
  cases b1 <;> (refine CtrP.of_go (NL w.params) (
    ownsP [(38, 0), (0, 0), (2, 0), (0, 0), (2, 0), (0, 0)] <|
    .stk 0 .enter 1 <|
    ownsP [(4, 0), (14, 0), (45, 0), (1, 0), (11, 0), (0, 0), (2, 0), (0, 0)] <|
    .stk 0 .enter 1 <|
    ownsP [(4, 0), (5, 0), (11, 0), (5, 0)] <|
    pBaNew 3 <|
    ownsP [(0, 0), (0, 0), (1, 0)] <|
    pBaInit 0 [0] B hz <|
    ownsP [(4, 1), (2, 2), (8, 2), (2, 2), (1, 2), (7, 2), (3, 3), (0, 3), (0, 3), (5, 1), (2, 2), (8, 2), (2, 2), (1, 2), (7, 2), (3, 3), (0, 3), (0, 3)] <|
    .fin 2 (fun _ T => ⟨adAt T 2, adAt T 3, adAt T 0, tokV (entO (objAt T 3) 0).1, tokV (entO (objAt T 3) 1).1, tokV (entO (objAt T 3) 1).2⟩) [] [2, 3, 0]) ?_
   <;> (intro h dep fr gd un R d os tok b; kernel_rfl))

def pBn (n : Nat) (B : Array UInt8) (hz : B.size ≤ sizeLine) (r : Hp prog (wr w b1 b2) (kt w.params) α₀) : Hp prog (wr w b1 b2) (kt w.params) α₀ :=
  .cutg n 700 (lev 700) [] Tok (fun c _ => tokV (argA c 0)) (fun y => .call (.ref 523) ⟨[.bytes B y], []⟩) (fun _ => []) Bio (fun _ x => .ok (.ret (.ref x.self))) (fun _ _ => []) (fun _ x => bioL w.params x B 0) (fun y gl => bnC w b1 b2 gl B hz y) (fun _ _ _ _ => r)
def xBn (n : Nat) (B : Array UInt8) (hz : B.size ≤ sizeLine) (r : Hx prog (wr w b1 b2) (kt w.params) α₀) : Hx prog (wr w b1 b2) (kt w.params) α₀ :=
  .cutp n 700 (lev 700) [] Tok (fun c _ => tokV (argA c 0)) (fun y => .call (.ref 523) ⟨[.bytes B y], []⟩) (fun _ => []) Bio (fun _ x => .ok (.ret (.ref x.self))) (fun _ _ => []) (fun _ x => bioL w.params x B 0) (fun y gl => bnC w b1 b2 gl B hz y) (fun _ _ _ _ => r)

def nth0 (T : List En) (i : Nat) : En := (adAt T i, objAt T i)

theorem asC (w : World) (b1 b2 : Bool) (gl : List GenState) (B : Array UInt8) (hz : B.size ≤ sizeLine) (t : Tok) :
    CtrP prog (wr w b1 b2) (kt w.params) 660 (lev 660) (.call (.ref 1232) ⟨[.bytes B t], []⟩) [] gl gl (α := Bio) (fun x => .ok (.ret (.ref x.self))) (fun _ => []) (fun x => bioL w.params x B 0) := by
  cases b1 <;> (refine CtrP.of_go (NL w.params) (
    ownsP [(5, 0), (0, 0)] <|
    .stk 0 .enter 1 <|
    ownsP [(6, 0)] <|
    pBn 3 B hz <|
    .fin 1 (fun _ T => bioX [some (nth0 T 0), some (nth0 T 1), some (nth0 T 2)]) [] [0, 1, 2]) ?_
   <;> (intro h dep fr gd un R d os tok b; kernel_rfl))

def xAs (n : Nat) (B : Array UInt8) (hz : B.size ≤ sizeLine) (r : Addr → Hx prog (wr w b1 b2) (kt w.params) α₀) : Hx prog (wr w b1 b2) (kt w.params) α₀ :=
  .cutp n 660 (lev 660) [] Tok (fun c _ => tokV (argA c 0)) (fun y => .call (.ref 1232) ⟨[.bytes B y], []⟩) (fun _ => []) Bio (fun _ x => .ok (.ret (.ref x.self))) (fun _ _ => []) (fun _ x => bioL w.params x B 0) (fun y gl => asC w b1 b2 gl B hz y) (fun _ x _ _ => r x.self)
def xRs (n : Nat) (is : List Nat) (B Z : Array UInt8) (p k : Nat) (hn : 1 ≤ k) (h : p + k ≤ B.size) (hz : B.size ≤ sizeLine) (hZ : B.extract p (p + k) = Z) (hs : (Z.size : Int) = k) (r : Hx prog (wr w b1 b2) (kt w.params) α₀) : Hx prog (wr w b1 b2) (kt w.params) α₀ :=
  cutT n 740 (lev 740) is (Bio × Tok) (fun c l => (bioX l, tokV (argA c 1))) (fun s => .call (.ref 938) ⟨[.ref s.1.self, .int k s.2], []⟩) (fun s => bioL w.params s.1 B p) (Tok × Tok) (fun _ x => .ok (.ret (.bytes Z x.1)))
    (fun s x => bioU w.params { s.1 with tp := x.2 } B ((p + k : Nat) : Int)) (fun _ _ => []) (fun s gl => rsC w b1 b2 gl s.1 B Z p k s.2 hn h hz hZ hs) (fun _ _ _ _ => r)
def xEnc (n : Nat) (is : List Nat) (B : List UInt8) (h1 : 1 ≤ B.length) (h2 : B.length ≤ 10) (r : Hx prog (wr w b1 b2) (kt w.params) α₀) : Hx prog (wr w b1 b2) (kt w.params) α₀ :=
  .cut n 700 (lev 700) is (Tok × Pos × Fc × Fc × Fc × Fc) (fun c _ _ s => (tokV (argA c 0), posAt s 4, fcAt s 0, fcAt s 1, fcAt s 2, fcAt s 3)) (fun y => .call (.ref 53) ⟨[.bytes B.toArray y.1], []⟩) (fun y => stk [y.2.2.1, y.2.2.2.1, y.2.2.2.2.1, y.2.2.2.2.2] y.2.1) (fun _ => [(48, me0)]) (fun _ => [.finished]) (fun _ => [.finished, .finished]) (Tok × Array Value)
    (fun _ x => .ok (.ret (.bytes (bitA (bitsOf B)) x.1))) (fun _ x => [meA x.2]) (fun _ _ => []) (fun y => encC w b1 b2 y.2.2.1 y.2.2.2.1 y.2.2.2.2.1 y.2.2.2.2.2 y.2.1 B y.1 h1 h2) (fun _ _ _ _ => r)
def xSeek (n : Nat) (is : List Nat) (B : Array UInt8) (p : Int) (r : Hx prog (wr w b1 b2) (kt w.params) α₀) : Hx prog (wr w b1 b2) (kt w.params) α₀ :=
  cutT n 780 (lev 780) is (Bio × Tok) (fun c l => (bioX l, tokV (argA c 1))) (fun s => .call (.ref 431) ⟨[.ref s.1.self, .int 3 s.2], []⟩) (fun s => bioL w.params s.1 B p) Nat (fun _ t' => .ok (.ret (.int 3 t'))) (fun s _ => bioU w.params { s.1 with tp := s.2 } B 3) (fun _ _ => [])
    (fun s gl => seekC w b1 b2 gl s.1 B p s.2) (fun _ _ _ _ => r)
theorem bitsOf_len (B : List UInt8) : (bitsOf B).length = 8 * B.length := by
  unfold bitsOf
  induction B with
  | nil => rfl
  | cons u r ih => rw [List.flatMap_cons, List.length_append, ih, bb_len, List.length_cons]; omega
/-- what is asked of a parse -/
structure Job (sp : Sp) (B : List UInt8) (D : Array UInt8) : Prop where
  fits : Fits sp B.length
  good : Good sp (bitsOf B).length
  one : 1 ≤ B.length
  ten : B.length ≤ 10
  cut : D.extract 3 (3 + B.length) = B.toArray
  le : 3 + B.length ≤ D.size
  sz : D.size ≤ sizeLine
theorem Job.bits {sp : Sp} {B : List UInt8} {D : Array UInt8} (J : Job sp B D) : (bitA (bitsOf B)).size ≤ sizeLine := bitA_fits J.good.le
theorem Job.size {sp : Sp} {B : List UInt8} {D : Array UInt8} (_ : Job sp B D) : (B.toArray.size : Int) = (B.length : Int) := by simp

theorem bpC (w : World) (b1 b2 : Bool) (x1 x2 x3 : Fc) (p : Pos) (q : Bq) (z : Sh) (t : Nt) (sp : Sp) (B : List UInt8) (D : Array UInt8) (J : Job sp B D) (s : Bio) (cx : Cn) :
    CtrX prog (wr w b1 b2) (kt w.params) 520 (lev 520) (stk [x1, x2, x3] p) (.call (.ref 1070) ⟨[.ref q.bu, .ref s.self, .ref cx.o], []⟩) ((48, me0) :: (1035, me0) :: (bufL q (nm z t) sp ++ (bioL w.params s D 3 ++ cnL w.params cx dict0))) [] [.finished, .finished] (α := Array Value × Addr × Cn × Nt × Tok) (fun x => .ok (.ret (.ref x.2.2.1.o))) (fun x => meA x.1 :: meS x.2.1 :: (bufU q (nm z t) sp ++ (bioU w.params { s with tp := x.2.2.2.2 } D ((3 + B.length : Nat) : Int) ++ cnU w.params cx dict0))) (fun x => cnL w.params x.2.2.1 (tdO w.params t sp (bitsOf B) x.2.2.2.1)) := by
  cases b1 <;> (refine CtrX.of_go (
    ownsX [(5, 0), (0, 0), (2, 0), (0, 0), (2, 0), (0, 0)] <|
    ownsX [(8, 0), (1, 0), (1, 3), (7, 3), (7, 3), (4, 3), (0, 4), (2, 0)] <|
    cBsz1 2 [2, 3, 4, 5, 6, 7, 8, 9, 10, 11, 12, 13, 14, 15, 16, 17, 18, 19, 20, 21, 22, 23, 24, 25, 26, 27, 28, 29] sp B.length J.fits <|
    xRs 3 [30, 31, 32] D B.toArray 3 B.length J.one J.le J.sz J.cut J.size <|
    ownsX [(5, 0), (0, 0), (5, 0), (1, 3), (7, 3), (7, 3), (5, 3), (8, 3), (18, 3), (7, 3), (1, 3), (3, 0)] <|
    xEnc 2 [1] B J.one J.ten <|
    xBn 4 (bitA (bitsOf B)) J.bits <|
    ownsX [(5, 3), (0, 3), (3, 3), (2, 6), (8, 6), (20, 6), (7, 6), (1, 6), (3, 10), (5, 10), (5, 10), (4, 10), (0, 11), (2, 3), (1, 3)] <|
    cSp 2 [10, 11, 12, 13, 14, 15, 16, 17, 18, 19, 20, 21, 22, 23, 24, 25, 26, 27, 28, 29, 30, 31, 32, 0, 1, 2, 36, 37, 38] sp (bitsOf B) J.good fun _ =>
    .fin 1 (fun _ T => (fldA (objAt T 7), meX (objAt T 8), ⟨adAt T 0, adAt T 1, adAt T 2, tokV (entO (objAt T 1) 0).1⟩, ⟨tokV (entO (objAt T 2) 0).2, tokV (entO (objAt T 2) 1).2, tokV (entO (objAt T 2) 2).2, tokV (entO (objAt T 2) 3).2⟩, tokV (entO (objAt T 37) 1).2)) [7, 8, 9, 10, 11, 12, 13, 14, 15, 16, 17, 18, 19, 20, 21, 22, 23, 24, 25, 26, 27, 28, 29, 30, 31, 32, 33, 34, 35, 36, 37, 38, 39, 40, 41] [0, 1, 2]) ?_
   <;> (intro h dep fr gd un R d os tok b; kernel_rfl))

def xBp (n : Nat) (is : List Nat) (sp : Sp) (B : List UInt8) (D : Array UInt8) (J : Job sp B D) (r : Hx prog (wr w b1 b2) (kt w.params) α₀) : Hx prog (wr w b1 b2) (kt w.params) α₀ :=
  .cut n 520 (lev 520) is (Bq × Sh × Nt × Bio × Cn × Pos × Fc × Fc × Fc) (fun _ l _ s => (buX (l.drop 2), shX (l.drop 9), ntX (l.drop 9), bioX ((l.drop 29).take 3), cnX (l.drop 32), posAt s 3, fcAt s 0, fcAt s 1, fcAt s 2)) (fun y => .call (.ref 1070) ⟨[.ref y.1.bu, .ref y.2.2.2.1.self, .ref y.2.2.2.2.1.o], []⟩)
    (fun y => stk [y.2.2.2.2.2.2.1, y.2.2.2.2.2.2.2.1, y.2.2.2.2.2.2.2.2] y.2.2.2.2.2.1) (fun y => (48, me0) :: (1035, me0) :: (bufL y.1 (nm y.2.1 y.2.2.1) sp ++ (bioL w.params y.2.2.2.1 D 3 ++ cnL w.params y.2.2.2.2.1 dict0))) (fun _ => []) (fun _ => [.finished, .finished]) (Array Value × Addr × Cn × Nt × Tok)
    (fun _ x => .ok (.ret (.ref x.2.2.1.o))) (fun y x => meA x.1 :: meS x.2.1 :: (bufU y.1 (nm y.2.1 y.2.2.1) sp ++ (bioU w.params { y.2.2.2.1 with tp := x.2.2.2.2 } D ((3 + B.length : Nat) : Int) ++ cnU w.params y.2.2.2.2.1 dict0))) (fun y x => cnL w.params x.2.2.1 (tdO w.params y.2.2.1 sp (bitsOf B) x.2.2.2.1))
    (fun y => bpC w b1 b2 y.2.2.2.2.2.2.1 y.2.2.2.2.2.2.2.1 y.2.2.2.2.2.2.2.2 y.2.2.2.2.2.1 y.1 y.2.1 y.2.2.1 sp B D J y.2.2.2.1 y.2.2.2.2.1) (fun _ _ _ _ => r)

theorem psC (w : World) (b1 b2 : Bool) (x1 x2 : Fc) (p : Pos) (q : Bq) (z : Sh) (t : Nt) (sp : Sp) (B : List UInt8) (D : Array UInt8) (J : Job sp B D) (s : Bio) :
    CtrX prog (wr w b1 b2) (kt w.params) 480 (lev 480) (stk [x1, x2] p) (.call (.ref 837) ⟨[.ref q.bu, .ref s.self], []⟩) ((48, me0) :: (1035, me0) :: (bufL q (nm z t) sp ++ (bioL w.params s D 3))) [] [.finished, .finished] (α := Array Value × Addr × Cn × Nt × Tok) (fun x => .ok (.ret (.ref x.2.2.1.o))) (fun x => meA x.1 :: meS x.2.1 :: (bufU q (nm z t) sp ++ (bioU w.params { s with tp := x.2.2.2.2 } D ((3 + B.length : Nat) : Int)))) (fun x => cnL w.params x.2.2.1 (tdO w.params t sp (bitsOf B) x.2.2.2.1)) := by
  cases b1 <;> (refine CtrX.of_go (
    ownsX [(5, 0), (0, 0), (2, 0), (0, 0)] <|
    ownsX [(6, 0), (1, 3), (7, 3), (7, 3), (4, 3), (0, 4), (2, 0), (34, 0), (1, 0), (11, 0), (0, 0), (2, 0), (0, 0)] <|
    ownsX [(6, 0), (1, 0), (2, 2), (4, 2), (2, 2), (1, 2), (3, 2), (3, 3), (0, 3), (0, 3)] <|
    xBp 7 [5, 6, 7, 8, 9, 10, 11, 12, 13, 14, 15, 16, 17, 18, 19, 20, 21, 22, 23, 24, 25, 26, 27, 28, 29, 30, 31, 32, 33, 34, 35, 36, 2, 3, 1] sp B D J <|
    .fin 1 (fun _ T => (fldA (objAt T 8), meX (objAt T 9), ⟨adAt T 0, adAt T 1, adAt T 2, tokV (entO (objAt T 1) 0).1⟩, ⟨tokV (entO (objAt T 2) 0).2, tokV (entO (objAt T 2) 1).2, tokV (entO (objAt T 2) 2).2, tokV (entO (objAt T 2) 3).2⟩, tokV (entO (objAt T 38) 1).2)) [8, 9, 10, 11, 12, 13, 14, 15, 16, 17, 18, 19, 20, 21, 22, 23, 24, 25, 26, 27, 28, 29, 30, 31, 32, 33, 34, 35, 36, 37, 38, 39] [0, 1, 2]) ?_
   <;> (intro h dep fr gd un R d os tok b; kernel_rfl))

def xPs (n : Nat) (is : List Nat) (sp : Sp) (B : List UInt8) (D : Array UInt8) (J : Job sp B D) (r : Hx prog (wr w b1 b2) (kt w.params) α₀) : Hx prog (wr w b1 b2) (kt w.params) α₀ :=
  .cut n 480 (lev 480) is (Bq × Sh × Nt × Bio × Pos × Fc × Fc) (fun _ l _ s => (buX (l.drop 2), shX (l.drop 9), ntX (l.drop 9), bioX ((l.drop 29).take 3), posAt s 2, fcAt s 0, fcAt s 1)) (fun y => .call (.ref 837) ⟨[.ref y.1.bu, .ref y.2.2.2.1.self], []⟩)
    (fun y => stk [y.2.2.2.2.2.1, y.2.2.2.2.2.2] y.2.2.2.2.1) (fun y => (48, me0) :: (1035, me0) :: (bufL y.1 (nm y.2.1 y.2.2.1) sp ++ (bioL w.params y.2.2.2.1 D 3))) (fun _ => []) (fun _ => [.finished, .finished]) (Array Value × Addr × Cn × Nt × Tok)
    (fun _ x => .ok (.ret (.ref x.2.2.1.o))) (fun y x => meA x.1 :: meS x.2.1 :: (bufU y.1 (nm y.2.1 y.2.2.1) sp ++ (bioU w.params { y.2.2.2.1 with tp := x.2.2.2.2 } D ((3 + B.length : Nat) : Int)))) (fun y x => cnL w.params x.2.2.1 (tdO w.params y.2.2.1 sp (bitsOf B) x.2.2.2.1))
    (fun y => psC w b1 b2 y.2.2.2.2.2.1 y.2.2.2.2.2.2 y.2.2.2.2.1 y.1 y.2.1 y.2.2.1 sp B D J y.2.2.2.1) (fun _ _ _ _ => r)

theorem stpC (w : World) (b1 b2 : Bool) (x1 : Fc) (p : Pos) (q : Bq) (z : Sh) (t : Nt) (sp : Sp) (B : List UInt8) (D : Array UInt8) (J : Job sp B D) (s : Bio) (t3 : Tok) :
    CtrX prog (wr w b1 b2) (kt w.params) 440 (lev 440) (stk [x1] p) (.call (.ref 1240) ⟨[.ref q.bu, .ref s.self, .int 3 t3], []⟩) ((48, me0) :: (1035, me0) :: (bufL q (nm z t) sp ++ (bioL w.params s D 0))) [] [.finished, .finished] (α := Array Value × Addr × Cn × Nt × Tok) (fun x => .ok (.ret (.ref x.2.2.1.o))) (fun x => meA x.1 :: meS x.2.1 :: (bufU q (nm z t) sp ++ (bioU w.params { s with tp := x.2.2.2.2 } D ((3 + B.length : Nat) : Int)))) (fun x => cnL w.params x.2.2.1 (tdO w.params t sp (bitsOf B) x.2.2.2.1)) := by
  cases b1 <;> (refine CtrX.of_go (
    ownsX [(6, 0), (0, 0), (2, 0), (0, 0), (2, 0), (0, 0)] <|
    ownsX [(7, 0), (3, 0), (1, 30), (7, 30), (7, 30), (4, 30), (0, 31), (2, 0)] <|
    xSeek 2 [30, 31, 32] D 0 <|
    ownsX [(3, 0), (1, 3), (7, 3), (7, 3), (8, 3), (0, 4), (2, 0)] <|
    xPs 2 [1, 2, 3, 4, 5, 6, 7, 8, 9, 10, 11, 12, 13, 14, 15, 16, 17, 18, 19, 20, 21, 22, 23, 24, 25, 26, 27, 28, 29, 30, 31, 32] sp B D J <|
    .fin 1 (fun _ T => (fldA (objAt T 4), meX (objAt T 5), ⟨adAt T 0, adAt T 1, adAt T 2, tokV (entO (objAt T 1) 0).1⟩, ⟨tokV (entO (objAt T 2) 0).2, tokV (entO (objAt T 2) 1).2, tokV (entO (objAt T 2) 2).2, tokV (entO (objAt T 2) 3).2⟩, tokV (entO (objAt T 34) 1).2)) [4, 5, 6, 7, 8, 9, 10, 11, 12, 13, 14, 15, 16, 17, 18, 19, 20, 21, 22, 23, 24, 25, 26, 27, 28, 29, 30, 31, 32, 33, 34, 35] [0, 1, 2]) ?_
   <;> (intro h dep fr gd un R d os tok b; kernel_rfl))

def xStp (n : Nat) (is : List Nat) (sp : Sp) (B : List UInt8) (D : Array UInt8) (J : Job sp B D) (r : Cn → Hx prog (wr w b1 b2) (kt w.params) α₀) : Hx prog (wr w b1 b2) (kt w.params) α₀ :=
  .cut n 440 (lev 440) is (Bq × Sh × Nt × Bio × Pos × Fc × Tok) (fun c l _ s => (buX (l.drop 2), shX (l.drop 9), ntX (l.drop 9), bioX ((l.drop 29).take 3), posAt s 1, fcAt s 0, tokV (argA c 2))) (fun y => .call (.ref 1240) ⟨[.ref y.1.bu, .ref y.2.2.2.1.self, .int 3 y.2.2.2.2.2.2], []⟩)
    (fun y => stk [y.2.2.2.2.2.1] y.2.2.2.2.1) (fun y => (48, me0) :: (1035, me0) :: (bufL y.1 (nm y.2.1 y.2.2.1) sp ++ (bioL w.params y.2.2.2.1 D 0))) (fun _ => []) (fun _ => [.finished, .finished]) (Array Value × Addr × Cn × Nt × Tok)
    (fun _ x => .ok (.ret (.ref x.2.2.1.o))) (fun y x => meA x.1 :: meS x.2.1 :: (bufU y.1 (nm y.2.1 y.2.2.1) sp ++ (bioU w.params { y.2.2.2.1 with tp := x.2.2.2.2 } D ((3 + B.length : Nat) : Int)))) (fun y x => cnL w.params x.2.2.1 (tdO w.params y.2.2.1 sp (bitsOf B) x.2.2.2.1))
    (fun y => stpC w b1 b2 y.2.2.2.2.2.1 y.2.2.2.2.1 y.1 y.2.1 y.2.2.1 sp B D J y.2.2.2.1 y.2.2.2.2.2.2) (fun _ x _ _ => r x.2.2.1)
end
end Mine
namespace Mine
open PySem PySem.Spec PySem.Calls PyProof.Rows PySem.W PySem.W.X
abbrev meR (a : Addr) : Obj := ⟨.none, none, .fields #[.int 687 0, .int 4 0, .ref a], #[]⟩
section
variable {α₀ : Type} {w : World} {b1 b2 : Bool} {gl : List GenState}
def cCol {prog : Program} {w : World} {kt : KT} (n : Nat) (is : List Nat) (xs : Array Value) (h1 : xs.size ≠ 0) (hz : xs.size ≤ 1000) (r : Hs prog w kt α₀) : Hs prog w kt α₀ :=
  .cutg n 900 9000 is Addr (fun _ l => enA l 0) (fun y => .builtin "proto.collect" ⟨[.ref y], []⟩) (fun y => [(y, tupO xs)]) Addr (fun _ a => .ok (.ret (.ref a))) (fun _ _ => [tupO xs]) (fun _ a => [(a, lstO xs 1)]) (fun y gl => collectC y xs h1 hz) (fun _ _ _ _ => r)

theorem bf_a (w : World) (b1 b2 : Bool) (gl : List GenState) (tn : Tok) (wd : Int) (tw : Tok) (sg : Bool) :
    Ctr prog (wr w b1 b2) (kt w.params) 600 (lev 600) (.call (.ref 1178) ⟨[.str (S "a") tn, .int wd tw], [(S "signed", .bool sg)]⟩) [] gl gl (α := Addr × Addr × Addr × Addr) (fun x => .ok (.ret (.ref x.1))) (fun _ => []) (fun x => biL ⟨x.1, x.2.1, x.2.2.1, x.2.2.2, tw⟩ (.str (S "a") tn) wd false sg) := by
  cases b1 <;> (refine Ctr.of_go (NL w.params) (
    owns [(6, 0), (0, 0), (2, 0), (0, 0), (2, 0), (0, 0), (2, 0), (0, 0), (2, 0), (0, 0)] <|
    .stk 0 .enter 1 <|
    owns [(7, 0), (17, 0), (1, 0), (8, 0), (0, 0), (2, 0), (0, 0)] <|
    .stk 0 .enter 1 <|
    owns [(7, 0), (15, 0), (1, 0), (37, 0), (1, 0), (10, 0), (0, 0), (2, 0), (0, 0), (2, 0), (0, 0)] <|
    .stk 0 .enter 1 <|
    owns [(20, 0), (1, 0), (9, 0), (0, 0), (2, 0), (0, 0), (2, 0), (0, 0)] <|
    .stk 0 .enter 1 <|
    owns [(4, 0), (6, 0), (11, 0), (7, 0), (11, 0), (1, 0), (2, 2), (6, 2), (2, 2), (1, 2), (13, 2), (7, 2), (1, 2), (4, 0), (1, 0), (2, 2), (6, 2), (2, 2), (1, 2), (13, 2), (7, 2), (1, 2), (6, 1), (1, 1), (2, 2), (6, 2), (2, 2), (1, 2), (11, 2), (7, 2), (1, 2), (8, 5), (1, 5), (2, 5), (2, 5), (38, 0), (1, 0), (11, 0), (0, 0), (2, 0), (0, 0), (2, 0), (0, 0), (2, 0), (0, 0), (2, 0), (0, 0), (2, 0), (0, 0)] <|
    .stk 0 .enter 1 <|
    owns [(22, 0), (1, 0), (8, 0), (0, 0), (2, 0), (0, 0)] <|
    .stk 0 .enter 1 <|
    owns [(20, 0), (1, 0), (2, 6), (6, 6), (18, 6), (7, 6), (1, 6), (3, 0), (2, 6), (6, 6), (18, 6), (7, 6), (1, 6), (11, 0), (0, 0), (2, 0), (0, 0), (2, 0), (0, 0)] <|
    .stk 0 .enter 1 <|
    owns [(4, 0), (6, 0), (11, 0), (7, 0), (11, 0), (1, 0), (2, 3), (10, 3), (2, 3), (1, 3), (17, 3), (7, 3), (1, 3), (4, 0), (1, 0), (2, 3), (10, 3), (2, 3), (1, 3), (17, 3), (7, 3), (1, 3), (6, 1), (1, 1), (2, 3), (10, 3), (2, 3), (1, 3), (15, 3), (7, 3), (1, 3), (7, 2), (1, 2), (2, 3), (10, 3), (2, 3), (1, 3), (11, 3), (7, 3), (1, 3), (4, 2), (1, 2), (2, 3), (10, 3), (2, 3), (1, 3), (11, 3), (7, 3), (1, 3), (4, 2), (1, 2), (2, 3), (10, 3), (2, 3), (1, 3), (11, 3), (7, 3), (1, 3), (4, 2), (1, 2), (2, 3), (10, 3), (2, 3), (1, 3), (11, 3), (7, 3), (1, 3)] <|
    .fin 5 (fun _ T => (adAt T 3, adAt T 4, adAt T 7, adAt T 8)) [] [3, 4, 7, 8]) ?_
   <;> (intro h dep fr gd un R d os tok b; kernel_rfl))

def xBf_a (n : Nat) (wd : Int) (sg : Bool) (r : Addr → Hx prog (wr w b1 b2) (kt w.params) α₀) : Hx prog (wr w b1 b2) (kt w.params) α₀ :=
  cutT n 600 (lev 600) [] (Tok × Tok) (fun c _ => (tokV (argA c 0), tokV (argA c 1))) (fun y => .call (.ref 1178) ⟨[.str (S "a") y.1, .int wd y.2], [(S "signed", .bool sg)]⟩) (fun _ => []) (Addr × Addr × Addr × Addr) (fun _ x => .ok (.ret (.ref x.1))) (fun _ _ => [])
    (fun y x => biL ⟨x.1, x.2.1, x.2.2.1, x.2.2.2, y.2⟩ (.str (S "a") y.1) wd false sg) (fun y gl => bf_a w b1 b2 gl y.1 wd y.2 sg) (fun _ x _ _ => r x.1)

theorem bf_b (w : World) (b1 b2 : Bool) (gl : List GenState) (tn : Tok) (wd : Int) (tw : Tok) (sw sg : Bool) :
    Ctr prog (wr w b1 b2) (kt w.params) 600 (lev 600) (.call (.ref 1178) ⟨[.str (S "b") tn, .int wd tw], [(S "swapped", .bool sw), (S "signed", .bool sg)]⟩) [] gl gl (α := Addr × Addr × Addr × Addr) (fun x => .ok (.ret (.ref x.1))) (fun _ => []) (fun x => biL ⟨x.1, x.2.1, x.2.2.1, x.2.2.2, tw⟩ (.str (S "b") tn) wd sw sg) := by
  cases b1 <;> (refine Ctr.of_go (NL w.params) (
    owns [(6, 0), (0, 0), (2, 0), (0, 0), (2, 0), (0, 0), (2, 0), (0, 0), (2, 0), (0, 0)] <|
    .stk 0 .enter 1 <|
    owns [(7, 0), (17, 0), (1, 0), (8, 0), (0, 0), (2, 0), (0, 0)] <|
    .stk 0 .enter 1 <|
    owns [(7, 0), (15, 0), (1, 0), (37, 0), (1, 0), (10, 0), (0, 0), (2, 0), (0, 0), (2, 0), (0, 0)] <|
    .stk 0 .enter 1 <|
    owns [(20, 0), (1, 0), (9, 0), (0, 0), (2, 0), (0, 0), (2, 0), (0, 0)] <|
    .stk 0 .enter 1 <|
    owns [(4, 0), (6, 0), (11, 0), (7, 0), (11, 0), (1, 0), (2, 2), (6, 2), (2, 2), (1, 2), (13, 2), (7, 2), (1, 2), (4, 0), (1, 0), (2, 2), (6, 2), (2, 2), (1, 2), (13, 2), (7, 2), (1, 2), (6, 1), (1, 1), (2, 2), (6, 2), (2, 2), (1, 2), (11, 2), (7, 2), (1, 2), (8, 5), (1, 5), (2, 5), (2, 5), (38, 0), (1, 0), (11, 0), (0, 0), (2, 0), (0, 0), (2, 0), (0, 0), (2, 0), (0, 0), (2, 0), (0, 0), (2, 0), (0, 0)] <|
    .stk 0 .enter 1 <|
    owns [(22, 0), (1, 0), (8, 0), (0, 0), (2, 0), (0, 0)] <|
    .stk 0 .enter 1 <|
    owns [(20, 0), (1, 0), (2, 6), (6, 6), (18, 6), (7, 6), (1, 6), (3, 0), (2, 6), (6, 6), (18, 6), (7, 6), (1, 6), (11, 0), (0, 0), (2, 0), (0, 0), (2, 0), (0, 0)] <|
    .stk 0 .enter 1 <|
    owns [(4, 0), (6, 0), (11, 0), (7, 0), (11, 0), (1, 0), (2, 3), (10, 3), (2, 3), (1, 3), (17, 3), (7, 3), (1, 3), (4, 0), (1, 0), (2, 3), (10, 3), (2, 3), (1, 3), (17, 3), (7, 3), (1, 3), (6, 1), (1, 1), (2, 3), (10, 3), (2, 3), (1, 3), (15, 3), (7, 3), (1, 3), (7, 2), (1, 2), (2, 3), (10, 3), (2, 3), (1, 3), (11, 3), (7, 3), (1, 3), (4, 2), (1, 2), (2, 3), (10, 3), (2, 3), (1, 3), (11, 3), (7, 3), (1, 3), (4, 2), (1, 2), (2, 3), (10, 3), (2, 3), (1, 3), (11, 3), (7, 3), (1, 3), (4, 2), (1, 2), (2, 3), (10, 3), (2, 3), (1, 3), (11, 3), (7, 3), (1, 3)] <|
    .fin 5 (fun _ T => (adAt T 3, adAt T 4, adAt T 7, adAt T 8)) [] [3, 4, 7, 8]) ?_
   <;> (intro h dep fr gd un R d os tok b; kernel_rfl))

def xBf_b (n : Nat) (wd : Int) (sw sg : Bool) (r : Addr → Hx prog (wr w b1 b2) (kt w.params) α₀) : Hx prog (wr w b1 b2) (kt w.params) α₀ :=
  cutT n 600 (lev 600) [] (Tok × Tok) (fun c _ => (tokV (argA c 0), tokV (argA c 1))) (fun y => .call (.ref 1178) ⟨[.str (S "b") y.1, .int wd y.2], [(S "swapped", .bool sw), (S "signed", .bool sg)]⟩) (fun _ => []) (Addr × Addr × Addr × Addr) (fun _ x => .ok (.ret (.ref x.1))) (fun _ _ => [])
    (fun y x => biL ⟨x.1, x.2.1, x.2.2.1, x.2.2.2, y.2⟩ (.str (S "b") y.1) wd sw sg) (fun y gl => bf_b w b1 b2 gl y.1 wd y.2 sw sg) (fun _ x _ _ => r x.1)

theorem bf_c (w : World) (b1 b2 : Bool) (gl : List GenState) (tn : Tok) (wd : Int) (tw : Tok) (sg : Bool) :
    Ctr prog (wr w b1 b2) (kt w.params) 600 (lev 600) (.call (.ref 1178) ⟨[.str (S "c") tn, .int wd tw], [(S "signed", .bool sg)]⟩) [] gl gl (α := Addr × Addr × Addr × Addr) (fun x => .ok (.ret (.ref x.1))) (fun _ => []) (fun x => biL ⟨x.1, x.2.1, x.2.2.1, x.2.2.2, tw⟩ (.str (S "c") tn) wd false sg) := by
  cases b1 <;> (refine Ctr.of_go (NL w.params) (
    owns [(6, 0), (0, 0), (2, 0), (0, 0), (2, 0), (0, 0), (2, 0), (0, 0), (2, 0), (0, 0)] <|
    .stk 0 .enter 1 <|
    owns [(7, 0), (17, 0), (1, 0), (8, 0), (0, 0), (2, 0), (0, 0)] <|
    .stk 0 .enter 1 <|
    owns [(7, 0), (15, 0), (1, 0), (37, 0), (1, 0), (10, 0), (0, 0), (2, 0), (0, 0), (2, 0), (0, 0)] <|
    .stk 0 .enter 1 <|
    owns [(20, 0), (1, 0), (9, 0), (0, 0), (2, 0), (0, 0), (2, 0), (0, 0)] <|
    .stk 0 .enter 1 <|
    owns [(4, 0), (6, 0), (11, 0), (7, 0), (11, 0), (1, 0), (2, 2), (6, 2), (2, 2), (1, 2), (13, 2), (7, 2), (1, 2), (4, 0), (1, 0), (2, 2), (6, 2), (2, 2), (1, 2), (13, 2), (7, 2), (1, 2), (6, 1), (1, 1), (2, 2), (6, 2), (2, 2), (1, 2), (11, 2), (7, 2), (1, 2), (8, 5), (1, 5), (2, 5), (2, 5), (38, 0), (1, 0), (11, 0), (0, 0), (2, 0), (0, 0), (2, 0), (0, 0), (2, 0), (0, 0), (2, 0), (0, 0), (2, 0), (0, 0)] <|
    .stk 0 .enter 1 <|
    owns [(22, 0), (1, 0), (8, 0), (0, 0), (2, 0), (0, 0)] <|
    .stk 0 .enter 1 <|
    owns [(20, 0), (1, 0), (2, 6), (6, 6), (18, 6), (7, 6), (1, 6), (3, 0), (2, 6), (6, 6), (18, 6), (7, 6), (1, 6), (11, 0), (0, 0), (2, 0), (0, 0), (2, 0), (0, 0)] <|
    .stk 0 .enter 1 <|
    owns [(4, 0), (6, 0), (11, 0), (7, 0), (11, 0), (1, 0), (2, 3), (10, 3), (2, 3), (1, 3), (17, 3), (7, 3), (1, 3), (4, 0), (1, 0), (2, 3), (10, 3), (2, 3), (1, 3), (17, 3), (7, 3), (1, 3), (6, 1), (1, 1), (2, 3), (10, 3), (2, 3), (1, 3), (15, 3), (7, 3), (1, 3), (7, 2), (1, 2), (2, 3), (10, 3), (2, 3), (1, 3), (11, 3), (7, 3), (1, 3), (4, 2), (1, 2), (2, 3), (10, 3), (2, 3), (1, 3), (11, 3), (7, 3), (1, 3), (4, 2), (1, 2), (2, 3), (10, 3), (2, 3), (1, 3), (11, 3), (7, 3), (1, 3), (4, 2), (1, 2), (2, 3), (10, 3), (2, 3), (1, 3), (11, 3), (7, 3), (1, 3)] <|
    .fin 5 (fun _ T => (adAt T 3, adAt T 4, adAt T 7, adAt T 8)) [] [3, 4, 7, 8]) ?_
   <;> (intro h dep fr gd un R d os tok b; kernel_rfl))

def xBf_c (n : Nat) (wd : Int) (sg : Bool) (r : Addr → Hx prog (wr w b1 b2) (kt w.params) α₀) : Hx prog (wr w b1 b2) (kt w.params) α₀ :=
  cutT n 600 (lev 600) [] (Tok × Tok) (fun c _ => (tokV (argA c 0), tokV (argA c 1))) (fun y => .call (.ref 1178) ⟨[.str (S "c") y.1, .int wd y.2], [(S "signed", .bool sg)]⟩) (fun _ => []) (Addr × Addr × Addr × Addr) (fun _ x => .ok (.ret (.ref x.1))) (fun _ _ => [])
    (fun y x => biL ⟨x.1, x.2.1, x.2.2.1, x.2.2.2, y.2⟩ (.str (S "c") y.1) wd false sg) (fun y gl => bf_c w b1 b2 gl y.1 wd y.2 sg) (fun _ x _ _ => r x.1)

theorem bf_d (w : World) (b1 b2 : Bool) (gl : List GenState) (tn : Tok) (wd : Int) (tw : Tok) (sg : Bool) :
    Ctr prog (wr w b1 b2) (kt w.params) 600 (lev 600) (.call (.ref 1178) ⟨[.str (S "d") tn, .int wd tw], [(S "signed", .bool sg)]⟩) [] gl gl (α := Addr × Addr × Addr × Addr) (fun x => .ok (.ret (.ref x.1))) (fun _ => []) (fun x => biL ⟨x.1, x.2.1, x.2.2.1, x.2.2.2, tw⟩ (.str (S "d") tn) wd false sg) := by
  cases b1 <;> (refine Ctr.of_go (NL w.params) (
    owns [(6, 0), (0, 0), (2, 0), (0, 0), (2, 0), (0, 0), (2, 0), (0, 0), (2, 0), (0, 0)] <|
    .stk 0 .enter 1 <|
    owns [(7, 0), (17, 0), (1, 0), (8, 0), (0, 0), (2, 0), (0, 0)] <|
    .stk 0 .enter 1 <|
    owns [(7, 0), (15, 0), (1, 0), (37, 0), (1, 0), (10, 0), (0, 0), (2, 0), (0, 0), (2, 0), (0, 0)] <|
    .stk 0 .enter 1 <|
    owns [(20, 0), (1, 0), (9, 0), (0, 0), (2, 0), (0, 0), (2, 0), (0, 0)] <|
    .stk 0 .enter 1 <|
    owns [(4, 0), (6, 0), (11, 0), (7, 0), (11, 0), (1, 0), (2, 2), (6, 2), (2, 2), (1, 2), (13, 2), (7, 2), (1, 2), (4, 0), (1, 0), (2, 2), (6, 2), (2, 2), (1, 2), (13, 2), (7, 2), (1, 2), (6, 1), (1, 1), (2, 2), (6, 2), (2, 2), (1, 2), (11, 2), (7, 2), (1, 2), (8, 5), (1, 5), (2, 5), (2, 5), (38, 0), (1, 0), (11, 0), (0, 0), (2, 0), (0, 0), (2, 0), (0, 0), (2, 0), (0, 0), (2, 0), (0, 0), (2, 0), (0, 0)] <|
    .stk 0 .enter 1 <|
    owns [(22, 0), (1, 0), (8, 0), (0, 0), (2, 0), (0, 0)] <|
    .stk 0 .enter 1 <|
    owns [(20, 0), (1, 0), (2, 6), (6, 6), (18, 6), (7, 6), (1, 6), (3, 0), (2, 6), (6, 6), (18, 6), (7, 6), (1, 6), (11, 0), (0, 0), (2, 0), (0, 0), (2, 0), (0, 0)] <|
    .stk 0 .enter 1 <|
    owns [(4, 0), (6, 0), (11, 0), (7, 0), (11, 0), (1, 0), (2, 3), (10, 3), (2, 3), (1, 3), (17, 3), (7, 3), (1, 3), (4, 0), (1, 0), (2, 3), (10, 3), (2, 3), (1, 3), (17, 3), (7, 3), (1, 3), (6, 1), (1, 1), (2, 3), (10, 3), (2, 3), (1, 3), (15, 3), (7, 3), (1, 3), (7, 2), (1, 2), (2, 3), (10, 3), (2, 3), (1, 3), (11, 3), (7, 3), (1, 3), (4, 2), (1, 2), (2, 3), (10, 3), (2, 3), (1, 3), (11, 3), (7, 3), (1, 3), (4, 2), (1, 2), (2, 3), (10, 3), (2, 3), (1, 3), (11, 3), (7, 3), (1, 3), (4, 2), (1, 2), (2, 3), (10, 3), (2, 3), (1, 3), (11, 3), (7, 3), (1, 3)] <|
    .fin 5 (fun _ T => (adAt T 3, adAt T 4, adAt T 7, adAt T 8)) [] [3, 4, 7, 8]) ?_
   <;> (intro h dep fr gd un R d os tok b; kernel_rfl))

def xBf_d (n : Nat) (wd : Int) (sg : Bool) (r : Addr → Hx prog (wr w b1 b2) (kt w.params) α₀) : Hx prog (wr w b1 b2) (kt w.params) α₀ :=
  cutT n 600 (lev 600) [] (Tok × Tok) (fun c _ => (tokV (argA c 0), tokV (argA c 1))) (fun y => .call (.ref 1178) ⟨[.str (S "d") y.1, .int wd y.2], [(S "signed", .bool sg)]⟩) (fun _ => []) (Addr × Addr × Addr × Addr) (fun _ x => .ok (.ret (.ref x.1))) (fun _ _ => [])
    (fun y x => biL ⟨x.1, x.2.1, x.2.2.1, x.2.2.2, y.2⟩ (.str (S "d") y.1) wd false sg) (fun y gl => bf_d w b1 b2 gl y.1 wd y.2 sg) (fun _ x _ _ => r x.1)

theorem padN (w : World) (b1 b2 : Bool) (gl : List GenState) (wd : Int) (tw : Tok) :
    Ctr prog (wr w b1 b2) (kt w.params) 600 (lev 600) (.call (.ref 1186) ⟨[.int wd tw], []⟩) [] gl gl (α := Addr × Addr × Addr × Addr) (fun x => .ok (.ret (.ref x.1))) (fun _ => []) (fun x => paL ⟨x.1, x.2.1, x.2.2.1, x.2.2.2, tw⟩ 1674 wd) := by
  cases b1 <;> (refine Ctr.of_go (NL w.params) (
    owns [(6, 0), (0, 0), (2, 0), (0, 0), (2, 0), (0, 0)] <|
    .stk 0 .enter 1 <|
    owns [(8, 0), (8, 0), (0, 0), (2, 0), (0, 0)] <|
    .stk 0 .enter 1 <|
    owns [(7, 0), (15, 0), (1, 0), (37, 0), (1, 0), (10, 0), (0, 0), (2, 0), (0, 0), (2, 0), (0, 0)] <|
    .stk 0 .enter 1 <|
    owns [(20, 0), (1, 0), (9, 0), (0, 0), (2, 0), (0, 0), (2, 0), (0, 0)] <|
    .stk 0 .enter 1 <|
    owns [(4, 0), (3, 0), (1, 0), (2, 2), (6, 2), (2, 2), (1, 2), (13, 2), (7, 2), (1, 2), (4, 0), (1, 0), (2, 2), (6, 2), (2, 2), (1, 2), (13, 2), (7, 2), (1, 2), (6, 1), (1, 1), (2, 2), (6, 2), (2, 2), (1, 2), (11, 2), (7, 2), (1, 2), (8, 5), (2, 5), (38, 0), (1, 0), (11, 0), (0, 0), (2, 0), (0, 0), (2, 0), (0, 0), (2, 0), (0, 0)] <|
    .stk 0 .enter 1 <|
    owns [(22, 0), (1, 0), (8, 0), (0, 0), (2, 0), (0, 0)] <|
    .stk 0 .enter 1 <|
    owns [(20, 0), (1, 0), (2, 6), (6, 6), (18, 6), (7, 6), (1, 6), (3, 0), (2, 6), (6, 6), (18, 6), (7, 6), (1, 6), (11, 0), (0, 0), (2, 0), (0, 0), (2, 0), (0, 0)] <|
    .stk 0 .enter 1 <|
    owns [(4, 0), (3, 0), (1, 0), (2, 3), (10, 3), (2, 3), (1, 3), (17, 3), (7, 3), (1, 3), (4, 0), (1, 0), (2, 3), (10, 3), (2, 3), (1, 3), (17, 3), (7, 3), (1, 3), (6, 1), (1, 1), (2, 3), (10, 3), (2, 3), (1, 3), (15, 3), (7, 3), (1, 3), (7, 2), (1, 2), (2, 3), (10, 3), (2, 3), (1, 3), (11, 3), (7, 3), (1, 3), (4, 2), (1, 2), (2, 3), (10, 3), (2, 3), (1, 3), (11, 3), (7, 3), (1, 3)] <|
    .fin 5 (fun _ T => (adAt T 3, adAt T 4, adAt T 7, adAt T 8)) [] [3, 4, 7, 8]) ?_
   <;> (intro h dep fr gd un R d os tok b; kernel_rfl))

def xPad (n : Nat) (wd : Int) (r : Addr → Hx prog (wr w b1 b2) (kt w.params) α₀) : Hx prog (wr w b1 b2) (kt w.params) α₀ :=
  cutT n 600 (lev 600) [] Tok (fun c _ => tokV (argA c 0)) (fun y => .call (.ref 1186) ⟨[.int wd y], []⟩) (fun _ => []) (Addr × Addr × Addr × Addr) (fun _ x => .ok (.ret (.ref x.1))) (fun _ _ => []) (fun y x => paL ⟨x.1, x.2.1, x.2.2.1, x.2.2.2, y⟩ 1674 wd)
    (fun y gl => padN w b1 b2 gl wd y) (fun _ x _ _ => r x.1)

theorem bsC (w : World) (b1 b2 : Bool) (gl : List GenState) (z : Sh) (sp : Sp) (tn : Tok) :
    Ctr prog (wr w b1 b2) (kt w.params) 600 (lev 600) (.call (.ref 1200) ⟨[.str (S "bits") tn, .ref z.a.bi, .ref z.p.bi, .ref z.b.bi, .ref z.c.bi, .ref z.d.bi], []⟩) ((1188, me0) :: fL z sp) gl gl (α := Bq) (fun x => .ok (.ret (.ref x.bu))) (fun x => meR x.rc :: fU z sp)
      (fun x => [(x.bu, buO { x with tn := tn }), (x.bx, dict0), (x.rz, rzO x), (x.rc, coO x.co), (x.st, stO { x with tn := tn }), (x.sx, dict0), (x.tp, tup5 z)]) := by
  cases b1 <;> (refine Ctr.of_go (NL w.params) (
    owns [(6, 0), (0, 0), (2, 0), (0, 0)] <|
    .stk 0 .enter 1 <|
    owns [(8, 0), (1, 0), (1, 1)] <|
    cCol 0 [1] #[.ref z.a.bi, .ref z.p.bi, .ref z.b.bi, .ref z.c.bi, .ref z.d.bi] (by simp) (by simp) <|
    owns [(0, 0), (37, 0), (1, 0), (12, 0), (0, 0), (2, 0), (0, 0), (2, 0), (0, 0), (2, 0), (0, 0)] <|
    .stk 0 .enter 1 <|
    owns [(4, 0), (1, 0), (2, 2), (6, 2), (2, 2), (1, 2), (11, 2), (7, 2), (1, 2), (20, 0), (1, 0), (9, 0), (0, 0), (2, 0), (0, 0), (2, 0), (0, 0)] <|
    .stk 0 .enter 1 <|
    owns [(4, 0), (6, 0), (11, 0), (7, 0), (11, 0), (1, 0), (2, 3), (6, 3), (2, 3), (1, 3), (13, 3), (7, 3), (1, 3), (4, 0), (1, 0), (2, 3), (6, 3), (2, 3), (1, 3), (13, 3), (7, 3), (1, 3), (6, 1), (1, 1), (2, 3), (6, 3), (2, 3), (1, 3), (11, 3), (7, 3), (1, 3), (5, 1), (2, 3), (6, 3), (8, 3), (0, 3), (14, 2), (1, 3)] <|
    cCol 0 [3] #[.ref z.a.bi, .ref z.p.bi, .ref z.b.bi, .ref z.c.bi, .ref z.d.bi] (by simp) (by simp) <|
    owns [(0, 0), (1, 1), (2, 1), (7, 0), (0, 0), (2, 0), (0, 0)] <|
    .stk 0 .enter 1 <|
    owns [(4, 0), (1, 1), (0, 1), (2, 1), (3, 0), (2, 0), (1, 0), (1, 0), (0, 0), (0, 2), (0, 0), (0, 0), (5, 1), (0, 1), (3, 1), (1, 8), (5, 8), (5, 8), (6, 8), (0, 9), (2, 1), (2, 14), (10, 14), (26, 14), (7, 14), (1, 14), (10, 0), (0, 0), (2, 0), (0, 0)] <|
    .stk 0 .enter 1 <|
    owns [(4, 0), (2, 9), (6, 9), (18, 9), (7, 9), (1, 9), (3, 0), (7, 9), (6, 9), (2, 9), (1, 9), (13, 9), (7, 9), (1, 9), (6, 1), (1, 1), (1, 1), (0, 1), (0, 3), (0, 1), (0, 1), (5, 2), (0, 2), (3, 2), (1, 9), (5, 9), (5, 9), (6, 9), (0, 10), (2, 2), (2, 19), (10, 19), (26, 19), (7, 19), (1, 19), (10, 0), (0, 0), (2, 0), (0, 0)] <|
    .stk 0 .enter 1 <|
    owns [(4, 0), (2, 10), (6, 10), (18, 10), (7, 10), (1, 10), (3, 0), (7, 10), (6, 10), (2, 10), (1, 10), (13, 10), (7, 10), (1, 10), (6, 2), (1, 2), (1, 2), (0, 2), (0, 4), (0, 2), (0, 2), (5, 3), (0, 3), (3, 3), (1, 10), (5, 10), (5, 10), (6, 10), (0, 11), (2, 3), (2, 24), (10, 24), (26, 24), (7, 24), (1, 24), (10, 0), (0, 0), (2, 0), (0, 0)] <|
    .stk 0 .enter 1 <|
    owns [(4, 0), (2, 11), (6, 11), (18, 11), (7, 11), (1, 11), (3, 0), (7, 11), (6, 11), (2, 11), (1, 11), (13, 11), (7, 11), (1, 11), (6, 3), (1, 3), (1, 3), (0, 3), (0, 5), (0, 3), (0, 3), (5, 4), (0, 4), (3, 4), (1, 11), (5, 11), (5, 11), (6, 11), (0, 12), (2, 4), (2, 29), (10, 29), (26, 29), (7, 29), (1, 29), (10, 0), (0, 0), (2, 0), (0, 0)] <|
    .stk 0 .enter 1 <|
    owns [(4, 0), (2, 12), (6, 12), (18, 12), (7, 12), (1, 12), (3, 0), (7, 12), (6, 12), (2, 12), (1, 12), (13, 12), (7, 12), (1, 12), (6, 4), (1, 4), (1, 4), (0, 4), (0, 6), (0, 4), (0, 4), (5, 5), (0, 5), (3, 5), (1, 12), (5, 12), (5, 12), (6, 12), (0, 13), (2, 5), (2, 34), (10, 34), (26, 34), (7, 34), (1, 34), (10, 0), (0, 0), (2, 0), (0, 0)] <|
    .stk 0 .enter 1 <|
    owns [(4, 0), (2, 13), (6, 13), (18, 13), (7, 13), (1, 13), (3, 0), (7, 13), (6, 13), (2, 13), (1, 13), (13, 13), (7, 13), (1, 13), (6, 5), (1, 5), (1, 5), (0, 5), (0, 7), (1, 5), (0, 5), (4, 0), (11, 13), (1, 15), (5, 15), (5, 15), (6, 15), (0, 16), (2, 13), (2, 15), (6, 15), (5, 15), (0, 15), (11, 0), (0, 0), (2, 0), (0, 0)] <|
    .stk 0 .enter 1 <|
    owns [(4, 0), (2, 16), (6, 16), (18, 16), (7, 16), (1, 16), (3, 0), (12, 16), (6, 16), (2, 16), (1, 16), (13, 16), (7, 16), (1, 16), (20, 0), (0, 0)] <|
    .stk 0 .enter 1 <|
    owns [(4, 22), (12, 28), (0, 28), (0, 28), (8, 7), (0, 7), (5, 7), (4, 7), (38, 0), (1, 0), (10, 0), (0, 0), (2, 0), (0, 0), (2, 0), (0, 0), (2, 0), (0, 0)] <|
    .stk 0 .enter 1 <|
    owns [(20, 0), (1, 0), (8, 0), (0, 0), (2, 0), (0, 0)] <|
    .stk 0 .enter 1 <|
    owns [(20, 0), (1, 0), (2, 28), (6, 28), (18, 28), (7, 28), (1, 28), (3, 0), (2, 28), (6, 28), (18, 28), (7, 28), (1, 28), (11, 0), (0, 0), (2, 0), (0, 0), (2, 0), (0, 0)] <|
    .stk 0 .enter 1 <|
    owns [(4, 0), (6, 0), (11, 0), (7, 0), (11, 0), (1, 0), (2, 3), (8, 3), (2, 3), (1, 3), (15, 3), (7, 3), (1, 3), (4, 0), (1, 0), (2, 3), (8, 3), (2, 3), (1, 3), (15, 3), (7, 3), (1, 3), (6, 1), (1, 1), (2, 3), (8, 3), (2, 3), (1, 3), (13, 3), (7, 3), (1, 3), (7, 2), (1, 2), (2, 3), (8, 3), (2, 3), (1, 3), (11, 3), (7, 3), (1, 3), (5, 2), (1, 2), (2, 3), (8, 3), (2, 3), (1, 3), (11, 3), (7, 3), (1, 3)] <|
    .fin 8 (fun _ T => ⟨adAt T 3, adAt T 4, adAt T 5, adAt T 6, adAt T 29, adAt T 30, adAt T 28, tokV (sltO (objAt T 3) 3), 0, coX (objAt T 6)⟩) [34, 35, 36, 37, 38, 39, 40, 41, 42, 43, 44, 45, 46, 47, 48, 49, 50, 51, 52, 53, 54] [3, 4, 5, 6, 29, 30, 28]) ?_
   <;> (intro h dep fr gd un R d os tok b; kernel_rfl))

def xBs (n : Nat) (is : List Nat) (sp : Sp) (r : Addr → Hx prog (wr w b1 b2) (kt w.params) α₀) : Hx prog (wr w b1 b2) (kt w.params) α₀ :=
  cutT n 600 (lev 600) is (Sh × Tok) (fun c l => (shX (l.drop 1), tokV (argA c 0))) (fun y => .call (.ref 1200) ⟨[.str (S "bits") y.2, .ref y.1.a.bi, .ref y.1.p.bi, .ref y.1.b.bi, .ref y.1.c.bi, .ref y.1.d.bi], []⟩) (fun y => (1188, me0) :: fL y.1 sp) Bq (fun _ x => .ok (.ret (.ref x.bu)))
    (fun y x => meR x.rc :: fU y.1 sp) (fun y x => [(x.bu, buO { x with tn := y.2 }), (x.bx, dict0), (x.rz, rzO x), (x.rc, coO x.co), (x.st, stO { x with tn := y.2 }), (x.sx, dict0), (x.tp, tup5 y.1)]) (fun y gl => bsC w b1 b2 gl y.1 sp y.2) (fun _ x _ _ => r x.bu)
end
end Mine
namespace Mine
open PySem PySem.Spec PySem.Calls PyProof.Rows PySem.W PySem.W.X
section
variable {prog : Program} {w : World} {kt : KT} {D U : Nat} {gl : List GenState}
abbrev liO (l : Addr) (i : Nat) : Obj := ⟨.type "list_iterator", none, .fields #[.ref l, .int i 0], #[]⟩
abbrev liE (i : Nat) : Obj := ⟨.type "list_iterator", none, .fields #[.none, .int i 0], #[]⟩
theorem plain_lnext : plainId "list_iterator.__next__" = true := by decide +kernel
theorem plain_lapp : plainId "list.append" = true := by decide +kernel
theorem lnextC (it l : Addr) (xs : Array Value) (e i : Nat) (x : Value) (hx : xs[i]? = some x) : Ctr prog w kt D U (.builtin "list_iterator.__next__" ⟨[.ref it], []⟩) [(it, liO l i), (l, lstO xs e)] gl gl (α := Unit)
    (fun _ => .ok (.ret x)) (fun _ => [liO l (i + 1), lstO xs e]) (fun _ => []) := by
  intro A R h d os tok hh hD hU ht hp hn hl hR
  have ho : h.get? it = some (liO l i) := hp _ (.head _)
  have hol : h.get? l = some (lstO xs e) := hp _ (.tail _ (.head _))
  have hne : it ≠ l := by
    have := (List.nodup_cons.mp hn).1
    exact fun z => this (by rw [z]; exact .head _)
  have hd : (liO l i).data = .fields #[.ref l, .int i 0] := rfl
  refine codeAny_builtin entry_listiter_next ?_
  rw [Around.under_plainId plain_lnext]
  show wpAny _ _ (field (.ref it) 0 >>= _) _ _ _
  refine wpAny_bind (wpAny_field ho hd (x := .ref l) rfl ?_)
  show wpAny _ _ (if (Value.ref l == Value.none) = true then _ else _) _ _ _
  rw [if_neg (show ¬ ((Value.ref l == Value.none) = true) from Bool.false_ne_true)]
  show wpAny _ _ (field (.ref it) 1 >>= _) _ _ _
  refine wpAny_bind (wpAny_field ho hd (x := .int i 0) rfl ?_)
  show wpAny _ _ (seqItems? (.ref l) >>= _) _ _ _
  refine wpAny_bind (wpAny_seqItems hol rfl ?_)
  simp only [Int.toNat_natCast, hx]
  refine wpAny_bind (wpAny_setField ho hd (by simp) (wpAny_pure (hR () _ _ (fun b o e hb => ?_) rfl (fun x hm => ?_) (fun _ hm => nomatch hm) List.nodup_nil)))
  · exact (Heap.get?_update_other _ _ (fun z => hb (by rw [← z]; exact .head _))).trans e
  · rcases List.mem_cons.mp hm with rfl | hm
    · rw [Heap.get?_update_self _ ho (Obj.isFreed_of_fields (Obj.data_mapFields hd _))]
      show some (Obj.mapFields _ (liO l i)) = some (liO l (i + 1))
      congr 1
    · cases List.mem_singleton.mp hm
      exact (Heap.get?_update_other _ _ hne).trans hol
theorem lendC (it l : Addr) (xs : Array Value) (e i : Nat) (hx : xs[i]? = none) : Ctr prog w kt D U (.builtin "list_iterator.__next__" ⟨[.ref it], []⟩) [(it, liO l i), (l, lstO xs e)] gl gl (α := Addr × Addr)
    (fun x => .error (.ref x.1)) (fun _ => [liE i, lstO xs e]) (fun x => [(x.1, stopO x.2), (x.2, tup0)]) := by
  intro A R h d os tok hh hD hU ht hp hn hl hR
  have ho : h.get? it = some (liO l i) := hp _ (.head _)
  have hol : h.get? l = some (lstO xs e) := hp _ (.tail _ (.head _))
  have hne : it ≠ l := by
    have := (List.nodup_cons.mp hn).1
    exact fun z => this (by rw [z]; exact .head _)
  have hd : (liO l i).data = .fields #[.ref l, .int i 0] := rfl
  refine codeAny_builtin entry_listiter_next ?_
  rw [Around.under_plainId plain_lnext]
  show wpAny _ _ (field (.ref it) 0 >>= _) _ _ _
  refine wpAny_bind (wpAny_field ho hd (x := .ref l) rfl ?_)
  show wpAny _ _ (if (Value.ref l == Value.none) = true then _ else _) _ _ _
  rw [if_neg (show ¬ ((Value.ref l == Value.none) = true) from Bool.false_ne_true)]
  show wpAny _ _ (field (.ref it) 1 >>= _) _ _ _
  refine wpAny_bind (wpAny_field ho hd (x := .int i 0) rfl ?_)
  show wpAny _ _ (seqItems? (.ref l) >>= _) _ _ _
  refine wpAny_bind (wpAny_seqItems hol rfl ?_)
  simp only [Int.toNat_natCast, hx]
  refine wpAny_bind (wpAny_rule (wpAny_bind (wpAny_setField ho hd (by simp) ?_)))
  show wpAny _ _ (newExc (.type "StopIteration") [] >>= _) _ _ _
  refine wpAny_bind ?_
  simp only [newExc, newTuple]
  refine wpAny_bind (wpAny_newObj_type ?_ (by size_fits))
  refine wpAny_bind (m := firstArgMember _ _) (wpAny_of_eq (a := Value.none) (by first | rfl | (simp only [firstArgMember]; rfl)) ?_)
  refine wpAny_newObj_type ?_ (by size_fits)
  simp only [raiseNew]
  refine wpAny_bind (wpAny_handled ?_)
  rw [show A.in1.handled = none from hh]
  refine wpAny_bind (wpAny_pure (wpAny_throw ?_))
  refine stop_end (o' := liE i) ho rfl rfl fun x h' tok' b1 b2 b3 b4 b5 => ?_
  refine hR x h' tok' (fun b o e hb => b1 b o e fun z => hb (by cases List.mem_singleton.mp z; exact .head _)) rfl (fun p hm => ?_) b4 b5
  rcases List.mem_cons.mp hm with rfl | hm
  · exact b3 _ (.head _)
  · cases List.mem_singleton.mp hm
    exact b1 l _ hol fun z => hne (List.mem_singleton.mp z : l = it).symm
theorem lappC (l : Addr) (xs : Array Value) (e : Nat) (x : Value) (hz : xs.size ≤ 1000) : Ctr prog w kt D U (.builtin "list.append" ⟨[.ref l, x], []⟩) [(l, lstO xs e)] gl gl (α := Unit)
    (fun _ => .ok (.ret .none)) (fun _ => [lstO (xs.push x) (e + 1)]) (fun _ => []) := by
  intro A R h d os tok hh hD hU ht hp hn hl hR
  have ho : h.get? l = some (lstO xs e) := hp _ (.head _)
  refine codeAny_builtin entry_list_append ?_
  rw [Around.under_plainId plain_lapp]
  show wpAny _ _ (updateSeq l (·.push x) >>= fun _ => ret .none) _ _ _
  refine wpAny_bind ?_
  have e4 : Obj.mapSeq (fun y => y.push x) (lstO xs e) = lstO (xs.push x) (e + 1) := by
    show (⟨.type "list", none, .seq (xs.push x) (if (xs.push x).size == xs.size then e else e + 1), #[]⟩ : Obj) = _
    have : ((xs.push x).size == xs.size) = false := by rw [beq_eq_false_iff_ne, Array.size_push]; omega
    rw [this]; rfl
  have hS2 := Heap.get?_update_self (Obj.mapSeq fun y => y.push x) ho rfl
  rw [e4] at hS2
  refine wpAny_updateSeq ho rfl (wpAny_pure (hR () _ _ (fun b o e hb => ?_) rfl (fun p hm => ?_) (fun _ hm => nomatch hm) List.nodup_nil)) (by rw [sizeLine_eq]; omega) (by rw [Array.size_push, sizeLine_eq]; omega)
  · exact (Heap.get?_update_other _ _ (fun z => hb (by rw [← z]; exact .head _))).trans e
  · cases List.mem_singleton.mp hm
    exact hS2
end
end Mine
namespace Mine
open PySem PySem.Spec PySem.Calls PyProof.Rows PySem.W PySem.W.X
theorem Ctr.of_givesV {prog : Program} {w : World} {kt : KT} {D U : Nat} {gl : List GenState} {id : String} {B : Builtin} {args : Args} {v : Value} (hp : plainId id = true) (he : entryFor table id = some B) (g : Gives (B args) (.val v)) :
    Ctr prog w kt D U (.builtin id args) [] gl gl (α := Unit) (fun _ => .ok (.ret v)) (fun _ => []) (fun _ => []) := by
  intro A R h d os tok _ _ _ _ _ _ _ hR
  refine codeAny_of_tree ?_
  rw [Around.under_plainId hp]
  show wpAny _ _ (match entryFor table id with | some b => b args | none => _) _ _ _
  rw [he]
  exact g prog w A R _ (hR () h tok (fun _ _ e _ => e) rfl (fun _ hm => nomatch hm) (fun _ hm => nomatch hm) List.nodup_nil)
theorem absC {prog : Program} {w : World} {kt : KT} {gl : List GenState} (x : Int) (t : Tok) : Ctr prog w kt 900 9000 (.builtin "int.__abs__" ⟨[.int x t], []⟩) [] gl gl (α := Tok) (fun tk => .ok (.ret (.int (x.natAbs : Int) tk))) (fun _ => []) (fun _ => []) := by
  by_cases h : x < 0
  · have := Ctr.of_gives (id := "int.__abs__") (prog := prog) (w := w) (kt := kt) (D := 900) (U := 9000) (gl := gl) (by decide +kernel) (entryFor_of_tree (by kernel_rfl)) (AutoIntG0.int___abs___int_0 x t h)
    rw [show -x = (x.natAbs : Int) by omega] at this
    exact this
  · exact (Ctr.of_givesV (id := "int.__abs__") (by decide +kernel) (entryFor_of_tree (by kernel_rfl)) (AutoIntG1.int___abs___int_1 x t h)).mono fun _ => ⟨t, by rw [show (x.natAbs : Int) = x by omega], rfl, rfl⟩
def lcS : Expr → Scope
  | .ListComp _ _ s _ => s
  | _ => default
def eltAt : Expr → Nat → Expr
  | .List es _, i => match es[i]? with
    | some e => e
    | none => default
  | _, _ => default
def bxE : Expr := eltAt (retE (stAt (fBody (topSt 49)) 0)) 3
structure Bx where
  d : Addr
  it : Addr
  acc : Addr
  l : Addr
  f : Addr
def bxN (y : Bx) : Env := { scope := lcS bxE, locals := y.d, globals := 3, cells := [], qual := S "_law_box.<locals>.", func := none, code := .ref 1244, frame := some y.f, builtins := 0 }
def bxS (y : Bx) : Code := .compStart bxE 0 (.ref y.it) (.ref y.acc) (bxN y)
def bxL (y : Bx) : Code := .compLoop bxE 0 (.ref y.it) (.ref y.acc) (bxN y)
abbrev dO (es : List DictEntry) (n : Nat) : Obj := ⟨.type "dict", none, .dict es.toArray n, #[]⟩
structure BxR where
  zs : Array Value
  e : Nat
  kx : Tok
  vx : Value
  s1 : Addr
  s2 : Addr
def seqO (o : Obj) : Array Value := match o.data with
  | .seq xs _ => xs
  | _ => #[]
def Nats (ys : Array Value) : Prop := ∀ z, z < ys.size → ∃ (c : Nat) (tc : Tok), ys[z]? = some (.int c tc)
theorem Nats.push {ys : Array Value} (h : Nats ys) (n : Nat) (t : Tok) : Nats (ys.push (.int n t)) := fun z hz => by
  rw [Array.size_push] at hz
  by_cases e : z = ys.size
  · subst e; exact ⟨n, t, by simp⟩
  · obtain ⟨c, tc, hc⟩ := h z (by omega)
    refine ⟨c, tc, ?_⟩
    rw [Array.getElem?_push, if_neg e]; exact hc
abbrev BxC (w : World) (b1 b2 : Bool) (gl : List GenState) (y : Bx) (c : Code) (d0 : Obj) (i : Nat) (ys : Array Value) (e : Nat) (xs : Array Value) (e0 : Nat) : Prop :=
  Ctr prog (wr w b1 b2) (kt w.params) 780 (lev 780) c [(y.d, d0), (y.it, liO y.l i), (y.acc, lstO ys e), (y.l, lstO xs e0)] gl gl (α := { x : BxR // Nats x.zs ∧ x.zs.size = xs.size }) (fun _ => .ok .next)
    (fun x => [dO [ent w.params "x" x.1.kx x.1.vx] 1, liE xs.size, lstO x.1.zs x.1.e, lstO xs e0]) (fun x => [(x.1.s1, stopO x.1.s2), (x.1.s2, tup0)])
section
variable {α₀ : Type} {w : World} {b1 b2 : Bool} {gl : List GenState}
def cLnext {prog : Program} {w : World} {kt : KT} (n : Nat) (is : List Nat) (xs : Array Value) (e i : Nat) (x : Value) (hx : xs[i]? = some x) (r : Hs prog w kt α₀) : Hs prog w kt α₀ :=
  .cutg n 900 9000 is (Addr × Addr) (fun _ l => (enA l 0, enA l 1)) (fun y => .builtin "list_iterator.__next__" ⟨[.ref y.1], []⟩) (fun y => [(y.1, liO y.2 i), (y.2, lstO xs e)]) Unit (fun _ _ => .ok (.ret x)) (fun y _ => [liO y.2 (i + 1), lstO xs e]) (fun _ _ => [])
    (fun y _ => lnextC y.1 y.2 xs e i x hx) (fun _ _ _ _ => r)
def cLend {prog : Program} {w : World} {kt : KT} (n : Nat) (is : List Nat) (xs : Array Value) (e i : Nat) (hx : xs[i]? = none) (r : Hs prog w kt α₀) : Hs prog w kt α₀ :=
  .cutg n 900 9000 is (Addr × Addr) (fun _ l => (enA l 0, enA l 1)) (fun y => .builtin "list_iterator.__next__" ⟨[.ref y.1], []⟩) (fun y => [(y.1, liO y.2 i), (y.2, lstO xs e)]) (Addr × Addr) (fun _ x => .error (.ref x.1)) (fun _ _ => [liE i, lstO xs e]) (fun _ x => [(x.1, stopO x.2), (x.2, tup0)])
    (fun y _ => lendC y.1 y.2 xs e i hx) (fun _ _ _ _ => r)
def cAbs {prog : Program} {w : World} {kt : KT} (n : Nat) (x : Int) (r : Tok → Hs prog w kt α₀) : Hs prog w kt α₀ :=
  .cutg n 900 9000 [] Tok (fun c _ => tokV (argA c 0)) (fun y => .builtin "int.__abs__" ⟨[.int x y], []⟩) (fun _ => []) Tok (fun _ tk => .ok (.ret (.int (x.natAbs : Int) tk))) (fun _ _ => []) (fun _ _ => []) (fun y _ => absC x y) (fun _ t _ _ => r t)
def cLapp {prog : Program} {w : World} {kt : KT} (n : Nat) (is : List Nat) (ys : Array Value) (e : Nat) (hz : ys.size ≤ 1000) (r : Hs prog w kt α₀) : Hs prog w kt α₀ :=
  .cutg n 900 9000 is (Addr × Value) (fun c l => (enA l 0, argA c 1)) (fun y => .builtin "list.append" ⟨[.ref y.1, y.2], []⟩) (fun y => [(y.1, lstO ys e)]) Unit (fun _ _ => .ok (.ret .none)) (fun y _ => [lstO (ys.push y.2) (e + 1)]) (fun _ _ => [])
    (fun y _ => lappC y.1 ys e y.2 hz) (fun _ _ _ _ => r)
def cBxl (n : Nat) (y : Bx) (i : Nat) (ys : Array Value) (e : Nat) (xs : Array Value) (e0 : Nat) (h : ∀ kx vx, BxC w b1 b2 gl y (bxL y) (dO [ent w.params "x" kx vx] 1) i ys e xs e0) (r : { x : BxR // Nats x.zs ∧ x.zs.size = xs.size } → Hs prog (wr w b1 b2) (kt w.params) α₀) : Hs prog (wr w b1 b2) (kt w.params) α₀ :=
  .cut n 780 (lev 780) [0, 1, 2, 3] (Tok × Value) (fun _ l => match l with
    | some (_, o) :: _ => (tokV (entO o 0).1, (entO o 0).2)
    | _ => (0, .none)) (fun _ => bxL y) (fun z => [(y.d, dO [ent w.params "x" z.1 z.2] 1), (y.it, liO y.l i), (y.acc, lstO ys e), (y.l, lstO xs e0)]) gl gl { x : BxR // Nats x.zs ∧ x.zs.size = xs.size } (fun _ _ => .ok .next)
    (fun _ x => [dO [ent w.params "x" x.1.kx x.1.vx] 1, liE xs.size, lstO x.1.zs x.1.e, lstO xs e0]) (fun _ x => [(x.1.s1, stopO x.1.s2), (x.1.s2, tup0)]) (fun z => h z.1 z.2) (fun _ x _ _ => r x)
/-- the last turn -/
theorem bxe (w : World) (b1 b2 : Bool) (gl : List GenState) (y : Bx) (kx : Tok) (vx : Value) (ys : Array Value) (e : Nat) (xs : Array Value) (e0 : Nat) (hn : Nats ys) (hy : ys.size = xs.size) (hx : xs[xs.size]? = none) :
    BxC w b1 b2 gl y (bxL y) (dO [ent w.params "x" kx vx] 1) xs.size ys e xs e0 := by
  have : Ctr prog (wr w b1 b2) (kt w.params) 780 (lev 780) (bxL y) [(y.d, dO [ent w.params "x" kx vx] 1), (y.it, liO y.l xs.size), (y.acc, lstO ys e), (y.l, lstO xs e0)] gl gl (α := Addr × Addr) (fun _ => .ok .next)
    (fun _ => [dO [ent w.params "x" kx vx] 1, liE xs.size, lstO ys e, lstO xs e0]) (fun x => [(x.1, stopO x.2), (x.2, tup0)]) := by
    cases b1 <;> (refine Ctr.of_go (NL w.params) (
      owns [(1, 1), (1, 1)] <|
      cLend 0 [1, 3] xs e0 xs.size hx <|
      owns [(1, 0)] <|
      .fin 0 (fun _ T => (adAt T 0, adAt T 1)) [2, 3, 4, 5] [0, 1]) ?_
      <;> (intro h dep fr gd un R d os tok b; kernel_rfl))
  exact this.mono fun x => ⟨⟨⟨ys, e, kx, vx, x.1, x.2⟩, hn, hy⟩, rfl, rfl, rfl⟩
theorem bxt (w : World) (b1 b2 : Bool) (gl : List GenState) (y : Bx) (d0 : Obj) (hd : d0 = dict0 ∨ ∃ kx vx, d0 = dO [ent w.params "x" kx vx] 1) (i : Nat) (ys : Array Value) (e : Nat) (xs : Array Value) (e0 : Nat) (x : Int) (t : Tok) (hx : xs[i]? = some (.int x t)) (hz : ys.size ≤ 1000)
    (hy : ∀ tk kx vx, BxC w b1 b2 gl y (bxL y) (dO [ent w.params "x" kx vx] 1) (i + 1) (ys.push (.int (x.natAbs : Int) tk)) (e + 1) xs e0) : BxC w b1 b2 gl y (bxL y) d0 i ys e xs e0 := by
  rcases hd with rfl | ⟨kx, vx, rfl⟩
  all_goals
    cases b1 <;> (refine Ctr.of_go (NL w.params) (
      owns [(1, 1), (1, 1)] <|
      cLnext 0 [1, 3] xs e0 i (.int x t) hx <|
      owns [(5, 0), (0, 0), (8, 0)] <|
      cAbs 16 x fun tk =>
      owns [(4, 2)] <|
      cLapp 0 [2] ys e hz <|
      cBxl 1 y (i + 1) (ys.push (.int (x.natAbs : Int) tk)) (e + 1) xs e0 (hy tk) fun z =>
      .fin 0 (fun _ _ => z) [2, 3, 4, 5] [0, 1]) ?_
      <;> (intro h dep fr gd un R d os tok b; kernel_rfl))
theorem bxl (w : World) (b1 b2 : Bool) (gl : List GenState) (y : Bx) (xs : Array Value) (e0 : Nat) (hz : xs.size ≤ 1000) (hi : ∀ i, i < xs.size → ∃ x t, xs[i]? = some (.int x t)) : ∀ (k i : Nat) (ys : Array Value) (e : Nat) (kx : Tok) (vx : Value), i + k = xs.size → ys.size = i → Nats ys →
    BxC w b1 b2 gl y (bxL y) (dO [ent w.params "x" kx vx] 1) i ys e xs e0
  | 0, i, ys, e, kx, vx, h1, h2, hn => by
    obtain rfl : i = xs.size := by omega
    exact bxe w b1 b2 gl y kx vx ys e xs e0 hn h2 (by simp)
  | k + 1, i, ys, e, kx, vx, h1, h2, hn => by
    obtain ⟨x, t, hx⟩ := hi i (by omega)
    exact bxt w b1 b2 gl y _ (.inr ⟨kx, vx, rfl⟩) i ys e xs e0 x t hx (by omega) fun tk kx vx => bxl w b1 b2 gl y xs e0 hz hi k (i + 1) (ys.push (.int (x.natAbs : Int) tk)) (e + 1) kx vx (by omega) (by rw [Array.size_push, h2]) (hn.push _ _)
/-- the whole comprehension, a script that is not empty -/
theorem bxs (w : World) (b1 b2 : Bool) (gl : List GenState) (y : Bx) (xs : Array Value) (e0 : Nat) (h0 : 0 < xs.size) (hz : xs.size ≤ 1000) (hi : ∀ i, i < xs.size → ∃ x t, xs[i]? = some (.int x t)) :
    BxC w b1 b2 gl y (bxL y) dict0 0 #[] 0 xs e0 := by
  obtain ⟨x, t, hx⟩ := hi 0 h0
  exact bxt w b1 b2 gl y _ (.inl rfl) 0 #[] 0 xs e0 x t hx (by simp) fun tk kx vx => bxl w b1 b2 gl y xs e0 hz hi (xs.size - 1) 1 _ 1 kx vx (by omega) rfl (Nats.push (fun z hz => absurd hz (by simp)) _ _)
def cBxs (n : Nat) (is : List Nat) (xs : Array Value) (e0 : Nat) (h0 : 0 < xs.size) (hz : xs.size ≤ 1000) (hi : ∀ i, i < xs.size → ∃ x t, xs[i]? = some (.int x t)) (r : { x : BxR // Nats x.zs ∧ x.zs.size = xs.size } → Hs prog (wr w b1 b2) (kt w.params) α₀) : Hs prog (wr w b1 b2) (kt w.params) α₀ :=
  .cutg n 780 (lev 780) is Bx (fun c l => ⟨enA l 0, enA l 1, enA l 2, enA l 3, match c with
    | .compLoop _ _ _ _ e => (match e.frame with
      | some f => f
      | none => 0)
    | .compStart _ _ _ _ e => (match e.frame with
      | some f => f
      | none => 0)
    | _ => 0⟩) (fun y => bxL y) (fun y => [(y.d, dict0), (y.it, liO y.l 0), (y.acc, lstO #[] 0), (y.l, lstO xs e0)]) { x : BxR // Nats x.zs ∧ x.zs.size = xs.size } (fun _ _ => .ok .next)
    (fun _ x => [dO [ent w.params "x" x.1.kx x.1.vx] 1, liE xs.size, lstO x.1.zs x.1.e, lstO xs e0]) (fun _ x => [(x.1.s1, stopO x.1.s2), (x.1.s2, tup0)]) (fun y gl => bxs w b1 b2 gl y xs e0 h0 hz hi) (fun _ x _ _ => r x)
/-- what the box is -/
structure BoxR where
  box : Addr
  sc : Addr
  zs : Array Value
  e : Nat
  t0 : Tok
  t1 : Tok
  t2 : Tok
abbrev BoxC (w : World) (b1 b2 : Bool) (gl : List GenState) (l : Addr) (xs : Array Value) (e0 : Nat) : Prop :=
  Ctr prog (wr w b1 b2) (kt w.params) 740 (lev 740) (.call (.ref 1245) ⟨[.ref l], []⟩) [(l, lstO xs e0)] gl gl (α := { x : BoxR // Nats x.zs ∧ x.zs.size = xs.size }) (fun x => .ok (.ret (.ref x.1.box))) (fun _ => [lstO xs e0]) (fun x => [(x.1.box, boxO 0 0 0 x.1.t0 x.1.t1 x.1.t2 x.1.sc 0), (x.1.sc, lstO x.1.zs x.1.e)])
theorem boxT (w : World) (b1 : Bool) (gl : List GenState) (l : Addr) (xs : Array Value) (e0 : Nat) (h0 : 0 < xs.size) (hz : xs.size ≤ 1000) (hi : ∀ i, i < xs.size → ∃ x t, xs[i]? = some (.int x t)) : BoxC w b1 true gl l xs e0 := by
  cases b1 <;> (refine Ctr.of_go (NL w.params) (
      owns [(5, 0), (0, 0)] <|
      .stk 0 .enter 1 <|
      owns [(8, 0), (1, 1), (0, 1), (2, 1), (3, 0)] <|
      cBxs 4 [0, 2, 1, 4] xs e0 h0 hz hi fun z =>
      owns [(1, 2), (1, 2), (0, 2)] <|
      .fin 2 (fun _ T => ⟨⟨adAt T 0, adAt T 4, z.1.zs, z.1.e, tokV (fldO (objAt T 0) 0), tokV (fldO (objAt T 0) 1), tokV (fldO (objAt T 0) 2)⟩, z.2⟩) [7] [0, 4]) ?_
      <;> (intro h dep fr gd un R d os tok b; kernel_rfl))
theorem boxF (w : World) (b1 : Bool) (gl : List GenState) (l : Addr) (xs : Array Value) (e0 : Nat) (h0 : 0 < xs.size) (hz : xs.size ≤ 1000) (hi : ∀ i, i < xs.size → ∃ x t, xs[i]? = some (.int x t)) : BoxC w b1 false gl l xs e0 := by
  cases b1 <;> (refine Ctr.of_go (NL w.params) (
      owns [(5, 0), (0, 0)] <|
      .stk 0 .enter 1 <|
      owns [(8, 0), (1, 1), (0, 1), (2, 1), (3, 0), (6, 2), (0, 2), (2, 2), (2, 2)] <|
      cBxs 0 [0, 2, 1, 4] xs e0 h0 hz hi fun z =>
      owns [(1, 2), (1, 2), (0, 2)] <|
      .fin 2 (fun _ T => ⟨⟨adAt T 0, adAt T 4, z.1.zs, z.1.e, tokV (fldO (objAt T 0) 0), tokV (fldO (objAt T 0) 1), tokV (fldO (objAt T 0) 2)⟩, z.2⟩) [7] [0, 4]) ?_
      <;> (intro h dep fr gd un R d os tok b; kernel_rfl))
/-- an empty script -/
theorem boxET (w : World) (b1 : Bool) (gl : List GenState) (l : Addr) (e0 : Nat) : BoxC w b1 true gl l #[] e0 := by
  have : Ctr prog (wr w b1 true) (kt w.params) 740 (lev 740) (.call (.ref 1245) ⟨[.ref l], []⟩) [(l, lstO #[] e0)] gl gl (α := Addr × Addr × Tok × Tok × Tok) (fun x => .ok (.ret (.ref x.1))) (fun _ => [lstO #[] e0]) (fun x => [(x.1, boxO 0 0 0 x.2.2.1 x.2.2.2.1 x.2.2.2.2 x.2.1 0), (x.2.1, lstO #[] 0)]) := by
    cases b1 <;> (refine Ctr.of_go (NL w.params) (
      owns [(5, 0), (0, 0)] <|
      .stk 0 .enter 1 <|
      owns [(8, 0), (1, 1), (0, 1), (2, 1), (3, 0), (6, 2), (1, 2)] <|
      cLend 0 [2, 4] #[] e0 0 rfl <|
      owns [(1, 0), (1, 2)] <|
      .fin 1 (fun _ T => (adAt T 0, adAt T 4, tokV (fldO (objAt T 0) 0), tokV (fldO (objAt T 0) 1), tokV (fldO (objAt T 0) 2))) [7] [0, 4]) ?_
      <;> (intro h dep fr gd un R d os tok b; kernel_rfl))
  exact this.mono fun x => ⟨⟨⟨x.1, x.2.1, #[], 0, x.2.2.1, x.2.2.2.1, x.2.2.2.2⟩, fun z hz => absurd hz (by simp), rfl⟩, rfl, rfl, rfl⟩
theorem boxEF (w : World) (b1 : Bool) (gl : List GenState) (l : Addr) (e0 : Nat) : BoxC w b1 false gl l #[] e0 := by
  have : Ctr prog (wr w b1 false) (kt w.params) 740 (lev 740) (.call (.ref 1245) ⟨[.ref l], []⟩) [(l, lstO #[] e0)] gl gl (α := Addr × Addr × Tok × Tok × Tok) (fun x => .ok (.ret (.ref x.1))) (fun _ => [lstO #[] e0]) (fun x => [(x.1, boxO 0 0 0 x.2.2.1 x.2.2.2.1 x.2.2.2.2 x.2.1 0), (x.2.1, lstO #[] 0)]) := by
    cases b1 <;> (refine Ctr.of_go (NL w.params) (
      owns [(5, 0), (0, 0)] <|
      .stk 0 .enter 1 <|
      owns [(8, 0), (1, 1), (0, 1), (2, 1), (3, 0), (6, 2), (0, 2), (2, 2), (2, 2), (2, 2), (1, 2)] <|
      cLend 0 [2, 4] #[] e0 0 rfl <|
      owns [(1, 0), (1, 2)] <|
      .fin 1 (fun _ T => (adAt T 0, adAt T 4, tokV (fldO (objAt T 0) 0), tokV (fldO (objAt T 0) 1), tokV (fldO (objAt T 0) 2))) [7] [0, 4]) ?_
      <;> (intro h dep fr gd un R d os tok b; kernel_rfl))
  exact this.mono fun x => ⟨⟨⟨x.1, x.2.1, #[], 0, x.2.2.1, x.2.2.2.1, x.2.2.2.2⟩, fun z hz => absurd hz (by simp), rfl⟩, rfl, rfl, rfl⟩
theorem boxC (w : World) (b1 b2 : Bool) (gl : List GenState) (l : Addr) (xs : Array Value) (e0 : Nat) (hz : xs.size ≤ 1000) (hi : ∀ i, i < xs.size → ∃ x t, xs[i]? = some (.int x t)) : BoxC w b1 b2 gl l xs e0 := by
  by_cases h0 : 0 < xs.size
  · cases b2 with
    | true => exact boxT w b1 gl l xs e0 h0 hz hi
    | false => exact boxF w b1 gl l xs e0 h0 hz hi
  · obtain rfl : xs = #[] := Array.eq_empty_of_size_eq_zero (by omega)
    cases b2 with
    | true => exact boxET w b1 gl l e0
    | false => exact boxEF w b1 gl l e0
end
end Mine
namespace Mine
open PySem PySem.Spec PySem.Calls PyProof.Rows PySem.W PySem.W.X
section
variable {prog : Program} {w : World} {kt : KT} {D U : Nat} {gl : List GenState}
theorem nextT {T id : String} (slot : Slot T "__next__" id) {A : Around} {E : Value → Shared → Prop} {s : Shared} {a : Addr} {Q : Option Value → Shared → Prop} (hT : s.TypeIs (.ref a) T)
    (hc : codeAny (model prog w) A (.call (.builtin id) ⟨[.ref a], []⟩) (fun r s' => match r with | .ok (.ret v) => Q (some v) s' | .ok _ => False | .error e => (∃ x t, e = .ref x ∧ s'.heap.get? x = some (stopO t)) ∧ Q none s') s) :
    wpAny (model prog w) A (pyNext (.ref a)) Q E s := by
  unfold pyNext
  refine wpAny_bind (wpAny_attempt (wpAny_callSpecial?_slot (name := Str.ofString "__next__") hT slot (wpAny_call (codeAny_mono hc fun r s' hr => ?_))))
  cases r with
  | ok f =>
    cases f with
    | ret v => exact wpAny_pure hr
    | _ => exact hr.elim
  | error e =>
    obtain ⟨⟨x, t, rfl, ho⟩, hq⟩ := hr
    refine wpAny_bind (wpAny_isInstance (T := "StopIteration") (b := true) ⟨_, ho, rfl⟩ isSubtype_stop ?_)
    exact wpAny_pure hq
end
section
variable {α₀ : Type} {w : World} {b1 b2 : Bool} {gl : List GenState}
theorem lncC (w : World) (b1 b2 : Bool) (gl : List GenState) (it l : Addr) (xs : Array Value) (e i : Nat) (x : Value) (hx : xs[i]? = some x) : Ctr prog (wr w b1 b2) (kt w.params) 860 (lev 860) (.call (.builtin "list_iterator.__next__") ⟨[.ref it], []⟩) [(it, liO l i), (l, lstO xs e)] gl gl (α := Unit)
    (fun _ => .ok (.ret x)) (fun _ => [liO l (i + 1), lstO xs e]) (fun _ => []) := by
  cases b1 <;> (refine Ctr.of_go (NL w.params) (
    owns [(0, 0)] <|
    cLnext 0 [0, 1] xs e i x hx <|
    .fin 0 (fun _ _ => ()) [0, 1] []) ?_
   <;> (intro h dep fr gd un R d os tok b; kernel_rfl))
theorem leC (w : World) (b1 b2 : Bool) (gl : List GenState) (it l : Addr) (xs : Array Value) (e i : Nat) (hx : xs[i]? = none) : Ctr prog (wr w b1 b2) (kt w.params) 860 (lev 860) (.call (.builtin "list_iterator.__next__") ⟨[.ref it], []⟩) [(it, liO l i), (l, lstO xs e)] gl gl (α := Addr × Addr)
    (fun x => .error (.ref x.1)) (fun _ => [liE i, lstO xs e]) (fun x => [(x.1, stopO x.2), (x.2, tup0)]) := by
  cases b1 <;> (refine Ctr.of_go (NL w.params) (
    owns [(0, 0)] <|
    cLend 0 [0, 1] xs e i hx <|
    .fin 0 (fun _ T => (adAt T 0, adAt T 1)) [2, 3] [0, 1]) ?_
   <;> (intro h dep fr gd un R d os tok b; kernel_rfl))
def natSum : List Value → Nat
  | [] => 0
  | .int n _ :: l => n.toNat + natSum l
  | _ :: l => natSum l
inductive AreNats : List Value → Prop
  | nil : AreNats []
  | cons (n : Nat) (t : Tok) {l : List Value} (h : AreNats l) : AreNats (.int n t :: l)
end
end Mine
namespace Mine
open PySem PySem.Spec PySem.Calls PyProof.Rows PySem.W PySem.W.X
def nb (l : List UInt8) : Nat := l.foldl (fun (acc : Nat) (b : UInt8) => acc * 256 + b.toNat) 0
section
variable {prog : Program} {w : World} {kt : KT} {D U : Nat} {gl : List GenState}
theorem plain_fb : plainId "int.from_bytes" = true := by decide +kernel
theorem plain_tb : plainId "int.to_bytes" = true := by decide +kernel
theorem nb_lt (l : List UInt8) : nb l < 256 ^ l.length := by
  have := KFB.fold_lt l 0
  rw [Nat.zero_add, Nat.one_mul] at this
  exact this
theorem grownS {M : Model} {A : Around} {E : Value → Shared → Prop} {s : Shared} {n : Nat} {Q : Value → Shared → Prop} (hn : n < 256 ^ 10) (h : Q (.int (n : Int) s.toks) { s with toks := s.toks + 1 }) : wpAny M A (mkIntGrown (n : Int)) Q E s := by
  unfold mkIntGrown
  have hl : ¬ ((n : Int).natAbs.log2 ≥ bitsLine) := by
    rw [Int.natAbs_natCast, show bitsLine = 134217728 from rfl]
    by_cases hz : n = 0
    · subst hz; decide
    · have h1 := (Nat.log2_lt hz).mpr (show n < 2 ^ 80 from hn)
      omega
  rw [if_neg hl]
  exact wpAny_mkInt h
theorem fbBigC (b : Array UInt8) (t u : Tok) (hl : b.size ≤ 10) : Ctr prog w kt D U (.builtin "int.from_bytes" ⟨[.type "int", .bytes b t, .str (S "big") u], []⟩) [] gl gl (α := Tok) (fun t => .ok (.ret (.int (nb b.toList : Nat) t))) (fun _ => []) (fun _ => []) := by
  intro A R h d os tok hh hD hU ht hp hn hll hR
  have fin := hR tok h (tok + 1) (fun b o e _ => e) rfl (fun x hm => nomatch hm) (fun _ hm => nomatch hm) List.nodup_nil
  refine codeAny_builtin KFB.entry_fb ?_
  rw [Around.under_plainId plain_fb]
  unfold Builtin.«int.from_bytes»
  refine wpAny_bind (wpAny_of_eq (a := true) KFB.type_int ?_)
  refine KFB.if_not rfl ?_
  refine wpAny_bind (wpAny_of_eq (a := true) F.conv_sub_int ?_)
  refine KFB.if_not rfl ?_
  refine wpAny_bind (wpAny_of_eq (a := [some (.bytes b t), some (.str (S "big") u), none]) (by kernel_rfl) ?_)
  refine wpAny_bind (wpAny_of_eq (a := S "big") (by kernel_rfl) ?_)
  refine wpAny_bind (wpAny_of_eq (a := false) rfl ?_)
  refine wpAny_bind (wpAny_of_eq (a := false) (by kernel_rfl) ?_)
  refine wpAny_bind (wpAny_of_eq (a := b) rfl ?_)
  show wpAny _ _ (mkIntGrown (b.toList.foldl (fun (acc : Int) (b : UInt8) => acc * 256 + (b.toNat : Int)) ((0 : Nat) : Int)) >>= fun v => _) _ _ _
  rw [KFB.foldI_eq]
  have hb : nb b.toList < 256 ^ 10 := Nat.lt_of_lt_of_le (nb_lt _) (Nat.pow_le_pow_right (by decide) (by rw [Array.length_toList]; exact hl))
  refine wpAny_bind (grownS hb ?_)
  refine KFB.if_so (by decide +kernel) ?_
  refine wpAny_bind (wpAny_pure ?_)
  exact wpAny_pure fin
theorem fbLitC (b : Array UInt8) (t u : Tok) (hl : b.size ≤ 10) : Ctr prog w kt D U (.builtin "int.from_bytes" ⟨[.type "int", .bytes b t, .str (S "little") u], []⟩) [] gl gl (α := Tok) (fun t => .ok (.ret (.int (nb b.toList.reverse : Nat) t))) (fun _ => []) (fun _ => []) := by
  intro A R h d os tok hh hD hU ht hp hn hll hR
  have fin := hR tok h (tok + 1) (fun b o e _ => e) rfl (fun x hm => nomatch hm) (fun _ hm => nomatch hm) List.nodup_nil
  refine codeAny_builtin KFB.entry_fb ?_
  rw [Around.under_plainId plain_fb]
  unfold Builtin.«int.from_bytes»
  refine wpAny_bind (wpAny_of_eq (a := true) KFB.type_int ?_)
  refine KFB.if_not rfl ?_
  refine wpAny_bind (wpAny_of_eq (a := true) F.conv_sub_int ?_)
  refine KFB.if_not rfl ?_
  refine wpAny_bind (wpAny_of_eq (a := [some (.bytes b t), some (.str (S "little") u), none]) (by kernel_rfl) ?_)
  refine wpAny_bind (wpAny_of_eq (a := S "little") (by kernel_rfl) ?_)
  refine wpAny_bind (wpAny_of_eq (a := false) rfl ?_)
  refine wpAny_bind (wpAny_of_eq (a := true) (by kernel_rfl) ?_)
  refine wpAny_bind (wpAny_of_eq (a := b) rfl ?_)
  show wpAny _ _ (mkIntGrown (b.toList.reverse.foldl (fun (acc : Int) (b : UInt8) => acc * 256 + (b.toNat : Int)) ((0 : Nat) : Int)) >>= fun v => _) _ _ _
  rw [KFB.foldI_eq]
  have hb : nb b.toList.reverse < 256 ^ 10 := Nat.lt_of_lt_of_le (nb_lt _) (Nat.pow_le_pow_right (by decide) (by rw [List.length_reverse, Array.length_toList]; exact hl))
  refine wpAny_bind (grownS hb ?_)
  refine KFB.if_so (by decide +kernel) ?_
  refine wpAny_bind (wpAny_pure ?_)
  exact wpAny_pure fin
/-- the octets of a number, the highest first -/
def TB (x k : Nat) (b : Array UInt8) : Prop := b.toList.map (fun c => ((c.toNat : Nat) : Int)) = (KTBy.little k (x : Int)).reverse
theorem tbBigC (x k : Nat) (t u v : Tok) (hk : k ≤ 10) (hx : x < 256 ^ k) : Ctr prog w kt D U (.builtin "int.to_bytes" ⟨[.int x t, .int k u, .str (S "big") v], []⟩) [] gl gl (α := { b : Array UInt8 // TB x k b } × Tok) (fun y => .ok (.ret (.bytes y.1.1 y.2))) (fun _ => []) (fun _ => []) := by
  intro A R h d os tok hh hD hU ht hp hn hll hR
  have hb : Builtin.Int.intBits (x : Int) ≤ 8 * k := KTBy.bits_le (k := k) rfl (by omega) (by rw [KTBy.p256]; exact Int.ofNat_lt.mpr hx)
  have hx' : (x : Int) < 256 ^ k := by rw [KTBy.p256]; exact Int.ofNat_lt.mpr hx
  refine codeAny_builtin KTBy.entry ?_
  rw [Around.under_plainId plain_tb]
  show wpAny _ _ (Builtin.Int.intOfSelf (.int x t) >>= fun y => _) _ _ _
  refine wpAny_bind (wpAny_of_eq (a := (x : Int)) rfl ?_)
  show wpAny _ _ (Builtin.Int.intBindNamed "to_bytes" ["length", "byteorder", "signed"] 0 2 [.int (k : Int) u, .str (S "big") v] [] >>= fun l => _) _ _ _
  refine wpAny_bind (wpAny_of_eq (a := [some (.int (k : Int) u), some (.str (S "big") v), none]) (by kernel_rfl) ?_)
  show wpAny _ _ (Builtin.Int.intIndex "int.to_bytes" (.int (k : Int) u) >>= fun n => _) _ _ _
  refine wpAny_bind (wpAny_of_eq (a := (k : Int)) rfl ?_)
  refine KTBy.if_not (by show (decide ((k : Int) < -(2 ^ 63 : Int)) || decide ((k : Int) ≥ 2 ^ 63)) = false; rw [decide_eq_false (show ¬ ((k : Int) < -(2 ^ 63 : Int)) by omega), decide_eq_false (show ¬ ((k : Int) ≥ 2 ^ 63) by omega)]; rfl) ?_
  refine wpAny_bind (wpAny_of_eq (a := S "big") (by kernel_rfl) ?_)
  refine wpAny_bind (wpAny_of_eq (a := false) rfl ?_)
  refine wpAny_bind (wpAny_of_eq (a := false) (by kernel_rfl) ?_)
  refine wpAny_ite_false (decide_eq_false (show ¬ ((k : Int) < 0) by omega)) ?_
  refine wpAny_ite_false (decide_eq_false (show ¬ ((k : Int) > 2 ^ 63 - 1 - 33) by omega)) ?_
  refine wpAny_ite_false (decide_eq_false (show ¬ ((k : Int) > (sizeLine : Int)) by rw [sizeLine_eq]; omega)) ?_
  refine KTBy.if_not (by show (decide ((x : Int) < 0) && !false) = false; rw [decide_eq_false (show ¬ (x : Int) < 0 by omega)]; rfl) ?_
  refine KTBy.if_not (by show (_ && decide ((Builtin.Int.intBits (x : Int) : Int) > 8 * (k : Int))) = false; rw [decide_eq_false (show ¬ ((Builtin.Int.intBits (x : Int) : Int) > 8 * (k : Int)) by omega), Bool.and_false]) ?_
  have e : TB x k (List.reverse (KTBy.low (x : Int) (Int.toNat (k : Int)))).toArray := by
    show List.map (fun c : UInt8 => ((c.toNat : Nat) : Int)) (List.reverse (KTBy.low (x : Int) (Int.toNat (k : Int)))) = _
    rw [Int.toNat_natCast, List.map_reverse, KTBy.low_ints (by omega) hx', ← KTBy.little_eq]
  refine wpAny_bind (wpAny_mkBytes (wpAny_pure (hR (⟨_, e⟩, tok) h (tok + 1) (fun b o e _ => e) rfl (fun x hm => nomatch hm) (fun _ hm => nomatch hm) List.nodup_nil)) (by show (List.reverse (KTBy.low (x : Int) (Int.toNat (k : Int)))).length ≤ sizeLine; rw [List.length_reverse, KTBy.low_length, Int.toNat_natCast, sizeLine_eq]; omega))
end
end Mine
namespace Mine
open PySem PySem.Spec PySem.Calls PyProof.Rows PySem.W PySem.W.X
open PySem.AutoSeq1 (wpAny_loadPart')
open PySem.MeetsSeq PySem.MeetsSeq2 PySem.MeetsSeq3 PySem.SeqRoads2
section
variable {prog : Program} {w : World} {kt : KT} {D U : Nat} {gl : List GenState}
/-- two lists of equal values -/
def Same (xs ys : List Value) : Prop := xs.length = ys.length ∧ ∀ (j : Nat) x y, xs[j]? = some x → ys[j]? = some y → EqGives x y true
theorem eqLp (c : Nat) (hc : c = 2 ∨ c = 3) (l b : Addr) (xs ys : List Value) (n1 n2 : Nat) (hs : Same xs ys) : ∀ k i, xs.length - i = k → ∀ (A : Around) (R : Result → Shared → Prop) (s : Shared), s.heap.get? l = some (lstO xs.toArray n1) → s.heap.get? b = some (lstO ys.toArray n2) → R (.ok (.ret (.bool (c == 2)))) s →
    wpAny (model prog w) A.in1 (Builtin.«list.__eq__.loop» ⟨[.ref l, .ref b, .int (i : Nat) 0, .int (c : Nat) 0], []⟩) (fun fin s' => match fin with | .done f => R (.ok f) s' | .again c' => c'.quiet = true ∧ codeAny (model prog w) A c' R s') (fun e s' => R (.error e) s') s
  | 0, i, hk, A, R, s, hl, hb, h => by
    obtain ⟨hp, g, d, tk, os⟩ := s
    have h1 : xs[i]? = none := List.getElem?_eq_none (by omega)
    have hi1 : xs.toArray[((i : Nat) : Int).toNat]? = none := by simp; omega
    have hl2 := hs.1
    rcases hc with rfl | rfl
    · wp_walk using wpAny_loadPart' hl, wpAny_loadPart' hb
      rw [hi1]
      wp_walk using wpAny_loadPart' hl, wpAny_loadPart' hb
      show R (.ok (.ret (.bool (xs.toArray.size == ys.toArray.size)))) _
      have : (xs.toArray.size == ys.toArray.size) = true := by simp [hl2]
      rw [this]; exact h
    · wp_walk using wpAny_loadPart' hl, wpAny_loadPart' hb
      rw [hi1]
      wp_walk using wpAny_loadPart' hl, wpAny_loadPart' hb
      show R (.ok (.ret (.bool (xs.toArray.size != ys.toArray.size)))) _
      have : (xs.toArray.size != ys.toArray.size) = false := by simp [hl2]
      rw [this]; exact h
  | k + 1, i, hk, A, R, s, hl, hb, h => by
    obtain ⟨hp, g, d, tk, os⟩ := s
    have hlt : i < xs.length := by omega
    have hlt2 : i < ys.length := by rw [← hs.1]; exact hlt
    have g1 : xs[i]? = some xs[i] := by simp [hlt]
    have g2 : ys[i]? = some ys[i] := by simp [hlt2]
    have hi1 : xs.toArray[((i : Nat) : Int).toNat]? = some xs[i] := by simp [hlt]
    have hi2 : ys.toArray[((i : Nat) : Int).toNat]? = some ys[i] := by simp [hlt2]
    have he := hs.2 i _ _ g1 g2
    have hc' : ((i : Int) + 1) = ((i + 1 : Nat) : Int) := by push_cast; rfl
    rcases hc with rfl | rfl
    · wp_walk using wpAny_loadPart' hl, wpAny_loadPart' hb
      rw [hi1, hi2]
      refine wpAny_bind (he prog w _ _ _ _ ?_)
      wp_walk
      rw [hc']
      exact ⟨plainId_quiet plain_eq_loop _, codeAny_builtin entry_eq_loop (by
        rw [Around.under_plainId plain_eq_loop _]
        exact eqLp 2 (.inl rfl) l b xs ys n1 n2 hs k (i + 1) (by omega) A R _ hl hb h)⟩
    · wp_walk using wpAny_loadPart' hl, wpAny_loadPart' hb
      rw [hi1, hi2]
      refine wpAny_bind (he prog w _ _ _ _ ?_)
      wp_walk
      rw [hc']
      exact ⟨plainId_quiet plain_eq_loop _, codeAny_builtin entry_eq_loop (by
        rw [Around.under_plainId plain_eq_loop _]
        exact eqLp 3 (.inr rfl) l b xs ys n1 n2 hs k (i + 1) (by omega) A R _ hl hb h)⟩
theorem eqLpC (c : Nat) (hc : c = 2 ∨ c = 3) (l b : Addr) (xs ys : List Value) (n1 n2 : Nat) (hs : Same xs ys) : Ctr prog w kt D U (.builtin "list.__eq__.loop" ⟨[.ref l, .ref b, .int 0 0, .int (c : Nat) 0], []⟩) [(l, lstO xs.toArray n1), (b, lstO ys.toArray n2)] gl gl (α := Unit)
    (fun _ => .ok (.ret (.bool (c == 2)))) (fun _ => [lstO xs.toArray n1, lstO ys.toArray n2]) (fun _ => []) := by
  intro A R h d os tok hh hD hU ht hp hn hl hR
  have h1 := hp _ (.head _)
  have h2 := hp _ (.tail _ (.head _))
  refine codeAny_builtin entry_eq_loop ?_
  rw [Around.under_plainId plain_eq_loop]
  refine eqLp c hc l b xs ys n1 n2 hs _ 0 rfl A R _ h1 h2 (hR () h tok (fun b o e _ => e) rfl (fun x hm => ?_) (fun _ hm => nomatch hm) List.nodup_nil)
  rcases List.mem_cons.mp hm with rfl | hm
  · exact h1
  · cases List.mem_singleton.mp hm
    exact h2
theorem eqI (x y : Int) (t u : Tok) (h : x = y) : EqGives (.int x t) (.int y u) true := by
  subst h
  have := EqGives.int x x t u
  rw [show (x == x) = true by simp] at this
  exact this
theorem eqS (x : Str) (t u : Tok) : EqGives (.str x t) (.str x u) true := by
  have := eqGives_str x x t u
  rw [show (x == x) = true by simp] at this
  exact this
theorem Same.nil : Same [] [] := ⟨rfl, fun j x y h => by simp at h⟩
theorem Same.cons {x y : Value} {xs ys : List Value} (h : EqGives x y true) (hs : Same xs ys) : Same (x :: xs) (y :: ys) := ⟨by simp [hs.1], fun j a b ha hb => by
  cases j with
  | zero =>
    simp only [List.getElem?_cons_zero, Option.some.injEq] at ha hb
    subst ha hb; exact h
  | succ j => exact hs.2 j a b (by simpa using ha) (by simpa using hb)⟩
end
end Mine
namespace Mine
open PySem PySem.Spec PySem.Calls PyProof.Rows PySem.W PySem.W.X
section
variable {prog : Program} {w : World} {kt : KT} {D U : Nat} {gl : List GenState}
abbrev rgO (n : Int) (t u v : Tok) : Obj := ⟨.type "range", none, .fields #[.int 0 t, .int n u, .int 1 v], #[]⟩
abbrev riO (x n : Int) : Obj := ⟨.type "range_iterator", none, .fields #[.int x 0, .int n 0, .int 1 0], #[]⟩
theorem plain_riter : plainId "range.__iter__" = true := by decide +kernel
theorem plain_rnext : plainId "range_iterator.__next__" = true := by decide +kernel
theorem small_rg (n : Nat) (h : n ≤ 1000) : Builtin.Range.rangeSize 0 n 1 = n ∧ Builtin.Range.small 0 n 1 = true := by
  have e : Builtin.Range.rangeSize 0 (n : Int) 1 = (n : Int) := by
    unfold Builtin.Range.rangeSize
    simp
    omega
  refine ⟨e, ?_⟩
  unfold Builtin.Range.small Builtin.Range.rangeFitsLong
  rw [e]
  simp
  omega
theorem riterC (r : Addr) (n : Nat) (t u v : Tok) (hn : n ≤ 1000) : Ctr prog w kt D U (.builtin "range.__iter__" ⟨[.ref r], []⟩) [(r, rgO n t u v)] gl gl (α := Addr) (fun a => .ok (.ret (.ref a))) (fun _ => [rgO n t u v]) (fun a => [(a, riO 0 n)]) := by
  intro A R h d os tok hh hD hU ht hp hn' hl hR
  have ho : h.get? r = some (rgO n t u v) := hp _ (.head _)
  obtain ⟨e, sm⟩ := small_rg n hn
  refine codeAny_builtin F.entry_range_iter ?_
  rw [Around.under_plainId plain_riter]
  refine AutoRange.range___iter___range_1 r 0 n 1 t u v (fun z => by unfold Builtin.Range.small at sm; rw [sm] at z; cases z) prog w A R _ ⟨ho, ?_⟩
  unfold Builtin.Range.small at sm
  rw [sm, e]
  refine hR h.objs.size _ tok (fun b o q hb => Heap.get?_push_of_some _ q) rfl (fun p hm => ?_) (fun p hm => ?_) (by simp)
  · cases List.mem_singleton.mp hm
    exact Heap.get?_push_of_some _ ho
  · cases List.mem_singleton.mp hm
    exact ⟨Heap.get?_push_size _ rfl, get_size h⟩
theorem rnextC (it : Addr) (x k : Nat) : Ctr prog w kt D U (.builtin "range_iterator.__next__" ⟨[.ref it], []⟩) [(it, riO x ((k + 1 : Nat) : Int))] gl gl (α := Tok) (fun t => .ok (.ret (.int x t))) (fun _ => [riO ((x + 1 : Nat) : Int) k]) (fun _ => []) := by
  intro A R h d os tok hh hD hU ht hp hn hl hR
  have ho : h.get? it = some (riO x ((k + 1 : Nat) : Int)) := hp _ (.head _)
  refine codeAny_builtin F.entry_range_iterator_next ?_
  rw [Around.under_plainId plain_rnext]
  refine AutoRange.range_iterator___next___range_iterator_1 it x ((k + 1 : Nat) : Int) 1 (by omega) prog w A R _ ⟨ho, ?_⟩
  refine hR tok _ (tok + 1) (fun b o q hb => ?_) rfl (fun p hm => ?_) (fun _ hm => nomatch hm) List.nodup_nil
  · have hb' : it ≠ b := fun z => hb (by rw [← z]; exact .head _)
    exact (Heap.get?_update_other _ _ hb').trans ((Heap.get?_update_other _ _ hb').trans q)
  · cases List.mem_singleton.mp hm
    have e1 := Heap.get?_update_self (Obj.mapFields (·.setIfInBounds 0 (rawInt ((x : Int) + 1)))) ho rfl
    have e2 := Heap.get?_update_self (Obj.mapFields (·.setIfInBounds 1 (rawInt (((k + 1 : Nat) : Int) - 1)))) e1 rfl
    rw [e2]
    have e3 : ((k + 1 : Nat) : Int) - 1 = k := by omega
    show some (⟨.type "range_iterator", none, .fields #[.int ((x : Int) + 1) 0, .int (((k + 1 : Nat) : Int) - 1) 0, .int 1 0], #[]⟩ : Obj) = _
    rw [e3]
    rfl
end
end Mine
namespace Mine
open PySem PySem.Spec PySem.Calls PyProof.Rows PySem.W PySem.W.X
def asV : Stmt → Expr
  | .Assign _ v _ => v
  | _ => default
def celled (s : Scope) : Scope := { s with names := s.names.map fun x => if x.2 == NameKind.free then (x.1, NameKind.cell) else x }
def lwB : List Stmt := fBody (topSt 51)
def dcE : Expr := callA (asV (stAt lwB 8))
def intV : Value → Int
  | .int n _ => n
  | _ => 0
/-- a comprehension of law over a range: its objects -/
structure Dy where
  d : Addr
  it : Addr
  acc : Addr
  cb : Addr
  box : Addr
  sc : Addr
  f : Addr
/-- the box's state -/
structure Bs where
  x : Nat
  y : Int
  z : Nat
  t0 : Tok
  t1 : Tok
  t2 : Tok
abbrev bsO (b : Bs) (sc : Addr) : Obj := boxO b.x b.y b.z b.t0 b.t1 b.t2 sc 0
def bsX (o : Obj) : Bs := ⟨(intV (fldO o 0)).toNat, intV (fldO o 1), (intV (fldO o 2)).toNat, tokV (fldO o 0), tokV (fldO o 1), tokV (fldO o 2)⟩
def TkR.b {m : Nat} (r : TkR m) : Bs := ⟨r.x, r.y, r.z, r.t0, r.t1, r.t2⟩
def obA (l : List (Option En)) (i : Nat) : Obj := match l[i]? with
  | some (some e) => e.2
  | _ => default
section
variable {α₀ : Type} {w : World} {b1 b2 : Bool} {gl : List GenState}
def cTake (n : Nat) (is : List Nat) (xs : Array Value) (e' : Nat) (S : Scr xs) (m : Nat) (hm : m + 1 < 1073741824) (r : TkR m → Hs prog (wr w b1 b2) (kt w.params) α₀) : Hs prog (wr w b1 b2) (kt w.params) α₀ :=
  .cutg n 800 (lev 800) is (Addr × Addr × Bs × Tok) (fun c l => (enA l 0, enA l 1, bsX (obA l 0), tokV (argA c 1))) (fun y => .call (.ref 1252) ⟨[.ref y.1, .int ((m + 1 : Nat) : Int) y.2.2.2], []⟩) (fun y => [(y.1, bsO y.2.2.1 y.2.1), (y.2.1, lstO xs e')]) (TkR m)
    (fun _ p => .ok (.ret (.int p.v p.tv))) (fun y p => [bsO p.b y.2.1, lstO xs e']) (fun _ _ => []) (fun y gl => takeC w b1 b2 gl y.1 y.2.1 xs 0 e' m hm y.2.2.1.t0 y.2.2.1.t1 y.2.2.1.t2 y.2.2.2 y.2.2.1.x y.2.2.1.z y.2.2.1.y S) (fun _ p _ _ => r p)
def xTake (n : Nat) (is : List Nat) (xs : Array Value) (e' : Nat) (S : Scr xs) (m : Nat) (hm : m + 1 < 1073741824) (r : TkR m → Hx prog (wr w b1 b2) (kt w.params) α₀) : Hx prog (wr w b1 b2) (kt w.params) α₀ :=
  cutT n 800 (lev 800) is (Addr × Addr × Bs × Tok) (fun c l => (enA l 0, enA l 1, bsX (obA l 0), tokV (argA c 1))) (fun y => .call (.ref 1252) ⟨[.ref y.1, .int ((m + 1 : Nat) : Int) y.2.2.2], []⟩) (fun y => [(y.1, bsO y.2.2.1 y.2.1), (y.2.1, lstO xs e')]) (TkR m)
    (fun _ p => .ok (.ret (.int p.v p.tv))) (fun y p => [bsO p.b y.2.1, lstO xs e']) (fun _ _ => []) (fun y gl => takeC w b1 b2 gl y.1 y.2.1 xs 0 e' m hm y.2.2.1.t0 y.2.2.1.t1 y.2.2.1.t2 y.2.2.2 y.2.2.1.x y.2.2.1.z y.2.2.1.y S) (fun _ p _ _ => r p)
def cRnext {prog : Program} {w : World} {kt : KT} (n i : Nat) (x k : Nat) (r : Hs prog w kt α₀) : Hs prog w kt α₀ :=
  .cutg n 900 9000 [i] Addr (fun _ l => enA l 0) (fun y => .builtin "range_iterator.__next__" ⟨[.ref y], []⟩) (fun y => [(y, riO x ((k + 1 : Nat) : Int))]) Tok (fun _ t => .ok (.ret (.int x t))) (fun _ _ => [riO ((x + 1 : Nat) : Int) k]) (fun _ _ => []) (fun y _ => rnextC y x k) (fun _ _ _ _ => r)
def dcN (y : Dy) : Env := { scope := celled (lcS dcE), locals := y.d, globals := 3, cells := [(S "box", y.cb)], qual := S "law.<locals>.", func := none, code := .ref 1256, frame := some y.f, builtins := 0 }
def dcL (y : Dy) : Code := .compLoop dcE 0 (.ref y.it) (.ref y.acc) (dcN y)
structure DcR where
  vs : List Value
  ns : List Int
  e : Nat
  b : Bs
  kx : Tok
  vx : Value
  s1 : Addr
  s2 : Addr
def DcP (N : Nat) (vs : List Value) (ns : List Int) : Prop := IntsAre vs ns ∧ (∀ n ∈ ns, 0 ≤ n ∧ n < 256) ∧ vs.length = N ∧ ns.length = N
abbrev DcC (w : World) (b1 b2 : Bool) (gl : List GenState) (y : Dy) (xs : Array Value) (e' : Nat) (N : Nat) (d0 : Obj) (b : Bs) (i k : Nat) (ys : Array Value) (e : Nat) : Prop :=
  Ctr prog (wr w b1 b2) (kt w.params) 740 (lev 740) (dcL y) [(y.d, d0), (y.it, riO i k), (y.acc, lstO ys e), (y.cb, cellO y.box), (y.box, bsO b y.sc), (y.sc, lstO xs e')] gl gl (α := { x : DcR // DcP N x.vs x.ns }) (fun _ => .ok .next)
    (fun x => [dO [ent w.params "turn" x.1.kx x.1.vx] 1, riO N 0, lstO x.1.vs.toArray x.1.e, cellO y.box, bsO x.1.b y.sc, lstO xs e']) (fun x => [(x.1.s1, stopO x.1.s2), (x.1.s2, tup0)])
def cDc (n : Nat) (y : Dy) (xs : Array Value) (e' : Nat) (N i k : Nat) (ys : Array Value) (e : Nat) (b : Bs) (h : ∀ kx vx, DcC w b1 b2 gl y xs e' N (dO [ent w.params "turn" kx vx] 1) b i k ys e) (r : { x : DcR // DcP N x.vs x.ns } → Hs prog (wr w b1 b2) (kt w.params) α₀) : Hs prog (wr w b1 b2) (kt w.params) α₀ :=
  .cut n 740 (lev 740) [0, 1, 2, 3, 4, 5] (Tok × Value) (fun _ l => (tokV (entO (obA l 0) 0).1, (entO (obA l 0) 0).2)) (fun _ => dcL y) (fun z => [(y.d, dO [ent w.params "turn" z.1 z.2] 1), (y.it, riO i k), (y.acc, lstO ys e), (y.cb, cellO y.box), (y.box, bsO b y.sc), (y.sc, lstO xs e')]) gl gl
    { x : DcR // DcP N x.vs x.ns } (fun _ _ => .ok .next) (fun _ x => [dO [ent w.params "turn" x.1.kx x.1.vx] 1, riO N 0, lstO x.1.vs.toArray x.1.e, cellO y.box, bsO x.1.b y.sc, lstO xs e']) (fun _ x => [(x.1.s1, stopO x.1.s2), (x.1.s2, tup0)]) (fun z => h z.1 z.2) (fun _ x _ _ => r x)
theorem dce (w : World) (b1 b2 : Bool) (gl : List GenState) (y : Dy) (xs : Array Value) (e' N : Nat) (kx : Tok) (vx : Value) (b : Bs) (vs : List Value) (ns : List Int) (e : Nat) (hp : DcP N vs ns) : DcC w b1 b2 gl y xs e' N (dO [ent w.params "turn" kx vx] 1) b N 0 vs.toArray e := by
  have : Ctr prog (wr w b1 b2) (kt w.params) 740 (lev 740) (dcL y) [(y.d, dO [ent w.params "turn" kx vx] 1), (y.it, riO N 0), (y.acc, lstO vs.toArray e), (y.cb, cellO y.box), (y.box, bsO b y.sc), (y.sc, lstO xs e')] gl gl (α := Addr × Addr) (fun _ => .ok .next)
    (fun _ => [dO [ent w.params "turn" kx vx] 1, riO N 0, lstO vs.toArray e, cellO y.box, bsO b y.sc, lstO xs e']) (fun x => [(x.1, stopO x.2), (x.2, tup0)]) := by
    cases b1 <;> (refine Ctr.of_go (NL w.params) (
      owns [(1, 1), (1, 1), (1, 1), (0, 1), (0, 1), (5, 0)] <|
      .fin 0 (fun _ T => (adAt T 0, adAt T 1)) [2, 3, 4, 5, 6, 7] [0, 1]) ?_
      <;> (intro h dep fr gd un R d os tok b; kernel_rfl))
  exact this.mono fun x => ⟨⟨⟨vs, ns, e, b, kx, vx, x.1, x.2⟩, hp⟩, rfl, rfl, rfl⟩
theorem dct (w : World) (b1 b2 : Bool) (gl : List GenState) (y : Dy) (xs : Array Value) (e' N : Nat) (S : Scr xs) (d0 : Obj) (hd : d0 = dict0 ∨ ∃ kx vx, d0 = dO [ent w.params "turn" kx vx] 1) (b : Bs) (i k : Nat) (ys : Array Value) (e : Nat) (hz : ys.size ≤ 1000)
    (hy : ∀ p : TkR 255, ∀ kx vx, DcC w b1 b2 gl y xs e' N (dO [ent w.params "turn" kx vx] 1) p.b (i + 1) k (ys.push (.int p.v p.tv)) (e + 1)) : DcC w b1 b2 gl y xs e' N d0 b i ((k + 1 : Nat) : Nat) ys e := by
  rcases hd with rfl | ⟨kx, vx, rfl⟩
  all_goals
    cases b1 <;> (refine Ctr.of_go (NL w.params) (
      owns [(1, 1), (1, 1)] <|
      cRnext 0 1 i k <|
      owns [(5, 0), (0, 0), (4, 3)] <|
      cTake 3 [4, 5] xs e' S 255 (by decide) fun p =>
      owns [(2, 2)] <|
      cLapp 0 [2] ys e hz <|
      cDc 1 y xs e' N (i + 1) k (ys.push (.int p.v p.tv)) (e + 1) p.b (hy p) fun z =>
      .fin 0 (fun _ _ => z) [2, 3, 4, 5, 6, 7] [0, 1]) ?_
      <;> (intro h dep fr gd un R d os tok b; kernel_rfl))
theorem dcl (w : World) (b1 b2 : Bool) (gl : List GenState) (y : Dy) (xs : Array Value) (e' N : Nat) (S : Scr xs) (hN : N ≤ 1000) : ∀ (k i : Nat) (vs : List Value) (ns : List Int) (e : Nat) (b : Bs) (kx : Tok) (vx : Value), i + k = N → DcP i vs ns →
    DcC w b1 b2 gl y xs e' N (dO [ent w.params "turn" kx vx] 1) b i k vs.toArray e
  | 0, i, vs, ns, e, b, kx, vx, h1, hp => by
    obtain rfl : i = N := by omega
    exact dce w b1 b2 gl y xs e' i kx vx b vs ns e hp
  | k + 1, i, vs, ns, e, b, kx, vx, h1, hp => by
    refine dct w b1 b2 gl y xs e' N S _ (.inr ⟨kx, vx, rfl⟩) b i k vs.toArray e (by have := hp.2.2.1; simp; omega) fun p kx vx => ?_
    have := dcl w b1 b2 gl y xs e' N S hN k (i + 1) (vs ++ [.int p.v p.tv]) (ns ++ [(p.v : Int)]) (e + 1) p.b kx vx (by omega) ⟨IntsAre.app hp.1 _ _, fun n hn => ?_, by simp [hp.2.2.1], by simp [hp.2.2.2]⟩
    · have e1 : (vs ++ [Value.int p.v p.tv]).toArray = vs.toArray.push (.int p.v p.tv) := by simp
      rw [e1] at this
      exact this
    · rcases List.mem_append.mp hn with hn | hn
      · exact hp.2.1 n hn
      · cases List.mem_singleton.mp hn
        have := p.hv
        omega
theorem dcs (w : World) (b1 b2 : Bool) (gl : List GenState) (y : Dy) (xs : Array Value) (e' k : Nat) (S : Scr xs) (hN : k + 1 ≤ 1000) (b : Bs) : DcC w b1 b2 gl y xs e' (k + 1) dict0 b 0 (k + 1 : Nat) #[] 0 := by
  refine dct w b1 b2 gl y xs e' (k + 1) S _ (.inl rfl) b 0 k #[] 0 (by simp) fun p kx vx => ?_
  exact dcl w b1 b2 gl y xs e' (k + 1) S hN k 1 [.int p.v p.tv] [(p.v : Int)] 1 p.b kx vx (by omega) ⟨.cons _ _ .nil, fun n hn => by
    cases List.mem_singleton.mp hn
    have := p.hv
    omega, rfl, rfl⟩
def cDcs (n : Nat) (y : Dy) (xs : Array Value) (e' k : Nat) (b : Bs) (h : DcC w b1 b2 gl y xs e' (k + 1) dict0 b 0 (k + 1 : Nat) #[] 0) (r : { x : DcR // DcP (k + 1) x.vs x.ns } → Hs prog (wr w b1 b2) (kt w.params) α₀) : Hs prog (wr w b1 b2) (kt w.params) α₀ :=
  .cut n 740 (lev 740) [0, 1, 2, 3, 4, 5] Unit (fun _ _ => ()) (fun _ => dcL y) (fun _ => [(y.d, dict0), (y.it, riO (0 : Nat) (k + 1 : Nat)), (y.acc, lstO #[] 0), (y.cb, cellO y.box), (y.box, bsO b y.sc), (y.sc, lstO xs e')]) gl gl
    { x : DcR // DcP (k + 1) x.vs x.ns } (fun _ _ => .ok .next) (fun _ x => [dO [ent w.params "turn" x.1.kx x.1.vx] 1, riO (k + 1 : Nat) 0, lstO x.1.vs.toArray x.1.e, cellO y.box, bsO x.1.b y.sc, lstO xs e']) (fun _ x => [(x.1.s1, stopO x.1.s2), (x.1.s2, tup0)]) (fun _ => h) (fun _ x _ _ => r x)
def dcS (y : Dy) : Code := .compStart dcE 0 (.ref y.it) (.ref y.acc) (dcN y)
abbrev DsC (w : World) (b1 b2 : Bool) (gl : List GenState) (y : Dy) (xs : Array Value) (e' k : Nat) (b : Bs) : Prop :=
  Ctr prog (wr w b1 b2) (kt w.params) 740 (lev 740) (dcS y) [(y.d, dict0), (y.it, riO (0 : Nat) (k + 1 : Nat)), (y.acc, lstO #[] 0), (y.cb, cellO y.box), (y.box, bsO b y.sc), (y.sc, lstO xs e')] gl gl (α := { x : DcR // DcP (k + 1) x.vs x.ns }) (fun _ => .ok .next)
    (fun x => [dO [ent w.params "turn" x.1.kx x.1.vx] 1, riO (k + 1 : Nat) 0, lstO x.1.vs.toArray x.1.e, cellO y.box, bsO x.1.b y.sc, lstO xs e']) (fun x => [(x.1.s1, stopO x.1.s2), (x.1.s2, tup0)])
theorem dsC (w : World) (b1 b2 : Bool) (gl : List GenState) (y : Dy) (xs : Array Value) (e' k : Nat) (S : Scr xs) (hN : k + 1 ≤ 1000) (b : Bs) : DsC w b1 b2 gl y xs e' k b := by
  have h := dcs w b1 b2 gl y xs e' k S hN b
  cases b2 with
  | true =>
    cases b1 <;> (refine Ctr.of_go (NL w.params) (
      cDcs 1 y xs e' k b h fun z =>
      .fin 0 (fun _ _ => z) [2, 3, 4, 5, 6, 7] [0, 1]) ?_
      <;> (intro h dep fr gd un R d os tok b; kernel_rfl))
  | false =>
    cases b1 <;> (refine Ctr.of_go (NL w.params) (
      owns [(3, 1), (0, 1), (2, 1), (2, 1)] <|
      cDcs 0 y xs e' k b h fun z =>
      .fin 0 (fun _ _ => z) [2, 3, 4, 5, 6, 7] [0, 1]) ?_
      <;> (intro h dep fr gd un R d os tok b; kernel_rfl))
def frX : Code → Addr
  | .compStart _ _ _ _ e => (match e.frame with
    | some f => f
    | none => 0)
  | _ => 0
def xDs (n : Nat) (is : List Nat) (xs : Array Value) (e' k : Nat) (S : Scr xs) (hN : k + 1 ≤ 1000) (r : { x : DcR // DcP (k + 1) x.vs x.ns } → Hx prog (wr w b1 b2) (kt w.params) α₀) : Hx prog (wr w b1 b2) (kt w.params) α₀ :=
  cutT n 740 (lev 740) is (Dy × Bs) (fun c l => (⟨enA l 0, enA l 1, enA l 2, enA l 3, enA l 4, enA l 5, frX c⟩, bsX (obA l 4))) (fun y => dcS y.1) (fun y => [(y.1.d, dict0), (y.1.it, riO (0 : Nat) (k + 1 : Nat)), (y.1.acc, lstO #[] 0), (y.1.cb, cellO y.1.box), (y.1.box, bsO y.2 y.1.sc), (y.1.sc, lstO xs e')])
    { x : DcR // DcP (k + 1) x.vs x.ns } (fun _ _ => .ok .next) (fun y x => [dO [ent w.params "turn" x.1.kx x.1.vx] 1, riO (k + 1 : Nat) 0, lstO x.1.vs.toArray x.1.e, cellO y.1.box, bsO x.1.b y.1.sc, lstO xs e']) (fun _ x => [(x.1.s1, stopO x.1.s2), (x.1.s2, tup0)]) (fun y gl => dsC w b1 b2 gl y.1 xs e' k S hN y.2) (fun _ x _ _ => r x)
end
end Mine
namespace Mine
open PySem PySem.Spec PySem.Calls PyProof.Rows PySem.W PySem.W.X
section
variable {prog : Program} {w : World} {kt : KT} {D U : Nat} {gl : List GenState}
theorem sumStepA {T id : String} (slot : Slot T "__next__" id) {a S : Addr} {tot b : Int} {tk t : Tok} {e : Nat} {preN : List En} {go : Obj} {glN gE : List GenState} {α β : Type} {updN : α → List Obj} {res : β → Result} {upd : β → List Obj} {new : β → List En}
    (ha : preN.head? = some (a, go)) (hgo : go.cls = .type T) (st : Nat) (hst : st = 0 ∨ st = 2) {DN UN : Nat} (hDN : D ≤ DN) (hUN : U + 1 ≤ UN)
    (N : Ctr prog w kt DN UN (.call (.builtin id) ⟨[.ref a], []⟩) preN glN glN (fun _ => .ok (.ret (.int b tk))) updN (fun _ => []))
    (L : ∀ st : Nat, (st = 0 ∨ st = 2) → ∀ x, ∀ t', Ctr prog w kt D U (.builtin "sum.loop" ⟨[.ref a, .ref S, .int (st : Nat) 0, .int 0 0], []⟩) ((S, lstO #[.int (tot + b) t'] e) :: (preN.map Prod.fst).zip (updN x)) glN gE res upd new) :
    Ctr prog w kt D U (.builtin "sum.loop" ⟨[.ref a, .ref S, .int (st : Nat) 0, .int 0 0], []⟩) ((S, lstO #[.int tot t] e) :: preN) glN gE res upd new := by
  intro A R h d os tok hh hD hU ht hp hn hl hR
  have hS : h.get? S = some (lstO #[.int tot t] e) := hp _ (.head _)
  have hpN : ∀ p ∈ preN, h.get? p.1 = some p.2 := fun p hm => hp p (.tail _ hm)
  have hnN : (preN.map Prod.fst).Nodup := (List.nodup_cons.mp hn).2
  have hSN : S ∉ preN.map Prod.fst := (List.nodup_cons.mp hn).1
  have hT : Shared.TypeIs ⟨h, ⟨glN⟩, d, tok, os⟩ (.ref a) T := ⟨go, hpN (a, go) (by cases preN with | nil => cases ha | cons x l => cases ha; exact .head _), hgo⟩
  refine codeAny_builtin F.entry_sum_loop ?_
  rw [Around.under_plainId F.plain_sum_loop _]
  show wpAny _ A.in1 (seqItems? (.ref S) >>= _) _ _ _
  refine wpAny_bind (wpAny_seqItems hS rfl ?_)
  show wpAny _ A.in1 (tryCatch (pyNext (.ref a)) _ >>= _) _ _ _
  refine wpAny_bind (wpAny_tryCatch (nextT slot hT (N A.in1 _ h d os tok hh (Nat.le_trans hD hDN) (by show A.units + 1 ≤ UN; omega) ht hpN hnN (fun p hm => hl p (.tail _ hm)) fun x h' tok' k1 k2 k3 _ _ => ?_)))
  have hS' : h'.get? S = some (lstO #[.int tot t] e) := k1 S _ hS hSN
  have hkS : kt.get S = none := hl _ (.head _)
  have zf : ((preN.map Prod.fst).zip (updN x)).map Prod.fst = preN.map Prod.fst := List.map_fst_zip (by rw [List.length_map, k2]; exact Nat.le_refl _)
  -- from any heap in which S holds the new total
  have key : ∀ (st : Nat), (st = 0 ∨ st = 2) → ∀ (H : Heap) (t2 : Nat), H.get? S = some (lstO #[.int (tot + b) tok'] e) → (∀ c o, c ≠ S → h'.get? c = some o → H.get? c = some o) → (∀ c, c ≠ S → H.get? c = none → h'.get? c = none) →
      codeAny (model prog w) A (.builtin "sum.loop" ⟨[.ref a, .ref S, .int (st : Nat) 0, .int 0 0], []⟩) R ⟨H, ⟨glN⟩, d, t2, os⟩ := by
    intro st hst H t2 hS2 oth othn
    refine L st hst x tok' A R _ d os t2 hh hD hU (fun c o ec => ?_) (fun p hm => ?_) ?_ (fun p hm => ?_) ?_
    · have hcS : c ≠ S := fun z => by rw [z, hkS] at ec; cases ec
      refine oth c o hcS (k1 c o (ht c o ec) fun hm => ?_)
      obtain ⟨p, hp', rfl⟩ := List.mem_map.mp hm
      rw [hl p (.tail _ hp')] at ec; cases ec
    · rcases List.mem_cons.mp hm with rfl | hm
      · exact hS2
      · have hm1 : p.1 ∈ preN.map Prod.fst := by rw [← zf]; exact List.mem_map_of_mem hm
        exact oth _ _ (fun z => hSN (z ▸ hm1)) (k3 p hm)
    · rw [List.map_cons, zf]; exact hn
    · rcases List.mem_cons.mp hm with rfl | hm
      · exact hkS
      · have hm1 : p.1 ∈ preN.map Prod.fst := by rw [← zf]; exact List.mem_map_of_mem hm
        obtain ⟨q, hq, e⟩ := List.mem_map.mp hm1
        rw [← e]; exact hl q (.tail _ hq)
    · intro y h2 tok2 b1 b2 b3 b4 b5
      refine hR y h2 tok2 (fun c o ec hc => ?_) (by rw [b2, List.length_cons, List.length_cons, List.length_zip, k2, List.length_map, Nat.min_self]) (by rw [List.map_cons] at b3 ⊢; rw [zf] at b3; exact b3) (fun p hm => ⟨(b4 p hm).1, ?_⟩) b5
      · have hcS : c ≠ S := fun z => hc (by rw [z]; exact .head _)
        have hcN : c ∉ preN.map Prod.fst := fun z => hc (.tail _ z)
        exact b1 c o (oth c o hcS (k1 c o ec hcN)) (by rw [List.map_cons, zf]; exact hc)
      · have z := (b4 p hm).2
        cases q : h.get? p.1 with
        | none => rfl
        | some o =>
          exfalso
          by_cases hpS : p.1 = S
          · rw [hpS, hS2] at z; cases z
          · by_cases hpN' : p.1 ∈ preN.map Prod.fst
            · rw [← zf] at hpN'
              obtain ⟨p', hp', e'⟩ := List.mem_map.mp hpN'
              have := oth _ _ (by rw [e']; exact hpS) (k3 p' hp')
              rw [e', z] at this; cases this
            · rw [oth _ _ hpS (k1 _ _ q hpN')] at z; cases z
  have o1 : ∀ (H : Heap) (f : Obj → Obj) c o, c ≠ S → H.get? c = some o → (H.update S f).get? c = some o := fun H f c o hc e => (Heap.get?_update_other _ _ (Ne.symm hc)).trans e
  have o2 : ∀ (H : Heap) (f : Obj → Obj) c, c ≠ S → (H.update S f).get? c = none → H.get? c = none := fun H f c hc e => ((Heap.get?_update_other _ _ (Ne.symm hc)).symm.trans e)
  have hS2 := Heap.get?_update_self (Obj.mapSeq fun _ => #[Value.int (tot + b) tok']) hS' rfl
  have hS3 := Heap.get?_update_self (Obj.mapSeq fun _ => #[Value.int (tot + b) tok']) hS2 rfl
  rcases hst with rfl | rfl
  · show wpAny _ A.in1 (if (_ : Bool) = true then (mkInt (tot + b) >>= _) else _) _ _ _
    split
    · refine wpAny_bind (wpAny_mkInt ?_)
      show wpAny _ A.in1 (updateSeq S (fun _ => #[.int (tot + b) tok']) >>= _) _ _ _
      refine wpAny_bind ?_
      exact wpAny_updateSeq hS' rfl (wpAny_pure ⟨plainId_quiet F.plain_sum_loop _, key 0 (.inl rfl) _ _ hS2 (o1 _ _) (o2 _ _)⟩)
    · refine wpAny_bind (wpAny_rule ?_)
      refine wpAny_bind (wpAny_attempt (wpAny_holding (wpAny_add_int ?_)))
      show wpAny _ A.in1 (updateSeq S (fun _ => #[.int (tot + b) tok']) >>= _) _ _ _
      refine wpAny_bind (wpAny_updateSeq hS' rfl ?_)
      refine wpAny_bind (wpAny_letGo ?_)
      refine wpAny_bind (wpAny_updateSeq hS2 rfl (wpAny_pure ⟨plainId_quiet F.plain_sum_loop _, key 2 (.inr rfl) _ _ hS3 (fun c o hc e => o1 _ _ c o hc (o1 _ _ c o hc e)) (fun c hc e => o2 _ _ c hc (o2 _ _ c hc e))⟩))
  · show wpAny _ A.in1 ((holding [Value.int b tk] (binaryOp .Add (.int tot t) (.int b tk))).attempt >>= _) _ _ _
    refine wpAny_bind (wpAny_attempt (wpAny_holding (wpAny_add_int ?_)))
    show wpAny _ A.in1 (updateSeq S (fun _ => #[.int (tot + b) tok']) >>= _) _ _ _
    refine wpAny_bind (wpAny_updateSeq hS' rfl ?_)
    refine wpAny_bind (wpAny_letGo ?_)
    refine wpAny_bind (wpAny_updateSeq hS2 rfl (wpAny_pure ⟨plainId_quiet F.plain_sum_loop _, key 2 (.inr rfl) _ _ hS3 (fun c o hc e => o1 _ _ c o hc (o1 _ _ c o hc e)) (fun c hc e => o2 _ _ c hc (o2 _ _ c hc e))⟩))
theorem sumEndA {T id : String} (slot : Slot T "__next__" id) {a S : Addr} {tot : Int} {t : Tok} {e : Nat} {preN : List En} {go : Obj} {glN gE : List GenState} {α : Type} {sx : α → Addr} {st : α → Addr} {updN : α → List Obj} {nw : α → List En}
    (sg : Nat) (ha : preN.head? = some (a, go)) (hgo : go.cls = .type T) {DN UN : Nat} (hDN : D ≤ DN) (hUN : U + 1 ≤ UN) (hnw : ∀ x, (sx x, stopO (st x)) ∈ nw x)
    (N : Ctr prog w kt DN UN (.call (.builtin id) ⟨[.ref a], []⟩) preN glN gE (fun x => .error (.ref (sx x))) updN nw) :
    Ctr prog w kt D U (.builtin "sum.loop" ⟨[.ref a, .ref S, .int (sg : Nat) 0, .int 0 0], []⟩) ((S, lstO #[.int tot t] e) :: preN) glN gE (α := α) (fun _ => .ok (.ret (.int tot t))) (fun x => lstO #[.int tot t] e :: updN x) nw := by
  intro A R h d os tok hh hD hU ht hp hn hl hR
  have hS : h.get? S = some (lstO #[.int tot t] e) := hp _ (.head _)
  have hpN : ∀ p ∈ preN, h.get? p.1 = some p.2 := fun p hm => hp p (.tail _ hm)
  have hnN : (preN.map Prod.fst).Nodup := (List.nodup_cons.mp hn).2
  have hSN : S ∉ preN.map Prod.fst := (List.nodup_cons.mp hn).1
  have hT : Shared.TypeIs ⟨h, ⟨glN⟩, d, tok, os⟩ (.ref a) T := ⟨go, hpN (a, go) (by cases preN with | nil => cases ha | cons x l => cases ha; exact .head _), hgo⟩
  refine codeAny_builtin F.entry_sum_loop ?_
  rw [Around.under_plainId F.plain_sum_loop _]
  show wpAny _ A.in1 (seqItems? (.ref S) >>= _) _ _ _
  refine wpAny_bind (wpAny_seqItems hS rfl ?_)
  show wpAny _ A.in1 (tryCatch (pyNext (.ref a)) _ >>= _) _ _ _
  refine wpAny_bind (wpAny_tryCatch (nextT slot hT (N A.in1 _ h d os tok hh (Nat.le_trans hD hDN) (by show A.units + 1 ≤ UN; omega) ht hpN hnN (fun p hm => hl p (.tail _ hm)) fun x h' tok' k1 k2 k3 k4 k5 => ?_)))
  have hS' : h'.get? S = some (lstO #[.int tot t] e) := k1 S _ hS hSN
  refine ⟨⟨sx x, st x, rfl, (k4 _ (hnw x)).1⟩, ?_⟩
  refine wpAny_pure (hR x h' tok' (fun c o ec hc => k1 c o ec fun z => hc (.tail _ z)) (by rw [List.length_cons, List.length_cons, k2]) (fun p hm => ?_) k4 k5)
  rcases List.mem_cons.mp hm with rfl | hm
  · exact hS'
  · exact k3 p hm
end
section
variable {α₀ : Type} {w : World} {b1 b2 : Bool} {gl : List GenState}
theorem sumLpA (w : World) (b1 b2 : Bool) (gl : List GenState) (S it l : Addr) (e el : Nat) : ∀ (suf p : List Value) (tot : Nat) (t : Tok) (st : Nat), (st = 0 ∨ st = 2) → AreNats suf →
    Ctr prog (wr w b1 b2) (kt w.params) 820 (lev 820) (.builtin "sum.loop" ⟨[.ref it, .ref S, .int (st : Nat) 0, .int 0 0], []⟩) [(S, lstO #[.int tot t] e), (it, liO l p.length), (l, lstO (p ++ suf).toArray el)] gl gl (α := Tok × Addr × Addr) (fun x => .ok (.ret (.int ((tot + natSum suf : Nat) : Int) x.1)))
      (fun x => [lstO #[.int ((tot + natSum suf : Nat) : Int) x.1] e, liE (p ++ suf).length, lstO (p ++ suf).toArray el]) (fun x => [(x.2.1, stopO x.2.2), (x.2.2, tup0)])
  | [], p, tot, t, st, _, _ => by
    have h : (p ++ []).toArray[p.length]? = none := by simp
    have z := sumEndA (D := 820) (U := lev 820) (S := S) (tot := tot) (t := t) (e := e) slot_listiter_next (sx := Prod.fst) (st := Prod.snd) st rfl rfl (by decide) (by decide) (fun x => List.mem_cons_self) (leC w b1 b2 gl it l (p ++ []).toArray el p.length h)
    rw [List.append_nil] at z ⊢
    exact z.mono fun x => ⟨(t, x.1, x.2), rfl, rfl, rfl⟩
  | v :: suf, p, tot, t, st, h0, hs => by
    cases hs with
    | cons n tn hs =>
      have h : (p ++ .int n tn :: suf).toArray[p.length]? = some (.int n tn) := by simp
      have ih := fun st' h0' t' => sumLpA w b1 b2 gl S it l e el suf (p ++ [.int n tn]) (tot + n) t' st' h0' hs
      have e1 : tot + n + natSum suf = tot + natSum (.int n tn :: suf) := by show _ = tot + (n + natSum suf); omega
      have e2 : (p ++ [Value.int n tn]).length = p.length + 1 := by simp
      have e3 : p ++ [Value.int n tn] ++ suf = p ++ .int n tn :: suf := by simp
      simp only [e1, e2, e3] at ih
      exact sumStepA slot_listiter_next (U := lev 820) rfl rfl st h0 (by decide) (by decide) (lncC w b1 b2 gl it l (p ++ .int n tn :: suf).toArray el p.length (.int n tn) h) fun st' h0' _ t' => ih st' h0' t'
def cSumLpA (n : Nat) (is : List Nat) (vs : List Value) (el : Nat) (hv : AreNats vs) (r : Hs prog (wr w b1 b2) (kt w.params) α₀) : Hs prog (wr w b1 b2) (kt w.params) α₀ :=
  .cutg n 820 (lev 820) is (Addr × Addr × Addr × Tok) (fun _ L => (enA L 0, enA L 1, enA L 2, match L with
    | some (_, o) :: _ => tokV (fldO o 0)
    | _ => 0)) (fun y => .builtin "sum.loop" ⟨[.ref y.2.1, .ref y.1, .int 0 0, .int 0 0], []⟩) (fun y => [(y.1, lstO #[.int 0 y.2.2.2] 0), (y.2.1, liO y.2.2.1 0), (y.2.2.1, lstO vs.toArray el)]) (Tok × Addr × Addr) (fun _ x => .ok (.ret (.int ((natSum vs : Nat) : Int) x.1)))
    (fun _ x => [lstO #[.int ((natSum vs : Nat) : Int) x.1] 0, liE vs.length, lstO vs.toArray el]) (fun _ x => [(x.2.1, stopO x.2.2), (x.2.2, tup0)])
    (fun y gl => by
      have := sumLpA w b1 b2 gl y.1 y.2.1 y.2.2.1 0 el vs [] 0 y.2.2.2 0 (.inl rfl) hv
      simp only [Nat.zero_add, List.nil_append] at this
      exact this) (fun _ _ _ _ => r)
theorem sumAC (w : World) (b1 b2 : Bool) (gl : List GenState) (l : Addr) (vs : List Value) (el : Nat) (hv : AreNats vs) : Ctr prog (wr w b1 b2) (kt w.params) 780 (lev 780) (.call (.builtin "sum") ⟨[.ref l], []⟩) [(l, lstO vs.toArray el)] gl gl (α := Tok)
    (fun t => .ok (.ret (.int ((natSum vs : Nat) : Int) t))) (fun _ => [lstO vs.toArray el]) (fun _ => []) := by
  cases b1 <;> (refine Ctr.of_go (NL w.params) (
    owns [(1, 0), (0, 0), (2, 0), (3, 0)] <|
    cSumLpA 2 [0, 1, 2] vs el hv <|
    .fin 0 (fun r _ => tokV (valOf r)) [4] []) ?_
   <;> (intro h dep fr gd un R d os tok b; kernel_rfl))
end
end Mine
namespace Mine
open PySem PySem.Spec PySem.Calls PyProof.Rows PySem.W PySem.W.X
theorem b2n_acc : ∀ (l : List Bool) (n : Nat), b2n n l = n * 2 ^ l.length + b2n 0 l
  | [], n => by simp [b2n]
  | b :: r, n => by
    rw [b2n, b2n, b2n_acc r (2 * n + b.toNat), b2n_acc r (2 * 0 + b.toNat), List.length_cons, Nat.pow_succ]
    generalize 2 ^ r.length = P
    have : (2 * n + b.toNat) * P = n * (P * 2) + b.toNat * P := by rw [Nat.add_mul, Nat.mul_comm P 2, ← Nat.mul_assoc, Nat.mul_comm n 2]
    rw [this, show 2 * 0 + b.toNat = b.toNat by omega]
    omega
theorem b2n_app (l m : List Bool) : ∀ n, b2n n (l ++ m) = b2n (b2n n l) m := by
  induction l with
  | nil => intro n; rfl
  | cons b r ih => intro n; exact ih _
theorem b2n_app0 (l m : List Bool) : b2n 0 (l ++ m) = b2n 0 l * 2 ^ m.length + b2n 0 m := by rw [b2n_app, b2n_acc]
theorem b2n_lt0 : ∀ l : List Bool, b2n 0 l < 2 ^ l.length
  | [] => by simp [b2n]
  | b :: r => by
    have ih := b2n_lt0 r
    rw [b2n, b2n_acc, List.length_cons, Nat.pow_succ]
    cases b
    · simp only [Bool.toNat_false]; omega
    · simp only [Bool.toNat_true]; omega
theorem b2n_bb : ∀ k n, b2n 0 (bb k n) = n % 2 ^ k
  | 0, n => by simp [bb, b2n, Nat.mod_one]
  | k + 1, n => by
    rw [bb, b2n_app0, b2n_bb k (n / 2)]
    have e : b2n 0 [n % 2 == 1] = n % 2 := by
      rcases Nat.mod_two_eq_zero_or_one n with h | h <;> rw [h] <;> rfl
    rw [e, Nat.pow_succ, Nat.mul_comm (2 ^ k) 2, Nat.mod_mul]
    simp only [List.length_cons, List.length_nil]
    omega
theorem nb_acc : ∀ (l : List UInt8) (a : Nat), l.foldl (fun (acc : Nat) (b : UInt8) => acc * 256 + b.toNat) a = a * 256 ^ l.length + nb l
  | [], a => by simp [nb]
  | c :: r, a => by
    have h := nb_acc r (a * 256 + c.toNat)
    have h0 := nb_acc r (0 * 256 + c.toNat)
    rw [List.foldl_cons, h, List.length_cons, Nat.pow_succ]
    show _ = _ + List.foldl _ (0 * 256 + c.toNat) r
    rw [h0]
    generalize 256 ^ r.length = P
    have : (a * 256 + c.toNat) * P = a * (P * 256) + c.toNat * P := by rw [Nat.add_mul, Nat.mul_comm P 256, ← Nat.mul_assoc]
    rw [this, show 0 * 256 + c.toNat = c.toNat by omega]
    omega
theorem bb_length : ∀ k n, (bb k n).length = k
  | 0, _ => rfl
  | k + 1, n => by rw [bb, List.length_append, bb_length]; rfl
theorem bits_length : ∀ B : List UInt8, (bitsOf B).length = 8 * B.length
  | [] => rfl
  | u :: r => by
    show (bb 8 u.toNat ++ bitsOf r).length = _
    rw [List.length_append, bb_length, bits_length r, List.length_cons]; omega
theorem b2n_bits : ∀ B : List UInt8, b2n 0 (bitsOf B) = nb B
  | [] => rfl
  | u :: r => by
    show b2n 0 (bb 8 u.toNat ++ bitsOf r) = List.foldl _ (0 * 256 + u.toNat) r
    rw [nb_acc, b2n_app0, b2n_bb, b2n_bits r, bits_length, Nat.pow_mul, show 2 ^ 8 = 256 from rfl, Nat.mod_eq_of_lt u.toNat_lt, show 0 * 256 + u.toNat = u.toNat by omega]
theorem sub_part (L : List Bool) (p k : Nat) (h : p + k ≤ L.length) : b2n 0 (sub L p k) = b2n 0 L / 2 ^ (L.length - p - k) % 2 ^ k := by
  have e : L = L.take p ++ (sub L p k ++ L.drop (p + k)) := by
    have h1 : sub L p k ++ L.drop (p + k) = L.drop p := by
      unfold sub
      rw [← List.drop_drop, List.take_append_drop]
    rw [h1, List.take_append_drop]
  have hl : (L.drop (p + k)).length = L.length - p - k := by rw [List.length_drop]; omega
  have hs : b2n 0 (sub L p k) < 2 ^ k := by
    have := b2n_lt0 (sub L p k)
    rwa [sub_len h] at this
  have hd : b2n 0 (L.drop (p + k)) < 2 ^ (L.length - p - k) := hl ▸ b2n_lt0 (L.drop (p + k))
  have hsl := sub_len h
  have e2 : b2n 0 L = (b2n 0 (L.take p) * 2 ^ k + b2n 0 (sub L p k)) * 2 ^ (L.length - p - k) + b2n 0 (L.drop (p + k)) := by
    conv => lhs; rw [e]
    rw [b2n_app0, b2n_app0, List.length_append, hsl, hl, Nat.pow_add, Nat.add_mul, Nat.mul_assoc]
    omega
  rw [e2, Nat.mul_comm _ (2 ^ (L.length - p - k)), Nat.mul_add_div (Nat.two_pow_pos _), Nat.div_eq_of_lt hd, Nat.add_zero, Nat.mul_comm _ (2 ^ k), Nat.mul_add_mod, Nat.mod_eq_of_lt hs]
/-- what a field's bits say, with its sign -/
def sgn (s : Bool) (w d : Nat) : Int := match s with
  | true => if 2 ^ (w - 1) ≤ d then (d : Int) - (2 ^ w : Nat) else d
  | false => d
theorem dec_sgn (s : Bool) (l : List Bool) : dec s l = sgn s l.length (b2n 0 l) := by
  cases s with
  | false => cases l <;> rfl
  | true =>
    cases l with
    | nil => simp [dec, sgn, b2n]
    | cons b r =>
      have hr := b2n_lt0 r
      have e : b2n 0 (b :: r) = b.toNat * 2 ^ r.length + b2n 0 r := by
        rw [b2n, b2n_acc, show 2 * 0 + b.toNat = b.toNat by omega]
      cases b with
      | true =>
        have e' : b2n 0 (true :: r) = 2 ^ r.length + b2n 0 r := by rw [e, Bool.toNat_true]; omega
        show (b2n 0 r : Int) - (2 ^ r.length : Nat) = sgn true (r.length + 1) (b2n 0 (true :: r))
        rw [e']
        simp only [sgn, Nat.add_sub_cancel]
        rw [if_pos (by omega), Nat.pow_succ]
        generalize 2 ^ r.length = P at *
        omega
      | false =>
        have e' : b2n 0 (false :: r) = b2n 0 r := by rw [e, Bool.toNat_false]; omega
        show ((b2n 0 (false :: r) : Nat) : Int) = sgn true (r.length + 1) (b2n 0 (false :: r))
        rw [e']
        simp only [sgn, Nat.add_sub_cancel]
        rw [if_neg (by omega)]
/-- the octets of a number turned -/
def swN (k x : Nat) : Nat := match k with
  | 2 => x % 256 * 256 + x / 256
  | _ => x
theorem swp_n (l : List Bool) (h : l.length = 8 ∨ l.length = 16) : (swp l).length = l.length ∧ b2n 0 (swp l) = swN (l.length / 8) (b2n 0 l) := by
  rcases h with h | h
  · have : swp l = l := by
      unfold swp
      rw [List.drop_of_length_le (by omega), List.take_of_length_le (by omega)]
      rfl
    rw [this, h]
    exact ⟨by omega, rfl⟩
  · have l1 : (l.take 8).length = 8 := by rw [List.length_take]; omega
    have l2 : (l.drop 8).length = 8 := by rw [List.length_drop]; omega
    have e : b2n 0 l = b2n 0 (l.take 8) * 256 + b2n 0 (l.drop 8) := by
      conv => lhs; rw [← List.take_append_drop 8 l]
      rw [b2n_app0, l2]
    have h2 : b2n 0 (l.drop 8) < 256 := by have := b2n_lt0 (l.drop 8); rw [l2] at this; exact this
    refine ⟨by unfold swp; rw [List.length_append]; omega, ?_⟩
    unfold swp
    rw [b2n_app0, l1, h, e]
    show _ = (b2n 0 (l.take 8) * 256 + b2n 0 (l.drop 8)) % 256 * 256 + (b2n 0 (l.take 8) * 256 + b2n 0 (l.drop 8)) / 256
    omega
theorem tb_n (x k : Nat) (b : Array UInt8) (hk : k = 1 ∨ k = 2) (hx : x < 256 ^ k) (h : TB x k b) : nb b.toList.reverse = swN k x := by
  unfold TB at h
  rcases hk with rfl | rfl
  · simp only [KTBy.little, List.reverse_cons, List.reverse_nil, List.nil_append] at h
    match hb : b.toList, h with
    | [c], h =>
      simp only [List.map_cons, List.map_nil, List.cons.injEq, and_true] at h
      simp only [nb, List.reverse_cons, List.reverse_nil, List.nil_append, List.foldl_cons, List.foldl_nil, swN]
      omega
    | [], h => simp at h
    | _ :: _ :: _, h => simp at h
  · simp only [KTBy.little, List.reverse_cons, List.reverse_nil, List.nil_append, List.cons_append] at h
    match hb : b.toList, h with
    | [c, d], h =>
      simp only [List.map_cons, List.map_nil, List.cons.injEq, and_true] at h
      simp only [nb, List.reverse_cons, List.reverse_nil, List.nil_append, List.cons_append, List.foldl_cons, List.foldl_nil, swN]
      omega
    | [], h => simp at h
    | [_], h => simp at h
    | _ :: _ :: _ :: _, h => simp at h
/-- a field of a number -/
def part (x r w : Nat) : Nat := x / 2 ^ r % 2 ^ w
theorem fv_part (B : List UInt8) (sw sg : Bool) (p k : Nat) (h : p + k ≤ 8 * B.length) (hsw : sw = true → k = 8 ∨ k = 16) :
    fv sw sg (sub (bitsOf B) p k) = sgn sg k (match sw with | true => swN (k / 8) (part (nb B) (8 * B.length - p - k) k) | false => part (nb B) (8 * B.length - p - k) k) := by
  have hL := bits_length B
  have h' : p + k ≤ (bitsOf B).length := by omega
  have hs := sub_len h'
  have hp := sub_part (bitsOf B) p k h'
  rw [hL, b2n_bits] at hp
  cases sw with
  | false =>
    show dec sg _ = _
    rw [dec_sgn, hs, hp]
    rfl
  | true =>
    obtain ⟨e1, e2⟩ := swp_n (sub (bitsOf B) p k) (by rw [hs]; exact hsw rfl)
    show dec sg (swp _) = _
    rw [dec_sgn, e1, e2, hs, hp]
    rfl
theorem mod_step (x r w : Nat) : part x r w * 2 ^ r + x % 2 ^ r = x % 2 ^ (r + w) := by
  rw [Nat.pow_add, Nat.mod_mul, part, Nat.mul_comm]
  omega
theorem parts_sum (x w0 w1 w2 w3 w4 : Nat) (hx : x < 2 ^ (w0 + w1 + w2 + w3 + w4)) :
    part x (w1 + w2 + w3 + w4) w0 * 2 ^ (w1 + w2 + w3 + w4) + (part x (w2 + w3 + w4) w1 * 2 ^ (w2 + w3 + w4) + (part x (w3 + w4) w2 * 2 ^ (w3 + w4) + (part x w4 w3 * 2 ^ w4 + (part x 0 w4 * 2 ^ 0 + 0)))) = x := by
  have a0 := mod_step x 0 w4
  have a1 := mod_step x w4 w3
  have a2 := mod_step x (w3 + w4) w2
  have a3 := mod_step x (w2 + w3 + w4) w1
  have a4 := mod_step x (w1 + w2 + w3 + w4) w0
  rw [show 0 + w4 = w4 by omega] at a0
  rw [show w4 + w3 = w3 + w4 by omega] at a1
  rw [show w3 + w4 + w2 = w2 + w3 + w4 by omega] at a2
  rw [show w2 + w3 + w4 + w1 = w1 + w2 + w3 + w4 by omega] at a3
  rw [show w1 + w2 + w3 + w4 + w0 = w0 + w1 + w2 + w3 + w4 by omega, Nat.mod_eq_of_lt hx] at a4
  have z : x % 2 ^ 0 = 0 := by simp [Nat.mod_one]
  omega
end Mine
namespace Mine
open PySem PySem.Spec PySem.Calls PyProof.Rows PySem.W PySem.W.X
/-- the last loop of law: its objects -/
structure Sy where
  f : Addr
  it : Addr
  tp : Addr
  cw : Addr
  wl : Addr
  sl : Addr
  dl : Addr
  cp : Addr
  cs : Addr
  cb : Addr
  g : Nat → Tok
  u : Nat → Value
  tt : Nat → Tok
  wt : Nat → Tok
def sgS : Stmt := stAt lwB 17
def lwN (f cp cs cw cb : Addr) : Env := { scope := fScope (topSt 51), locals := f, globals := 3, cells := [(S "parts", cp), (S "size", cs), (S "widths", cw), (S "box", cb)], qual := S "law.<locals>.", func := some 1257, code := .ref 1256, frame := some f, builtins := 0 }
def sgL (y : Sy) : Code := .forLoop (forT sgS) (.ref y.it) (forB sgS) (forE sgS) (lwN y.f y.cp y.cs y.cw y.cb)
def lwF (P : Params) (g : Nat → Tok) (u : Nat → Value) (sl dl : Addr) (vk : Value) : Obj := frmO [ent P "script" (g 0) (u 0), ent P "whole" (g 1) (u 1), ent P "turned" (g 2) (u 2), ent P "signed" (g 3) (.ref sl), ent P "data" (g 4) (u 4), ent P "shape" (g 5) (u 5), ent P "stream" (g 6) (u 6), ent P "told" (g 7) (u 7), ent P "number" (g 8) (u 8), ent P "left" (g 9) (u 9), ent P "k" (g 10) vk, ent P "due" (g 11) (.ref dl)] 12
structure SgR where
  vk : Value
  dt : Nat → Tok
abbrev sgH (P : Params) (y : Sy) (i : Nat) (w0 w1 w2 w3 w4 : Nat) (s0 s1 s2 s3 s4 : Bool) (vk : Value) (dt : Nat → Tok) (a0 a1 a2 a3 a4 : Int) : List En :=
  [(y.f, lwF P y.g y.u y.sl y.dl vk), (y.it, titO y.tp i), (y.tp, tupO #[.int 0 (y.tt 0), .int 2 (y.tt 1), .int 3 (y.tt 2), .int 4 (y.tt 3)]), (y.cw, cellO y.wl), (y.wl, lstO #[.int w0 (y.wt 0), .int w1 (y.wt 1), .int w2 (y.wt 2), .int w3 (y.wt 3), .int w4 (y.wt 4)] 5), (y.sl, lstO #[.bool s0, .bool s1, .bool s2, .bool s3, .bool s4] 5), (y.dl, lstO #[.int a0 (dt 0), .int a1 (dt 1), .int a2 (dt 2), .int a3 (dt 3), .int a4 (dt 4)] 1)]
abbrev sgU (P : Params) (y : Sy) (w0 w1 w2 w3 w4 : Nat) (s0 s1 s2 s3 s4 : Bool) (vk : Value) (dt : Nat → Tok) (a0 a1 a2 a3 a4 : Int) : List Obj :=
  [lwF P y.g y.u y.sl y.dl vk, titE 4, tupO #[.int 0 (y.tt 0), .int 2 (y.tt 1), .int 3 (y.tt 2), .int 4 (y.tt 3)], cellO y.wl, lstO #[.int w0 (y.wt 0), .int w1 (y.wt 1), .int w2 (y.wt 2), .int w3 (y.wt 3), .int w4 (y.wt 4)] 5, lstO #[.bool s0, .bool s1, .bool s2, .bool s3, .bool s4] 5, lstO #[.int a0 (dt 0), .int a1 (dt 1), .int a2 (dt 2), .int a3 (dt 3), .int a4 (dt 4)] 1]
/-- from turn i on, the list holding a0.., at the end e0.. -/
abbrev SgC (w : World) (b1 b2 : Bool) (gl : List GenState) (y : Sy) (i : Nat) (w0 w1 w2 w3 w4 : Nat) (s0 s1 s2 s3 s4 : Bool) (vk : Value) (dt : Nat → Tok) (a0 a1 a2 a3 a4 e0 e1 e2 e3 e4 : Int) : Prop :=
  Ctr prog (wr w b1 b2) (kt w.params) 740 (lev 740) (sgL y) (sgH w.params y i w0 w1 w2 w3 w4 s0 s1 s2 s3 s4 vk dt a0 a1 a2 a3 a4) gl gl (α := SgR) (fun _ => .ok .next) (fun x => sgU w.params y w0 w1 w2 w3 w4 s0 s1 s2 s3 s4 x.vk x.dt e0 e1 e2 e3 e4) (fun _ => [])
section
variable {α₀ : Type} {w : World} {b1 b2 : Bool} {gl : List GenState}
def cSg (n : Nat) (y : Sy) (i : Nat) (w0 w1 w2 w3 w4 : Nat) (s0 s1 s2 s3 s4 : Bool) (a0 a1 a2 a3 a4 e0 e1 e2 e3 e4 : Int) (h : ∀ vk dt, SgC w b1 b2 gl y i w0 w1 w2 w3 w4 s0 s1 s2 s3 s4 vk dt a0 a1 a2 a3 a4 e0 e1 e2 e3 e4) (r : SgR → Hs prog (wr w b1 b2) (kt w.params) α₀) : Hs prog (wr w b1 b2) (kt w.params) α₀ :=
  .cut n 740 (lev 740) [0, 1, 2, 3, 4, 5, 6] (Value × (Nat → Tok)) (fun _ l => ((entO (obA l 0) 10).2, fun j => tokV (fldO (obA l 6) j))) (fun _ => sgL y) (fun z => sgH w.params y i w0 w1 w2 w3 w4 s0 s1 s2 s3 s4 z.1 z.2 a0 a1 a2 a3 a4) gl gl SgR (fun _ _ => .ok .next)
    (fun _ x => sgU w.params y w0 w1 w2 w3 w4 s0 s1 s2 s3 s4 x.vk x.dt e0 e1 e2 e3 e4) (fun _ _ => []) (fun z => h z.1 z.2) (fun _ x _ _ => r x)
theorem sgn_f {s : Bool} {w d : Nat} (h : s = false) : (d : Int) = sgn s w d := by subst h; rfl
theorem sgn_n {s : Bool} {w d : Nat} (h : decide ((d : Int) ≥ ((2 ^ (w - 1) : Nat) : Int)) = false) : (d : Int) = sgn s w d := by
  cases s with
  | false => rfl
  | true =>
    have := of_decide_eq_false h
    unfold sgn
    rw [if_neg (by omega)]
theorem sgn_y {s : Bool} {w d : Nat} (hs : s = true) (h : decide ((d : Int) ≥ ((2 ^ (w - 1) : Nat) : Int)) = true) : (d : Int) - ((2 ^ w : Nat) : Int) = sgn s w d := by
  subst hs
  have := of_decide_eq_true h
  unfold sgn
  rw [if_pos (by omega)]
theorem sub1 {w : Nat} (h : 1 ≤ w) : (w : Int) - 1 = ((w - 1 : Nat) : Int) := by omega

theorem sg4 (w : World) (b1 b2 : Bool) (gl : List GenState) (y : Sy) (w0 w1 w2 w3 w4 : Nat) (s0 s1 s2 s3 s4 : Bool) (vk : Value) (dt : Nat → Tok) (a0 a1 a2 a3 a4 : Int) : SgC w b1 b2 gl y 4 w0 w1 w2 w3 w4 s0 s1 s2 s3 s4 vk dt a0 a1 a2 a3 a4 a0 a1 a2 a3 a4 := by
  cases b1 <;> (refine Ctr.of_go (NL w.params) (
    owns [(1, 1), (1, 1), (1, 1), (0, 1), (0, 2), (1, 1), (0, 1), (4, 0)] <|
    .fin 1 (fun _ T => ⟨(entO (objAt T 2) 10).2, fun j => tokV (fldO (objAt T 8) j)⟩) [2, 3, 4, 5, 6, 7, 8] []) ?_
   <;> (intro h dep fr gd un R d os tok b; kernel_rfl))

theorem sg3 (w : World) (b1 b2 : Bool) (gl : List GenState) (y : Sy) (w0 w1 w2 w3 w4 : Nat) (s0 s1 s2 s3 s4 : Bool) (vk : Value) (dt : Nat → Tok) (a0 : Int) (a1 : Int) (a2 : Int) (a3 : Int) (d4 : Nat) (hw4 : 1 ≤ w4 ∧ w4 ≤ 900) : SgC w b1 b2 gl y 3 w0 w1 w2 w3 w4 s0 s1 s2 s3 s4 vk dt a0 a1 a2 a3 d4 a0 a1 a2 a3 (sgn s4 w4 d4) := by
  have ih : ∀ x : Int, x = sgn s4 w4 d4 → ∀ vk dt, SgC w b1 b2 gl y 4 w0 w1 w2 w3 w4 s0 s1 s2 s3 s4 vk dt a0 a1 a2 a3 x a0 a1 a2 a3 (sgn s4 w4 d4) := by
    intro x hx
    subst hx
    exact fun vk dt => sg4 w b1 b2 gl y w0 w1 w2 w3 w4 s0 s1 s2 s3 s4 vk dt a0 a1 a2 a3 (sgn s4 w4 d4)
  obtain ⟨hk1, hk2⟩ := hw4
  have hw4 : 1 ≤ w4 ∧ w4 ≤ 1000 := ⟨hk1, by omega⟩
  have hp : w4 - 1 ≤ 1000 := by omega
  cases b1 <;> (refine Ctr.of_go (NL w.params) (
    owns [(1, 1), (1, 1), (1, 1), (0, 1), (0, 2), (0, 1), (0, 1), (5, 0), (0, 0), (3, 0), (1, 0), (1, 5), (0, 5), (0, 5), (1, 5), (1, 5)] <|
    .br 0 s4 (fun hs =>
    owns [(3, 0), (1, 0), (1, 6), (0, 6), (0, 6), (1, 6), (1, 6)] <|
    owns [(3, 3), (1, 0), (1, 4), (0, 4), (0, 4), (1, 4), (1, 4)] <|
    isI 6 ((w4 : Int) - 1) ((w4 - 1 : Nat) : Int) (sub1 hw4.1) <|
    cutBin 3 gl "int.__pow__" 2 ((w4 - 1 : Nat) : Int) ((2 ^ (w4 - 1) : Nat) : Int) (powC hp rfl) <|
    .br 5 (decide ((d4 : Int) ≥ ((2 ^ (w4 - 1) : Nat) : Int))) (fun hg =>
    owns [(3, 0), (1, 0), (1, 6), (0, 6), (0, 6), (1, 6), (1, 6)] <|
    owns [(3, 3), (1, 0), (1, 4), (0, 4), (0, 4), (1, 4), (1, 4)] <|
    cutBin 3 gl "int.__pow__" 2 (w4 : Int) ((2 ^ w4 : Nat) : Int) (powC hw4.2 rfl) <|
    owns [(7, 0), (1, 0), (1, 6), (0, 6), (1, 6), (1, 6), (0, 6), (0, 6)] <|
    cSg 1 y 4 w0 w1 w2 w3 w4 s0 s1 s2 s3 s4 a0 a1 a2 a3 (((d4 : Int) - ((2 ^ w4 : Nat) : Int))) a0 a1 a2 a3 (sgn s4 w4 d4) (ih ((d4 : Int) - ((2 ^ w4 : Nat) : Int)) (sgn_y hs hg)) fun z =>
    .fin 0 (fun _ _ => z) [0, 1, 2, 3, 4, 5, 6] []) (fun hg =>
    cSg 1 y 4 w0 w1 w2 w3 w4 s0 s1 s2 s3 s4 a0 a1 a2 a3 ((d4 : Int)) a0 a1 a2 a3 (sgn s4 w4 d4) (ih (d4 : Int) (sgn_n hg)) fun z =>
    .fin 0 (fun _ _ => z) [0, 1, 2, 3, 4, 5, 6] [])) (fun hs =>
    cSg 2 y 4 w0 w1 w2 w3 w4 s0 s1 s2 s3 s4 a0 a1 a2 a3 ((d4 : Int)) a0 a1 a2 a3 (sgn s4 w4 d4) (ih (d4 : Int) (sgn_f hs)) fun z =>
    .fin 0 (fun _ _ => z) [0, 1, 2, 3, 4, 5, 6] [])) ?_
   <;> (intro h dep fr gd un R d os tok b; kernel_rfl))

theorem sg2 (w : World) (b1 b2 : Bool) (gl : List GenState) (y : Sy) (w0 w1 w2 w3 w4 : Nat) (s0 s1 s2 s3 s4 : Bool) (vk : Value) (dt : Nat → Tok) (a0 : Int) (a1 : Int) (a2 : Int) (d3 : Nat) (d4 : Nat) (hw3 : 1 ≤ w3 ∧ w3 ≤ 900) (hw4 : 1 ≤ w4 ∧ w4 ≤ 900) : SgC w b1 b2 gl y 2 w0 w1 w2 w3 w4 s0 s1 s2 s3 s4 vk dt a0 a1 a2 d3 d4 a0 a1 a2 (sgn s3 w3 d3) (sgn s4 w4 d4) := by
  have ih : ∀ x : Int, x = sgn s3 w3 d3 → ∀ vk dt, SgC w b1 b2 gl y 3 w0 w1 w2 w3 w4 s0 s1 s2 s3 s4 vk dt a0 a1 a2 x d4 a0 a1 a2 (sgn s3 w3 d3) (sgn s4 w4 d4) := by
    intro x hx
    subst hx
    exact fun vk dt => sg3 w b1 b2 gl y w0 w1 w2 w3 w4 s0 s1 s2 s3 s4 vk dt a0 a1 a2 (sgn s3 w3 d3) d4 hw4
  obtain ⟨hk1, hk2⟩ := hw3
  have hw3 : 1 ≤ w3 ∧ w3 ≤ 1000 := ⟨hk1, by omega⟩
  have hp : w3 - 1 ≤ 1000 := by omega
  cases b1 <;> (refine Ctr.of_go (NL w.params) (
    owns [(1, 1), (1, 1), (1, 1), (0, 1), (0, 2), (0, 1), (0, 1), (5, 0), (0, 0), (3, 0), (1, 0), (1, 5), (0, 5), (0, 5), (1, 5), (1, 5)] <|
    .br 0 s3 (fun hs =>
    owns [(3, 0), (1, 0), (1, 6), (0, 6), (0, 6), (1, 6), (1, 6)] <|
    owns [(3, 3), (1, 0), (1, 4), (0, 4), (0, 4), (1, 4), (1, 4)] <|
    isI 6 ((w3 : Int) - 1) ((w3 - 1 : Nat) : Int) (sub1 hw3.1) <|
    cutBin 3 gl "int.__pow__" 2 ((w3 - 1 : Nat) : Int) ((2 ^ (w3 - 1) : Nat) : Int) (powC hp rfl) <|
    .br 5 (decide ((d3 : Int) ≥ ((2 ^ (w3 - 1) : Nat) : Int))) (fun hg =>
    owns [(3, 0), (1, 0), (1, 6), (0, 6), (0, 6), (1, 6), (1, 6)] <|
    owns [(3, 3), (1, 0), (1, 4), (0, 4), (0, 4), (1, 4), (1, 4)] <|
    cutBin 3 gl "int.__pow__" 2 (w3 : Int) ((2 ^ w3 : Nat) : Int) (powC hw3.2 rfl) <|
    owns [(7, 0), (1, 0), (1, 6), (0, 6), (1, 6), (1, 6), (0, 6), (0, 6)] <|
    cSg 1 y 3 w0 w1 w2 w3 w4 s0 s1 s2 s3 s4 a0 a1 a2 (((d3 : Int) - ((2 ^ w3 : Nat) : Int))) d4 a0 a1 a2 (sgn s3 w3 d3) (sgn s4 w4 d4) (ih ((d3 : Int) - ((2 ^ w3 : Nat) : Int)) (sgn_y hs hg)) fun z =>
    .fin 0 (fun _ _ => z) [0, 1, 2, 3, 4, 5, 6] []) (fun hg =>
    cSg 1 y 3 w0 w1 w2 w3 w4 s0 s1 s2 s3 s4 a0 a1 a2 ((d3 : Int)) d4 a0 a1 a2 (sgn s3 w3 d3) (sgn s4 w4 d4) (ih (d3 : Int) (sgn_n hg)) fun z =>
    .fin 0 (fun _ _ => z) [0, 1, 2, 3, 4, 5, 6] [])) (fun hs =>
    cSg 2 y 3 w0 w1 w2 w3 w4 s0 s1 s2 s3 s4 a0 a1 a2 ((d3 : Int)) d4 a0 a1 a2 (sgn s3 w3 d3) (sgn s4 w4 d4) (ih (d3 : Int) (sgn_f hs)) fun z =>
    .fin 0 (fun _ _ => z) [0, 1, 2, 3, 4, 5, 6] [])) ?_
   <;> (intro h dep fr gd un R d os tok b; kernel_rfl))

theorem sg1 (w : World) (b1 b2 : Bool) (gl : List GenState) (y : Sy) (w0 w1 w2 w3 w4 : Nat) (s0 s1 s2 s3 s4 : Bool) (vk : Value) (dt : Nat → Tok) (a0 : Int) (a1 : Int) (d2 : Nat) (d3 : Nat) (d4 : Nat) (hw2 : 1 ≤ w2 ∧ w2 ≤ 900) (hw3 : 1 ≤ w3 ∧ w3 ≤ 900) (hw4 : 1 ≤ w4 ∧ w4 ≤ 900) : SgC w b1 b2 gl y 1 w0 w1 w2 w3 w4 s0 s1 s2 s3 s4 vk dt a0 a1 d2 d3 d4 a0 a1 (sgn s2 w2 d2) (sgn s3 w3 d3) (sgn s4 w4 d4) := by
  have ih : ∀ x : Int, x = sgn s2 w2 d2 → ∀ vk dt, SgC w b1 b2 gl y 2 w0 w1 w2 w3 w4 s0 s1 s2 s3 s4 vk dt a0 a1 x d3 d4 a0 a1 (sgn s2 w2 d2) (sgn s3 w3 d3) (sgn s4 w4 d4) := by
    intro x hx
    subst hx
    exact fun vk dt => sg2 w b1 b2 gl y w0 w1 w2 w3 w4 s0 s1 s2 s3 s4 vk dt a0 a1 (sgn s2 w2 d2) d3 d4 hw3 hw4
  obtain ⟨hk1, hk2⟩ := hw2
  have hw2 : 1 ≤ w2 ∧ w2 ≤ 1000 := ⟨hk1, by omega⟩
  have hp : w2 - 1 ≤ 1000 := by omega
  cases b1 <;> (refine Ctr.of_go (NL w.params) (
    owns [(1, 1), (1, 1), (1, 1), (0, 1), (0, 2), (0, 1), (0, 1), (5, 0), (0, 0), (3, 0), (1, 0), (1, 5), (0, 5), (0, 5), (1, 5), (1, 5)] <|
    .br 0 s2 (fun hs =>
    owns [(3, 0), (1, 0), (1, 6), (0, 6), (0, 6), (1, 6), (1, 6)] <|
    owns [(3, 3), (1, 0), (1, 4), (0, 4), (0, 4), (1, 4), (1, 4)] <|
    isI 6 ((w2 : Int) - 1) ((w2 - 1 : Nat) : Int) (sub1 hw2.1) <|
    cutBin 3 gl "int.__pow__" 2 ((w2 - 1 : Nat) : Int) ((2 ^ (w2 - 1) : Nat) : Int) (powC hp rfl) <|
    .br 5 (decide ((d2 : Int) ≥ ((2 ^ (w2 - 1) : Nat) : Int))) (fun hg =>
    owns [(3, 0), (1, 0), (1, 6), (0, 6), (0, 6), (1, 6), (1, 6)] <|
    owns [(3, 3), (1, 0), (1, 4), (0, 4), (0, 4), (1, 4), (1, 4)] <|
    cutBin 3 gl "int.__pow__" 2 (w2 : Int) ((2 ^ w2 : Nat) : Int) (powC hw2.2 rfl) <|
    owns [(7, 0), (1, 0), (1, 6), (0, 6), (1, 6), (1, 6), (0, 6), (0, 6)] <|
    cSg 1 y 2 w0 w1 w2 w3 w4 s0 s1 s2 s3 s4 a0 a1 (((d2 : Int) - ((2 ^ w2 : Nat) : Int))) d3 d4 a0 a1 (sgn s2 w2 d2) (sgn s3 w3 d3) (sgn s4 w4 d4) (ih ((d2 : Int) - ((2 ^ w2 : Nat) : Int)) (sgn_y hs hg)) fun z =>
    .fin 0 (fun _ _ => z) [0, 1, 2, 3, 4, 5, 6] []) (fun hg =>
    cSg 1 y 2 w0 w1 w2 w3 w4 s0 s1 s2 s3 s4 a0 a1 ((d2 : Int)) d3 d4 a0 a1 (sgn s2 w2 d2) (sgn s3 w3 d3) (sgn s4 w4 d4) (ih (d2 : Int) (sgn_n hg)) fun z =>
    .fin 0 (fun _ _ => z) [0, 1, 2, 3, 4, 5, 6] [])) (fun hs =>
    cSg 2 y 2 w0 w1 w2 w3 w4 s0 s1 s2 s3 s4 a0 a1 ((d2 : Int)) d3 d4 a0 a1 (sgn s2 w2 d2) (sgn s3 w3 d3) (sgn s4 w4 d4) (ih (d2 : Int) (sgn_f hs)) fun z =>
    .fin 0 (fun _ _ => z) [0, 1, 2, 3, 4, 5, 6] [])) ?_
   <;> (intro h dep fr gd un R d os tok b; kernel_rfl))

theorem sg0 (w : World) (b1 b2 : Bool) (gl : List GenState) (y : Sy) (w0 w1 w2 w3 w4 : Nat) (s0 s1 s2 s3 s4 : Bool) (vk : Value) (dt : Nat → Tok) (a1 : Int) (d0 : Nat) (d2 : Nat) (d3 : Nat) (d4 : Nat) (hw0 : 1 ≤ w0 ∧ w0 ≤ 900) (hw2 : 1 ≤ w2 ∧ w2 ≤ 900) (hw3 : 1 ≤ w3 ∧ w3 ≤ 900) (hw4 : 1 ≤ w4 ∧ w4 ≤ 900) : SgC w b1 b2 gl y 0 w0 w1 w2 w3 w4 s0 s1 s2 s3 s4 vk dt d0 a1 d2 d3 d4 (sgn s0 w0 d0) a1 (sgn s2 w2 d2) (sgn s3 w3 d3) (sgn s4 w4 d4) := by
  have ih : ∀ x : Int, x = sgn s0 w0 d0 → ∀ vk dt, SgC w b1 b2 gl y 1 w0 w1 w2 w3 w4 s0 s1 s2 s3 s4 vk dt x a1 d2 d3 d4 (sgn s0 w0 d0) a1 (sgn s2 w2 d2) (sgn s3 w3 d3) (sgn s4 w4 d4) := by
    intro x hx
    subst hx
    exact fun vk dt => sg1 w b1 b2 gl y w0 w1 w2 w3 w4 s0 s1 s2 s3 s4 vk dt (sgn s0 w0 d0) a1 d2 d3 d4 hw2 hw3 hw4
  obtain ⟨hk1, hk2⟩ := hw0
  have hw0 : 1 ≤ w0 ∧ w0 ≤ 1000 := ⟨hk1, by omega⟩
  have hp : w0 - 1 ≤ 1000 := by omega
  cases b1 <;> (refine Ctr.of_go (NL w.params) (
    owns [(1, 1), (1, 1), (1, 1), (0, 1), (0, 2), (0, 1), (0, 1), (5, 0), (0, 0), (3, 0), (1, 0), (1, 5), (0, 5), (0, 5), (1, 5), (1, 5)] <|
    .br 0 s0 (fun hs =>
    owns [(3, 0), (1, 0), (1, 6), (0, 6), (0, 6), (1, 6), (1, 6)] <|
    owns [(3, 3), (1, 0), (1, 4), (0, 4), (0, 4), (1, 4), (1, 4)] <|
    isI 6 ((w0 : Int) - 1) ((w0 - 1 : Nat) : Int) (sub1 hw0.1) <|
    cutBin 3 gl "int.__pow__" 2 ((w0 - 1 : Nat) : Int) ((2 ^ (w0 - 1) : Nat) : Int) (powC hp rfl) <|
    .br 5 (decide ((d0 : Int) ≥ ((2 ^ (w0 - 1) : Nat) : Int))) (fun hg =>
    owns [(3, 0), (1, 0), (1, 6), (0, 6), (0, 6), (1, 6), (1, 6)] <|
    owns [(3, 3), (1, 0), (1, 4), (0, 4), (0, 4), (1, 4), (1, 4)] <|
    cutBin 3 gl "int.__pow__" 2 (w0 : Int) ((2 ^ w0 : Nat) : Int) (powC hw0.2 rfl) <|
    owns [(7, 0), (1, 0), (1, 6), (0, 6), (1, 6), (1, 6), (0, 6), (0, 6)] <|
    cSg 1 y 1 w0 w1 w2 w3 w4 s0 s1 s2 s3 s4 (((d0 : Int) - ((2 ^ w0 : Nat) : Int))) a1 d2 d3 d4 (sgn s0 w0 d0) a1 (sgn s2 w2 d2) (sgn s3 w3 d3) (sgn s4 w4 d4) (ih ((d0 : Int) - ((2 ^ w0 : Nat) : Int)) (sgn_y hs hg)) fun z =>
    .fin 0 (fun _ _ => z) [0, 1, 2, 3, 4, 5, 6] []) (fun hg =>
    cSg 1 y 1 w0 w1 w2 w3 w4 s0 s1 s2 s3 s4 ((d0 : Int)) a1 d2 d3 d4 (sgn s0 w0 d0) a1 (sgn s2 w2 d2) (sgn s3 w3 d3) (sgn s4 w4 d4) (ih (d0 : Int) (sgn_n hg)) fun z =>
    .fin 0 (fun _ _ => z) [0, 1, 2, 3, 4, 5, 6] [])) (fun hs =>
    cSg 2 y 1 w0 w1 w2 w3 w4 s0 s1 s2 s3 s4 ((d0 : Int)) a1 d2 d3 d4 (sgn s0 w0 d0) a1 (sgn s2 w2 d2) (sgn s3 w3 d3) (sgn s4 w4 d4) (ih (d0 : Int) (sgn_f hs)) fun z =>
    .fin 0 (fun _ _ => z) [0, 1, 2, 3, 4, 5, 6] [])) ?_
   <;> (intro h dep fr gd un R d os tok b; kernel_rfl))

end
end Mine
namespace Mine
open PySem PySem.Spec PySem.Calls PyProof.Rows PySem.W PySem.W.X
theorem den_builtin {id : String} {args : Args} {b : Builtin} (hb : entryFor table id = some b) : den (.builtin id args) = b args := by
  refine (den_eq _).symm.trans ?_
  show (match entryFor table id with | some b => b args | none => unsupported ((withoutEnding? id "#data").getD id)) = _
  rw [hb]
def iaC (a v : Addr) : Code := .builtin "list.__iadd__" ⟨[.ref a, .ref v], []⟩
noncomputable def iaT (a v : Addr) : { t : Sem Fin // a ≠ v → den (iaC a v) = t } := by
  refine ⟨?t, fun h => (den_builtin entry_iadd).trans ?_⟩
  rotate_left
  · show Builtin.List.listExtendWith (.ref a) (.ref v) (.ref a) = _
    unfold Builtin.List.listExtendWith
    have e1 : Builtin.List.listSameRef (.ref a) (.ref v) = false := by simp [Builtin.List.listSameRef, h]
    simp only [e1, Bool.false_or]
    rfl
abbrev kvO (P : Params) (t v : Nt) (x y z u : Int) : Obj := ⟨.type "dict", none, .dict #[ent P "a" t.a (.int x v.a), ent P "b" t.b (.int y v.b), ent P "c" t.c (.int z v.c), ent P "d" t.d (.int u v.d)] 4, #[]⟩
abbrev dkO (d : Addr) : Obj := ⟨.type "dict_keys", none, .fields #[.ref d], #[]⟩
abbrev dkiO : Obj := ⟨.type "dict_keyiterator", none, .fields #[.none, .int 4 0, .int 4 0, .int 4 0], #[]⟩
def kvK (o : Obj) : Nt := ⟨tokV (entO o 0).1, tokV (entO o 1).1, tokV (entO o 2).1, tokV (entO o 3).1⟩
def kvT (o : Obj) : Nt := ⟨tokV (entO o 0).2, tokV (entO o 1).2, tokV (entO o 2).2, tokV (entO o 3).2⟩
section
variable {α₀ : Type} {w : World} {b1 b2 : Bool} {gl : List GenState}
theorem iadN (w : World) (b1 b2 : Bool) (gl : List GenState) (a v d : Addr) (t g : Nt) (x y z u : Int) (hne : a ≠ v) : Ctr prog (wr w b1 b2) (kt w.params) 800 (lev 800) (iaC a v) [(a, lstO #[] 0), (v, dkO d), (d, kvO w.params t g x y z u)] gl gl (α := Addr × Addr × Addr)
    (fun _ => .ok (.ret (.ref a))) (fun _ => [lstO #[.str (S "a") t.a, .str (S "b") t.b, .str (S "c") t.c, .str (S "d") t.d] 6, dkO d, kvO w.params t g x y z u]) (fun x => [(x.1, stopO x.2.1), (x.2.1, tup0), (x.2.2, dkiO)]) := by
  cases b1 <;> (refine Ctr.of_go (NL w.params) (
    .tre 0 (den (iaC a v)) (iaT a v).1 ((iaT a v).2 hne) <|
    owns [(0, 1), (0, 1), (0, 1), (2, 1), (1, 1), (0, 2), (0, 2), (2, 0), (0, 2), (0, 2), (0, 2), (1, 1), (0, 1), (0, 1), (0, 1), (0, 1), (0, 1), (1, 0), (1, 0), (1, 0), (0, 0), (0, 3), (0, 3), (0, 0), (0, 0), (0, 0), (0, 0), (0, 0), (1, 1), (0, 1), (0, 1), (1, 0), (1, 0), (1, 0), (0, 0), (0, 3), (0, 3), (0, 0), (0, 0), (0, 0), (0, 0), (0, 0), (1, 1), (0, 1), (0, 1), (1, 0), (1, 0), (1, 0), (0, 0), (0, 3), (0, 3), (0, 0), (0, 0), (0, 0), (0, 0), (0, 0), (1, 1), (0, 1), (0, 1), (1, 0), (1, 0), (1, 0), (0, 0), (0, 3), (0, 3), (0, 0), (0, 0), (0, 0), (0, 0), (0, 0), (1, 1), (0, 1), (0, 1), (1, 0), (1, 0), (1, 0), (0, 0), (0, 3), (0, 3), (0, 0), (0, 0), (0, 0), (4, 0)] <|
    .fin 0 (fun _ T => (adAt T 0, adAt T 1, adAt T 2)) [3, 4, 5] [0, 1, 2]) ?_
   <;> (intro h dep fr gd un R d os tok b; kernel_rfl))
theorem iadC (w : World) (b1 b2 : Bool) (gl : List GenState) (a v d : Addr) (t g : Nt) (x y z u : Int) : Ctr prog (wr w b1 b2) (kt w.params) 800 (lev 800) (iaC a v) [(a, lstO #[] 0), (v, dkO d), (d, kvO w.params t g x y z u)] gl gl (α := Addr × Addr × Addr)
    (fun _ => .ok (.ret (.ref a))) (fun _ => [lstO #[.str (S "a") t.a, .str (S "b") t.b, .str (S "c") t.c, .str (S "d") t.d] 6, dkO d, kvO w.params t g x y z u]) (fun x => [(x.1, stopO x.2.1), (x.2.1, tup0), (x.2.2, dkiO)]) := by
  intro A R h d' os tok hh hD hU ht hp hn hl hR
  have hne : a ≠ v := fun e => (List.nodup_cons.mp hn).1 (by rw [e]; exact .head _)
  exact iadN w b1 b2 gl a v d t g x y z u hne A R h d' os tok hh hD hU ht hp hn hl hR
end
end Mine
namespace Mine
open PySem PySem.Spec PySem.Calls PyProof.Rows PySem.W PySem.W.X
section
variable {α₀ : Type} {w : World} {b1 b2 : Bool} {gl : List GenState}
def cIadd (n : Nat) (is : List Nat) (r : Hs prog (wr w b1 b2) (kt w.params) α₀) : Hs prog (wr w b1 b2) (kt w.params) α₀ :=
  .cutg n 800 (lev 800) is ((Addr × Addr × Addr) × Nt × Nt × Int × Int × Int × Int) (fun _ l => ((enA l 0, enA l 1, enA l 2), kvK (obA l 2), kvT (obA l 2), intV (entO (obA l 2) 0).2, intV (entO (obA l 2) 1).2, intV (entO (obA l 2) 2).2, intV (entO (obA l 2) 3).2))
    (fun y => iaC y.1.1 y.1.2.1) (fun y => [(y.1.1, lstO #[] 0), (y.1.2.1, dkO y.1.2.2), (y.1.2.2, kvO w.params y.2.1 y.2.2.1 y.2.2.2.1 y.2.2.2.2.1 y.2.2.2.2.2.1 y.2.2.2.2.2.2)]) (Addr × Addr × Addr) (fun y _ => .ok (.ret (.ref y.1.1)))
    (fun y _ => [lstO #[.str (S "a") y.2.1.a, .str (S "b") y.2.1.b, .str (S "c") y.2.1.c, .str (S "d") y.2.1.d] 6, dkO y.1.2.2, kvO w.params y.2.1 y.2.2.1 y.2.2.2.1 y.2.2.2.2.1 y.2.2.2.2.2.1 y.2.2.2.2.2.2]) (fun _ x => [(x.1, stopO x.2.1), (x.2.1, tup0), (x.2.2, dkiO)])
    (fun y gl => iadC w b1 b2 gl y.1.1 y.1.2.1 y.1.2.2 y.2.1 y.2.2.1 y.2.2.2.1 y.2.2.2.2.1 y.2.2.2.2.2.1 y.2.2.2.2.2.2) (fun _ _ _ _ => r)
theorem sortedC (w : World) (b1 b2 : Bool) (gl : List GenState) (v d : Addr) (t g : Nt) (x y z u : Int) : Ctr prog (wr w b1 b2) (kt w.params) 760 (lev 760) (.call (.builtin "sorted") ⟨[.ref v], []⟩) [(v, dkO d), (d, kvO w.params t g x y z u)] gl gl (α := (Addr × Addr × Addr) × Addr × Addr × Addr × Addr)
    (fun x => .ok (.ret (.ref x.1.1))) (fun _ => [dkO d, kvO w.params t g x y z u])
    (fun x => [(x.1.1, lstO #[.str (S "a") t.a, .str (S "b") t.b, .str (S "c") t.c, .str (S "d") t.d] 2), (x.1.2.1, lstO #[] 0), (x.1.2.2, tupO #[.str (S "a") t.a, .str (S "b") t.b, .str (S "c") t.c, .str (S "d") t.d]),
      (x.2.1, stopO x.2.2.1), (x.2.2.1, tup0), (x.2.2.2.1, dkiO), (x.2.2.2.2, lstO #[.str (S "a") t.a, .str (S "b") t.b, .str (S "c") t.c, .str (S "d") t.d] 6)]) := by
  cases b1 <;> (refine Ctr.of_go (NL w.params) (
    cIadd 3 [0, 1, 2] <|
    owns [(1, 3), (2, 0), (1, 0), (0, 0), (0, 0), (0, 0), (0, 0), (14, 2), (0, 2), (0, 2), (0, 2)] <|
    .fin 1 (fun _ T => ((adAt T 2, adAt T 0, adAt T 1), adAt T 3, adAt T 4, adAt T 5, adAt T 6)) [7, 8] [2, 0, 1, 3, 4, 5, 6]) ?_
   <;> (intro h dep fr gd un R d os tok b; kernel_rfl))
end
end Mine
namespace Mine
open PySem PySem.Spec PySem.Calls PyProof.Rows PySem.W PySem.W.X
theorem entry_linit : entryFor table "list.__init__" = some Builtin.«list.__init__» := by exact entryFor_of_tree (by kernel_rfl)
def liC (a p : Addr) : Code := .builtin "list.__init__" ⟨[.ref a, .ref p], []⟩
noncomputable def liT (a p : Addr) : { t : Sem Fin // a ≠ p → den (liC a p) = t } := by
  refine ⟨?t, fun h => (den_builtin entry_linit).trans ?_⟩
  rotate_left
  · have e1 : Builtin.List.listSameRef (.ref a) (.ref p) = false := by simp [Builtin.List.listSameRef, h]
    unfold Builtin.«list.__init__» Builtin.List.listExtendWith
    simp only [e1, Bool.false_or]
    rfl
def seqNo (o : Obj) : Nat := match o.data with
  | .seq _ n => n
  | _ => 0
section
variable {α₀ : Type} {w : World} {b1 b2 : Bool} {gl : List GenState}
theorem linN (w : World) (b1 b2 : Bool) (gl : List GenState) (a p : Addr) (x0 x1 x2 x3 x4 : Value) (e : Nat) (hne : a ≠ p) : Ctr prog (wr w b1 b2) (kt w.params) 800 (lev 800) (liC a p) [(a, lstO #[] 0), (p, lstO #[x0, x1, x2, x3, x4] e)] gl gl (α := Unit)
    (fun _ => .ok (.ret .none)) (fun _ => [lstO #[x0, x1, x2, x3, x4] 1, lstO #[x0, x1, x2, x3, x4] e]) (fun _ => []) := by
  cases b1 <;> (refine Ctr.of_go (NL w.params) (
    .tre 0 (den (liC a p)) (liT a p).1 ((liT a p).2 hne) <|
    owns [(0, 0), (0, 0), (0, 0), (0, 0), (0, 1), (0, 1), (0, 0), (0, 0), (0, 0), (0, 0)] <|
    .fin 0 (fun _ _ => ()) [0, 1] []) ?_
   <;> (intro h dep fr gd un R d os tok b; kernel_rfl))
theorem linC (w : World) (b1 b2 : Bool) (gl : List GenState) (a p : Addr) (x0 x1 x2 x3 x4 : Value) (e : Nat) : Ctr prog (wr w b1 b2) (kt w.params) 800 (lev 800) (liC a p) [(a, lstO #[] 0), (p, lstO #[x0, x1, x2, x3, x4] e)] gl gl (α := Unit)
    (fun _ => .ok (.ret .none)) (fun _ => [lstO #[x0, x1, x2, x3, x4] 1, lstO #[x0, x1, x2, x3, x4] e]) (fun _ => []) := by
  intro A R h d' os tok hh hD hU ht hp hn hl hR
  have hne : a ≠ p := fun e => (List.nodup_cons.mp hn).1 (by rw [e]; exact .head _)
  exact linN w b1 b2 gl a p x0 x1 x2 x3 x4 e hne A R h d' os tok hh hD hU ht hp hn hl hR
def xLin (n : Nat) (is : List Nat) (r : Hx prog (wr w b1 b2) (kt w.params) α₀) : Hx prog (wr w b1 b2) (kt w.params) α₀ :=
  cutT n 800 (lev 800) is ((Addr × Addr) × Nat × Value × Value × Value × Value × Value) (fun _ l => ((enA l 0, enA l 1), seqNo (obA l 1), fldO (obA l 1) 0, fldO (obA l 1) 1, fldO (obA l 1) 2, fldO (obA l 1) 3, fldO (obA l 1) 4))
    (fun y => liC y.1.1 y.1.2) (fun y => [(y.1.1, lstO #[] 0), (y.1.2, lstO #[y.2.2.1, y.2.2.2.1, y.2.2.2.2.1, y.2.2.2.2.2.1, y.2.2.2.2.2.2] y.2.1)]) Unit (fun _ _ => .ok (.ret .none))
    (fun y _ => [lstO #[y.2.2.1, y.2.2.2.1, y.2.2.2.2.1, y.2.2.2.2.2.1, y.2.2.2.2.2.2] 1, lstO #[y.2.2.1, y.2.2.2.1, y.2.2.2.2.1, y.2.2.2.2.2.1, y.2.2.2.2.2.2] y.2.1]) (fun _ _ => [])
    (fun y gl => linC w b1 b2 gl y.1.1 y.1.2 y.2.2.1 y.2.2.2.1 y.2.2.2.2.1 y.2.2.2.2.2.1 y.2.2.2.2.2.2 y.2.1) (fun _ _ _ _ => r)
end
end Mine
namespace Mine
open PySem PySem.Spec PySem.Calls PyProof.Rows PySem.W PySem.W.X
theorem map4 (prog : Program) (w : World) (h : Heap) (d : Addr) (t g : Nt) (x y z u : Int) (ho : h.get? d = some (kvO w.params t g x y z u)) :
    ∃ f, h.MapOf (PySem.strKind prog w) d f ∧ f (S "a") = some (.int x g.a) ∧ f (S "b") = some (.int y g.b) ∧ f (S "c") = some (.int z g.c) ∧ f (S "d") = some (.int u g.d) := by
  refine ⟨_, ⟨kvO w.params t g x y z u, _, _, ho, ⟨rfl, rfl, rfl⟩, rfl, ?_, fun k => rfl⟩, by kernel_rfl, by kernel_rfl, by kernel_rfl, by kernel_rfl⟩
  intro e he
  have he' := Array.mem_toList_iff.mpr he
  simp only [List.mem_cons, List.not_mem_nil, or_false] at he'
  rcases he' with rfl | rfl | rfl | rfl
  · exact ⟨S "a", by kernel_rfl, by kernel_rfl⟩
  · exact ⟨S "b", by kernel_rfl, by kernel_rfl⟩
  · exact ⟨S "c", by kernel_rfl, by kernel_rfl⟩
  · exact ⟨S "d", by kernel_rfl, by kernel_rfl⟩
section
variable {α₀ : Type} {prog : Program} {w : World} {kt : KT} {D U : Nat} {gl : List GenState}
theorem kvGet (k : Str) (d : Addr) (tk : Tok) (t g : Nt) (x y z u : Int) (v : Value) (hk : ∀ h : Heap, h.get? d = some (kvO w.params t g x y z u) → ∃ f, h.MapOf (PySem.strKind prog w) d f ∧ f k = some v) :
    Ctr prog w kt D U (.builtin "dict.__getitem__" ⟨[.ref d, .str k tk], []⟩) [(d, kvO w.params t g x y z u)] gl gl (α := Unit) (fun _ => .ok (.ret v)) (fun _ => [kvO w.params t g x y z u]) (fun _ => []) := by
  intro A R h dd os tok hh hD hU ht hp hn hl hR
  have ho : h.get? d = some (kvO w.params t g x y z u) := hp _ (.head _)
  obtain ⟨f, hm, hf⟩ := hk h ho
  refine codeAny_builtin entry_dict_getitem ?_
  rw [Around.under_plainId plain_dict_get]
  refine meets_dict_getitem (knd := PySem.strKind prog w) (k := k) (key := .str k tk) (d := d) (by simp [PySem.strKind, Value.isStrOf]) A R _ ⟨f, _, hm, hf, ?_⟩
  exact hR () h _ (fun b o e _ => e) rfl (fun y hm => by cases List.mem_singleton.mp hm; exact ho) (fun _ hm => nomatch hm) List.nodup_nil
def pk4 (i : Nat) (x y z u : Int) : Int := match i with | 0 => x | 1 => y | 2 => z | _ => u
def tk4 (i : Nat) (g : Nt) : Tok := match i with | 0 => g.a | 1 => g.b | 2 => g.c | _ => g.d
def nm4 (i : Nat) : Str := match i with | 0 => S "a" | 1 => S "b" | 2 => S "c" | _ => S "d"
theorem kvGetC (i : Nat) (d : Addr) (tk : Tok) (t g : Nt) (x y z u : Int) :
    Ctr prog w kt D U (.builtin "dict.__getitem__" ⟨[.ref d, .str (nm4 i) tk], []⟩) [(d, kvO w.params t g x y z u)] gl gl (α := Unit) (fun _ => .ok (.ret (.int (pk4 i x y z u) (tk4 i g)))) (fun _ => [kvO w.params t g x y z u]) (fun _ => []) := by
  refine kvGet (nm4 i) d tk t g x y z u _ fun h ho => ?_
  obtain ⟨f, a, b, c, e, q⟩ := map4 prog w h d t g x y z u ho
  refine ⟨f, a, ?_⟩
  match i with
  | 0 => exact b
  | 1 => exact c
  | 2 => exact e
  | _ + 3 => exact q
def xGet {prog : Program} {w : World} {kt : KT} (i : Nat) (n : Nat) (is : List Nat) (r : Hx prog w kt α₀) : Hx prog w kt α₀ :=
  cutT n 900 9000 is ((Addr × Tok) × Nt × Nt × Int × Int × Int × Int) (fun c l => ((enA l 0, tokV (argA c 1)), kvK (obA l 0), kvT (obA l 0), intV (entO (obA l 0) 0).2, intV (entO (obA l 0) 1).2, intV (entO (obA l 0) 2).2, intV (entO (obA l 0) 3).2))
    (fun y => .builtin "dict.__getitem__" ⟨[.ref y.1.1, .str (nm4 i) y.1.2], []⟩) (fun y => [(y.1.1, kvO w.params y.2.1 y.2.2.1 y.2.2.2.1 y.2.2.2.2.1 y.2.2.2.2.2.1 y.2.2.2.2.2.2)]) Unit (fun y _ => .ok (.ret (.int (pk4 i y.2.2.2.1 y.2.2.2.2.1 y.2.2.2.2.2.1 y.2.2.2.2.2.2) (tk4 i y.2.2.1))))
    (fun y _ => [kvO w.params y.2.1 y.2.2.1 y.2.2.2.1 y.2.2.2.2.1 y.2.2.2.2.2.1 y.2.2.2.2.2.2]) (fun _ _ => [])
    (fun y _ => kvGetC i y.1.1 y.1.2 y.2.1 y.2.2.1 y.2.2.2.1 y.2.2.2.2.1 y.2.2.2.2.2.1 y.2.2.2.2.2.2) (fun _ _ _ _ => r)
end
end Mine
namespace Mine
open PySem PySem.Spec PySem.Calls PyProof.Rows PySem.W PySem.W.X
theorem entry_dkeys : entryFor table "dict.keys" = some Builtin.«dict.keys» := by exact entryFor_of_tree (by kernel_rfl)
theorem showsAllT (d : Addr) (k : Unit → Sem Fin) (h : (d == sysModules) = false) : (Builtin.Dict.showsAll d >>= k) = k () := by
  unfold Builtin.Dict.showsAll
  rw [h]
  rfl
section
variable {α₀ : Type} {w : World} {b1 b2 : Bool} {gl : List GenState}
theorem dkeyN (w : World) (b1 b2 : Bool) (gl : List GenState) (d : Addr) (t g : Nt) (x y z u : Int) (hd : (d == sysModules) = false) : Ctr prog (wr w b1 b2) (kt w.params) 800 (lev 800) (.builtin "dict.keys" ⟨[.ref d], []⟩) [(d, kvO w.params t g x y z u)] gl gl (α := Addr)
    (fun a => .ok (.ret (.ref a))) (fun _ => [kvO w.params t g x y z u]) (fun a => [(a, dkO d)]) := by
  cases b1 <;> (refine Ctr.of_go (NL w.params) (
    .tre 0 (den (.builtin "dict.keys" ⟨[.ref d], []⟩)) (Builtin.«dict.keys» ⟨[.ref d], []⟩) (den_builtin entry_dkeys) <|
    owns [(0, 0)] <|
    .tre 0 (Builtin.Dict.showsAll d >>= fun _ => newFields "dict_keys" [.ref d] >>= fun v => ret v) (newFields "dict_keys" [.ref d] >>= fun v => ret v) (showsAllT d _ hd) <|
    .fin 1 (fun _ T => adAt T 0) [1] [0]) ?_
   <;> (intro h dep fr gd un R d os tok b; kernel_rfl))
theorem dkeyC (w : World) (b1 b2 : Bool) (gl : List GenState) (d : Addr) (t g : Nt) (x y z u : Int) : Ctr prog (wr w b1 b2) (kt w.params) 800 (lev 800) (.builtin "dict.keys" ⟨[.ref d], []⟩) [(d, kvO w.params t g x y z u)] gl gl (α := Addr)
    (fun a => .ok (.ret (.ref a))) (fun _ => [kvO w.params t g x y z u]) (fun a => [(a, dkO d)]) := by
  intro A R h dd os tok hh hD hU ht hp hn hl hR
  have hd : (d == sysModules) = false := by
    rw [beq_eq_false_iff_ne]
    intro e
    have h1 : (kt w.params).get d = none := hl _ (.head _)
    rw [e] at h1
    have h2 : (kt w.params).get sysModules = some (k1 w.params) := by kernel_rfl
    rw [h2] at h1; cases h1
  exact dkeyN w b1 b2 gl d t g x y z u hd A R h dd os tok hh hD hU ht hp hn hl hR
def xKeys (n : Nat) (is : List Nat) (r : Hx prog (wr w b1 b2) (kt w.params) α₀) : Hx prog (wr w b1 b2) (kt w.params) α₀ :=
  cutT n 800 (lev 800) is (Addr × Nt × Nt × Int × Int × Int × Int) (fun _ l => (enA l 0, kvK (obA l 0), kvT (obA l 0), intV (entO (obA l 0) 0).2, intV (entO (obA l 0) 1).2, intV (entO (obA l 0) 2).2, intV (entO (obA l 0) 3).2))
    (fun y => .builtin "dict.keys" ⟨[.ref y.1], []⟩) (fun y => [(y.1, kvO w.params y.2.1 y.2.2.1 y.2.2.2.1 y.2.2.2.2.1 y.2.2.2.2.2.1 y.2.2.2.2.2.2)]) Addr (fun _ a => .ok (.ret (.ref a)))
    (fun y _ => [kvO w.params y.2.1 y.2.2.1 y.2.2.2.1 y.2.2.2.2.1 y.2.2.2.2.2.1 y.2.2.2.2.2.2]) (fun y a => [(a, dkO y.1)])
    (fun y gl => dkeyC w b1 b2 gl y.1 y.2.1 y.2.2.1 y.2.2.2.1 y.2.2.2.2.1 y.2.2.2.2.2.1 y.2.2.2.2.2.2) (fun _ _ _ _ => r)
end
end Mine
namespace Mine
open PySem PySem.Spec PySem.Calls PyProof.Rows PySem.W PySem.W.X
/-- a list of numbers, with their tokens -/
def mkV : List Nat → Nat → (Nat → Tok) → List Value
  | [], _, _ => []
  | n :: l, i, f => .int n (f i) :: mkV l (i + 1) f
def mkI : List Int → Nat → (Nat → Tok) → List Value
  | [], _, _ => []
  | n :: l, i, f => .int n (f i) :: mkI l (i + 1) f
def mkS : List Str → Nat → (Nat → Tok) → List Value
  | [], _, _ => []
  | n :: l, i, f => .str n (f i) :: mkS l (i + 1) f
def sumN : List Nat → Nat
  | [] => 0
  | n :: l => n + sumN l
theorem mkV_nats : ∀ l i f, AreNats (mkV l i f)
  | [], _, _ => .nil
  | _ :: l, i, f => .cons _ _ (mkV_nats l (i + 1) f)
theorem mkV_sum : ∀ l i f, natSum (mkV l i f) = sumN l
  | [], _, _ => rfl
  | n :: l, i, f => by show (n : Int).toNat + natSum (mkV l (i + 1) f) = n + sumN l; rw [mkV_sum l (i + 1) f]; rfl
theorem mkV_ints : ∀ l i f, IntsAre (mkV l i f) (l.map fun n : Nat => (n : Int))
  | [], _, _ => .nil
  | _ :: l, i, f => .cons _ _ (mkV_ints l (i + 1) f)
theorem mkI_same : ∀ l i f g, Same (mkI l i f) (mkI l i g)
  | [], _, _, _ => Same.nil
  | _ :: l, i, f, g => Same.cons (eqI _ _ _ _ rfl) (mkI_same l (i + 1) f g)
theorem mkS_same : ∀ l i f g, Same (mkS l i f) (mkS l i g)
  | [], _, _, _ => Same.nil
  | _ :: l, i, f, g => Same.cons (eqS _ _ _) (mkS_same l (i + 1) f g)
def seqN (o : Obj) : Nat := match o.data with
  | .seq _ n => n
  | _ => 0
section
variable {α₀ : Type} {w : World} {b1 b2 : Bool} {gl : List GenState}
def xBox (n : Nat) (is : List Nat) (xs : Array Value) (e : Nat) (hz : xs.size ≤ 1000) (hi : ∀ i, i < xs.size → ∃ x t, xs[i]? = some (.int x t)) (r : { x : BoxR // Nats x.zs ∧ x.zs.size = xs.size } → Hx prog (wr w b1 b2) (kt w.params) α₀) : Hx prog (wr w b1 b2) (kt w.params) α₀ :=
  cutT n 740 (lev 740) is Addr (fun _ l => enA l 0) (fun y => .call (.ref 1245) ⟨[.ref y], []⟩) (fun y => [(y, lstO xs e)]) { x : BoxR // Nats x.zs ∧ x.zs.size = xs.size } (fun _ x => .ok (.ret (.ref x.1.box))) (fun _ _ => [lstO xs e])
    (fun _ x => [(x.1.box, boxO 0 0 0 x.1.t0 x.1.t1 x.1.t2 x.1.sc 0), (x.1.sc, lstO x.1.zs x.1.e)]) (fun y gl => boxC w b1 b2 gl y xs e hz hi) (fun _ x _ _ => r x)
def xRiter {prog : Program} {w : World} {kt : KT} (n : Nat) (is : List Nat) (N : Nat) (hN : N ≤ 1000) (r : Hx prog w kt α₀) : Hx prog w kt α₀ :=
  cutT n 900 9000 is (Addr × Tok × Tok × Tok) (fun _ l => (enA l 0, tokV (fldO (obA l 0) 0), tokV (fldO (obA l 0) 1), tokV (fldO (obA l 0) 2))) (fun y => .builtin "range.__iter__" ⟨[.ref y.1], []⟩) (fun y => [(y.1, rgO N y.2.1 y.2.2.1 y.2.2.2)]) Addr (fun _ a => .ok (.ret (.ref a)))
    (fun y _ => [rgO N y.2.1 y.2.2.1 y.2.2.2]) (fun _ a => [(a, riO 0 N)]) (fun y _ => riterC y.1 N y.2.1 y.2.2.1 y.2.2.2 hN) (fun _ _ _ _ => r)
def xSort (n : Nat) (is : List Nat) (r : Hx prog (wr w b1 b2) (kt w.params) α₀) : Hx prog (wr w b1 b2) (kt w.params) α₀ :=
  cutT n 760 (lev 760) is ((Addr × Addr) × Nt × Nt × Int × Int × Int × Int) (fun _ l => ((enA l 0, enA l 1), kvK (obA l 1), kvT (obA l 1), intV (entO (obA l 1) 0).2, intV (entO (obA l 1) 1).2, intV (entO (obA l 1) 2).2, intV (entO (obA l 1) 3).2))
    (fun y => .call (.builtin "sorted") ⟨[.ref y.1.1], []⟩) (fun y => [(y.1.1, dkO y.1.2), (y.1.2, kvO w.params y.2.1 y.2.2.1 y.2.2.2.1 y.2.2.2.2.1 y.2.2.2.2.2.1 y.2.2.2.2.2.2)]) ((Addr × Addr × Addr) × Addr × Addr × Addr × Addr) (fun y x => .ok (.ret (.ref x.1.1)))
    (fun y _ => [dkO y.1.2, kvO w.params y.2.1 y.2.2.1 y.2.2.2.1 y.2.2.2.2.1 y.2.2.2.2.2.1 y.2.2.2.2.2.2])
    (fun y x => [(x.1.1, lstO #[.str (S "a") y.2.1.a, .str (S "b") y.2.1.b, .str (S "c") y.2.1.c, .str (S "d") y.2.1.d] 2), (x.1.2.1, lstO #[] 0), (x.1.2.2, tupO #[.str (S "a") y.2.1.a, .str (S "b") y.2.1.b, .str (S "c") y.2.1.c, .str (S "d") y.2.1.d]),
      (x.2.1, stopO x.2.2.1), (x.2.2.1, tup0), (x.2.2.2.1, dkiO), (x.2.2.2.2, lstO #[.str (S "a") y.2.1.a, .str (S "b") y.2.1.b, .str (S "c") y.2.1.c, .str (S "d") y.2.1.d] 6)])
    (fun y gl => sortedC w b1 b2 gl y.1.1 y.1.2 y.2.1 y.2.2.1 y.2.2.2.1 y.2.2.2.2.1 y.2.2.2.2.2.1 y.2.2.2.2.2.2) (fun _ _ _ _ => r)
def xSum (n : Nat) (is : List Nat) (ns : List Nat) (r : Hx prog (wr w b1 b2) (kt w.params) α₀) : Hx prog (wr w b1 b2) (kt w.params) α₀ :=
  cutT n 780 (lev 780) is (Addr × (Nat → Tok) × Nat) (fun _ l => (enA l 0, fun j => tokV (fldO (obA l 0) j), seqN (obA l 0))) (fun y => .call (.builtin "sum") ⟨[.ref y.1], []⟩) (fun y => [(y.1, lstO (mkV ns 0 y.2.1).toArray y.2.2)]) Tok (fun _ t => .ok (.ret (.int ((sumN ns : Nat) : Int) t)))
    (fun y _ => [lstO (mkV ns 0 y.2.1).toArray y.2.2]) (fun _ _ => []) (fun y gl => by
      have := sumAC w b1 b2 gl y.1 (mkV ns 0 y.2.1) y.2.2 (mkV_nats _ _ _)
      rw [mkV_sum] at this
      exact this) (fun _ _ _ _ => r)
def xByNew {prog : Program} {w : World} {kt : KT} (n : Nat) (is : List Nat) (vs : List Value) (e : Nat) (ns : List Int) (Z : Array UInt8) (hi : IntsAre vs ns) (hr : ∀ n ∈ ns, 0 ≤ n ∧ n < 256) (hz : ns.length ≤ sizeLine) (hZ : byteArr ns = Z) (r : Hx prog w kt α₀) : Hx prog w kt α₀ :=
  cutT n 900 9000 is Addr (fun _ l => enA l 0) (fun y => .call (.builtin "bytes.__new__") ⟨[.type "bytes", .ref y], []⟩) (fun y => [(y, lstO vs.toArray e)]) Tok (fun _ t => .ok (.ret (.bytes Z t))) (fun _ _ => [lstO vs.toArray e]) (fun _ _ => []) (fun y _ => byNewC y vs e ns Z hi hr hz hZ) (fun _ _ _ _ => r)
def xBy123 {prog : Program} {w : World} {kt : KT} (n : Nat) (is : List Nat) (r : Hx prog w kt α₀) : Hx prog w kt α₀ :=
  cutT n 900 9000 is (Addr × (Nat → Tok)) (fun _ l => (enA l 0, fun j => tokV (fldO (obA l 0) j))) (fun y => .call (.builtin "bytes.__new__") ⟨[.type "bytes", .ref y.1], []⟩) (fun y => [(y.1, lstO (mkV [1, 2, 3] 0 y.2).toArray 0)]) Tok (fun _ t => .ok (.ret (.bytes #[1, 2, 3] t))) (fun y _ => [lstO (mkV [1, 2, 3] 0 y.2).toArray 0]) (fun _ _ => [])
    (fun y _ => byNewC y.1 (mkV [1, 2, 3] 0 y.2) 0 [1, 2, 3] #[1, 2, 3] (mkV_ints [1, 2, 3] 0 y.2) (by simp) (by decide) rfl) (fun _ _ _ _ => r)
def xByAdd {prog : Program} {w : World} {kt : KT} (n : Nat) (B C : Array UInt8) (hz : B.size + C.size ≤ 16777216) (r : Hx prog w kt α₀) : Hx prog w kt α₀ :=
  cutT n 900 9000 [] (Tok × Tok) (fun c _ => (tokV (argA c 0), tokV (argA c 1))) (fun y => .builtin "bytes.__add__" ⟨[.bytes B y.1, .bytes C y.2], []⟩) (fun _ => []) Tok (fun _ t => .ok (.ret (.bytes (B ++ C) t))) (fun _ _ => []) (fun _ _ => []) (fun y _ => byAddC B C y.1 y.2 hz) (fun _ _ _ _ => r)
def xFbB {prog : Program} {w : World} {kt : KT} (n : Nat) (b : Array UInt8) (hl : b.size ≤ 10) (r : Hx prog w kt α₀) : Hx prog w kt α₀ :=
  cutT n 900 9000 [] (Tok × Tok) (fun c _ => (tokV (argA c 1), tokV (argA c 2))) (fun y => .builtin "int.from_bytes" ⟨[.type "int", .bytes b y.1, .str (S "big") y.2], []⟩) (fun _ => []) Tok (fun _ t => .ok (.ret (.int (nb b.toList : Nat) t))) (fun _ _ => []) (fun _ _ => []) (fun y _ => fbBigC b y.1 y.2 hl) (fun _ _ _ _ => r)
def xFbL {prog : Program} {w : World} {kt : KT} (n : Nat) (b : Array UInt8) (hl : b.size ≤ 10) (z : Nat) (hz : nb b.toList.reverse = z) (r : Hx prog w kt α₀) : Hx prog w kt α₀ :=
  cutT n 900 9000 [] (Tok × Tok) (fun c _ => (tokV (argA c 1), tokV (argA c 2))) (fun y => .builtin "int.from_bytes" ⟨[.type "int", .bytes b y.1, .str (S "little") y.2], []⟩) (fun _ => []) Tok (fun _ t => .ok (.ret (.int (z : Nat) t))) (fun _ _ => []) (fun _ _ => []) (fun y _ => hz ▸ fbLitC b y.1 y.2 hl) (fun _ _ _ _ => r)
def xTb {prog : Program} {w : World} {kt : KT} (n : Nat) (x k : Nat) (hk : k ≤ 10) (hx : x < 256 ^ k) (r : { b : Array UInt8 // TB x k b } → Hx prog w kt α₀) : Hx prog w kt α₀ :=
  cutT n 900 9000 [] (Tok × Tok × Tok) (fun c _ => (tokV (argA c 0), tokV (argA c 1), tokV (argA c 2))) (fun y => .builtin "int.to_bytes" ⟨[.int x y.1, .int k y.2.1, .str (S "big") y.2.2], []⟩) (fun _ => []) ({ b : Array UInt8 // TB x k b } × Tok) (fun _ y => .ok (.ret (.bytes y.1.1 y.2))) (fun _ _ => []) (fun _ _ => []) (fun y _ => tbBigC x k y.1 y.2.1 y.2.2 hk hx) (fun _ x _ _ => r x.1)
def celA : List (Str × Addr) → Nat → Addr
  | [], _ => 0
  | x :: _, 0 => x.2
  | _ :: l, i + 1 => celA l i
def syX (c : Code) (l : List (Option En)) : Sy :=
  ⟨enA l 0, enA l 1, enA l 2, enA l 3, enA l 4, enA l 5, enA l 6, (match c with
    | .forLoop _ _ _ _ e => celA e.cells 0
    | _ => 0), (match c with
    | .forLoop _ _ _ _ e => celA e.cells 1
    | _ => 0), (match c with
    | .forLoop _ _ _ _ e => celA e.cells 3
    | _ => 0), fun j => tokV (entO (obA l 0) j).1, fun j => (entO (obA l 0) j).2, fun j => tokV (fldO (obA l 2) j), fun j => tokV (fldO (obA l 4) j)⟩
def xSg (n : Nat) (is : List Nat) (w0 w1 w2 w3 w4 : Nat) (s0 s1 s2 s3 s4 : Bool) (a1 : Int) (d0 d2 d3 d4 : Nat) (h0 : 1 ≤ w0 ∧ w0 ≤ 900) (h2 : 1 ≤ w2 ∧ w2 ≤ 900) (h3 : 1 ≤ w3 ∧ w3 ≤ 900) (h4 : 1 ≤ w4 ∧ w4 ≤ 900) (r : Hx prog (wr w b1 b2) (kt w.params) α₀) : Hx prog (wr w b1 b2) (kt w.params) α₀ :=
  cutT n 740 (lev 740) is (Sy × Value × (Nat → Tok)) (fun c l => (syX c l, (entO (obA l 0) 10).2, fun j => tokV (fldO (obA l 6) j))) (fun y => sgL y.1) (fun y => sgH w.params y.1 0 w0 w1 w2 w3 w4 s0 s1 s2 s3 s4 y.2.1 y.2.2 d0 a1 d2 d3 d4) SgR (fun _ _ => .ok .next)
    (fun y x => sgU w.params y.1 w0 w1 w2 w3 w4 s0 s1 s2 s3 s4 x.vk x.dt (sgn s0 w0 d0) a1 (sgn s2 w2 d2) (sgn s3 w3 d3) (sgn s4 w4 d4)) (fun _ _ => []) (fun y gl => sg0 w b1 b2 gl y.1 w0 w1 w2 w3 w4 s0 s1 s2 s3 s4 y.2.1 y.2.2 a1 d0 d2 d3 d4 h0 h2 h3 h4) (fun _ _ _ _ => r)
def xEqI {prog : Program} {w : World} {kt : KT} (n : Nat) (is : List Nat) (as cs : List Int) (h : as = cs) (r : Hx prog w kt α₀) : Hx prog w kt α₀ :=
  cutT n 900 9000 is (Addr × Addr × (Nat → Tok) × (Nat → Tok) × Nat × Nat) (fun _ l => (enA l 0, enA l 1, (fun j => tokV (fldO (obA l 0) j)), (fun j => tokV (fldO (obA l 1) j)), seqN (obA l 0), seqN (obA l 1))) (fun y => .builtin "list.__eq__.loop" ⟨[.ref y.1, .ref y.2.1, .int 0 0, .int (3 : Nat) 0], []⟩)
    (fun y => [(y.1, lstO (mkI as 0 y.2.2.1).toArray y.2.2.2.2.1), (y.2.1, lstO (mkI cs 0 y.2.2.2.1).toArray y.2.2.2.2.2)]) Unit (fun _ _ => .ok (.ret (.bool false))) (fun y _ => [lstO (mkI as 0 y.2.2.1).toArray y.2.2.2.2.1, lstO (mkI cs 0 y.2.2.2.1).toArray y.2.2.2.2.2]) (fun _ _ => [])
    (fun y _ => eqLpC 3 (.inr rfl) y.1 y.2.1 _ _ _ _ (h ▸ mkI_same as 0 y.2.2.1 y.2.2.2.1)) (fun _ _ _ _ => r)
def xEqS {prog : Program} {w : World} {kt : KT} (n : Nat) (is : List Nat) (ss : List Str) (r : Hx prog w kt α₀) : Hx prog w kt α₀ :=
  cutT n 900 9000 is (Addr × Addr × (Nat → Tok) × (Nat → Tok) × Nat × Nat) (fun _ l => (enA l 0, enA l 1, (fun j => tokV (fldO (obA l 0) j)), (fun j => tokV (fldO (obA l 1) j)), seqN (obA l 0), seqN (obA l 1))) (fun y => .builtin "list.__eq__.loop" ⟨[.ref y.1, .ref y.2.1, .int 0 0, .int (2 : Nat) 0], []⟩)
    (fun y => [(y.1, lstO (mkS ss 0 y.2.2.1).toArray y.2.2.2.2.1), (y.2.1, lstO (mkS ss 0 y.2.2.2.1).toArray y.2.2.2.2.2)]) Unit (fun _ _ => .ok (.ret (.bool true))) (fun y _ => [lstO (mkS ss 0 y.2.2.1).toArray y.2.2.2.2.1, lstO (mkS ss 0 y.2.2.2.1).toArray y.2.2.2.2.2]) (fun _ _ => [])
    (fun y _ => eqLpC 2 (.inl rfl) y.1 y.2.1 _ _ _ _ (mkS_same ss 0 y.2.2.1 y.2.2.2.1)) (fun _ _ _ _ => r)
def xTell (n : Nat) (is : List Nat) (D : Array UInt8) (p : Nat) (r : Hx prog (wr w b1 b2) (kt w.params) α₀) : Hx prog (wr w b1 b2) (kt w.params) α₀ :=
  cutT n 780 (lev 780) is Bio (fun _ l => bioX l) (fun s => .call (.ref 423) ⟨[.ref s.self], []⟩) (fun s => bioL w.params s D p) Tok (fun _ x => .ok (.ret (.int p x))) (fun s _ => bioU w.params s D p) (fun _ _ => []) (fun s gl => tellC w b1 b2 gl s D p) (fun _ _ _ _ => r)
theorem mulN {prog : Program} {w : World} {kt : KT} {a b : Nat} (h : a < 2 ^ 64) {z : Int} (hz : (a : Int) * b = z) (gl : List GenState) : BinC prog w kt gl "int.__mul__" a b z := hz ▸ mulC (.of_left (intBits_le h))
theorem div8 {prog : Program} {w : World} {kt : KT} {a : Nat} {z : Int} (hz : z = ((a / 8 : Nat) : Int)) (gl : List GenState) : BinC prog w kt gl "int.__floordiv__" a 8 z := divPC (b := 3) (by decide) hz
theorem mod8 {prog : Program} {w : World} {kt : KT} {a : Nat} {z : Int} (hz : z = ((a % 8 : Nat) : Int)) (gl : List GenState) : BinC prog w kt gl "int.__mod__" a 8 z := modPC (b := 3) hz
end
end Mine
namespace Mine
open PySem PySem.Spec PySem.Calls PyProof.Rows PySem.W PySem.W.X
/-- the widths, and the octets less one -/
structure Lw where
  w0 : Nat
  w1 : Nat
  w2 : Nat
  w3 : Nat
  w4 : Nat
  k : Nat
abbrev Wd (n : Nat) : Prop := 1 ≤ n ∧ n ≤ 16
structure LwP (q : Lw) (tn : Bool) : Prop where
  a0 : Wd q.w0
  a1 : Wd q.w1
  a2 : Wd q.w2
  a3 : Wd q.w3
  a4 : Wd q.w4
  sum : q.w0 + q.w1 + q.w2 + q.w3 + q.w4 = 8 * (q.k + 1)
  tn : tn = true → q.w2 = 8 ∨ q.w2 = 16
def spOf (q : Lw) (s0 s2 s3 s4 tn : Bool) : Sp := ⟨q.w0, q.w1, q.w2, q.w3, q.w4, s0, s2, s3, s4, tn⟩
def octs (ns : List Int) : List UInt8 := ns.map fun n => n.toNat.toUInt8
def datO (B : List UInt8) : Array UInt8 := (#[1, 2, 3] ++ B.toArray) ++ #[5]
theorem LwP.ten {q : Lw} {tn : Bool} (h : LwP q tn) : q.k + 1 ≤ 10 := by have := h.a0.2; have := h.a1.2; have := h.a2.2; have := h.a3.2; have := h.a4.2; have := h.sum; omega
theorem datO_cut (B : List UInt8) : (datO B).extract 3 (3 + B.length) = B.toArray ∧ (datO B).size = 4 + B.length := by
  have e : datO B = ([1, 2, 3] ++ B ++ [5]).toArray := by unfold datO; simp
  rw [e]
  refine ⟨?_, by simp; omega⟩
  simp
theorem LwP.job {q : Lw} {tn : Bool} (h : LwP q tn) (s0 s2 s3 s4 : Bool) (B : List UInt8) (hB : B.length = q.k + 1) : Job (spOf q s0 s2 s3 s4 tn) B (datO B) := by
  obtain ⟨e1, e2⟩ := datO_cut B
  have h1 := h.sum
  have h2 := h.ten
  have h3 := bits_length B
  exact ⟨⟨by show _ + _ + _ + _ + _ = _; rw [hB]; exact h1, by omega⟩, ⟨by show _ + _ + _ + _ + _ = _; rw [h3, hB]; exact h1, by omega, h.a0.1, h.a1.1, h.a2.1, h.a3.1, h.a4.1, h.tn⟩, by omega, by omega, e1, by omega, by rw [e2, sizeLine_eq]; omega⟩
theorem eq1 (v : Nat) : ((v : Int) == 1) = (v == 1) := by
  rw [Bool.eq_iff_iff, beq_iff_eq, beq_iff_eq]; omega
theorem part_lt (x r w : Nat) : part x r w < 2 ^ w := Nat.mod_lt _ (Nat.two_pow_pos _)
theorem part64 {x r w : Nat} (h : w ≤ 16) : part x r w < 2 ^ 64 := Nat.lt_of_lt_of_le (part_lt x r w) (Nat.pow_le_pow_right (by decide) (by omega))
/-- the parts, put together, are the number -/
theorem LwP.whole {q : Lw} {tn : Bool} (h : LwP q tn) (B : List UInt8) (hB : B.length = q.k + 1) :
    (((sumN [part (nb B) (q.w1 + q.w2 + q.w3 + q.w4) q.w0 * 2 ^ (q.w1 + q.w2 + q.w3 + q.w4), part (nb B) (q.w2 + q.w3 + q.w4) q.w1 * 2 ^ (q.w2 + q.w3 + q.w4), part (nb B) (q.w3 + q.w4) q.w2 * 2 ^ (q.w3 + q.w4), part (nb B) q.w4 q.w3 * 2 ^ q.w4, part (nb B) 0 q.w4 * 2 ^ 0] : Nat) : Int) != ((nb B : Nat) : Int)) = false := by
  have hx : nb B < 2 ^ (q.w0 + q.w1 + q.w2 + q.w3 + q.w4) := by
    rw [h.sum, ← hB, Nat.pow_mul]
    exact nb_lt B
  have e := parts_sum (nb B) q.w0 q.w1 q.w2 q.w3 q.w4 hx
  have : sumN [part (nb B) (q.w1 + q.w2 + q.w3 + q.w4) q.w0 * 2 ^ (q.w1 + q.w2 + q.w3 + q.w4), part (nb B) (q.w2 + q.w3 + q.w4) q.w1 * 2 ^ (q.w2 + q.w3 + q.w4), part (nb B) (q.w3 + q.w4) q.w2 * 2 ^ (q.w3 + q.w4), part (nb B) q.w4 q.w3 * 2 ^ q.w4, part (nb B) 0 q.w4 * 2 ^ 0] = nb B := e
  rw [this]
  exact bne_self_eq_false _
/-- what law asks of the third field -/
def due2 (tn : Bool) (w2 d : Nat) : Nat := match tn with
  | true => swN (w2 / 8) d
  | false => d
theorem LwP.told {q : Lw} {tn : Bool} (h : LwP q tn) (s0 s2 s3 s4 : Bool) (B : List UInt8) (hB : B.length = q.k + 1) :
    [fv false s0 (sub (bitsOf B) 0 q.w0), fv tn s2 (sub (bitsOf B) (0 + q.w0 + q.w1) q.w2), fv false s3 (sub (bitsOf B) (0 + q.w0 + q.w1 + q.w2) q.w3), fv false s4 (sub (bitsOf B) (0 + q.w0 + q.w1 + q.w2 + q.w3) q.w4)]
      = [sgn s0 q.w0 (part (nb B) (q.w1 + q.w2 + q.w3 + q.w4) q.w0), sgn s2 q.w2 (due2 tn q.w2 (part (nb B) (q.w3 + q.w4) q.w2)), sgn s3 q.w3 (part (nb B) q.w4 q.w3), sgn s4 q.w4 (part (nb B) 0 q.w4)] := by
  have hs : q.w0 + q.w1 + q.w2 + q.w3 + q.w4 = 8 * B.length := by rw [hB]; exact h.sum
  rw [fv_part B false s0 0 q.w0 (by omega) (fun z => nomatch z), fv_part B tn s2 (0 + q.w0 + q.w1) q.w2 (by omega) h.tn, fv_part B false s3 (0 + q.w0 + q.w1 + q.w2) q.w3 (by omega) (fun z => nomatch z), fv_part B false s4 (0 + q.w0 + q.w1 + q.w2 + q.w3) q.w4 (by omega) (fun z => nomatch z)]
  have r0 : 8 * B.length - 0 - q.w0 = q.w1 + q.w2 + q.w3 + q.w4 := by omega
  have r2 : 8 * B.length - (0 + q.w0 + q.w1) - q.w2 = q.w3 + q.w4 := by omega
  have r3 : 8 * B.length - (0 + q.w0 + q.w1 + q.w2) - q.w3 = q.w4 := by omega
  have r4 : 8 * B.length - (0 + q.w0 + q.w1 + q.w2 + q.w3) - q.w4 = 0 := by omega
  rw [r0, r2, r3, r4]
  cases tn <;> rfl
theorem DcP.len {k : Nat} {vs : List Value} {ns : List Int} (h : DcP (k + 1) vs ns) : (octs ns).length = k + 1 := by unfold octs; rw [List.length_map]; exact h.2.2.2
theorem swK {w : Nat} (h : w = 8 ∨ w = 16) : w / 8 = 1 ∨ w / 8 = 2 := by omega
theorem part256 {x r w : Nat} (h : w = 8 ∨ w = 16) : part x r w < 256 ^ (w / 8) := by
  have := part_lt x r w
  rcases h with rfl | rfl
  · exact this
  · exact this
theorem tbsz {x k : Nat} {b : Array UInt8} (h : TB x k b) (hk : k = 1 ∨ k = 2) : b.size ≤ 10 := by
  have := congrArg List.length h
  simp [KTBy.little_length] at this
  omega
section
theorem subN {a b c : Nat} (h : a = b + c) : (a : Int) - b = c := by omega

def lwOf (w0 w1 w2 w3 v : Nat) : Lw := ⟨w0, w1, w2, w3, 8 - sumN [w0, w1, w2, w3] % 8 + 8 * v, (w0 + w1 + w2 + w3 + (8 - sumN [w0, w1, w2, w3] % 8 + 8 * v)) / 8 - 1⟩
theorem lwOf_ok (w0 w1 w2 w3 v : Nat) {tn : Bool} (h0 : Wd w0) (h1 : Wd w1) (h2 : Wd w2) (h3 : Wd w3) (ht : tn = true → w2 = 8 ∨ w2 = 16) (hv : v ≤ 1) : LwP (lwOf w0 w1 w2 w3 v) tn := by
  obtain ⟨a1, a2⟩ := h0
  obtain ⟨b1, b2⟩ := h1
  obtain ⟨c1, c2⟩ := h2
  obtain ⟨d1, d2⟩ := h3
  have e : sumN [w0, w1, w2, w3] = w0 + w1 + w2 + w3 := by simp only [sumN]; omega
  refine ⟨⟨a1, a2⟩, ⟨b1, b2⟩, ⟨c1, c2⟩, ⟨d1, d2⟩, ?_, ?_, ht⟩
  · show 1 ≤ 8 - sumN [w0, w1, w2, w3] % 8 + 8 * v ∧ _ ≤ _
    show 1 ≤ 8 - sumN [w0, w1, w2, w3] % 8 + 8 * v ∧ 8 - sumN [w0, w1, w2, w3] % 8 + 8 * v ≤ 16
    omega
  · show w0 + w1 + w2 + w3 + (8 - sumN [w0, w1, w2, w3] % 8 + 8 * v) = 8 * ((w0 + w1 + w2 + w3 + (8 - sumN [w0, w1, w2, w3] % 8 + 8 * v)) / 8 - 1 + 1)
    rw [e]
    omega
theorem LwP.siz {q : Lw} {tn : Bool} (h : LwP q tn) : ((q.k + 1 : Nat) : Int) = ((sumN [q.w0, q.w1, q.w2, q.w3, q.w4] / 8 : Nat) : Int) := by
  have e : sumN [q.w0, q.w1, q.w2, q.w3, q.w4] = 8 * (q.k + 1) := by
    have := h.sum
    simp only [sumN]; omega
  rw [e]; omega

theorem wd15 (p : TkR 15) : Wd (1 + p.v) := by have := p.hv; exact ⟨by omega, by omega⟩
theorem lw8 (p : TkR 1) : 8 * (1 + p.v) = 8 ∨ 8 * (1 + p.v) = 16 := by have := p.hv; omega
theorem lw16 (p : TkR 1) : Wd (8 * (1 + p.v)) := by have := p.hv; exact ⟨by omega, by omega⟩
theorem lw8q {p : TkR 1} {v : Nat} (h : (((1 + v : Nat) : Int) == ((8 * (1 + p.v) : Nat) : Int)) = true) : 1 + v = 8 ∨ 1 + v = 16 := by
  have := p.hv
  have := beq_iff_eq.mp h
  omega
theorem scrB {zs ys : Array Value} (h : Nats zs ∧ zs.size = ys.size) (hz : ys.size ≤ 1000) : Scr zs := ⟨by omega, h.1⟩

end
end Mine
namespace Mine.R1
open PySem PySem.Spec PySem.Calls PyProof.Rows PySem.W PySem.W.X
section
variable {w : World} {b1 : Bool}
def tlT3 (q : Lw) (H : LwP q true) (s0 s1 s2 s3 s4 : Bool) (vs : List Value) (ns : List Int) (e : Nat) (hp : DcP (q.k + 1) vs ns) : Hx prog (wr w b1 true) (kt w.params) (Array Value × Array Value × Array Value) :=
    xByNew 4 [3] vs e ns (octs ns).toArray hp.1 hp.2.1 (by rw [hp.2.2.2, sizeLine_eq]; have := H.ten; omega) rfl <|
    ownsX [(9, 24), (0, 24), (9, 22), (2, 15), (0, 15), (0, 15), (1, 15), (1, 15), (2, 24), (2, 9), (0, 9), (0, 9), (1, 9), (1, 9)] <|
    xBf_a 4 (q.w0 : Int) s0 fun _ =>
    ownsX [(4, 26), (2, 19), (0, 19), (0, 19), (1, 19), (1, 19)] <|
    xPad 3 (q.w1 : Int) fun _ =>
    ownsX [(5, 30), (2, 23), (0, 23), (0, 23), (1, 23), (1, 23), (2, 32), (2, 32), (2, 17), (0, 17), (0, 17), (1, 17), (1, 17)] <|
    xBf_b 4 (q.w2 : Int) true s2 fun _ =>
    ownsX [(5, 34), (2, 27), (0, 27), (0, 27), (1, 27), (1, 27), (2, 36), (2, 21), (0, 21), (0, 21), (1, 21), (1, 21)] <|
    xBf_c 4 (q.w3 : Int) s3 fun _ =>
    ownsX [(5, 38), (2, 31), (0, 31), (0, 31), (1, 31), (1, 31), (2, 40), (2, 25), (0, 25), (0, 25), (1, 25), (1, 25)] <|
    xBf_d 4 (q.w4 : Int) s4 fun _ =>
    xBs 3 [48, 16, 17, 18, 19, 12, 13, 14, 15, 8, 9, 10, 11, 4, 5, 6, 7, 0, 1, 2, 3] (spOf q s0 s2 s3 s4 true) fun _ =>
    ownsX [(5, 51), (0, 51)] <|
    xBy123 15 [0] <|
    ownsX [(6, 52)] <|
    xByAdd 3 #[1, 2, 3] (octs ns).toArray (by have := hp.len; have := H.ten; simp; omega) <|
    xByAdd 5 (#[1, 2, 3] ++ (octs ns).toArray) #[5] (by have := hp.len; have := H.ten; simp; omega) <|
    xAs 3 (datO (octs ns)) (H.job s0 s2 s3 s4 _ hp.len).sz fun _ =>
    ownsX [(5, 55), (0, 55), (5, 55), (1, 55)] <|
    xStp 3 [57, 58, 4, 5, 6, 7, 8, 9, 10, 27, 28, 29, 30, 23, 24, 25, 26, 19, 20, 21, 22, 15, 16, 17, 18, 11, 12, 13, 14, 0, 1, 2] (spOf q s0 s2 s3 s4 true) (octs ns) (datO (octs ns)) (H.job s0 s2 s3 s4 _ hp.len) fun _ =>
    ownsX [(5, 58), (0, 58), (16, 59), (2, 0), (1, 0)] <|
    xFbB 0 (octs ns).toArray (by have := hp.len; have := H.ten; simp; omega) <|
    ownsX [(4, 56)] <|
    xBin 2 "int.__mul__" ((8 : Nat) : Int) ((q.k + 1 : Nat) : Int) (((q.w0 + q.w1 + q.w2 + q.w3 + q.w4) : Nat) : Int) (mulN (by decide) (by have := H.sum; omega)) <|
    ownsX [(5, 0), (0, 0), (0, 0), (2, 0), (3, 0), (0, 0), (1, 0), (1, 0), (0, 0), (0, 1), (0, 0), (0, 0), (1, 0), (1, 0), (1, 0), (0, 0), (0, 1), (0, 0), (0, 0), (1, 0), (1, 0), (1, 0), (0, 0), (0, 1), (0, 0), (0, 0), (1, 0), (1, 0), (1, 0), (0, 0), (0, 1), (1, 0), (0, 0), (4, 0), (4, 64), (0, 64), (5, 64), (0, 64), (3, 60), (0, 60), (16, 0), (0, 0), (1, 0), (1, 0), (4, 0), (0, 0), (2, 0)] <|
    xRiter 0 [0] 5 (by decide) <|
    ownsX [(1, 0), (2, 0), (1, 0), (1, 0), (0, 0), (0, 0), (0, 0), (0, 0), (0, 0), (0, 0), (6, 66), (0, 66), (3, 66), (1, 64), (1, 66), (1, 57), (0, 57), (0, 57), (1, 57), (1, 57)] <|
    isY 5 ((((q.w0 + q.w1 + q.w2 + q.w3 + q.w4) : Nat) : Int) - (q.w0 : Int)) (((q.w1 + q.w2 + q.w3 + q.w4) : Nat) : Int) (subN (by omega)) <|
    ownsX [(5, 66), (0, 66), (3, 62), (1, 6), (0, 6), (0, 6), (0, 6), (2, 66), (2, 66)] <|
    xBin 2 "int.__pow__" 2 (((q.w1 + q.w2 + q.w3 + q.w4) : Nat) : Int) ((2 ^ (q.w1 + q.w2 + q.w3 + q.w4) : Nat) : Int) (fun _ => powC (by have := H.a0.2; have := H.a1.2; have := H.a2.2; have := H.a3.2; have := H.a4.2; omega) rfl) <|
    xBin 3 "int.__floordiv__" ((nb (octs ns) : Nat) : Int) ((2 ^ (q.w1 + q.w2 + q.w3 + q.w4) : Nat) : Int) ((nb (octs ns) / 2 ^ (q.w1 + q.w2 + q.w3 + q.w4) : Nat) : Int) (fun _ => divPC (by have := H.a0.2; have := H.a1.2; have := H.a2.2; have := H.a3.2; have := H.a4.2; omega) rfl) <|
    ownsX [(3, 64), (1, 66), (1, 57), (0, 57), (0, 57), (1, 57), (1, 57)] <|
    xBin 3 "int.__pow__" 2 (q.w0 : Int) ((2 ^ q.w0 : Nat) : Int) (fun _ => powC (by have := H.a0.2; have := H.a1.2; have := H.a2.2; have := H.a3.2; have := H.a4.2; omega) rfl) <|
    xBin 3 "int.__mod__" ((nb (octs ns) / 2 ^ (q.w1 + q.w2 + q.w3 + q.w4) : Nat) : Int) ((2 ^ q.w0 : Nat) : Int) ((part (nb (octs ns)) (q.w1 + q.w2 + q.w3 + q.w4) q.w0 : Nat) : Int) (fun _ => modPC rfl) <|
    ownsX [(3, 6), (1, 6), (0, 6), (0, 6), (4, 0), (1, 0), (1, 0), (0, 0), (0, 0), (0, 0), (0, 0), (0, 0), (0, 0), (6, 66), (0, 66), (3, 66), (1, 64), (1, 66), (1, 57), (0, 57), (0, 57), (1, 57), (1, 57)] <|
    isY 5 ((((q.w1 + q.w2 + q.w3 + q.w4) : Nat) : Int) - (q.w1 : Int)) (((q.w2 + q.w3 + q.w4) : Nat) : Int) (subN (by omega)) <|
    ownsX [(5, 66), (0, 66), (3, 62), (1, 6), (0, 6), (0, 6), (0, 6), (2, 66), (2, 66)] <|
    xBin 2 "int.__pow__" 2 (((q.w2 + q.w3 + q.w4) : Nat) : Int) ((2 ^ (q.w2 + q.w3 + q.w4) : Nat) : Int) (fun _ => powC (by have := H.a0.2; have := H.a1.2; have := H.a2.2; have := H.a3.2; have := H.a4.2; omega) rfl) <|
    xBin 3 "int.__floordiv__" ((nb (octs ns) : Nat) : Int) ((2 ^ (q.w2 + q.w3 + q.w4) : Nat) : Int) ((nb (octs ns) / 2 ^ (q.w2 + q.w3 + q.w4) : Nat) : Int) (fun _ => divPC (by have := H.a0.2; have := H.a1.2; have := H.a2.2; have := H.a3.2; have := H.a4.2; omega) rfl) <|
    ownsX [(3, 64), (1, 66), (1, 57), (0, 57), (0, 57), (1, 57), (1, 57)] <|
    xBin 3 "int.__pow__" 2 (q.w1 : Int) ((2 ^ q.w1 : Nat) : Int) (fun _ => powC (by have := H.a0.2; have := H.a1.2; have := H.a2.2; have := H.a3.2; have := H.a4.2; omega) rfl) <|
    xBin 3 "int.__mod__" ((nb (octs ns) / 2 ^ (q.w2 + q.w3 + q.w4) : Nat) : Int) ((2 ^ q.w1 : Nat) : Int) ((part (nb (octs ns)) (q.w2 + q.w3 + q.w4) q.w1 : Nat) : Int) (fun _ => modPC rfl) <|
    ownsX [(3, 6), (1, 6), (0, 6), (0, 6), (4, 0), (1, 0), (1, 0), (0, 0), (0, 0), (0, 0), (0, 0), (0, 0), (0, 0), (6, 66), (0, 66), (3, 66), (1, 64), (1, 66), (1, 57), (0, 57), (0, 57), (1, 57), (1, 57)] <|
    isY 5 ((((q.w2 + q.w3 + q.w4) : Nat) : Int) - (q.w2 : Int)) (((q.w3 + q.w4) : Nat) : Int) (subN (by omega)) <|
    ownsX [(5, 66), (0, 66), (3, 62), (1, 6), (0, 6), (0, 6), (0, 6), (2, 66), (2, 66)] <|
    xBin 2 "int.__pow__" 2 (((q.w3 + q.w4) : Nat) : Int) ((2 ^ (q.w3 + q.w4) : Nat) : Int) (fun _ => powC (by have := H.a0.2; have := H.a1.2; have := H.a2.2; have := H.a3.2; have := H.a4.2; omega) rfl) <|
    xBin 3 "int.__floordiv__" ((nb (octs ns) : Nat) : Int) ((2 ^ (q.w3 + q.w4) : Nat) : Int) ((nb (octs ns) / 2 ^ (q.w3 + q.w4) : Nat) : Int) (fun _ => divPC (by have := H.a0.2; have := H.a1.2; have := H.a2.2; have := H.a3.2; have := H.a4.2; omega) rfl) <|
    ownsX [(3, 64), (1, 66), (1, 57), (0, 57), (0, 57), (1, 57), (1, 57)] <|
    xBin 3 "int.__pow__" 2 (q.w2 : Int) ((2 ^ q.w2 : Nat) : Int) (fun _ => powC (by have := H.a0.2; have := H.a1.2; have := H.a2.2; have := H.a3.2; have := H.a4.2; omega) rfl) <|
    xBin 3 "int.__mod__" ((nb (octs ns) / 2 ^ (q.w3 + q.w4) : Nat) : Int) ((2 ^ q.w2 : Nat) : Int) ((part (nb (octs ns)) (q.w3 + q.w4) q.w2 : Nat) : Int) (fun _ => modPC rfl) <|
    ownsX [(3, 6), (1, 6), (0, 6), (0, 6), (4, 0), (1, 0), (1, 0), (0, 0), (0, 0), (0, 0), (0, 0), (0, 0), (0, 0), (6, 66), (0, 66), (3, 66), (1, 64), (1, 66), (1, 57), (0, 57), (0, 57), (1, 57), (1, 57)] <|
    isY 5 ((((q.w3 + q.w4) : Nat) : Int) - (q.w3 : Int)) ((q.w4 : Nat) : Int) (subN (by omega)) <|
    ownsX [(5, 66), (0, 66), (3, 62), (1, 6), (0, 6), (0, 6), (0, 6), (2, 66), (2, 66)] <|
    xBin 2 "int.__pow__" 2 ((q.w4 : Nat) : Int) ((2 ^ q.w4 : Nat) : Int) (fun _ => powC (by have := H.a0.2; have := H.a1.2; have := H.a2.2; have := H.a3.2; have := H.a4.2; omega) rfl) <|
    xBin 3 "int.__floordiv__" ((nb (octs ns) : Nat) : Int) ((2 ^ q.w4 : Nat) : Int) ((nb (octs ns) / 2 ^ q.w4 : Nat) : Int) (fun _ => divPC (by have := H.a0.2; have := H.a1.2; have := H.a2.2; have := H.a3.2; have := H.a4.2; omega) rfl) <|
    ownsX [(3, 64), (1, 66), (1, 57), (0, 57), (0, 57), (1, 57), (1, 57)] <|
    xBin 3 "int.__pow__" 2 (q.w3 : Int) ((2 ^ q.w3 : Nat) : Int) (fun _ => powC (by have := H.a0.2; have := H.a1.2; have := H.a2.2; have := H.a3.2; have := H.a4.2; omega) rfl) <|
    xBin 3 "int.__mod__" ((nb (octs ns) / 2 ^ q.w4 : Nat) : Int) ((2 ^ q.w3 : Nat) : Int) ((part (nb (octs ns)) q.w4 q.w3 : Nat) : Int) (fun _ => modPC rfl) <|
    ownsX [(3, 6), (1, 6), (0, 6), (0, 6), (4, 0), (1, 0), (1, 0), (0, 0), (0, 0), (0, 0), (0, 0), (0, 0), (0, 0), (6, 66), (0, 66), (3, 66), (1, 64), (1, 66), (1, 57), (0, 57), (0, 57), (1, 57), (1, 57)] <|
    isY 5 (((q.w4 : Nat) : Int) - (q.w4 : Int)) ((0 : Nat) : Int) (subN (by omega)) <|
    ownsX [(5, 66), (0, 66), (3, 62), (1, 6), (0, 6), (0, 6), (0, 6), (2, 66), (2, 66)] <|
    xBin 2 "int.__pow__" 2 ((0 : Nat) : Int) ((2 ^ 0 : Nat) : Int) (fun _ => powC (by have := H.a0.2; have := H.a1.2; have := H.a2.2; have := H.a3.2; have := H.a4.2; omega) rfl) <|
    xBin 3 "int.__floordiv__" ((nb (octs ns) : Nat) : Int) ((2 ^ 0 : Nat) : Int) ((nb (octs ns) / 2 ^ 0 : Nat) : Int) (fun _ => divPC (by have := H.a0.2; have := H.a1.2; have := H.a2.2; have := H.a3.2; have := H.a4.2; omega) rfl) <|
    ownsX [(3, 64), (1, 66), (1, 57), (0, 57), (0, 57), (1, 57), (1, 57)] <|
    xBin 3 "int.__pow__" 2 (q.w4 : Int) ((2 ^ q.w4 : Nat) : Int) (fun _ => powC (by have := H.a0.2; have := H.a1.2; have := H.a2.2; have := H.a3.2; have := H.a4.2; omega) rfl) <|
    xBin 3 "int.__mod__" ((nb (octs ns) / 2 ^ 0 : Nat) : Int) ((2 ^ q.w4 : Nat) : Int) ((part (nb (octs ns)) 0 q.w4 : Nat) : Int) (fun _ => modPC rfl) <|
    ownsX [(3, 6), (1, 6), (0, 6), (0, 6), (4, 0), (1, 0), (1, 0), (0, 0), (0, 0), (5, 0), (20, 0), (0, 0), (1, 0), (1, 0), (4, 0), (0, 0), (2, 0)] <|
    xRiter 0 [0] 5 (by decide) <|
    ownsX [(1, 0), (6, 2), (1, 2), (1, 2), (0, 2), (0, 2), (0, 2), (0, 2), (0, 2), (0, 2), (6, 0), (0, 0), (2, 68), (1, 0), (1, 12), (0, 12), (0, 12), (1, 12), (1, 12), (4, 69)] <|
    xBin 2 "int.__mul__" ((8 : Nat) : Int) ((q.k + 1 : Nat) : Int) (((q.w0 + q.w1 + q.w2 + q.w3 + q.w4) : Nat) : Int) (mulN (by decide) (by have := H.sum; omega)) <|
    ownsX [(5, 70), (1, 0), (8, 64), (0, 64), (0, 64), (1, 64), (1, 0), (0, 0), (0, 0), (0, 0), (0, 0), (0, 64)] <|
    xSum 4 [0] [q.w0] <|
    isY 5 ((((q.w0 + q.w1 + q.w2 + q.w3 + q.w4) : Nat) : Int) - ((sumN [q.w0] : Nat) : Int)) (((q.w1 + q.w2 + q.w3 + q.w4) : Nat) : Int) (subN (by simp only [sumN]; omega)) <|
    xBin 3 "int.__pow__" 2 (((q.w1 + q.w2 + q.w3 + q.w4) : Nat) : Int) ((2 ^ (q.w1 + q.w2 + q.w3 + q.w4) : Nat) : Int) (fun _ => powC (by have := H.a0.2; have := H.a1.2; have := H.a2.2; have := H.a3.2; have := H.a4.2; omega) rfl) <|
    xBin 3 "int.__mul__" ((part (nb (octs ns)) (q.w1 + q.w2 + q.w3 + q.w4) q.w0 : Nat) : Int) ((2 ^ (q.w1 + q.w2 + q.w3 + q.w4) : Nat) : Int) ((part (nb (octs ns)) (q.w1 + q.w2 + q.w3 + q.w4) q.w0 * 2 ^ (q.w1 + q.w2 + q.w3 + q.w4) : Nat) : Int) (mulN (part64 H.a0.2) rfl) <|
    ownsX [(2, 3), (1, 3), (0, 3), (0, 3), (3, 4), (1, 4), (1, 4), (0, 4), (0, 4), (0, 4), (0, 4), (0, 4), (0, 4), (6, 2), (0, 2), (2, 70), (1, 2), (1, 14), (0, 14), (0, 14), (1, 14), (1, 14), (4, 71)] <|
    xBin 2 "int.__mul__" ((8 : Nat) : Int) ((q.k + 1 : Nat) : Int) (((q.w0 + q.w1 + q.w2 + q.w3 + q.w4) : Nat) : Int) (mulN (by decide) (by have := H.sum; omega)) <|
    ownsX [(5, 72), (1, 2), (8, 66), (0, 66), (0, 66), (1, 66), (1, 0), (0, 0), (0, 0), (0, 0), (0, 0), (0, 66)] <|
    xSum 4 [0] [q.w0, q.w1] <|
    isY 5 ((((q.w0 + q.w1 + q.w2 + q.w3 + q.w4) : Nat) : Int) - ((sumN [q.w0, q.w1] : Nat) : Int)) (((q.w2 + q.w3 + q.w4) : Nat) : Int) (subN (by simp only [sumN]; omega)) <|
    xBin 3 "int.__pow__" 2 (((q.w2 + q.w3 + q.w4) : Nat) : Int) ((2 ^ (q.w2 + q.w3 + q.w4) : Nat) : Int) (fun _ => powC (by have := H.a0.2; have := H.a1.2; have := H.a2.2; have := H.a3.2; have := H.a4.2; omega) rfl) <|
    xBin 3 "int.__mul__" ((part (nb (octs ns)) (q.w2 + q.w3 + q.w4) q.w1 : Nat) : Int) ((2 ^ (q.w2 + q.w3 + q.w4) : Nat) : Int) ((part (nb (octs ns)) (q.w2 + q.w3 + q.w4) q.w1 * 2 ^ (q.w2 + q.w3 + q.w4) : Nat) : Int) (mulN (part64 H.a1.2) rfl) <|
    ownsX [(2, 5), (1, 5), (0, 5), (0, 5), (3, 6), (1, 6), (1, 6), (0, 6), (0, 6), (0, 6), (0, 6), (0, 6), (0, 6), (6, 4), (0, 4), (2, 72), (1, 4), (1, 16), (0, 16), (0, 16), (1, 16), (1, 16), (4, 73)] <|
    xBin 2 "int.__mul__" ((8 : Nat) : Int) ((q.k + 1 : Nat) : Int) (((q.w0 + q.w1 + q.w2 + q.w3 + q.w4) : Nat) : Int) (mulN (by decide) (by have := H.sum; omega)) <|
    ownsX [(5, 74), (1, 4), (8, 68), (0, 68), (0, 68), (1, 68), (1, 0), (0, 0), (0, 0), (0, 0), (0, 0), (0, 68)] <|
    xSum 4 [0] [q.w0, q.w1, q.w2] <|
    isY 5 ((((q.w0 + q.w1 + q.w2 + q.w3 + q.w4) : Nat) : Int) - ((sumN [q.w0, q.w1, q.w2] : Nat) : Int)) (((q.w3 + q.w4) : Nat) : Int) (subN (by simp only [sumN]; omega)) <|
    xBin 3 "int.__pow__" 2 (((q.w3 + q.w4) : Nat) : Int) ((2 ^ (q.w3 + q.w4) : Nat) : Int) (fun _ => powC (by have := H.a0.2; have := H.a1.2; have := H.a2.2; have := H.a3.2; have := H.a4.2; omega) rfl) <|
    xBin 3 "int.__mul__" ((part (nb (octs ns)) (q.w3 + q.w4) q.w2 : Nat) : Int) ((2 ^ (q.w3 + q.w4) : Nat) : Int) ((part (nb (octs ns)) (q.w3 + q.w4) q.w2 * 2 ^ (q.w3 + q.w4) : Nat) : Int) (mulN (part64 H.a2.2) rfl) <|
    ownsX [(2, 7), (1, 7), (0, 7), (0, 7), (3, 8), (1, 8), (1, 8), (0, 8), (0, 8), (0, 8), (0, 8), (0, 8), (0, 8), (6, 6), (0, 6), (2, 74), (1, 6), (1, 18), (0, 18), (0, 18), (1, 18), (1, 18), (4, 75)] <|
    xBin 2 "int.__mul__" ((8 : Nat) : Int) ((q.k + 1 : Nat) : Int) (((q.w0 + q.w1 + q.w2 + q.w3 + q.w4) : Nat) : Int) (mulN (by decide) (by have := H.sum; omega)) <|
    ownsX [(5, 76), (1, 6), (8, 70), (0, 70), (0, 70), (1, 70), (1, 0), (0, 0), (0, 0), (0, 0), (0, 0), (0, 70)] <|
    xSum 4 [0] [q.w0, q.w1, q.w2, q.w3] <|
    isY 5 ((((q.w0 + q.w1 + q.w2 + q.w3 + q.w4) : Nat) : Int) - ((sumN [q.w0, q.w1, q.w2, q.w3] : Nat) : Int)) ((q.w4 : Nat) : Int) (subN (by simp only [sumN]; omega)) <|
    xBin 3 "int.__pow__" 2 ((q.w4 : Nat) : Int) ((2 ^ q.w4 : Nat) : Int) (fun _ => powC (by have := H.a0.2; have := H.a1.2; have := H.a2.2; have := H.a3.2; have := H.a4.2; omega) rfl) <|
    xBin 3 "int.__mul__" ((part (nb (octs ns)) q.w4 q.w3 : Nat) : Int) ((2 ^ q.w4 : Nat) : Int) ((part (nb (octs ns)) q.w4 q.w3 * 2 ^ q.w4 : Nat) : Int) (mulN (part64 H.a3.2) rfl) <|
    ownsX [(2, 9), (1, 9), (0, 9), (0, 9), (3, 10), (1, 10), (1, 10), (0, 10), (0, 10), (0, 10), (0, 10), (0, 10), (0, 10), (6, 8), (0, 8), (2, 76), (1, 8), (1, 20), (0, 20), (0, 20), (1, 20), (1, 20), (4, 77)] <|
    xBin 2 "int.__mul__" ((8 : Nat) : Int) ((q.k + 1 : Nat) : Int) (((q.w0 + q.w1 + q.w2 + q.w3 + q.w4) : Nat) : Int) (mulN (by decide) (by have := H.sum; omega)) <|
    ownsX [(5, 78), (1, 8), (8, 72), (0, 72), (0, 72), (1, 72), (1, 0), (0, 0), (0, 0), (0, 0), (0, 0), (0, 72)] <|
    xSum 4 [0] [q.w0, q.w1, q.w2, q.w3, q.w4] <|
    isY 5 ((((q.w0 + q.w1 + q.w2 + q.w3 + q.w4) : Nat) : Int) - ((sumN [q.w0, q.w1, q.w2, q.w3, q.w4] : Nat) : Int)) ((0 : Nat) : Int) (subN (by simp only [sumN]; omega)) <|
    xBin 3 "int.__pow__" 2 ((0 : Nat) : Int) ((2 ^ 0 : Nat) : Int) (fun _ => powC (by have := H.a0.2; have := H.a1.2; have := H.a2.2; have := H.a3.2; have := H.a4.2; omega) rfl) <|
    xBin 3 "int.__mul__" ((part (nb (octs ns)) 0 q.w4 : Nat) : Int) ((2 ^ 0 : Nat) : Int) ((part (nb (octs ns)) 0 q.w4 * 2 ^ 0 : Nat) : Int) (mulN (part64 H.a4.2) rfl) <|
    ownsX [(2, 11), (1, 11), (0, 11), (0, 11), (3, 12), (1, 12), (1, 12), (0, 12), (0, 12), (5, 0), (1, 12), (1, 12), (0, 12)] <|
    xSum 2 [13] [part (nb (octs ns)) (q.w1 + q.w2 + q.w3 + q.w4) q.w0 * 2 ^ (q.w1 + q.w2 + q.w3 + q.w4), part (nb (octs ns)) (q.w2 + q.w3 + q.w4) q.w1 * 2 ^ (q.w2 + q.w3 + q.w4), part (nb (octs ns)) (q.w3 + q.w4) q.w2 * 2 ^ (q.w3 + q.w4), part (nb (octs ns)) q.w4 q.w3 * 2 ^ q.w4, part (nb (octs ns)) 0 q.w4 * 2 ^ 0] <|
    ownsX [(2, 84)] <|
    isX 4 (((sumN [part (nb (octs ns)) (q.w1 + q.w2 + q.w3 + q.w4) q.w0 * 2 ^ (q.w1 + q.w2 + q.w3 + q.w4), part (nb (octs ns)) (q.w2 + q.w3 + q.w4) q.w1 * 2 ^ (q.w2 + q.w3 + q.w4), part (nb (octs ns)) (q.w3 + q.w4) q.w2 * 2 ^ (q.w3 + q.w4), part (nb (octs ns)) q.w4 q.w3 * 2 ^ q.w4, part (nb (octs ns)) 0 q.w4 * 2 ^ 0] : Nat) : Int) != ((nb (octs ns) : Nat) : Int)) false (H.whole _ hp.len) <|
    ownsX [(6, 80)] <|
    ownsX [(8, 0), (0, 0), (1, 0)] <|
    xLin 0 [0, 25] <|
    ownsX [(7, 85), (0, 85), (3, 85), (15, 82), (2, 26), (0, 26), (0, 26), (1, 26), (1, 26), (4, 84), (2, 77), (0, 77), (0, 77), (1, 77), (1, 77)] <|
    xBin 4 "int.__floordiv__" (q.w2 : Int) 8 ((q.w2 / 8 : Nat) : Int) (div8 rfl) <|
    xTb 4 (part (nb (octs ns)) (q.w3 + q.w4) q.w2) (q.w2 / 8) (by have := swK (H.tn rfl); omega) (part256 (H.tn rfl)) fun b =>
    ownsX [(4, 0), (1, 0)] <|
    xFbL 0 b.1 (tbsz b.2 (swK (H.tn rfl))) (due2 true q.w2 (part (nb (octs ns)) (q.w3 + q.w4) q.w2)) (tb_n _ _ _ (swK (H.tn rfl)) (part256 (H.tn rfl)) b.2) <|
    ownsX [(3, 86), (2, 1), (0, 1), (1, 1), (1, 1), (0, 1), (0, 1), (9, 0), (0, 0), (2, 0), (3, 0)] <|
    xSg 0 [88, 0, 1, 86, 79, 73, 3] q.w0 q.w1 q.w2 q.w3 q.w4 s0 s1 s2 s3 s4 ((part (nb (octs ns)) (q.w2 + q.w3 + q.w4) q.w1 : Nat) : Int) (part (nb (octs ns)) (q.w1 + q.w2 + q.w3 + q.w4) q.w0) (due2 true q.w2 (part (nb (octs ns)) (q.w3 + q.w4) q.w2)) (part (nb (octs ns)) q.w4 q.w3) (part (nb (octs ns)) 0 q.w4) ⟨H.a0.1, by have := H.a0.2; have := H.a1.2; have := H.a2.2; have := H.a3.2; have := H.a4.2; omega⟩ ⟨H.a2.1, by have := H.a0.2; have := H.a1.2; have := H.a2.2; have := H.a3.2; have := H.a4.2; omega⟩ ⟨H.a3.1, by have := H.a0.2; have := H.a1.2; have := H.a2.2; have := H.a3.2; have := H.a4.2; omega⟩ ⟨H.a4.1, by have := H.a0.2; have := H.a1.2; have := H.a2.2; have := H.a3.2; have := H.a4.2; omega⟩ <|
    ownsX [(3, 88), (2, 30), (5, 30), (10, 0), (0, 0), (2, 0), (0, 0)] <|
    ownsX [(6, 0), (2, 31), (4, 31), (3, 31), (0, 31), (1, 32), (3, 0), (1, 33), (0, 33), (0, 33), (1, 33)] <|
    xGet 0 0 [33] <|
    ownsX [(6, 89), (2, 31), (5, 31), (10, 0), (0, 0), (2, 0), (0, 0)] <|
    ownsX [(6, 0), (2, 32), (4, 32), (3, 32), (0, 32), (1, 33), (3, 0), (1, 34), (0, 34), (0, 34), (1, 34)] <|
    xGet 1 0 [34] <|
    ownsX [(6, 90), (2, 32), (5, 32), (10, 0), (0, 0), (2, 0), (0, 0)] <|
    ownsX [(6, 0), (2, 33), (4, 33), (3, 33), (0, 33), (1, 34), (3, 0), (1, 35), (0, 35), (0, 35), (1, 35)] <|
    xGet 2 0 [35] <|
    ownsX [(6, 91), (2, 33), (5, 33), (10, 0), (0, 0), (2, 0), (0, 0)] <|
    ownsX [(6, 0), (2, 34), (4, 34), (3, 34), (0, 34), (1, 35), (3, 0), (1, 36), (0, 36), (0, 36), (1, 36)] <|
    xGet 3 0 [36] <|
    ownsX [(8, 93), (2, 8), (0, 8), (0, 8), (1, 8), (1, 8), (2, 93), (2, 8), (0, 8), (0, 8), (1, 8), (1, 8), (2, 93), (2, 8), (0, 8), (0, 8), (1, 8), (1, 8), (2, 93), (2, 8), (0, 8), (0, 8), (1, 8), (1, 8)] <|
    ownsX [(4, 1), (0, 0), (0, 1), (2, 1), (1, 0), (0, 1), (0, 0)] <|
    xEqI 0 [1, 0] _ _ (H.told s0 s2 s3 s4 (octs ns) hp.len) <|
    ownsX [(4, 94), (1, 43), (7, 43), (7, 43), (8, 43), (0, 44)] <|
    cCsz 3 [97, 43, 44, 45, 46, 47, 48, 49, 66, 67, 68, 69, 62, 63, 64, 65, 58, 59, 60, 61, 54, 55, 56, 57, 50, 51, 52, 53] (spOf q s0 s2 s3 s4 true) (octs ns).length (H.job s0 s2 s3 s4 _ hp.len).fits <|
    ownsX [(2, 91)] <|
    isX 4 ((((octs ns).length : Nat) : Int) == ((q.k + 1 : Nat) : Int)) true (by rw [hp.len]; exact beq_self_eq_true _) <|
    ownsX [(3, 94), (1, 39), (7, 39), (7, 39), (4, 39), (0, 40)] <|
    xTell 3 [39, 40, 41] (datO (octs ns)) (3 + (octs ns).length) <|
    ownsX [(3, 91)] <|
    isX 9 (((3 + (octs ns).length : Nat) : Int) == ((3 + (q.k + 1) : Nat) : Int)) true (by rw [hp.len]; exact beq_self_eq_true _) <|
    ownsX [(6, 94), (1, 36), (3, 36), (3, 36), (4, 36), (0, 37), (9, 0), (0, 0)] <|
    ownsX [(6, 0), (2, 37), (4, 37), (3, 37), (0, 37), (1, 38), (3, 39), (0, 39), (0, 39), (0, 39), (3, 39)] <|
    xKeys 0 [39] <|
    xSort 5 [0, 40] <|
    ownsX [(9, 1), (0, 0), (0, 1), (2, 1), (1, 0), (0, 1), (0, 0)] <|
    xEqS 0 [1, 0] [S "a", S "b", S "c", S "d"] <|
    .fin 2 (fun _ T => (fldA (objAt T 106), fldA (objAt T 107), fldA (objAt T 108))) [105, 106, 107, 108] []
def tlT2 (xs : Array Value) (e' : Nat) (S : Scr xs) (q : Lw) (H : LwP q true) (s0 s1 s2 s3 s4 : Bool) : Hx prog (wr w b1 true) (kt w.params) (Array Value × Array Value × Array Value) :=
    xSum 1 [9] [q.w0, q.w1, q.w2, q.w3, q.w4] <|
    xBin 4 "int.__floordiv__" ((sumN [q.w0, q.w1, q.w2, q.w3, q.w4] : Nat) : Int) 8 ((q.k + 1 : Nat) : Int) (div8 H.siz) <|
    ownsX [(3, 15), (0, 15), (9, 15), (10, 0), (0, 0), (1, 0), (1, 0), (4, 0), (0, 0), (2, 0)] <|
    xRiter 0 [0] (q.k + 1) (by have := H.ten; omega) <|
    ownsX [(1, 0)] <|
    xDs 2 [0, 2, 1, 21, 16, 17] xs e' q.k S (by have := H.ten; omega) fun dc =>
    ownsX [(0, 2), (1, 2), (0, 2)] <|
    tlT3 q H s0 s1 s2 s3 s4 dc.1.vs dc.1.ns dc.1.e dc.2
def tlT (xs : Array Value) (e' : Nat) (S : Scr xs) (w0 w1 w2 w3 : Nat) (h0 : Wd w0) (h1 : Wd w1) (h2 : Wd w2) (h3 : Wd w3) (ht : w2 = 8 ∨ w2 = 16) : Hx prog (wr w b1 true) (kt w.params) (Array Value × Array Value × Array Value) :=
    ownsX [(1, 0), (7, 2), (1, 2), (1, 2), (0, 2), (0, 2), (0, 2), (0, 2), (0, 2), (0, 2), (6, 0), (0, 0), (4, 15)] <|
    xTake 3 [10, 11] xs e' S 1 (by decide) fun p0 =>
    isX 6 ((p0.v : Int) == 1) (p0.v == 1) (eq1 p0.v) <|
    ownsX [(2, 1), (1, 1), (0, 1), (0, 1), (3, 2), (1, 2), (1, 2), (0, 2), (0, 2), (0, 2), (0, 2), (0, 2), (0, 2), (6, 0), (0, 0), (4, 15)] <|
    xTake 3 [10, 11] xs e' S 1 (by decide) fun p1 =>
    isX 6 ((p1.v : Int) == 1) (p1.v == 1) (eq1 p1.v) <|
    ownsX [(2, 1), (1, 1), (0, 1), (0, 1), (3, 2), (1, 2), (1, 2), (0, 2), (0, 2), (0, 2), (0, 2), (0, 2), (0, 2), (6, 0), (0, 0), (4, 15)] <|
    xTake 3 [10, 11] xs e' S 1 (by decide) fun p2 =>
    isX 6 ((p2.v : Int) == 1) (p2.v == 1) (eq1 p2.v) <|
    ownsX [(2, 1), (1, 1), (0, 1), (0, 1), (3, 2), (1, 2), (1, 2), (0, 2), (0, 2), (0, 2), (0, 2), (0, 2), (0, 2), (6, 0), (0, 0), (4, 15)] <|
    xTake 3 [10, 11] xs e' S 1 (by decide) fun p3 =>
    isX 6 ((p3.v : Int) == 1) (p3.v == 1) (eq1 p3.v) <|
    ownsX [(2, 1), (1, 1), (0, 1), (0, 1), (3, 2), (1, 2), (1, 2), (0, 2), (0, 2), (0, 2), (0, 2), (0, 2), (0, 2), (6, 0), (0, 0), (4, 15)] <|
    xTake 3 [10, 11] xs e' S 1 (by decide) fun p4 =>
    isX 6 ((p4.v : Int) == 1) (p4.v == 1) (eq1 p4.v) <|
    ownsX [(2, 1), (1, 1), (0, 1), (0, 1), (3, 2), (1, 2), (1, 2), (0, 2), (0, 2), (5, 0), (6, 18), (0, 18), (1, 2), (1, 2), (0, 2), (3, 16), (1, 9), (0, 9), (0, 9), (0, 9), (6, 16)] <|
    xSum 1 [9] [w0, w1, w2, w3] <|
    xBin 4 "int.__mod__" (((sumN [w0, w1, w2, w3]) : Nat) : Int) 8 (((sumN [w0, w1, w2, w3]) % 8 : Nat) : Int) (mod8 rfl) <|
    isY 5 (8 - (((sumN [w0, w1, w2, w3]) % 8 : Nat) : Int)) ((8 - (sumN [w0, w1, w2, w3]) % 8 : Nat) : Int) (by omega) <|
    ownsX [(5, 17)] <|
    xTake 3 [12, 13] xs e' S 1 (by decide) fun p5 =>
    xBin 3 "int.__mul__" ((8 : Nat) : Int) (p5.v : Int) ((8 * p5.v : Nat) : Int) (mulN (by decide) rfl) <|
    ownsX [(8, 9), (1, 9), (0, 9), (0, 9), (7, 16)] <|
    tlT2 xs e' S (lwOf w0 w1 w2 w3 p5.v) (lwOf_ok w0 w1 w2 w3 p5.v h0 h1 h2 h3 (fun _ => ht) (by have := p5.hv; omega)) (p0.v == 1) (p1.v == 1) (p2.v == 1) (p3.v == 1) (p4.v == 1)

def tlF3 (q : Lw) (H : LwP q false) (s0 s1 s2 s3 s4 : Bool) (vs : List Value) (ns : List Int) (e : Nat) (hp : DcP (q.k + 1) vs ns) : Hx prog (wr w b1 true) (kt w.params) (Array Value × Array Value × Array Value) :=
    xByNew 4 [3] vs e ns (octs ns).toArray hp.1 hp.2.1 (by rw [hp.2.2.2, sizeLine_eq]; have := H.ten; omega) rfl <|
    ownsX [(9, 24), (0, 24), (9, 22), (2, 15), (0, 15), (0, 15), (1, 15), (1, 15), (2, 24), (2, 9), (0, 9), (0, 9), (1, 9), (1, 9)] <|
    xBf_a 4 (q.w0 : Int) s0 fun _ =>
    ownsX [(4, 26), (2, 19), (0, 19), (0, 19), (1, 19), (1, 19)] <|
    xPad 3 (q.w1 : Int) fun _ =>
    ownsX [(5, 30), (2, 23), (0, 23), (0, 23), (1, 23), (1, 23), (2, 32), (2, 32), (2, 17), (0, 17), (0, 17), (1, 17), (1, 17)] <|
    xBf_b 4 (q.w2 : Int) false s2 fun _ =>
    ownsX [(5, 34), (2, 27), (0, 27), (0, 27), (1, 27), (1, 27), (2, 36), (2, 21), (0, 21), (0, 21), (1, 21), (1, 21)] <|
    xBf_c 4 (q.w3 : Int) s3 fun _ =>
    ownsX [(5, 38), (2, 31), (0, 31), (0, 31), (1, 31), (1, 31), (2, 40), (2, 25), (0, 25), (0, 25), (1, 25), (1, 25)] <|
    xBf_d 4 (q.w4 : Int) s4 fun _ =>
    xBs 3 [48, 16, 17, 18, 19, 12, 13, 14, 15, 8, 9, 10, 11, 4, 5, 6, 7, 0, 1, 2, 3] (spOf q s0 s2 s3 s4 false) fun _ =>
    ownsX [(5, 51), (0, 51)] <|
    xBy123 15 [0] <|
    ownsX [(6, 52)] <|
    xByAdd 3 #[1, 2, 3] (octs ns).toArray (by have := hp.len; have := H.ten; simp; omega) <|
    xByAdd 5 (#[1, 2, 3] ++ (octs ns).toArray) #[5] (by have := hp.len; have := H.ten; simp; omega) <|
    xAs 3 (datO (octs ns)) (H.job s0 s2 s3 s4 _ hp.len).sz fun _ =>
    ownsX [(5, 55), (0, 55), (5, 55), (1, 55)] <|
    xStp 3 [57, 58, 4, 5, 6, 7, 8, 9, 10, 27, 28, 29, 30, 23, 24, 25, 26, 19, 20, 21, 22, 15, 16, 17, 18, 11, 12, 13, 14, 0, 1, 2] (spOf q s0 s2 s3 s4 false) (octs ns) (datO (octs ns)) (H.job s0 s2 s3 s4 _ hp.len) fun _ =>
    ownsX [(5, 58), (0, 58), (16, 59), (2, 0), (1, 0)] <|
    xFbB 0 (octs ns).toArray (by have := hp.len; have := H.ten; simp; omega) <|
    ownsX [(4, 56)] <|
    xBin 2 "int.__mul__" ((8 : Nat) : Int) ((q.k + 1 : Nat) : Int) (((q.w0 + q.w1 + q.w2 + q.w3 + q.w4) : Nat) : Int) (mulN (by decide) (by have := H.sum; omega)) <|
    ownsX [(5, 0), (0, 0), (0, 0), (2, 0), (3, 0), (0, 0), (1, 0), (1, 0), (0, 0), (0, 1), (0, 0), (0, 0), (1, 0), (1, 0), (1, 0), (0, 0), (0, 1), (0, 0), (0, 0), (1, 0), (1, 0), (1, 0), (0, 0), (0, 1), (0, 0), (0, 0), (1, 0), (1, 0), (1, 0), (0, 0), (0, 1), (1, 0), (0, 0), (4, 0), (4, 64), (0, 64), (5, 64), (0, 64), (3, 60), (0, 60), (16, 0), (0, 0), (1, 0), (1, 0), (4, 0), (0, 0), (2, 0)] <|
    xRiter 0 [0] 5 (by decide) <|
    ownsX [(1, 0), (2, 0), (1, 0), (1, 0), (0, 0), (0, 0), (0, 0), (0, 0), (0, 0), (0, 0), (6, 66), (0, 66), (3, 66), (1, 64), (1, 66), (1, 57), (0, 57), (0, 57), (1, 57), (1, 57)] <|
    isY 5 ((((q.w0 + q.w1 + q.w2 + q.w3 + q.w4) : Nat) : Int) - (q.w0 : Int)) (((q.w1 + q.w2 + q.w3 + q.w4) : Nat) : Int) (subN (by omega)) <|
    ownsX [(5, 66), (0, 66), (3, 62), (1, 6), (0, 6), (0, 6), (0, 6), (2, 66), (2, 66)] <|
    xBin 2 "int.__pow__" 2 (((q.w1 + q.w2 + q.w3 + q.w4) : Nat) : Int) ((2 ^ (q.w1 + q.w2 + q.w3 + q.w4) : Nat) : Int) (fun _ => powC (by have := H.a0.2; have := H.a1.2; have := H.a2.2; have := H.a3.2; have := H.a4.2; omega) rfl) <|
    xBin 3 "int.__floordiv__" ((nb (octs ns) : Nat) : Int) ((2 ^ (q.w1 + q.w2 + q.w3 + q.w4) : Nat) : Int) ((nb (octs ns) / 2 ^ (q.w1 + q.w2 + q.w3 + q.w4) : Nat) : Int) (fun _ => divPC (by have := H.a0.2; have := H.a1.2; have := H.a2.2; have := H.a3.2; have := H.a4.2; omega) rfl) <|
    ownsX [(3, 64), (1, 66), (1, 57), (0, 57), (0, 57), (1, 57), (1, 57)] <|
    xBin 3 "int.__pow__" 2 (q.w0 : Int) ((2 ^ q.w0 : Nat) : Int) (fun _ => powC (by have := H.a0.2; have := H.a1.2; have := H.a2.2; have := H.a3.2; have := H.a4.2; omega) rfl) <|
    xBin 3 "int.__mod__" ((nb (octs ns) / 2 ^ (q.w1 + q.w2 + q.w3 + q.w4) : Nat) : Int) ((2 ^ q.w0 : Nat) : Int) ((part (nb (octs ns)) (q.w1 + q.w2 + q.w3 + q.w4) q.w0 : Nat) : Int) (fun _ => modPC rfl) <|
    ownsX [(3, 6), (1, 6), (0, 6), (0, 6), (4, 0), (1, 0), (1, 0), (0, 0), (0, 0), (0, 0), (0, 0), (0, 0), (0, 0), (6, 66), (0, 66), (3, 66), (1, 64), (1, 66), (1, 57), (0, 57), (0, 57), (1, 57), (1, 57)] <|
    isY 5 ((((q.w1 + q.w2 + q.w3 + q.w4) : Nat) : Int) - (q.w1 : Int)) (((q.w2 + q.w3 + q.w4) : Nat) : Int) (subN (by omega)) <|
    ownsX [(5, 66), (0, 66), (3, 62), (1, 6), (0, 6), (0, 6), (0, 6), (2, 66), (2, 66)] <|
    xBin 2 "int.__pow__" 2 (((q.w2 + q.w3 + q.w4) : Nat) : Int) ((2 ^ (q.w2 + q.w3 + q.w4) : Nat) : Int) (fun _ => powC (by have := H.a0.2; have := H.a1.2; have := H.a2.2; have := H.a3.2; have := H.a4.2; omega) rfl) <|
    xBin 3 "int.__floordiv__" ((nb (octs ns) : Nat) : Int) ((2 ^ (q.w2 + q.w3 + q.w4) : Nat) : Int) ((nb (octs ns) / 2 ^ (q.w2 + q.w3 + q.w4) : Nat) : Int) (fun _ => divPC (by have := H.a0.2; have := H.a1.2; have := H.a2.2; have := H.a3.2; have := H.a4.2; omega) rfl) <|
    ownsX [(3, 64), (1, 66), (1, 57), (0, 57), (0, 57), (1, 57), (1, 57)] <|
    xBin 3 "int.__pow__" 2 (q.w1 : Int) ((2 ^ q.w1 : Nat) : Int) (fun _ => powC (by have := H.a0.2; have := H.a1.2; have := H.a2.2; have := H.a3.2; have := H.a4.2; omega) rfl) <|
    xBin 3 "int.__mod__" ((nb (octs ns) / 2 ^ (q.w2 + q.w3 + q.w4) : Nat) : Int) ((2 ^ q.w1 : Nat) : Int) ((part (nb (octs ns)) (q.w2 + q.w3 + q.w4) q.w1 : Nat) : Int) (fun _ => modPC rfl) <|
    ownsX [(3, 6), (1, 6), (0, 6), (0, 6), (4, 0), (1, 0), (1, 0), (0, 0), (0, 0), (0, 0), (0, 0), (0, 0), (0, 0), (6, 66), (0, 66), (3, 66), (1, 64), (1, 66), (1, 57), (0, 57), (0, 57), (1, 57), (1, 57)] <|
    isY 5 ((((q.w2 + q.w3 + q.w4) : Nat) : Int) - (q.w2 : Int)) (((q.w3 + q.w4) : Nat) : Int) (subN (by omega)) <|
    ownsX [(5, 66), (0, 66), (3, 62), (1, 6), (0, 6), (0, 6), (0, 6), (2, 66), (2, 66)] <|
    xBin 2 "int.__pow__" 2 (((q.w3 + q.w4) : Nat) : Int) ((2 ^ (q.w3 + q.w4) : Nat) : Int) (fun _ => powC (by have := H.a0.2; have := H.a1.2; have := H.a2.2; have := H.a3.2; have := H.a4.2; omega) rfl) <|
    xBin 3 "int.__floordiv__" ((nb (octs ns) : Nat) : Int) ((2 ^ (q.w3 + q.w4) : Nat) : Int) ((nb (octs ns) / 2 ^ (q.w3 + q.w4) : Nat) : Int) (fun _ => divPC (by have := H.a0.2; have := H.a1.2; have := H.a2.2; have := H.a3.2; have := H.a4.2; omega) rfl) <|
    ownsX [(3, 64), (1, 66), (1, 57), (0, 57), (0, 57), (1, 57), (1, 57)] <|
    xBin 3 "int.__pow__" 2 (q.w2 : Int) ((2 ^ q.w2 : Nat) : Int) (fun _ => powC (by have := H.a0.2; have := H.a1.2; have := H.a2.2; have := H.a3.2; have := H.a4.2; omega) rfl) <|
    xBin 3 "int.__mod__" ((nb (octs ns) / 2 ^ (q.w3 + q.w4) : Nat) : Int) ((2 ^ q.w2 : Nat) : Int) ((part (nb (octs ns)) (q.w3 + q.w4) q.w2 : Nat) : Int) (fun _ => modPC rfl) <|
    ownsX [(3, 6), (1, 6), (0, 6), (0, 6), (4, 0), (1, 0), (1, 0), (0, 0), (0, 0), (0, 0), (0, 0), (0, 0), (0, 0), (6, 66), (0, 66), (3, 66), (1, 64), (1, 66), (1, 57), (0, 57), (0, 57), (1, 57), (1, 57)] <|
    isY 5 ((((q.w3 + q.w4) : Nat) : Int) - (q.w3 : Int)) ((q.w4 : Nat) : Int) (subN (by omega)) <|
    ownsX [(5, 66), (0, 66), (3, 62), (1, 6), (0, 6), (0, 6), (0, 6), (2, 66), (2, 66)] <|
    xBin 2 "int.__pow__" 2 ((q.w4 : Nat) : Int) ((2 ^ q.w4 : Nat) : Int) (fun _ => powC (by have := H.a0.2; have := H.a1.2; have := H.a2.2; have := H.a3.2; have := H.a4.2; omega) rfl) <|
    xBin 3 "int.__floordiv__" ((nb (octs ns) : Nat) : Int) ((2 ^ q.w4 : Nat) : Int) ((nb (octs ns) / 2 ^ q.w4 : Nat) : Int) (fun _ => divPC (by have := H.a0.2; have := H.a1.2; have := H.a2.2; have := H.a3.2; have := H.a4.2; omega) rfl) <|
    ownsX [(3, 64), (1, 66), (1, 57), (0, 57), (0, 57), (1, 57), (1, 57)] <|
    xBin 3 "int.__pow__" 2 (q.w3 : Int) ((2 ^ q.w3 : Nat) : Int) (fun _ => powC (by have := H.a0.2; have := H.a1.2; have := H.a2.2; have := H.a3.2; have := H.a4.2; omega) rfl) <|
    xBin 3 "int.__mod__" ((nb (octs ns) / 2 ^ q.w4 : Nat) : Int) ((2 ^ q.w3 : Nat) : Int) ((part (nb (octs ns)) q.w4 q.w3 : Nat) : Int) (fun _ => modPC rfl) <|
    ownsX [(3, 6), (1, 6), (0, 6), (0, 6), (4, 0), (1, 0), (1, 0), (0, 0), (0, 0), (0, 0), (0, 0), (0, 0), (0, 0), (6, 66), (0, 66), (3, 66), (1, 64), (1, 66), (1, 57), (0, 57), (0, 57), (1, 57), (1, 57)] <|
    isY 5 (((q.w4 : Nat) : Int) - (q.w4 : Int)) ((0 : Nat) : Int) (subN (by omega)) <|
    ownsX [(5, 66), (0, 66), (3, 62), (1, 6), (0, 6), (0, 6), (0, 6), (2, 66), (2, 66)] <|
    xBin 2 "int.__pow__" 2 ((0 : Nat) : Int) ((2 ^ 0 : Nat) : Int) (fun _ => powC (by have := H.a0.2; have := H.a1.2; have := H.a2.2; have := H.a3.2; have := H.a4.2; omega) rfl) <|
    xBin 3 "int.__floordiv__" ((nb (octs ns) : Nat) : Int) ((2 ^ 0 : Nat) : Int) ((nb (octs ns) / 2 ^ 0 : Nat) : Int) (fun _ => divPC (by have := H.a0.2; have := H.a1.2; have := H.a2.2; have := H.a3.2; have := H.a4.2; omega) rfl) <|
    ownsX [(3, 64), (1, 66), (1, 57), (0, 57), (0, 57), (1, 57), (1, 57)] <|
    xBin 3 "int.__pow__" 2 (q.w4 : Int) ((2 ^ q.w4 : Nat) : Int) (fun _ => powC (by have := H.a0.2; have := H.a1.2; have := H.a2.2; have := H.a3.2; have := H.a4.2; omega) rfl) <|
    xBin 3 "int.__mod__" ((nb (octs ns) / 2 ^ 0 : Nat) : Int) ((2 ^ q.w4 : Nat) : Int) ((part (nb (octs ns)) 0 q.w4 : Nat) : Int) (fun _ => modPC rfl) <|
    ownsX [(3, 6), (1, 6), (0, 6), (0, 6), (4, 0), (1, 0), (1, 0), (0, 0), (0, 0), (5, 0), (20, 0), (0, 0), (1, 0), (1, 0), (4, 0), (0, 0), (2, 0)] <|
    xRiter 0 [0] 5 (by decide) <|
    ownsX [(1, 0), (6, 2), (1, 2), (1, 2), (0, 2), (0, 2), (0, 2), (0, 2), (0, 2), (0, 2), (6, 0), (0, 0), (2, 68), (1, 0), (1, 12), (0, 12), (0, 12), (1, 12), (1, 12), (4, 69)] <|
    xBin 2 "int.__mul__" ((8 : Nat) : Int) ((q.k + 1 : Nat) : Int) (((q.w0 + q.w1 + q.w2 + q.w3 + q.w4) : Nat) : Int) (mulN (by decide) (by have := H.sum; omega)) <|
    ownsX [(5, 70), (1, 0), (8, 64), (0, 64), (0, 64), (1, 64), (1, 0), (0, 0), (0, 0), (0, 0), (0, 0), (0, 64)] <|
    xSum 4 [0] [q.w0] <|
    isY 5 ((((q.w0 + q.w1 + q.w2 + q.w3 + q.w4) : Nat) : Int) - ((sumN [q.w0] : Nat) : Int)) (((q.w1 + q.w2 + q.w3 + q.w4) : Nat) : Int) (subN (by simp only [sumN]; omega)) <|
    xBin 3 "int.__pow__" 2 (((q.w1 + q.w2 + q.w3 + q.w4) : Nat) : Int) ((2 ^ (q.w1 + q.w2 + q.w3 + q.w4) : Nat) : Int) (fun _ => powC (by have := H.a0.2; have := H.a1.2; have := H.a2.2; have := H.a3.2; have := H.a4.2; omega) rfl) <|
    xBin 3 "int.__mul__" ((part (nb (octs ns)) (q.w1 + q.w2 + q.w3 + q.w4) q.w0 : Nat) : Int) ((2 ^ (q.w1 + q.w2 + q.w3 + q.w4) : Nat) : Int) ((part (nb (octs ns)) (q.w1 + q.w2 + q.w3 + q.w4) q.w0 * 2 ^ (q.w1 + q.w2 + q.w3 + q.w4) : Nat) : Int) (mulN (part64 H.a0.2) rfl) <|
    ownsX [(2, 3), (1, 3), (0, 3), (0, 3), (3, 4), (1, 4), (1, 4), (0, 4), (0, 4), (0, 4), (0, 4), (0, 4), (0, 4), (6, 2), (0, 2), (2, 70), (1, 2), (1, 14), (0, 14), (0, 14), (1, 14), (1, 14), (4, 71)] <|
    xBin 2 "int.__mul__" ((8 : Nat) : Int) ((q.k + 1 : Nat) : Int) (((q.w0 + q.w1 + q.w2 + q.w3 + q.w4) : Nat) : Int) (mulN (by decide) (by have := H.sum; omega)) <|
    ownsX [(5, 72), (1, 2), (8, 66), (0, 66), (0, 66), (1, 66), (1, 0), (0, 0), (0, 0), (0, 0), (0, 0), (0, 66)] <|
    xSum 4 [0] [q.w0, q.w1] <|
    isY 5 ((((q.w0 + q.w1 + q.w2 + q.w3 + q.w4) : Nat) : Int) - ((sumN [q.w0, q.w1] : Nat) : Int)) (((q.w2 + q.w3 + q.w4) : Nat) : Int) (subN (by simp only [sumN]; omega)) <|
    xBin 3 "int.__pow__" 2 (((q.w2 + q.w3 + q.w4) : Nat) : Int) ((2 ^ (q.w2 + q.w3 + q.w4) : Nat) : Int) (fun _ => powC (by have := H.a0.2; have := H.a1.2; have := H.a2.2; have := H.a3.2; have := H.a4.2; omega) rfl) <|
    xBin 3 "int.__mul__" ((part (nb (octs ns)) (q.w2 + q.w3 + q.w4) q.w1 : Nat) : Int) ((2 ^ (q.w2 + q.w3 + q.w4) : Nat) : Int) ((part (nb (octs ns)) (q.w2 + q.w3 + q.w4) q.w1 * 2 ^ (q.w2 + q.w3 + q.w4) : Nat) : Int) (mulN (part64 H.a1.2) rfl) <|
    ownsX [(2, 5), (1, 5), (0, 5), (0, 5), (3, 6), (1, 6), (1, 6), (0, 6), (0, 6), (0, 6), (0, 6), (0, 6), (0, 6), (6, 4), (0, 4), (2, 72), (1, 4), (1, 16), (0, 16), (0, 16), (1, 16), (1, 16), (4, 73)] <|
    xBin 2 "int.__mul__" ((8 : Nat) : Int) ((q.k + 1 : Nat) : Int) (((q.w0 + q.w1 + q.w2 + q.w3 + q.w4) : Nat) : Int) (mulN (by decide) (by have := H.sum; omega)) <|
    ownsX [(5, 74), (1, 4), (8, 68), (0, 68), (0, 68), (1, 68), (1, 0), (0, 0), (0, 0), (0, 0), (0, 0), (0, 68)] <|
    xSum 4 [0] [q.w0, q.w1, q.w2] <|
    isY 5 ((((q.w0 + q.w1 + q.w2 + q.w3 + q.w4) : Nat) : Int) - ((sumN [q.w0, q.w1, q.w2] : Nat) : Int)) (((q.w3 + q.w4) : Nat) : Int) (subN (by simp only [sumN]; omega)) <|
    xBin 3 "int.__pow__" 2 (((q.w3 + q.w4) : Nat) : Int) ((2 ^ (q.w3 + q.w4) : Nat) : Int) (fun _ => powC (by have := H.a0.2; have := H.a1.2; have := H.a2.2; have := H.a3.2; have := H.a4.2; omega) rfl) <|
    xBin 3 "int.__mul__" ((part (nb (octs ns)) (q.w3 + q.w4) q.w2 : Nat) : Int) ((2 ^ (q.w3 + q.w4) : Nat) : Int) ((part (nb (octs ns)) (q.w3 + q.w4) q.w2 * 2 ^ (q.w3 + q.w4) : Nat) : Int) (mulN (part64 H.a2.2) rfl) <|
    ownsX [(2, 7), (1, 7), (0, 7), (0, 7), (3, 8), (1, 8), (1, 8), (0, 8), (0, 8), (0, 8), (0, 8), (0, 8), (0, 8), (6, 6), (0, 6), (2, 74), (1, 6), (1, 18), (0, 18), (0, 18), (1, 18), (1, 18), (4, 75)] <|
    xBin 2 "int.__mul__" ((8 : Nat) : Int) ((q.k + 1 : Nat) : Int) (((q.w0 + q.w1 + q.w2 + q.w3 + q.w4) : Nat) : Int) (mulN (by decide) (by have := H.sum; omega)) <|
    ownsX [(5, 76), (1, 6), (8, 70), (0, 70), (0, 70), (1, 70), (1, 0), (0, 0), (0, 0), (0, 0), (0, 0), (0, 70)] <|
    xSum 4 [0] [q.w0, q.w1, q.w2, q.w3] <|
    isY 5 ((((q.w0 + q.w1 + q.w2 + q.w3 + q.w4) : Nat) : Int) - ((sumN [q.w0, q.w1, q.w2, q.w3] : Nat) : Int)) ((q.w4 : Nat) : Int) (subN (by simp only [sumN]; omega)) <|
    xBin 3 "int.__pow__" 2 ((q.w4 : Nat) : Int) ((2 ^ q.w4 : Nat) : Int) (fun _ => powC (by have := H.a0.2; have := H.a1.2; have := H.a2.2; have := H.a3.2; have := H.a4.2; omega) rfl) <|
    xBin 3 "int.__mul__" ((part (nb (octs ns)) q.w4 q.w3 : Nat) : Int) ((2 ^ q.w4 : Nat) : Int) ((part (nb (octs ns)) q.w4 q.w3 * 2 ^ q.w4 : Nat) : Int) (mulN (part64 H.a3.2) rfl) <|
    ownsX [(2, 9), (1, 9), (0, 9), (0, 9), (3, 10), (1, 10), (1, 10), (0, 10), (0, 10), (0, 10), (0, 10), (0, 10), (0, 10), (6, 8), (0, 8), (2, 76), (1, 8), (1, 20), (0, 20), (0, 20), (1, 20), (1, 20), (4, 77)] <|
    xBin 2 "int.__mul__" ((8 : Nat) : Int) ((q.k + 1 : Nat) : Int) (((q.w0 + q.w1 + q.w2 + q.w3 + q.w4) : Nat) : Int) (mulN (by decide) (by have := H.sum; omega)) <|
    ownsX [(5, 78), (1, 8), (8, 72), (0, 72), (0, 72), (1, 72), (1, 0), (0, 0), (0, 0), (0, 0), (0, 0), (0, 72)] <|
    xSum 4 [0] [q.w0, q.w1, q.w2, q.w3, q.w4] <|
    isY 5 ((((q.w0 + q.w1 + q.w2 + q.w3 + q.w4) : Nat) : Int) - ((sumN [q.w0, q.w1, q.w2, q.w3, q.w4] : Nat) : Int)) ((0 : Nat) : Int) (subN (by simp only [sumN]; omega)) <|
    xBin 3 "int.__pow__" 2 ((0 : Nat) : Int) ((2 ^ 0 : Nat) : Int) (fun _ => powC (by have := H.a0.2; have := H.a1.2; have := H.a2.2; have := H.a3.2; have := H.a4.2; omega) rfl) <|
    xBin 3 "int.__mul__" ((part (nb (octs ns)) 0 q.w4 : Nat) : Int) ((2 ^ 0 : Nat) : Int) ((part (nb (octs ns)) 0 q.w4 * 2 ^ 0 : Nat) : Int) (mulN (part64 H.a4.2) rfl) <|
    ownsX [(2, 11), (1, 11), (0, 11), (0, 11), (3, 12), (1, 12), (1, 12), (0, 12), (0, 12), (5, 0), (1, 12), (1, 12), (0, 12)] <|
    xSum 2 [13] [part (nb (octs ns)) (q.w1 + q.w2 + q.w3 + q.w4) q.w0 * 2 ^ (q.w1 + q.w2 + q.w3 + q.w4), part (nb (octs ns)) (q.w2 + q.w3 + q.w4) q.w1 * 2 ^ (q.w2 + q.w3 + q.w4), part (nb (octs ns)) (q.w3 + q.w4) q.w2 * 2 ^ (q.w3 + q.w4), part (nb (octs ns)) q.w4 q.w3 * 2 ^ q.w4, part (nb (octs ns)) 0 q.w4 * 2 ^ 0] <|
    ownsX [(2, 84)] <|
    isX 4 (((sumN [part (nb (octs ns)) (q.w1 + q.w2 + q.w3 + q.w4) q.w0 * 2 ^ (q.w1 + q.w2 + q.w3 + q.w4), part (nb (octs ns)) (q.w2 + q.w3 + q.w4) q.w1 * 2 ^ (q.w2 + q.w3 + q.w4), part (nb (octs ns)) (q.w3 + q.w4) q.w2 * 2 ^ (q.w3 + q.w4), part (nb (octs ns)) q.w4 q.w3 * 2 ^ q.w4, part (nb (octs ns)) 0 q.w4 * 2 ^ 0] : Nat) : Int) != ((nb (octs ns) : Nat) : Int)) false (H.whole _ hp.len) <|
    ownsX [(6, 80)] <|
    ownsX [(8, 0), (0, 0), (1, 0)] <|
    xLin 0 [0, 25] <|
    ownsX [(7, 85), (0, 85), (3, 85), (9, 0), (0, 0), (2, 0), (3, 0)] <|
    xSg 0 [87, 0, 1, 85, 78, 72, 2] q.w0 q.w1 q.w2 q.w3 q.w4 s0 s1 s2 s3 s4 ((part (nb (octs ns)) (q.w2 + q.w3 + q.w4) q.w1 : Nat) : Int) (part (nb (octs ns)) (q.w1 + q.w2 + q.w3 + q.w4) q.w0) (due2 false q.w2 (part (nb (octs ns)) (q.w3 + q.w4) q.w2)) (part (nb (octs ns)) q.w4 q.w3) (part (nb (octs ns)) 0 q.w4) ⟨H.a0.1, by have := H.a0.2; have := H.a1.2; have := H.a2.2; have := H.a3.2; have := H.a4.2; omega⟩ ⟨H.a2.1, by have := H.a0.2; have := H.a1.2; have := H.a2.2; have := H.a3.2; have := H.a4.2; omega⟩ ⟨H.a3.1, by have := H.a0.2; have := H.a1.2; have := H.a2.2; have := H.a3.2; have := H.a4.2; omega⟩ ⟨H.a4.1, by have := H.a0.2; have := H.a1.2; have := H.a2.2; have := H.a3.2; have := H.a4.2; omega⟩ <|
    ownsX [(3, 87), (2, 29), (5, 29), (10, 0), (0, 0), (2, 0), (0, 0)] <|
    ownsX [(6, 0), (2, 30), (4, 30), (3, 30), (0, 30), (1, 31), (3, 0), (1, 32), (0, 32), (0, 32), (1, 32)] <|
    xGet 0 0 [32] <|
    ownsX [(6, 88), (2, 30), (5, 30), (10, 0), (0, 0), (2, 0), (0, 0)] <|
    ownsX [(6, 0), (2, 31), (4, 31), (3, 31), (0, 31), (1, 32), (3, 0), (1, 33), (0, 33), (0, 33), (1, 33)] <|
    xGet 1 0 [33] <|
    ownsX [(6, 89), (2, 31), (5, 31), (10, 0), (0, 0), (2, 0), (0, 0)] <|
    ownsX [(6, 0), (2, 32), (4, 32), (3, 32), (0, 32), (1, 33), (3, 0), (1, 34), (0, 34), (0, 34), (1, 34)] <|
    xGet 2 0 [34] <|
    ownsX [(6, 90), (2, 32), (5, 32), (10, 0), (0, 0), (2, 0), (0, 0)] <|
    ownsX [(6, 0), (2, 33), (4, 33), (3, 33), (0, 33), (1, 34), (3, 0), (1, 35), (0, 35), (0, 35), (1, 35)] <|
    xGet 3 0 [35] <|
    ownsX [(8, 92), (2, 7), (0, 7), (0, 7), (1, 7), (1, 7), (2, 92), (2, 7), (0, 7), (0, 7), (1, 7), (1, 7), (2, 92), (2, 7), (0, 7), (0, 7), (1, 7), (1, 7), (2, 92), (2, 7), (0, 7), (0, 7), (1, 7), (1, 7)] <|
    ownsX [(4, 1), (0, 0), (0, 1), (2, 1), (1, 0), (0, 1), (0, 0)] <|
    xEqI 0 [1, 0] _ _ (H.told s0 s2 s3 s4 (octs ns) hp.len) <|
    ownsX [(4, 93), (1, 42), (7, 42), (7, 42), (8, 42), (0, 43)] <|
    cCsz 3 [96, 42, 43, 44, 45, 46, 47, 48, 65, 66, 67, 68, 61, 62, 63, 64, 57, 58, 59, 60, 53, 54, 55, 56, 49, 50, 51, 52] (spOf q s0 s2 s3 s4 false) (octs ns).length (H.job s0 s2 s3 s4 _ hp.len).fits <|
    ownsX [(2, 90)] <|
    isX 4 ((((octs ns).length : Nat) : Int) == ((q.k + 1 : Nat) : Int)) true (by rw [hp.len]; exact beq_self_eq_true _) <|
    ownsX [(3, 93), (1, 38), (7, 38), (7, 38), (4, 38), (0, 39)] <|
    xTell 3 [38, 39, 40] (datO (octs ns)) (3 + (octs ns).length) <|
    ownsX [(3, 90)] <|
    isX 9 (((3 + (octs ns).length : Nat) : Int) == ((3 + (q.k + 1) : Nat) : Int)) true (by rw [hp.len]; exact beq_self_eq_true _) <|
    ownsX [(6, 93), (1, 35), (3, 35), (3, 35), (4, 35), (0, 36), (9, 0), (0, 0)] <|
    ownsX [(6, 0), (2, 36), (4, 36), (3, 36), (0, 36), (1, 37), (3, 38), (0, 38), (0, 38), (0, 38), (3, 38)] <|
    xKeys 0 [38] <|
    xSort 5 [0, 39] <|
    ownsX [(9, 1), (0, 0), (0, 1), (2, 1), (1, 0), (0, 1), (0, 0)] <|
    xEqS 0 [1, 0] [S "a", S "b", S "c", S "d"] <|
    .fin 2 (fun _ T => (fldA (objAt T 105), fldA (objAt T 106), fldA (objAt T 107))) [104, 105, 106, 107] []
def tlF2 (xs : Array Value) (e' : Nat) (S : Scr xs) (q : Lw) (H : LwP q false) (s0 s1 s2 s3 s4 : Bool) : Hx prog (wr w b1 true) (kt w.params) (Array Value × Array Value × Array Value) :=
    xSum 1 [9] [q.w0, q.w1, q.w2, q.w3, q.w4] <|
    xBin 4 "int.__floordiv__" ((sumN [q.w0, q.w1, q.w2, q.w3, q.w4] : Nat) : Int) 8 ((q.k + 1 : Nat) : Int) (div8 H.siz) <|
    ownsX [(3, 15), (0, 15), (9, 15), (10, 0), (0, 0), (1, 0), (1, 0), (4, 0), (0, 0), (2, 0)] <|
    xRiter 0 [0] (q.k + 1) (by have := H.ten; omega) <|
    ownsX [(1, 0)] <|
    xDs 2 [0, 2, 1, 21, 16, 17] xs e' q.k S (by have := H.ten; omega) fun dc =>
    ownsX [(0, 2), (1, 2), (0, 2)] <|
    tlF3 q H s0 s1 s2 s3 s4 dc.1.vs dc.1.ns dc.1.e dc.2
def tlF (xs : Array Value) (e' : Nat) (S : Scr xs) (w0 w1 w2 w3 : Nat) (h0 : Wd w0) (h1 : Wd w1) (h2 : Wd w2) (h3 : Wd w3) : Hx prog (wr w b1 true) (kt w.params) (Array Value × Array Value × Array Value) :=
    ownsX [(1, 0), (7, 2), (1, 2), (1, 2), (0, 2), (0, 2), (0, 2), (0, 2), (0, 2), (0, 2), (6, 0), (0, 0), (4, 15)] <|
    xTake 3 [10, 11] xs e' S 1 (by decide) fun p0 =>
    isX 6 ((p0.v : Int) == 1) (p0.v == 1) (eq1 p0.v) <|
    ownsX [(2, 1), (1, 1), (0, 1), (0, 1), (3, 2), (1, 2), (1, 2), (0, 2), (0, 2), (0, 2), (0, 2), (0, 2), (0, 2), (6, 0), (0, 0), (4, 15)] <|
    xTake 3 [10, 11] xs e' S 1 (by decide) fun p1 =>
    isX 6 ((p1.v : Int) == 1) (p1.v == 1) (eq1 p1.v) <|
    ownsX [(2, 1), (1, 1), (0, 1), (0, 1), (3, 2), (1, 2), (1, 2), (0, 2), (0, 2), (0, 2), (0, 2), (0, 2), (0, 2), (6, 0), (0, 0), (4, 15)] <|
    xTake 3 [10, 11] xs e' S 1 (by decide) fun p2 =>
    isX 6 ((p2.v : Int) == 1) (p2.v == 1) (eq1 p2.v) <|
    ownsX [(2, 1), (1, 1), (0, 1), (0, 1), (3, 2), (1, 2), (1, 2), (0, 2), (0, 2), (0, 2), (0, 2), (0, 2), (0, 2), (6, 0), (0, 0), (4, 15)] <|
    xTake 3 [10, 11] xs e' S 1 (by decide) fun p3 =>
    isX 6 ((p3.v : Int) == 1) (p3.v == 1) (eq1 p3.v) <|
    ownsX [(2, 1), (1, 1), (0, 1), (0, 1), (3, 2), (1, 2), (1, 2), (0, 2), (0, 2), (0, 2), (0, 2), (0, 2), (0, 2), (6, 0), (0, 0), (4, 15)] <|
    xTake 3 [10, 11] xs e' S 1 (by decide) fun p4 =>
    isX 6 ((p4.v : Int) == 1) (p4.v == 1) (eq1 p4.v) <|
    ownsX [(2, 1), (1, 1), (0, 1), (0, 1), (3, 2), (1, 2), (1, 2), (0, 2), (0, 2), (5, 0), (6, 18), (0, 18), (1, 2), (1, 2), (0, 2), (3, 16), (1, 9), (0, 9), (0, 9), (0, 9), (6, 16)] <|
    xSum 1 [9] [w0, w1, w2, w3] <|
    xBin 4 "int.__mod__" (((sumN [w0, w1, w2, w3]) : Nat) : Int) 8 (((sumN [w0, w1, w2, w3]) % 8 : Nat) : Int) (mod8 rfl) <|
    isY 5 (8 - (((sumN [w0, w1, w2, w3]) % 8 : Nat) : Int)) ((8 - (sumN [w0, w1, w2, w3]) % 8 : Nat) : Int) (by omega) <|
    ownsX [(5, 17)] <|
    xTake 3 [12, 13] xs e' S 1 (by decide) fun p5 =>
    xBin 3 "int.__mul__" ((8 : Nat) : Int) (p5.v : Int) ((8 * p5.v : Nat) : Int) (mulN (by decide) rfl) <|
    ownsX [(8, 9), (1, 9), (0, 9), (0, 9), (7, 16)] <|
    tlF2 xs e' S (lwOf w0 w1 w2 w3 p5.v) (lwOf_ok w0 w1 w2 w3 p5.v h0 h1 h2 h3 (fun z => nomatch z) (by have := p5.hv; omega)) (p0.v == 1) (p1.v == 1) (p2.v == 1) (p3.v == 1) (p4.v == 1)

def lwH (ys : Array Value) (e : Nat) (hz : ys.size ≤ 1000) (hi : ∀ i, i < ys.size → ∃ x t, ys[i]? = some (.int x t)) : Hx prog (wr w b1 true) (kt w.params) (Array Value × Array Value × Array Value) :=
    ownsX [(9, 4), (0, 4)] <|
    ownsX [(8, 4)] <|
    xBox 2 [5] ys e hz hi fun bx =>
    ownsX [(3, 5), (0, 5), (16, 0), (0, 0), (1, 0), (1, 0), (4, 0), (0, 0), (2, 0)] <|
    xRiter 0 [0] 4 (by decide) <|
    ownsX [(1, 0), (6, 2), (1, 2), (1, 2), (0, 2), (0, 2), (0, 2), (0, 2), (0, 2), (0, 2), (6, 0), (0, 0), (5, 9)] <|
    xTake 3 [4, 5] bx.1.zs bx.1.e (scrB bx.2 hz) 15 (by decide) fun p0 =>
    ownsX [(7, 1), (1, 1), (0, 1), (0, 1), (3, 2), (1, 2), (1, 2), (0, 2), (0, 2), (0, 2), (0, 2), (0, 2), (0, 2), (6, 0), (0, 0), (5, 9)] <|
    xTake 3 [4, 5] bx.1.zs bx.1.e (scrB bx.2 hz) 15 (by decide) fun p1 =>
    ownsX [(7, 1), (1, 1), (0, 1), (0, 1), (3, 2), (1, 2), (1, 2), (0, 2), (0, 2), (0, 2), (0, 2), (0, 2), (0, 2), (6, 0), (0, 0), (5, 9)] <|
    xTake 3 [4, 5] bx.1.zs bx.1.e (scrB bx.2 hz) 15 (by decide) fun p2 =>
    ownsX [(7, 1), (1, 1), (0, 1), (0, 1), (3, 2), (1, 2), (1, 2), (0, 2), (0, 2), (0, 2), (0, 2), (0, 2), (0, 2), (6, 0), (0, 0), (5, 9)] <|
    xTake 3 [4, 5] bx.1.zs bx.1.e (scrB bx.2 hz) 15 (by decide) fun p3 =>
    ownsX [(7, 1), (1, 1), (0, 1), (0, 1), (3, 2), (1, 2), (1, 2), (0, 2), (0, 2), (5, 0), (1, 2), (1, 2), (0, 2), (3, 10), (0, 10), (7, 11)] <|
    xTake 3 [6, 7] bx.1.zs bx.1.e (scrB bx.2 hz) 1 (by decide) fun p4 =>
    xBin 8 "int.__mul__" ((8 : Nat) : Int) ((1 + p4.v : Nat) : Int) (((8 * (1 + p4.v)) : Nat) : Int) (mulN (by decide) rfl) <|
    ownsX [(5, 12), (0, 12), (5, 11)] <|
    xTake 3 [6, 7] bx.1.zs bx.1.e (scrB bx.2 hz) 1 (by decide) fun p5 =>
    .br 6 ((p5.v : Int) == 0) (fun _ =>
    ownsX [(2, 12), (1, 10), (2, 3), (0, 3), (1, 3), (1, 3), (0, 3), (0, 3), (3, 10), (2, 3), (0, 3), (0, 3), (1, 3), (1, 3), (2, 12)] <|
    isX 4 ((((8 * (1 + p4.v)) : Nat) : Int) == (((8 * (1 + p4.v)) : Nat) : Int)) true (beq_self_eq_true _) <|
    ownsX [(5, 11)] <|
    xTake 3 [6, 7] bx.1.zs bx.1.e (scrB bx.2 hz) 1 (by decide) fun p6 =>
    .br 6 ((p6.v : Int) == 0) (fun _ =>
    ownsX [(5, 12), (0, 12), (16, 0), (0, 0), (1, 0), (1, 0), (4, 0), (0, 0), (2, 0)] <|
    xRiter 0 [0] 5 (by decide) <|
    tlT bx.1.zs bx.1.e (scrB bx.2 hz) (1 + p0.v) (1 + p1.v) (8 * (1 + p4.v)) (1 + p3.v) (wd15 p0) (wd15 p1) (lw16 p4) (wd15 p3) (lw8 p4)) (fun _ =>
    ownsX [(5, 12), (0, 12), (16, 0), (0, 0), (1, 0), (1, 0), (4, 0), (0, 0), (2, 0)] <|
    xRiter 0 [0] 5 (by decide) <|
    tlF bx.1.zs bx.1.e (scrB bx.2 hz) (1 + p0.v) (1 + p1.v) (8 * (1 + p4.v)) (1 + p3.v) (wd15 p0) (wd15 p1) (lw16 p4) (wd15 p3))) (fun _ =>
    ownsX [(2, 10), (2, 3), (0, 3), (0, 3), (1, 3), (1, 3), (2, 10), (2, 3), (0, 3), (1, 3), (1, 3), (0, 3), (0, 3), (3, 10), (2, 3), (0, 3), (0, 3), (1, 3), (1, 3), (2, 12)] <|
    .br 4 (((1 + p2.v : Nat) : Int) == (((8 * (1 + p4.v)) : Nat) : Int)) (fun hq =>
    ownsX [(5, 11)] <|
    xTake 3 [6, 7] bx.1.zs bx.1.e (scrB bx.2 hz) 1 (by decide) fun p6 =>
    .br 6 ((p6.v : Int) == 0) (fun _ =>
    ownsX [(5, 12), (0, 12), (16, 0), (0, 0), (1, 0), (1, 0), (4, 0), (0, 0), (2, 0)] <|
    xRiter 0 [0] 5 (by decide) <|
    tlT bx.1.zs bx.1.e (scrB bx.2 hz) (1 + p0.v) (1 + p1.v) (1 + p2.v) (1 + p3.v) (wd15 p0) (wd15 p1) (wd15 p2) (wd15 p3) (lw8q hq)) (fun _ =>
    ownsX [(5, 12), (0, 12), (16, 0), (0, 0), (1, 0), (1, 0), (4, 0), (0, 0), (2, 0)] <|
    xRiter 0 [0] 5 (by decide) <|
    tlF bx.1.zs bx.1.e (scrB bx.2 hz) (1 + p0.v) (1 + p1.v) (1 + p2.v) (1 + p3.v) (wd15 p0) (wd15 p1) (wd15 p2) (wd15 p3))) (fun _ =>
    ownsX [(6, 12), (0, 12), (16, 0), (0, 0), (1, 0), (1, 0), (4, 0), (0, 0), (2, 0)] <|
    xRiter 0 [0] 5 (by decide) <|
    tlF bx.1.zs bx.1.e (scrB bx.2 hz) (1 + p0.v) (1 + p1.v) (1 + p2.v) (1 + p3.v) (wd15 p0) (wd15 p1) (wd15 p2) (wd15 p3)))

theorem lawT (w : World) (q : Pos) (l : Addr) (ys : Array Value) (e : Nat) (hz : ys.size ≤ 1000) (hi : ∀ i, i < ys.size → ∃ x t, ys[i]? = some (.int x t)) :
    CtrX prog (wr w true true) (kt w.params) 400 (lev 400) (stk [] q) (.call (.ref 1257) ⟨[.ref l], []⟩) [(l, lstO ys e), (48, me0), (1035, me0), (1188, me0)] [] [.finished, .finished, .finished] (α := Array Value × Array Value × Array Value) (fun _ => .ok (.ret (.bool true)))
      (fun x => [lstO ys e, meA x.1, meA x.2.1, meA x.2.2]) (fun _ => []) := by
  refine CtrX.of_go (lwH ys e hz hi) ?_
  intro h dep fr gd un R d os tok b; kernel_rfl
theorem lawF (w : World) (q : Pos) (l : Addr) (ys : Array Value) (e : Nat) (hz : ys.size ≤ 1000) (hi : ∀ i, i < ys.size → ∃ x t, ys[i]? = some (.int x t)) :
    CtrX prog (wr w false true) (kt w.params) 400 (lev 400) (stk [] q) (.call (.ref 1257) ⟨[.ref l], []⟩) [(l, lstO ys e), (48, me0), (1035, me0), (1188, me0)] [] [.finished, .finished, .finished] (α := Array Value × Array Value × Array Value) (fun _ => .ok (.ret (.bool true)))
      (fun x => [lstO ys e, meA x.1, meA x.2.1, meA x.2.2]) (fun _ => []) := by
  refine CtrX.of_go (lwH ys e hz hi) ?_
  intro h dep fr gd un R d os tok b; kernel_rfl
theorem lawC (w : World) (b1 : Bool) (q : Pos) (l : Addr) (ys : Array Value) (e : Nat) (hz : ys.size ≤ 1000) (hi : ∀ i, i < ys.size → ∃ x t, ys[i]? = some (.int x t)) :
    CtrX prog (wr w b1 true) (kt w.params) 400 (lev 400) (stk [] q) (.call (.ref 1257) ⟨[.ref l], []⟩) [(l, lstO ys e), (48, me0), (1035, me0), (1188, me0)] [] [.finished, .finished, .finished] (α := Array Value × Array Value × Array Value) (fun _ => .ok (.ret (.bool true)))
      (fun x => [lstO ys e, meA x.1, meA x.2.1, meA x.2.2]) (fun _ => []) := by
  cases b1 with
  | true => exact lawT w q l ys e hz hi
  | false => exact lawF w q l ys e hz hi
end
end Mine.R1
namespace Mine.R0
open PySem PySem.Spec PySem.Calls PyProof.Rows PySem.W PySem.W.X
section
variable {w : World} {b1 : Bool}
def tlT3 (q : Lw) (H : LwP q true) (s0 s1 s2 s3 s4 : Bool) (vs : List Value) (ns : List Int) (e : Nat) (hp : DcP (q.k + 1) vs ns) : Hx prog (wr w b1 false) (kt w.params) (Array Value × Array Value × Array Value) :=
    xByNew 4 [3] vs e ns (octs ns).toArray hp.1 hp.2.1 (by rw [hp.2.2.2, sizeLine_eq]; have := H.ten; omega) rfl <|
    ownsX [(9, 24), (0, 24), (9, 22), (2, 15), (0, 15), (0, 15), (1, 15), (1, 15), (2, 24), (2, 9), (0, 9), (0, 9), (1, 9), (1, 9)] <|
    xBf_a 4 (q.w0 : Int) s0 fun _ =>
    ownsX [(4, 26), (2, 19), (0, 19), (0, 19), (1, 19), (1, 19)] <|
    xPad 3 (q.w1 : Int) fun _ =>
    ownsX [(5, 30), (2, 23), (0, 23), (0, 23), (1, 23), (1, 23), (2, 32), (2, 32), (2, 17), (0, 17), (0, 17), (1, 17), (1, 17)] <|
    xBf_b 4 (q.w2 : Int) true s2 fun _ =>
    ownsX [(5, 34), (2, 27), (0, 27), (0, 27), (1, 27), (1, 27), (2, 36), (2, 21), (0, 21), (0, 21), (1, 21), (1, 21)] <|
    xBf_c 4 (q.w3 : Int) s3 fun _ =>
    ownsX [(5, 38), (2, 31), (0, 31), (0, 31), (1, 31), (1, 31), (2, 40), (2, 25), (0, 25), (0, 25), (1, 25), (1, 25)] <|
    xBf_d 4 (q.w4 : Int) s4 fun _ =>
    xBs 3 [48, 16, 17, 18, 19, 12, 13, 14, 15, 8, 9, 10, 11, 4, 5, 6, 7, 0, 1, 2, 3] (spOf q s0 s2 s3 s4 true) fun _ =>
    ownsX [(5, 51), (0, 51)] <|
    xBy123 15 [0] <|
    ownsX [(6, 52)] <|
    xByAdd 3 #[1, 2, 3] (octs ns).toArray (by have := hp.len; have := H.ten; simp; omega) <|
    xByAdd 5 (#[1, 2, 3] ++ (octs ns).toArray) #[5] (by have := hp.len; have := H.ten; simp; omega) <|
    xAs 3 (datO (octs ns)) (H.job s0 s2 s3 s4 _ hp.len).sz fun _ =>
    ownsX [(5, 55), (0, 55), (5, 55), (1, 55)] <|
    xStp 3 [57, 58, 4, 5, 6, 7, 8, 9, 10, 27, 28, 29, 30, 23, 24, 25, 26, 19, 20, 21, 22, 15, 16, 17, 18, 11, 12, 13, 14, 0, 1, 2] (spOf q s0 s2 s3 s4 true) (octs ns) (datO (octs ns)) (H.job s0 s2 s3 s4 _ hp.len) fun _ =>
    ownsX [(5, 58), (0, 58), (16, 59), (2, 0), (1, 0)] <|
    xFbB 0 (octs ns).toArray (by have := hp.len; have := H.ten; simp; omega) <|
    ownsX [(4, 56)] <|
    xBin 2 "int.__mul__" ((8 : Nat) : Int) ((q.k + 1 : Nat) : Int) (((q.w0 + q.w1 + q.w2 + q.w3 + q.w4) : Nat) : Int) (mulN (by decide) (by have := H.sum; omega)) <|
    ownsX [(5, 0), (0, 0), (0, 0), (2, 0), (3, 0), (0, 0), (1, 0), (1, 0), (0, 0), (0, 1), (0, 0), (0, 0), (1, 0), (1, 0), (1, 0), (0, 0), (0, 1), (0, 0), (0, 0), (1, 0), (1, 0), (1, 0), (0, 0), (0, 1), (0, 0), (0, 0), (1, 0), (1, 0), (1, 0), (0, 0), (0, 1), (1, 0), (0, 0), (4, 0), (4, 64), (0, 64), (5, 64), (0, 64), (3, 60), (0, 60), (16, 0), (0, 0), (1, 0), (1, 0), (4, 0), (0, 0), (2, 0)] <|
    xRiter 0 [0] 5 (by decide) <|
    ownsX [(1, 0), (2, 0), (1, 0), (1, 0), (0, 0), (0, 0), (0, 0), (0, 0), (0, 0), (0, 0), (6, 66), (0, 66), (3, 66), (1, 64), (1, 66), (1, 57), (0, 57), (0, 57), (1, 57), (1, 57)] <|
    isY 5 ((((q.w0 + q.w1 + q.w2 + q.w3 + q.w4) : Nat) : Int) - (q.w0 : Int)) (((q.w1 + q.w2 + q.w3 + q.w4) : Nat) : Int) (subN (by omega)) <|
    ownsX [(5, 66), (0, 66), (3, 62), (1, 6), (0, 6), (0, 6), (0, 6), (2, 66), (2, 66)] <|
    xBin 2 "int.__pow__" 2 (((q.w1 + q.w2 + q.w3 + q.w4) : Nat) : Int) ((2 ^ (q.w1 + q.w2 + q.w3 + q.w4) : Nat) : Int) (fun _ => powC (by have := H.a0.2; have := H.a1.2; have := H.a2.2; have := H.a3.2; have := H.a4.2; omega) rfl) <|
    xBin 3 "int.__floordiv__" ((nb (octs ns) : Nat) : Int) ((2 ^ (q.w1 + q.w2 + q.w3 + q.w4) : Nat) : Int) ((nb (octs ns) / 2 ^ (q.w1 + q.w2 + q.w3 + q.w4) : Nat) : Int) (fun _ => divPC (by have := H.a0.2; have := H.a1.2; have := H.a2.2; have := H.a3.2; have := H.a4.2; omega) rfl) <|
    ownsX [(3, 64), (1, 66), (1, 57), (0, 57), (0, 57), (1, 57), (1, 57)] <|
    xBin 3 "int.__pow__" 2 (q.w0 : Int) ((2 ^ q.w0 : Nat) : Int) (fun _ => powC (by have := H.a0.2; have := H.a1.2; have := H.a2.2; have := H.a3.2; have := H.a4.2; omega) rfl) <|
    xBin 3 "int.__mod__" ((nb (octs ns) / 2 ^ (q.w1 + q.w2 + q.w3 + q.w4) : Nat) : Int) ((2 ^ q.w0 : Nat) : Int) ((part (nb (octs ns)) (q.w1 + q.w2 + q.w3 + q.w4) q.w0 : Nat) : Int) (fun _ => modPC rfl) <|
    ownsX [(3, 6), (1, 6), (0, 6), (0, 6), (4, 0), (1, 0), (1, 0), (0, 0), (0, 0), (0, 0), (0, 0), (0, 0), (0, 0), (6, 66), (0, 66), (3, 66), (1, 64), (1, 66), (1, 57), (0, 57), (0, 57), (1, 57), (1, 57)] <|
    isY 5 ((((q.w1 + q.w2 + q.w3 + q.w4) : Nat) : Int) - (q.w1 : Int)) (((q.w2 + q.w3 + q.w4) : Nat) : Int) (subN (by omega)) <|
    ownsX [(5, 66), (0, 66), (3, 62), (1, 6), (0, 6), (0, 6), (0, 6), (2, 66), (2, 66)] <|
    xBin 2 "int.__pow__" 2 (((q.w2 + q.w3 + q.w4) : Nat) : Int) ((2 ^ (q.w2 + q.w3 + q.w4) : Nat) : Int) (fun _ => powC (by have := H.a0.2; have := H.a1.2; have := H.a2.2; have := H.a3.2; have := H.a4.2; omega) rfl) <|
    xBin 3 "int.__floordiv__" ((nb (octs ns) : Nat) : Int) ((2 ^ (q.w2 + q.w3 + q.w4) : Nat) : Int) ((nb (octs ns) / 2 ^ (q.w2 + q.w3 + q.w4) : Nat) : Int) (fun _ => divPC (by have := H.a0.2; have := H.a1.2; have := H.a2.2; have := H.a3.2; have := H.a4.2; omega) rfl) <|
    ownsX [(3, 64), (1, 66), (1, 57), (0, 57), (0, 57), (1, 57), (1, 57)] <|
    xBin 3 "int.__pow__" 2 (q.w1 : Int) ((2 ^ q.w1 : Nat) : Int) (fun _ => powC (by have := H.a0.2; have := H.a1.2; have := H.a2.2; have := H.a3.2; have := H.a4.2; omega) rfl) <|
    xBin 3 "int.__mod__" ((nb (octs ns) / 2 ^ (q.w2 + q.w3 + q.w4) : Nat) : Int) ((2 ^ q.w1 : Nat) : Int) ((part (nb (octs ns)) (q.w2 + q.w3 + q.w4) q.w1 : Nat) : Int) (fun _ => modPC rfl) <|
    ownsX [(3, 6), (1, 6), (0, 6), (0, 6), (4, 0), (1, 0), (1, 0), (0, 0), (0, 0), (0, 0), (0, 0), (0, 0), (0, 0), (6, 66), (0, 66), (3, 66), (1, 64), (1, 66), (1, 57), (0, 57), (0, 57), (1, 57), (1, 57)] <|
    isY 5 ((((q.w2 + q.w3 + q.w4) : Nat) : Int) - (q.w2 : Int)) (((q.w3 + q.w4) : Nat) : Int) (subN (by omega)) <|
    ownsX [(5, 66), (0, 66), (3, 62), (1, 6), (0, 6), (0, 6), (0, 6), (2, 66), (2, 66)] <|
    xBin 2 "int.__pow__" 2 (((q.w3 + q.w4) : Nat) : Int) ((2 ^ (q.w3 + q.w4) : Nat) : Int) (fun _ => powC (by have := H.a0.2; have := H.a1.2; have := H.a2.2; have := H.a3.2; have := H.a4.2; omega) rfl) <|
    xBin 3 "int.__floordiv__" ((nb (octs ns) : Nat) : Int) ((2 ^ (q.w3 + q.w4) : Nat) : Int) ((nb (octs ns) / 2 ^ (q.w3 + q.w4) : Nat) : Int) (fun _ => divPC (by have := H.a0.2; have := H.a1.2; have := H.a2.2; have := H.a3.2; have := H.a4.2; omega) rfl) <|
    ownsX [(3, 64), (1, 66), (1, 57), (0, 57), (0, 57), (1, 57), (1, 57)] <|
    xBin 3 "int.__pow__" 2 (q.w2 : Int) ((2 ^ q.w2 : Nat) : Int) (fun _ => powC (by have := H.a0.2; have := H.a1.2; have := H.a2.2; have := H.a3.2; have := H.a4.2; omega) rfl) <|
    xBin 3 "int.__mod__" ((nb (octs ns) / 2 ^ (q.w3 + q.w4) : Nat) : Int) ((2 ^ q.w2 : Nat) : Int) ((part (nb (octs ns)) (q.w3 + q.w4) q.w2 : Nat) : Int) (fun _ => modPC rfl) <|
    ownsX [(3, 6), (1, 6), (0, 6), (0, 6), (4, 0), (1, 0), (1, 0), (0, 0), (0, 0), (0, 0), (0, 0), (0, 0), (0, 0), (6, 66), (0, 66), (3, 66), (1, 64), (1, 66), (1, 57), (0, 57), (0, 57), (1, 57), (1, 57)] <|
    isY 5 ((((q.w3 + q.w4) : Nat) : Int) - (q.w3 : Int)) ((q.w4 : Nat) : Int) (subN (by omega)) <|
    ownsX [(5, 66), (0, 66), (3, 62), (1, 6), (0, 6), (0, 6), (0, 6), (2, 66), (2, 66)] <|
    xBin 2 "int.__pow__" 2 ((q.w4 : Nat) : Int) ((2 ^ q.w4 : Nat) : Int) (fun _ => powC (by have := H.a0.2; have := H.a1.2; have := H.a2.2; have := H.a3.2; have := H.a4.2; omega) rfl) <|
    xBin 3 "int.__floordiv__" ((nb (octs ns) : Nat) : Int) ((2 ^ q.w4 : Nat) : Int) ((nb (octs ns) / 2 ^ q.w4 : Nat) : Int) (fun _ => divPC (by have := H.a0.2; have := H.a1.2; have := H.a2.2; have := H.a3.2; have := H.a4.2; omega) rfl) <|
    ownsX [(3, 64), (1, 66), (1, 57), (0, 57), (0, 57), (1, 57), (1, 57)] <|
    xBin 3 "int.__pow__" 2 (q.w3 : Int) ((2 ^ q.w3 : Nat) : Int) (fun _ => powC (by have := H.a0.2; have := H.a1.2; have := H.a2.2; have := H.a3.2; have := H.a4.2; omega) rfl) <|
    xBin 3 "int.__mod__" ((nb (octs ns) / 2 ^ q.w4 : Nat) : Int) ((2 ^ q.w3 : Nat) : Int) ((part (nb (octs ns)) q.w4 q.w3 : Nat) : Int) (fun _ => modPC rfl) <|
    ownsX [(3, 6), (1, 6), (0, 6), (0, 6), (4, 0), (1, 0), (1, 0), (0, 0), (0, 0), (0, 0), (0, 0), (0, 0), (0, 0), (6, 66), (0, 66), (3, 66), (1, 64), (1, 66), (1, 57), (0, 57), (0, 57), (1, 57), (1, 57)] <|
    isY 5 (((q.w4 : Nat) : Int) - (q.w4 : Int)) ((0 : Nat) : Int) (subN (by omega)) <|
    ownsX [(5, 66), (0, 66), (3, 62), (1, 6), (0, 6), (0, 6), (0, 6), (2, 66), (2, 66)] <|
    xBin 2 "int.__pow__" 2 ((0 : Nat) : Int) ((2 ^ 0 : Nat) : Int) (fun _ => powC (by have := H.a0.2; have := H.a1.2; have := H.a2.2; have := H.a3.2; have := H.a4.2; omega) rfl) <|
    xBin 3 "int.__floordiv__" ((nb (octs ns) : Nat) : Int) ((2 ^ 0 : Nat) : Int) ((nb (octs ns) / 2 ^ 0 : Nat) : Int) (fun _ => divPC (by have := H.a0.2; have := H.a1.2; have := H.a2.2; have := H.a3.2; have := H.a4.2; omega) rfl) <|
    ownsX [(3, 64), (1, 66), (1, 57), (0, 57), (0, 57), (1, 57), (1, 57)] <|
    xBin 3 "int.__pow__" 2 (q.w4 : Int) ((2 ^ q.w4 : Nat) : Int) (fun _ => powC (by have := H.a0.2; have := H.a1.2; have := H.a2.2; have := H.a3.2; have := H.a4.2; omega) rfl) <|
    xBin 3 "int.__mod__" ((nb (octs ns) / 2 ^ 0 : Nat) : Int) ((2 ^ q.w4 : Nat) : Int) ((part (nb (octs ns)) 0 q.w4 : Nat) : Int) (fun _ => modPC rfl) <|
    ownsX [(3, 6), (1, 6), (0, 6), (0, 6), (4, 0), (1, 0), (1, 0), (0, 0), (0, 0), (5, 0), (20, 0), (0, 0), (1, 0), (1, 0), (4, 0), (0, 0), (2, 0)] <|
    xRiter 0 [0] 5 (by decide) <|
    ownsX [(1, 0), (6, 2), (0, 2), (2, 2), (2, 2), (2, 2), (1, 2), (1, 2), (0, 2), (0, 2), (0, 2), (0, 2), (0, 2), (0, 2), (6, 0), (0, 0), (2, 68), (1, 0), (1, 12), (0, 12), (0, 12), (1, 12), (1, 12), (4, 69)] <|
    xBin 2 "int.__mul__" ((8 : Nat) : Int) ((q.k + 1 : Nat) : Int) (((q.w0 + q.w1 + q.w2 + q.w3 + q.w4) : Nat) : Int) (mulN (by decide) (by have := H.sum; omega)) <|
    ownsX [(5, 70), (1, 0), (8, 64), (0, 64), (0, 64), (1, 64), (1, 0), (0, 0), (0, 0), (0, 0), (0, 0), (0, 64)] <|
    xSum 4 [0] [q.w0] <|
    isY 5 ((((q.w0 + q.w1 + q.w2 + q.w3 + q.w4) : Nat) : Int) - ((sumN [q.w0] : Nat) : Int)) (((q.w1 + q.w2 + q.w3 + q.w4) : Nat) : Int) (subN (by simp only [sumN]; omega)) <|
    xBin 3 "int.__pow__" 2 (((q.w1 + q.w2 + q.w3 + q.w4) : Nat) : Int) ((2 ^ (q.w1 + q.w2 + q.w3 + q.w4) : Nat) : Int) (fun _ => powC (by have := H.a0.2; have := H.a1.2; have := H.a2.2; have := H.a3.2; have := H.a4.2; omega) rfl) <|
    xBin 3 "int.__mul__" ((part (nb (octs ns)) (q.w1 + q.w2 + q.w3 + q.w4) q.w0 : Nat) : Int) ((2 ^ (q.w1 + q.w2 + q.w3 + q.w4) : Nat) : Int) ((part (nb (octs ns)) (q.w1 + q.w2 + q.w3 + q.w4) q.w0 * 2 ^ (q.w1 + q.w2 + q.w3 + q.w4) : Nat) : Int) (mulN (part64 H.a0.2) rfl) <|
    ownsX [(2, 3), (1, 3), (0, 3), (0, 3), (3, 4), (1, 4), (1, 4), (0, 4), (0, 4), (0, 4), (0, 4), (0, 4), (0, 4), (6, 2), (0, 2), (2, 70), (1, 2), (1, 14), (0, 14), (0, 14), (1, 14), (1, 14), (4, 71)] <|
    xBin 2 "int.__mul__" ((8 : Nat) : Int) ((q.k + 1 : Nat) : Int) (((q.w0 + q.w1 + q.w2 + q.w3 + q.w4) : Nat) : Int) (mulN (by decide) (by have := H.sum; omega)) <|
    ownsX [(5, 72), (1, 2), (8, 66), (0, 66), (0, 66), (1, 66), (1, 0), (0, 0), (0, 0), (0, 0), (0, 0), (0, 66)] <|
    xSum 4 [0] [q.w0, q.w1] <|
    isY 5 ((((q.w0 + q.w1 + q.w2 + q.w3 + q.w4) : Nat) : Int) - ((sumN [q.w0, q.w1] : Nat) : Int)) (((q.w2 + q.w3 + q.w4) : Nat) : Int) (subN (by simp only [sumN]; omega)) <|
    xBin 3 "int.__pow__" 2 (((q.w2 + q.w3 + q.w4) : Nat) : Int) ((2 ^ (q.w2 + q.w3 + q.w4) : Nat) : Int) (fun _ => powC (by have := H.a0.2; have := H.a1.2; have := H.a2.2; have := H.a3.2; have := H.a4.2; omega) rfl) <|
    xBin 3 "int.__mul__" ((part (nb (octs ns)) (q.w2 + q.w3 + q.w4) q.w1 : Nat) : Int) ((2 ^ (q.w2 + q.w3 + q.w4) : Nat) : Int) ((part (nb (octs ns)) (q.w2 + q.w3 + q.w4) q.w1 * 2 ^ (q.w2 + q.w3 + q.w4) : Nat) : Int) (mulN (part64 H.a1.2) rfl) <|
    ownsX [(2, 5), (1, 5), (0, 5), (0, 5), (3, 6), (1, 6), (1, 6), (0, 6), (0, 6), (0, 6), (0, 6), (0, 6), (0, 6), (6, 4), (0, 4), (2, 72), (1, 4), (1, 16), (0, 16), (0, 16), (1, 16), (1, 16), (4, 73)] <|
    xBin 2 "int.__mul__" ((8 : Nat) : Int) ((q.k + 1 : Nat) : Int) (((q.w0 + q.w1 + q.w2 + q.w3 + q.w4) : Nat) : Int) (mulN (by decide) (by have := H.sum; omega)) <|
    ownsX [(5, 74), (1, 4), (8, 68), (0, 68), (0, 68), (1, 68), (1, 0), (0, 0), (0, 0), (0, 0), (0, 0), (0, 68)] <|
    xSum 4 [0] [q.w0, q.w1, q.w2] <|
    isY 5 ((((q.w0 + q.w1 + q.w2 + q.w3 + q.w4) : Nat) : Int) - ((sumN [q.w0, q.w1, q.w2] : Nat) : Int)) (((q.w3 + q.w4) : Nat) : Int) (subN (by simp only [sumN]; omega)) <|
    xBin 3 "int.__pow__" 2 (((q.w3 + q.w4) : Nat) : Int) ((2 ^ (q.w3 + q.w4) : Nat) : Int) (fun _ => powC (by have := H.a0.2; have := H.a1.2; have := H.a2.2; have := H.a3.2; have := H.a4.2; omega) rfl) <|
    xBin 3 "int.__mul__" ((part (nb (octs ns)) (q.w3 + q.w4) q.w2 : Nat) : Int) ((2 ^ (q.w3 + q.w4) : Nat) : Int) ((part (nb (octs ns)) (q.w3 + q.w4) q.w2 * 2 ^ (q.w3 + q.w4) : Nat) : Int) (mulN (part64 H.a2.2) rfl) <|
    ownsX [(2, 7), (1, 7), (0, 7), (0, 7), (3, 8), (1, 8), (1, 8), (0, 8), (0, 8), (0, 8), (0, 8), (0, 8), (0, 8), (6, 6), (0, 6), (2, 74), (1, 6), (1, 18), (0, 18), (0, 18), (1, 18), (1, 18), (4, 75)] <|
    xBin 2 "int.__mul__" ((8 : Nat) : Int) ((q.k + 1 : Nat) : Int) (((q.w0 + q.w1 + q.w2 + q.w3 + q.w4) : Nat) : Int) (mulN (by decide) (by have := H.sum; omega)) <|
    ownsX [(5, 76), (1, 6), (8, 70), (0, 70), (0, 70), (1, 70), (1, 0), (0, 0), (0, 0), (0, 0), (0, 0), (0, 70)] <|
    xSum 4 [0] [q.w0, q.w1, q.w2, q.w3] <|
    isY 5 ((((q.w0 + q.w1 + q.w2 + q.w3 + q.w4) : Nat) : Int) - ((sumN [q.w0, q.w1, q.w2, q.w3] : Nat) : Int)) ((q.w4 : Nat) : Int) (subN (by simp only [sumN]; omega)) <|
    xBin 3 "int.__pow__" 2 ((q.w4 : Nat) : Int) ((2 ^ q.w4 : Nat) : Int) (fun _ => powC (by have := H.a0.2; have := H.a1.2; have := H.a2.2; have := H.a3.2; have := H.a4.2; omega) rfl) <|
    xBin 3 "int.__mul__" ((part (nb (octs ns)) q.w4 q.w3 : Nat) : Int) ((2 ^ q.w4 : Nat) : Int) ((part (nb (octs ns)) q.w4 q.w3 * 2 ^ q.w4 : Nat) : Int) (mulN (part64 H.a3.2) rfl) <|
    ownsX [(2, 9), (1, 9), (0, 9), (0, 9), (3, 10), (1, 10), (1, 10), (0, 10), (0, 10), (0, 10), (0, 10), (0, 10), (0, 10), (6, 8), (0, 8), (2, 76), (1, 8), (1, 20), (0, 20), (0, 20), (1, 20), (1, 20), (4, 77)] <|
    xBin 2 "int.__mul__" ((8 : Nat) : Int) ((q.k + 1 : Nat) : Int) (((q.w0 + q.w1 + q.w2 + q.w3 + q.w4) : Nat) : Int) (mulN (by decide) (by have := H.sum; omega)) <|
    ownsX [(5, 78), (1, 8), (8, 72), (0, 72), (0, 72), (1, 72), (1, 0), (0, 0), (0, 0), (0, 0), (0, 0), (0, 72)] <|
    xSum 4 [0] [q.w0, q.w1, q.w2, q.w3, q.w4] <|
    isY 5 ((((q.w0 + q.w1 + q.w2 + q.w3 + q.w4) : Nat) : Int) - ((sumN [q.w0, q.w1, q.w2, q.w3, q.w4] : Nat) : Int)) ((0 : Nat) : Int) (subN (by simp only [sumN]; omega)) <|
    xBin 3 "int.__pow__" 2 ((0 : Nat) : Int) ((2 ^ 0 : Nat) : Int) (fun _ => powC (by have := H.a0.2; have := H.a1.2; have := H.a2.2; have := H.a3.2; have := H.a4.2; omega) rfl) <|
    xBin 3 "int.__mul__" ((part (nb (octs ns)) 0 q.w4 : Nat) : Int) ((2 ^ 0 : Nat) : Int) ((part (nb (octs ns)) 0 q.w4 * 2 ^ 0 : Nat) : Int) (mulN (part64 H.a4.2) rfl) <|
    ownsX [(2, 11), (1, 11), (0, 11), (0, 11), (3, 12), (1, 12), (1, 12), (0, 12), (0, 12), (5, 0), (1, 12), (1, 12), (0, 12)] <|
    xSum 2 [13] [part (nb (octs ns)) (q.w1 + q.w2 + q.w3 + q.w4) q.w0 * 2 ^ (q.w1 + q.w2 + q.w3 + q.w4), part (nb (octs ns)) (q.w2 + q.w3 + q.w4) q.w1 * 2 ^ (q.w2 + q.w3 + q.w4), part (nb (octs ns)) (q.w3 + q.w4) q.w2 * 2 ^ (q.w3 + q.w4), part (nb (octs ns)) q.w4 q.w3 * 2 ^ q.w4, part (nb (octs ns)) 0 q.w4 * 2 ^ 0] <|
    ownsX [(2, 84)] <|
    isX 4 (((sumN [part (nb (octs ns)) (q.w1 + q.w2 + q.w3 + q.w4) q.w0 * 2 ^ (q.w1 + q.w2 + q.w3 + q.w4), part (nb (octs ns)) (q.w2 + q.w3 + q.w4) q.w1 * 2 ^ (q.w2 + q.w3 + q.w4), part (nb (octs ns)) (q.w3 + q.w4) q.w2 * 2 ^ (q.w3 + q.w4), part (nb (octs ns)) q.w4 q.w3 * 2 ^ q.w4, part (nb (octs ns)) 0 q.w4 * 2 ^ 0] : Nat) : Int) != ((nb (octs ns) : Nat) : Int)) false (H.whole _ hp.len) <|
    ownsX [(6, 80)] <|
    ownsX [(8, 0), (0, 0), (1, 0)] <|
    xLin 0 [0, 25] <|
    ownsX [(7, 85), (0, 85), (3, 85), (15, 82), (2, 26), (0, 26), (0, 26), (1, 26), (1, 26), (4, 84), (2, 77), (0, 77), (0, 77), (1, 77), (1, 77)] <|
    xBin 4 "int.__floordiv__" (q.w2 : Int) 8 ((q.w2 / 8 : Nat) : Int) (div8 rfl) <|
    xTb 4 (part (nb (octs ns)) (q.w3 + q.w4) q.w2) (q.w2 / 8) (by have := swK (H.tn rfl); omega) (part256 (H.tn rfl)) fun b =>
    ownsX [(4, 0), (1, 0)] <|
    xFbL 0 b.1 (tbsz b.2 (swK (H.tn rfl))) (due2 true q.w2 (part (nb (octs ns)) (q.w3 + q.w4) q.w2)) (tb_n _ _ _ (swK (H.tn rfl)) (part256 (H.tn rfl)) b.2) <|
    ownsX [(3, 86), (2, 1), (0, 1), (1, 1), (1, 1), (0, 1), (0, 1), (9, 0), (0, 0), (2, 0), (3, 0)] <|
    xSg 0 [88, 0, 1, 86, 79, 73, 3] q.w0 q.w1 q.w2 q.w3 q.w4 s0 s1 s2 s3 s4 ((part (nb (octs ns)) (q.w2 + q.w3 + q.w4) q.w1 : Nat) : Int) (part (nb (octs ns)) (q.w1 + q.w2 + q.w3 + q.w4) q.w0) (due2 true q.w2 (part (nb (octs ns)) (q.w3 + q.w4) q.w2)) (part (nb (octs ns)) q.w4 q.w3) (part (nb (octs ns)) 0 q.w4) ⟨H.a0.1, by have := H.a0.2; have := H.a1.2; have := H.a2.2; have := H.a3.2; have := H.a4.2; omega⟩ ⟨H.a2.1, by have := H.a0.2; have := H.a1.2; have := H.a2.2; have := H.a3.2; have := H.a4.2; omega⟩ ⟨H.a3.1, by have := H.a0.2; have := H.a1.2; have := H.a2.2; have := H.a3.2; have := H.a4.2; omega⟩ ⟨H.a4.1, by have := H.a0.2; have := H.a1.2; have := H.a2.2; have := H.a3.2; have := H.a4.2; omega⟩ <|
    ownsX [(3, 88), (2, 30), (5, 30), (10, 0), (0, 0), (2, 0), (0, 0)] <|
    ownsX [(6, 0), (2, 31), (4, 31), (3, 31), (0, 31), (1, 32), (3, 0), (1, 33), (0, 33), (0, 33), (1, 33)] <|
    xGet 0 0 [33] <|
    ownsX [(6, 89), (2, 31), (5, 31), (10, 0), (0, 0), (2, 0), (0, 0)] <|
    ownsX [(6, 0), (2, 32), (4, 32), (3, 32), (0, 32), (1, 33), (3, 0), (1, 34), (0, 34), (0, 34), (1, 34)] <|
    xGet 1 0 [34] <|
    ownsX [(6, 90), (2, 32), (5, 32), (10, 0), (0, 0), (2, 0), (0, 0)] <|
    ownsX [(6, 0), (2, 33), (4, 33), (3, 33), (0, 33), (1, 34), (3, 0), (1, 35), (0, 35), (0, 35), (1, 35)] <|
    xGet 2 0 [35] <|
    ownsX [(6, 91), (2, 33), (5, 33), (10, 0), (0, 0), (2, 0), (0, 0)] <|
    ownsX [(6, 0), (2, 34), (4, 34), (3, 34), (0, 34), (1, 35), (3, 0), (1, 36), (0, 36), (0, 36), (1, 36)] <|
    xGet 3 0 [36] <|
    ownsX [(8, 93), (2, 8), (0, 8), (0, 8), (1, 8), (1, 8), (2, 93), (2, 8), (0, 8), (0, 8), (1, 8), (1, 8), (2, 93), (2, 8), (0, 8), (0, 8), (1, 8), (1, 8), (2, 93), (2, 8), (0, 8), (0, 8), (1, 8), (1, 8)] <|
    ownsX [(4, 1), (0, 0), (0, 1), (2, 1), (1, 0), (0, 1), (0, 0)] <|
    xEqI 0 [1, 0] _ _ (H.told s0 s2 s3 s4 (octs ns) hp.len) <|
    ownsX [(4, 94), (1, 43), (7, 43), (7, 43), (8, 43), (0, 44)] <|
    cCsz 3 [97, 43, 44, 45, 46, 47, 48, 49, 66, 67, 68, 69, 62, 63, 64, 65, 58, 59, 60, 61, 54, 55, 56, 57, 50, 51, 52, 53] (spOf q s0 s2 s3 s4 true) (octs ns).length (H.job s0 s2 s3 s4 _ hp.len).fits <|
    ownsX [(2, 91)] <|
    isX 4 ((((octs ns).length : Nat) : Int) == ((q.k + 1 : Nat) : Int)) true (by rw [hp.len]; exact beq_self_eq_true _) <|
    ownsX [(3, 94), (1, 39), (7, 39), (7, 39), (4, 39), (0, 40)] <|
    xTell 3 [39, 40, 41] (datO (octs ns)) (3 + (octs ns).length) <|
    ownsX [(3, 91)] <|
    isX 9 (((3 + (octs ns).length : Nat) : Int) == ((3 + (q.k + 1) : Nat) : Int)) true (by rw [hp.len]; exact beq_self_eq_true _) <|
    ownsX [(6, 94), (1, 36), (3, 36), (3, 36), (4, 36), (0, 37), (9, 0), (0, 0)] <|
    ownsX [(6, 0), (2, 37), (4, 37), (3, 37), (0, 37), (1, 38), (3, 39), (0, 39), (0, 39), (0, 39), (3, 39)] <|
    xKeys 0 [39] <|
    xSort 5 [0, 40] <|
    ownsX [(9, 1), (0, 0), (0, 1), (2, 1), (1, 0), (0, 1), (0, 0)] <|
    xEqS 0 [1, 0] [S "a", S "b", S "c", S "d"] <|
    .fin 2 (fun _ T => (fldA (objAt T 106), fldA (objAt T 107), fldA (objAt T 108))) [105, 106, 107, 108] []
def tlT2 (xs : Array Value) (e' : Nat) (S : Scr xs) (q : Lw) (H : LwP q true) (s0 s1 s2 s3 s4 : Bool) : Hx prog (wr w b1 false) (kt w.params) (Array Value × Array Value × Array Value) :=
    xSum 1 [9] [q.w0, q.w1, q.w2, q.w3, q.w4] <|
    xBin 4 "int.__floordiv__" ((sumN [q.w0, q.w1, q.w2, q.w3, q.w4] : Nat) : Int) 8 ((q.k + 1 : Nat) : Int) (div8 H.siz) <|
    ownsX [(3, 15), (0, 15), (9, 15), (10, 0), (0, 0), (1, 0), (1, 0), (4, 0), (0, 0), (2, 0)] <|
    xRiter 0 [0] (q.k + 1) (by have := H.ten; omega) <|
    ownsX [(1, 0)] <|
    xDs 2 [0, 2, 1, 21, 16, 17] xs e' q.k S (by have := H.ten; omega) fun dc =>
    ownsX [(0, 2), (1, 2), (0, 2)] <|
    tlT3 q H s0 s1 s2 s3 s4 dc.1.vs dc.1.ns dc.1.e dc.2
def tlT (xs : Array Value) (e' : Nat) (S : Scr xs) (w0 w1 w2 w3 : Nat) (h0 : Wd w0) (h1 : Wd w1) (h2 : Wd w2) (h3 : Wd w3) (ht : w2 = 8 ∨ w2 = 16) : Hx prog (wr w b1 false) (kt w.params) (Array Value × Array Value × Array Value) :=
    ownsX [(1, 0), (7, 2), (0, 2), (2, 2), (2, 2), (2, 2), (1, 2), (1, 2), (0, 2), (0, 2), (0, 2), (0, 2), (0, 2), (0, 2), (6, 0), (0, 0), (4, 15)] <|
    xTake 3 [10, 11] xs e' S 1 (by decide) fun p0 =>
    isX 6 ((p0.v : Int) == 1) (p0.v == 1) (eq1 p0.v) <|
    ownsX [(2, 1), (1, 1), (0, 1), (0, 1), (3, 2), (1, 2), (1, 2), (0, 2), (0, 2), (0, 2), (0, 2), (0, 2), (0, 2), (6, 0), (0, 0), (4, 15)] <|
    xTake 3 [10, 11] xs e' S 1 (by decide) fun p1 =>
    isX 6 ((p1.v : Int) == 1) (p1.v == 1) (eq1 p1.v) <|
    ownsX [(2, 1), (1, 1), (0, 1), (0, 1), (3, 2), (1, 2), (1, 2), (0, 2), (0, 2), (0, 2), (0, 2), (0, 2), (0, 2), (6, 0), (0, 0), (4, 15)] <|
    xTake 3 [10, 11] xs e' S 1 (by decide) fun p2 =>
    isX 6 ((p2.v : Int) == 1) (p2.v == 1) (eq1 p2.v) <|
    ownsX [(2, 1), (1, 1), (0, 1), (0, 1), (3, 2), (1, 2), (1, 2), (0, 2), (0, 2), (0, 2), (0, 2), (0, 2), (0, 2), (6, 0), (0, 0), (4, 15)] <|
    xTake 3 [10, 11] xs e' S 1 (by decide) fun p3 =>
    isX 6 ((p3.v : Int) == 1) (p3.v == 1) (eq1 p3.v) <|
    ownsX [(2, 1), (1, 1), (0, 1), (0, 1), (3, 2), (1, 2), (1, 2), (0, 2), (0, 2), (0, 2), (0, 2), (0, 2), (0, 2), (6, 0), (0, 0), (4, 15)] <|
    xTake 3 [10, 11] xs e' S 1 (by decide) fun p4 =>
    isX 6 ((p4.v : Int) == 1) (p4.v == 1) (eq1 p4.v) <|
    ownsX [(2, 1), (1, 1), (0, 1), (0, 1), (3, 2), (1, 2), (1, 2), (0, 2), (0, 2), (5, 0), (6, 18), (0, 18), (1, 2), (1, 2), (0, 2), (3, 16), (1, 9), (0, 9), (0, 9), (0, 9), (6, 16)] <|
    xSum 1 [9] [w0, w1, w2, w3] <|
    xBin 4 "int.__mod__" (((sumN [w0, w1, w2, w3]) : Nat) : Int) 8 (((sumN [w0, w1, w2, w3]) % 8 : Nat) : Int) (mod8 rfl) <|
    isY 5 (8 - (((sumN [w0, w1, w2, w3]) % 8 : Nat) : Int)) ((8 - (sumN [w0, w1, w2, w3]) % 8 : Nat) : Int) (by omega) <|
    ownsX [(5, 17)] <|
    xTake 3 [12, 13] xs e' S 1 (by decide) fun p5 =>
    xBin 3 "int.__mul__" ((8 : Nat) : Int) (p5.v : Int) ((8 * p5.v : Nat) : Int) (mulN (by decide) rfl) <|
    ownsX [(8, 9), (1, 9), (0, 9), (0, 9), (7, 16)] <|
    tlT2 xs e' S (lwOf w0 w1 w2 w3 p5.v) (lwOf_ok w0 w1 w2 w3 p5.v h0 h1 h2 h3 (fun _ => ht) (by have := p5.hv; omega)) (p0.v == 1) (p1.v == 1) (p2.v == 1) (p3.v == 1) (p4.v == 1)

def tlF3 (q : Lw) (H : LwP q false) (s0 s1 s2 s3 s4 : Bool) (vs : List Value) (ns : List Int) (e : Nat) (hp : DcP (q.k + 1) vs ns) : Hx prog (wr w b1 false) (kt w.params) (Array Value × Array Value × Array Value) :=
    xByNew 4 [3] vs e ns (octs ns).toArray hp.1 hp.2.1 (by rw [hp.2.2.2, sizeLine_eq]; have := H.ten; omega) rfl <|
    ownsX [(9, 24), (0, 24), (9, 22), (2, 15), (0, 15), (0, 15), (1, 15), (1, 15), (2, 24), (2, 9), (0, 9), (0, 9), (1, 9), (1, 9)] <|
    xBf_a 4 (q.w0 : Int) s0 fun _ =>
    ownsX [(4, 26), (2, 19), (0, 19), (0, 19), (1, 19), (1, 19)] <|
    xPad 3 (q.w1 : Int) fun _ =>
    ownsX [(5, 30), (2, 23), (0, 23), (0, 23), (1, 23), (1, 23), (2, 32), (2, 32), (2, 17), (0, 17), (0, 17), (1, 17), (1, 17)] <|
    xBf_b 4 (q.w2 : Int) false s2 fun _ =>
    ownsX [(5, 34), (2, 27), (0, 27), (0, 27), (1, 27), (1, 27), (2, 36), (2, 21), (0, 21), (0, 21), (1, 21), (1, 21)] <|
    xBf_c 4 (q.w3 : Int) s3 fun _ =>
    ownsX [(5, 38), (2, 31), (0, 31), (0, 31), (1, 31), (1, 31), (2, 40), (2, 25), (0, 25), (0, 25), (1, 25), (1, 25)] <|
    xBf_d 4 (q.w4 : Int) s4 fun _ =>
    xBs 3 [48, 16, 17, 18, 19, 12, 13, 14, 15, 8, 9, 10, 11, 4, 5, 6, 7, 0, 1, 2, 3] (spOf q s0 s2 s3 s4 false) fun _ =>
    ownsX [(5, 51), (0, 51)] <|
    xBy123 15 [0] <|
    ownsX [(6, 52)] <|
    xByAdd 3 #[1, 2, 3] (octs ns).toArray (by have := hp.len; have := H.ten; simp; omega) <|
    xByAdd 5 (#[1, 2, 3] ++ (octs ns).toArray) #[5] (by have := hp.len; have := H.ten; simp; omega) <|
    xAs 3 (datO (octs ns)) (H.job s0 s2 s3 s4 _ hp.len).sz fun _ =>
    ownsX [(5, 55), (0, 55), (5, 55), (1, 55)] <|
    xStp 3 [57, 58, 4, 5, 6, 7, 8, 9, 10, 27, 28, 29, 30, 23, 24, 25, 26, 19, 20, 21, 22, 15, 16, 17, 18, 11, 12, 13, 14, 0, 1, 2] (spOf q s0 s2 s3 s4 false) (octs ns) (datO (octs ns)) (H.job s0 s2 s3 s4 _ hp.len) fun _ =>
    ownsX [(5, 58), (0, 58), (16, 59), (2, 0), (1, 0)] <|
    xFbB 0 (octs ns).toArray (by have := hp.len; have := H.ten; simp; omega) <|
    ownsX [(4, 56)] <|
    xBin 2 "int.__mul__" ((8 : Nat) : Int) ((q.k + 1 : Nat) : Int) (((q.w0 + q.w1 + q.w2 + q.w3 + q.w4) : Nat) : Int) (mulN (by decide) (by have := H.sum; omega)) <|
    ownsX [(5, 0), (0, 0), (0, 0), (2, 0), (3, 0), (0, 0), (1, 0), (1, 0), (0, 0), (0, 1), (0, 0), (0, 0), (1, 0), (1, 0), (1, 0), (0, 0), (0, 1), (0, 0), (0, 0), (1, 0), (1, 0), (1, 0), (0, 0), (0, 1), (0, 0), (0, 0), (1, 0), (1, 0), (1, 0), (0, 0), (0, 1), (1, 0), (0, 0), (4, 0), (4, 64), (0, 64), (5, 64), (0, 64), (3, 60), (0, 60), (16, 0), (0, 0), (1, 0), (1, 0), (4, 0), (0, 0), (2, 0)] <|
    xRiter 0 [0] 5 (by decide) <|
    ownsX [(1, 0), (2, 0), (1, 0), (1, 0), (0, 0), (0, 0), (0, 0), (0, 0), (0, 0), (0, 0), (6, 66), (0, 66), (3, 66), (1, 64), (1, 66), (1, 57), (0, 57), (0, 57), (1, 57), (1, 57)] <|
    isY 5 ((((q.w0 + q.w1 + q.w2 + q.w3 + q.w4) : Nat) : Int) - (q.w0 : Int)) (((q.w1 + q.w2 + q.w3 + q.w4) : Nat) : Int) (subN (by omega)) <|
    ownsX [(5, 66), (0, 66), (3, 62), (1, 6), (0, 6), (0, 6), (0, 6), (2, 66), (2, 66)] <|
    xBin 2 "int.__pow__" 2 (((q.w1 + q.w2 + q.w3 + q.w4) : Nat) : Int) ((2 ^ (q.w1 + q.w2 + q.w3 + q.w4) : Nat) : Int) (fun _ => powC (by have := H.a0.2; have := H.a1.2; have := H.a2.2; have := H.a3.2; have := H.a4.2; omega) rfl) <|
    xBin 3 "int.__floordiv__" ((nb (octs ns) : Nat) : Int) ((2 ^ (q.w1 + q.w2 + q.w3 + q.w4) : Nat) : Int) ((nb (octs ns) / 2 ^ (q.w1 + q.w2 + q.w3 + q.w4) : Nat) : Int) (fun _ => divPC (by have := H.a0.2; have := H.a1.2; have := H.a2.2; have := H.a3.2; have := H.a4.2; omega) rfl) <|
    ownsX [(3, 64), (1, 66), (1, 57), (0, 57), (0, 57), (1, 57), (1, 57)] <|
    xBin 3 "int.__pow__" 2 (q.w0 : Int) ((2 ^ q.w0 : Nat) : Int) (fun _ => powC (by have := H.a0.2; have := H.a1.2; have := H.a2.2; have := H.a3.2; have := H.a4.2; omega) rfl) <|
    xBin 3 "int.__mod__" ((nb (octs ns) / 2 ^ (q.w1 + q.w2 + q.w3 + q.w4) : Nat) : Int) ((2 ^ q.w0 : Nat) : Int) ((part (nb (octs ns)) (q.w1 + q.w2 + q.w3 + q.w4) q.w0 : Nat) : Int) (fun _ => modPC rfl) <|
    ownsX [(3, 6), (1, 6), (0, 6), (0, 6), (4, 0), (1, 0), (1, 0), (0, 0), (0, 0), (0, 0), (0, 0), (0, 0), (0, 0), (6, 66), (0, 66), (3, 66), (1, 64), (1, 66), (1, 57), (0, 57), (0, 57), (1, 57), (1, 57)] <|
    isY 5 ((((q.w1 + q.w2 + q.w3 + q.w4) : Nat) : Int) - (q.w1 : Int)) (((q.w2 + q.w3 + q.w4) : Nat) : Int) (subN (by omega)) <|
    ownsX [(5, 66), (0, 66), (3, 62), (1, 6), (0, 6), (0, 6), (0, 6), (2, 66), (2, 66)] <|
    xBin 2 "int.__pow__" 2 (((q.w2 + q.w3 + q.w4) : Nat) : Int) ((2 ^ (q.w2 + q.w3 + q.w4) : Nat) : Int) (fun _ => powC (by have := H.a0.2; have := H.a1.2; have := H.a2.2; have := H.a3.2; have := H.a4.2; omega) rfl) <|
    xBin 3 "int.__floordiv__" ((nb (octs ns) : Nat) : Int) ((2 ^ (q.w2 + q.w3 + q.w4) : Nat) : Int) ((nb (octs ns) / 2 ^ (q.w2 + q.w3 + q.w4) : Nat) : Int) (fun _ => divPC (by have := H.a0.2; have := H.a1.2; have := H.a2.2; have := H.a3.2; have := H.a4.2; omega) rfl) <|
    ownsX [(3, 64), (1, 66), (1, 57), (0, 57), (0, 57), (1, 57), (1, 57)] <|
    xBin 3 "int.__pow__" 2 (q.w1 : Int) ((2 ^ q.w1 : Nat) : Int) (fun _ => powC (by have := H.a0.2; have := H.a1.2; have := H.a2.2; have := H.a3.2; have := H.a4.2; omega) rfl) <|
    xBin 3 "int.__mod__" ((nb (octs ns) / 2 ^ (q.w2 + q.w3 + q.w4) : Nat) : Int) ((2 ^ q.w1 : Nat) : Int) ((part (nb (octs ns)) (q.w2 + q.w3 + q.w4) q.w1 : Nat) : Int) (fun _ => modPC rfl) <|
    ownsX [(3, 6), (1, 6), (0, 6), (0, 6), (4, 0), (1, 0), (1, 0), (0, 0), (0, 0), (0, 0), (0, 0), (0, 0), (0, 0), (6, 66), (0, 66), (3, 66), (1, 64), (1, 66), (1, 57), (0, 57), (0, 57), (1, 57), (1, 57)] <|
    isY 5 ((((q.w2 + q.w3 + q.w4) : Nat) : Int) - (q.w2 : Int)) (((q.w3 + q.w4) : Nat) : Int) (subN (by omega)) <|
    ownsX [(5, 66), (0, 66), (3, 62), (1, 6), (0, 6), (0, 6), (0, 6), (2, 66), (2, 66)] <|
    xBin 2 "int.__pow__" 2 (((q.w3 + q.w4) : Nat) : Int) ((2 ^ (q.w3 + q.w4) : Nat) : Int) (fun _ => powC (by have := H.a0.2; have := H.a1.2; have := H.a2.2; have := H.a3.2; have := H.a4.2; omega) rfl) <|
    xBin 3 "int.__floordiv__" ((nb (octs ns) : Nat) : Int) ((2 ^ (q.w3 + q.w4) : Nat) : Int) ((nb (octs ns) / 2 ^ (q.w3 + q.w4) : Nat) : Int) (fun _ => divPC (by have := H.a0.2; have := H.a1.2; have := H.a2.2; have := H.a3.2; have := H.a4.2; omega) rfl) <|
    ownsX [(3, 64), (1, 66), (1, 57), (0, 57), (0, 57), (1, 57), (1, 57)] <|
    xBin 3 "int.__pow__" 2 (q.w2 : Int) ((2 ^ q.w2 : Nat) : Int) (fun _ => powC (by have := H.a0.2; have := H.a1.2; have := H.a2.2; have := H.a3.2; have := H.a4.2; omega) rfl) <|
    xBin 3 "int.__mod__" ((nb (octs ns) / 2 ^ (q.w3 + q.w4) : Nat) : Int) ((2 ^ q.w2 : Nat) : Int) ((part (nb (octs ns)) (q.w3 + q.w4) q.w2 : Nat) : Int) (fun _ => modPC rfl) <|
    ownsX [(3, 6), (1, 6), (0, 6), (0, 6), (4, 0), (1, 0), (1, 0), (0, 0), (0, 0), (0, 0), (0, 0), (0, 0), (0, 0), (6, 66), (0, 66), (3, 66), (1, 64), (1, 66), (1, 57), (0, 57), (0, 57), (1, 57), (1, 57)] <|
    isY 5 ((((q.w3 + q.w4) : Nat) : Int) - (q.w3 : Int)) ((q.w4 : Nat) : Int) (subN (by omega)) <|
    ownsX [(5, 66), (0, 66), (3, 62), (1, 6), (0, 6), (0, 6), (0, 6), (2, 66), (2, 66)] <|
    xBin 2 "int.__pow__" 2 ((q.w4 : Nat) : Int) ((2 ^ q.w4 : Nat) : Int) (fun _ => powC (by have := H.a0.2; have := H.a1.2; have := H.a2.2; have := H.a3.2; have := H.a4.2; omega) rfl) <|
    xBin 3 "int.__floordiv__" ((nb (octs ns) : Nat) : Int) ((2 ^ q.w4 : Nat) : Int) ((nb (octs ns) / 2 ^ q.w4 : Nat) : Int) (fun _ => divPC (by have := H.a0.2; have := H.a1.2; have := H.a2.2; have := H.a3.2; have := H.a4.2; omega) rfl) <|
    ownsX [(3, 64), (1, 66), (1, 57), (0, 57), (0, 57), (1, 57), (1, 57)] <|
    xBin 3 "int.__pow__" 2 (q.w3 : Int) ((2 ^ q.w3 : Nat) : Int) (fun _ => powC (by have := H.a0.2; have := H.a1.2; have := H.a2.2; have := H.a3.2; have := H.a4.2; omega) rfl) <|
    xBin 3 "int.__mod__" ((nb (octs ns) / 2 ^ q.w4 : Nat) : Int) ((2 ^ q.w3 : Nat) : Int) ((part (nb (octs ns)) q.w4 q.w3 : Nat) : Int) (fun _ => modPC rfl) <|
    ownsX [(3, 6), (1, 6), (0, 6), (0, 6), (4, 0), (1, 0), (1, 0), (0, 0), (0, 0), (0, 0), (0, 0), (0, 0), (0, 0), (6, 66), (0, 66), (3, 66), (1, 64), (1, 66), (1, 57), (0, 57), (0, 57), (1, 57), (1, 57)] <|
    isY 5 (((q.w4 : Nat) : Int) - (q.w4 : Int)) ((0 : Nat) : Int) (subN (by omega)) <|
    ownsX [(5, 66), (0, 66), (3, 62), (1, 6), (0, 6), (0, 6), (0, 6), (2, 66), (2, 66)] <|
    xBin 2 "int.__pow__" 2 ((0 : Nat) : Int) ((2 ^ 0 : Nat) : Int) (fun _ => powC (by have := H.a0.2; have := H.a1.2; have := H.a2.2; have := H.a3.2; have := H.a4.2; omega) rfl) <|
    xBin 3 "int.__floordiv__" ((nb (octs ns) : Nat) : Int) ((2 ^ 0 : Nat) : Int) ((nb (octs ns) / 2 ^ 0 : Nat) : Int) (fun _ => divPC (by have := H.a0.2; have := H.a1.2; have := H.a2.2; have := H.a3.2; have := H.a4.2; omega) rfl) <|
    ownsX [(3, 64), (1, 66), (1, 57), (0, 57), (0, 57), (1, 57), (1, 57)] <|
    xBin 3 "int.__pow__" 2 (q.w4 : Int) ((2 ^ q.w4 : Nat) : Int) (fun _ => powC (by have := H.a0.2; have := H.a1.2; have := H.a2.2; have := H.a3.2; have := H.a4.2; omega) rfl) <|
    xBin 3 "int.__mod__" ((nb (octs ns) / 2 ^ 0 : Nat) : Int) ((2 ^ q.w4 : Nat) : Int) ((part (nb (octs ns)) 0 q.w4 : Nat) : Int) (fun _ => modPC rfl) <|
    ownsX [(3, 6), (1, 6), (0, 6), (0, 6), (4, 0), (1, 0), (1, 0), (0, 0), (0, 0), (5, 0), (20, 0), (0, 0), (1, 0), (1, 0), (4, 0), (0, 0), (2, 0)] <|
    xRiter 0 [0] 5 (by decide) <|
    ownsX [(1, 0), (6, 2), (0, 2), (2, 2), (2, 2), (2, 2), (1, 2), (1, 2), (0, 2), (0, 2), (0, 2), (0, 2), (0, 2), (0, 2), (6, 0), (0, 0), (2, 68), (1, 0), (1, 12), (0, 12), (0, 12), (1, 12), (1, 12), (4, 69)] <|
    xBin 2 "int.__mul__" ((8 : Nat) : Int) ((q.k + 1 : Nat) : Int) (((q.w0 + q.w1 + q.w2 + q.w3 + q.w4) : Nat) : Int) (mulN (by decide) (by have := H.sum; omega)) <|
    ownsX [(5, 70), (1, 0), (8, 64), (0, 64), (0, 64), (1, 64), (1, 0), (0, 0), (0, 0), (0, 0), (0, 0), (0, 64)] <|
    xSum 4 [0] [q.w0] <|
    isY 5 ((((q.w0 + q.w1 + q.w2 + q.w3 + q.w4) : Nat) : Int) - ((sumN [q.w0] : Nat) : Int)) (((q.w1 + q.w2 + q.w3 + q.w4) : Nat) : Int) (subN (by simp only [sumN]; omega)) <|
    xBin 3 "int.__pow__" 2 (((q.w1 + q.w2 + q.w3 + q.w4) : Nat) : Int) ((2 ^ (q.w1 + q.w2 + q.w3 + q.w4) : Nat) : Int) (fun _ => powC (by have := H.a0.2; have := H.a1.2; have := H.a2.2; have := H.a3.2; have := H.a4.2; omega) rfl) <|
    xBin 3 "int.__mul__" ((part (nb (octs ns)) (q.w1 + q.w2 + q.w3 + q.w4) q.w0 : Nat) : Int) ((2 ^ (q.w1 + q.w2 + q.w3 + q.w4) : Nat) : Int) ((part (nb (octs ns)) (q.w1 + q.w2 + q.w3 + q.w4) q.w0 * 2 ^ (q.w1 + q.w2 + q.w3 + q.w4) : Nat) : Int) (mulN (part64 H.a0.2) rfl) <|
    ownsX [(2, 3), (1, 3), (0, 3), (0, 3), (3, 4), (1, 4), (1, 4), (0, 4), (0, 4), (0, 4), (0, 4), (0, 4), (0, 4), (6, 2), (0, 2), (2, 70), (1, 2), (1, 14), (0, 14), (0, 14), (1, 14), (1, 14), (4, 71)] <|
    xBin 2 "int.__mul__" ((8 : Nat) : Int) ((q.k + 1 : Nat) : Int) (((q.w0 + q.w1 + q.w2 + q.w3 + q.w4) : Nat) : Int) (mulN (by decide) (by have := H.sum; omega)) <|
    ownsX [(5, 72), (1, 2), (8, 66), (0, 66), (0, 66), (1, 66), (1, 0), (0, 0), (0, 0), (0, 0), (0, 0), (0, 66)] <|
    xSum 4 [0] [q.w0, q.w1] <|
    isY 5 ((((q.w0 + q.w1 + q.w2 + q.w3 + q.w4) : Nat) : Int) - ((sumN [q.w0, q.w1] : Nat) : Int)) (((q.w2 + q.w3 + q.w4) : Nat) : Int) (subN (by simp only [sumN]; omega)) <|
    xBin 3 "int.__pow__" 2 (((q.w2 + q.w3 + q.w4) : Nat) : Int) ((2 ^ (q.w2 + q.w3 + q.w4) : Nat) : Int) (fun _ => powC (by have := H.a0.2; have := H.a1.2; have := H.a2.2; have := H.a3.2; have := H.a4.2; omega) rfl) <|
    xBin 3 "int.__mul__" ((part (nb (octs ns)) (q.w2 + q.w3 + q.w4) q.w1 : Nat) : Int) ((2 ^ (q.w2 + q.w3 + q.w4) : Nat) : Int) ((part (nb (octs ns)) (q.w2 + q.w3 + q.w4) q.w1 * 2 ^ (q.w2 + q.w3 + q.w4) : Nat) : Int) (mulN (part64 H.a1.2) rfl) <|
    ownsX [(2, 5), (1, 5), (0, 5), (0, 5), (3, 6), (1, 6), (1, 6), (0, 6), (0, 6), (0, 6), (0, 6), (0, 6), (0, 6), (6, 4), (0, 4), (2, 72), (1, 4), (1, 16), (0, 16), (0, 16), (1, 16), (1, 16), (4, 73)] <|
    xBin 2 "int.__mul__" ((8 : Nat) : Int) ((q.k + 1 : Nat) : Int) (((q.w0 + q.w1 + q.w2 + q.w3 + q.w4) : Nat) : Int) (mulN (by decide) (by have := H.sum; omega)) <|
    ownsX [(5, 74), (1, 4), (8, 68), (0, 68), (0, 68), (1, 68), (1, 0), (0, 0), (0, 0), (0, 0), (0, 0), (0, 68)] <|
    xSum 4 [0] [q.w0, q.w1, q.w2] <|
    isY 5 ((((q.w0 + q.w1 + q.w2 + q.w3 + q.w4) : Nat) : Int) - ((sumN [q.w0, q.w1, q.w2] : Nat) : Int)) (((q.w3 + q.w4) : Nat) : Int) (subN (by simp only [sumN]; omega)) <|
    xBin 3 "int.__pow__" 2 (((q.w3 + q.w4) : Nat) : Int) ((2 ^ (q.w3 + q.w4) : Nat) : Int) (fun _ => powC (by have := H.a0.2; have := H.a1.2; have := H.a2.2; have := H.a3.2; have := H.a4.2; omega) rfl) <|
    xBin 3 "int.__mul__" ((part (nb (octs ns)) (q.w3 + q.w4) q.w2 : Nat) : Int) ((2 ^ (q.w3 + q.w4) : Nat) : Int) ((part (nb (octs ns)) (q.w3 + q.w4) q.w2 * 2 ^ (q.w3 + q.w4) : Nat) : Int) (mulN (part64 H.a2.2) rfl) <|
    ownsX [(2, 7), (1, 7), (0, 7), (0, 7), (3, 8), (1, 8), (1, 8), (0, 8), (0, 8), (0, 8), (0, 8), (0, 8), (0, 8), (6, 6), (0, 6), (2, 74), (1, 6), (1, 18), (0, 18), (0, 18), (1, 18), (1, 18), (4, 75)] <|
    xBin 2 "int.__mul__" ((8 : Nat) : Int) ((q.k + 1 : Nat) : Int) (((q.w0 + q.w1 + q.w2 + q.w3 + q.w4) : Nat) : Int) (mulN (by decide) (by have := H.sum; omega)) <|
    ownsX [(5, 76), (1, 6), (8, 70), (0, 70), (0, 70), (1, 70), (1, 0), (0, 0), (0, 0), (0, 0), (0, 0), (0, 70)] <|
    xSum 4 [0] [q.w0, q.w1, q.w2, q.w3] <|
    isY 5 ((((q.w0 + q.w1 + q.w2 + q.w3 + q.w4) : Nat) : Int) - ((sumN [q.w0, q.w1, q.w2, q.w3] : Nat) : Int)) ((q.w4 : Nat) : Int) (subN (by simp only [sumN]; omega)) <|
    xBin 3 "int.__pow__" 2 ((q.w4 : Nat) : Int) ((2 ^ q.w4 : Nat) : Int) (fun _ => powC (by have := H.a0.2; have := H.a1.2; have := H.a2.2; have := H.a3.2; have := H.a4.2; omega) rfl) <|
    xBin 3 "int.__mul__" ((part (nb (octs ns)) q.w4 q.w3 : Nat) : Int) ((2 ^ q.w4 : Nat) : Int) ((part (nb (octs ns)) q.w4 q.w3 * 2 ^ q.w4 : Nat) : Int) (mulN (part64 H.a3.2) rfl) <|
    ownsX [(2, 9), (1, 9), (0, 9), (0, 9), (3, 10), (1, 10), (1, 10), (0, 10), (0, 10), (0, 10), (0, 10), (0, 10), (0, 10), (6, 8), (0, 8), (2, 76), (1, 8), (1, 20), (0, 20), (0, 20), (1, 20), (1, 20), (4, 77)] <|
    xBin 2 "int.__mul__" ((8 : Nat) : Int) ((q.k + 1 : Nat) : Int) (((q.w0 + q.w1 + q.w2 + q.w3 + q.w4) : Nat) : Int) (mulN (by decide) (by have := H.sum; omega)) <|
    ownsX [(5, 78), (1, 8), (8, 72), (0, 72), (0, 72), (1, 72), (1, 0), (0, 0), (0, 0), (0, 0), (0, 0), (0, 72)] <|
    xSum 4 [0] [q.w0, q.w1, q.w2, q.w3, q.w4] <|
    isY 5 ((((q.w0 + q.w1 + q.w2 + q.w3 + q.w4) : Nat) : Int) - ((sumN [q.w0, q.w1, q.w2, q.w3, q.w4] : Nat) : Int)) ((0 : Nat) : Int) (subN (by simp only [sumN]; omega)) <|
    xBin 3 "int.__pow__" 2 ((0 : Nat) : Int) ((2 ^ 0 : Nat) : Int) (fun _ => powC (by have := H.a0.2; have := H.a1.2; have := H.a2.2; have := H.a3.2; have := H.a4.2; omega) rfl) <|
    xBin 3 "int.__mul__" ((part (nb (octs ns)) 0 q.w4 : Nat) : Int) ((2 ^ 0 : Nat) : Int) ((part (nb (octs ns)) 0 q.w4 * 2 ^ 0 : Nat) : Int) (mulN (part64 H.a4.2) rfl) <|
    ownsX [(2, 11), (1, 11), (0, 11), (0, 11), (3, 12), (1, 12), (1, 12), (0, 12), (0, 12), (5, 0), (1, 12), (1, 12), (0, 12)] <|
    xSum 2 [13] [part (nb (octs ns)) (q.w1 + q.w2 + q.w3 + q.w4) q.w0 * 2 ^ (q.w1 + q.w2 + q.w3 + q.w4), part (nb (octs ns)) (q.w2 + q.w3 + q.w4) q.w1 * 2 ^ (q.w2 + q.w3 + q.w4), part (nb (octs ns)) (q.w3 + q.w4) q.w2 * 2 ^ (q.w3 + q.w4), part (nb (octs ns)) q.w4 q.w3 * 2 ^ q.w4, part (nb (octs ns)) 0 q.w4 * 2 ^ 0] <|
    ownsX [(2, 84)] <|
    isX 4 (((sumN [part (nb (octs ns)) (q.w1 + q.w2 + q.w3 + q.w4) q.w0 * 2 ^ (q.w1 + q.w2 + q.w3 + q.w4), part (nb (octs ns)) (q.w2 + q.w3 + q.w4) q.w1 * 2 ^ (q.w2 + q.w3 + q.w4), part (nb (octs ns)) (q.w3 + q.w4) q.w2 * 2 ^ (q.w3 + q.w4), part (nb (octs ns)) q.w4 q.w3 * 2 ^ q.w4, part (nb (octs ns)) 0 q.w4 * 2 ^ 0] : Nat) : Int) != ((nb (octs ns) : Nat) : Int)) false (H.whole _ hp.len) <|
    ownsX [(6, 80)] <|
    ownsX [(8, 0), (0, 0), (1, 0)] <|
    xLin 0 [0, 25] <|
    ownsX [(7, 85), (0, 85), (3, 85), (9, 0), (0, 0), (2, 0), (3, 0)] <|
    xSg 0 [87, 0, 1, 85, 78, 72, 2] q.w0 q.w1 q.w2 q.w3 q.w4 s0 s1 s2 s3 s4 ((part (nb (octs ns)) (q.w2 + q.w3 + q.w4) q.w1 : Nat) : Int) (part (nb (octs ns)) (q.w1 + q.w2 + q.w3 + q.w4) q.w0) (due2 false q.w2 (part (nb (octs ns)) (q.w3 + q.w4) q.w2)) (part (nb (octs ns)) q.w4 q.w3) (part (nb (octs ns)) 0 q.w4) ⟨H.a0.1, by have := H.a0.2; have := H.a1.2; have := H.a2.2; have := H.a3.2; have := H.a4.2; omega⟩ ⟨H.a2.1, by have := H.a0.2; have := H.a1.2; have := H.a2.2; have := H.a3.2; have := H.a4.2; omega⟩ ⟨H.a3.1, by have := H.a0.2; have := H.a1.2; have := H.a2.2; have := H.a3.2; have := H.a4.2; omega⟩ ⟨H.a4.1, by have := H.a0.2; have := H.a1.2; have := H.a2.2; have := H.a3.2; have := H.a4.2; omega⟩ <|
    ownsX [(3, 87), (2, 29), (5, 29), (10, 0), (0, 0), (2, 0), (0, 0)] <|
    ownsX [(6, 0), (2, 30), (4, 30), (3, 30), (0, 30), (1, 31), (3, 0), (1, 32), (0, 32), (0, 32), (1, 32)] <|
    xGet 0 0 [32] <|
    ownsX [(6, 88), (2, 30), (5, 30), (10, 0), (0, 0), (2, 0), (0, 0)] <|
    ownsX [(6, 0), (2, 31), (4, 31), (3, 31), (0, 31), (1, 32), (3, 0), (1, 33), (0, 33), (0, 33), (1, 33)] <|
    xGet 1 0 [33] <|
    ownsX [(6, 89), (2, 31), (5, 31), (10, 0), (0, 0), (2, 0), (0, 0)] <|
    ownsX [(6, 0), (2, 32), (4, 32), (3, 32), (0, 32), (1, 33), (3, 0), (1, 34), (0, 34), (0, 34), (1, 34)] <|
    xGet 2 0 [34] <|
    ownsX [(6, 90), (2, 32), (5, 32), (10, 0), (0, 0), (2, 0), (0, 0)] <|
    ownsX [(6, 0), (2, 33), (4, 33), (3, 33), (0, 33), (1, 34), (3, 0), (1, 35), (0, 35), (0, 35), (1, 35)] <|
    xGet 3 0 [35] <|
    ownsX [(8, 92), (2, 7), (0, 7), (0, 7), (1, 7), (1, 7), (2, 92), (2, 7), (0, 7), (0, 7), (1, 7), (1, 7), (2, 92), (2, 7), (0, 7), (0, 7), (1, 7), (1, 7), (2, 92), (2, 7), (0, 7), (0, 7), (1, 7), (1, 7)] <|
    ownsX [(4, 1), (0, 0), (0, 1), (2, 1), (1, 0), (0, 1), (0, 0)] <|
    xEqI 0 [1, 0] _ _ (H.told s0 s2 s3 s4 (octs ns) hp.len) <|
    ownsX [(4, 93), (1, 42), (7, 42), (7, 42), (8, 42), (0, 43)] <|
    cCsz 3 [96, 42, 43, 44, 45, 46, 47, 48, 65, 66, 67, 68, 61, 62, 63, 64, 57, 58, 59, 60, 53, 54, 55, 56, 49, 50, 51, 52] (spOf q s0 s2 s3 s4 false) (octs ns).length (H.job s0 s2 s3 s4 _ hp.len).fits <|
    ownsX [(2, 90)] <|
    isX 4 ((((octs ns).length : Nat) : Int) == ((q.k + 1 : Nat) : Int)) true (by rw [hp.len]; exact beq_self_eq_true _) <|
    ownsX [(3, 93), (1, 38), (7, 38), (7, 38), (4, 38), (0, 39)] <|
    xTell 3 [38, 39, 40] (datO (octs ns)) (3 + (octs ns).length) <|
    ownsX [(3, 90)] <|
    isX 9 (((3 + (octs ns).length : Nat) : Int) == ((3 + (q.k + 1) : Nat) : Int)) true (by rw [hp.len]; exact beq_self_eq_true _) <|
    ownsX [(6, 93), (1, 35), (3, 35), (3, 35), (4, 35), (0, 36), (9, 0), (0, 0)] <|
    ownsX [(6, 0), (2, 36), (4, 36), (3, 36), (0, 36), (1, 37), (3, 38), (0, 38), (0, 38), (0, 38), (3, 38)] <|
    xKeys 0 [38] <|
    xSort 5 [0, 39] <|
    ownsX [(9, 1), (0, 0), (0, 1), (2, 1), (1, 0), (0, 1), (0, 0)] <|
    xEqS 0 [1, 0] [S "a", S "b", S "c", S "d"] <|
    .fin 2 (fun _ T => (fldA (objAt T 105), fldA (objAt T 106), fldA (objAt T 107))) [104, 105, 106, 107] []
def tlF2 (xs : Array Value) (e' : Nat) (S : Scr xs) (q : Lw) (H : LwP q false) (s0 s1 s2 s3 s4 : Bool) : Hx prog (wr w b1 false) (kt w.params) (Array Value × Array Value × Array Value) :=
    xSum 1 [9] [q.w0, q.w1, q.w2, q.w3, q.w4] <|
    xBin 4 "int.__floordiv__" ((sumN [q.w0, q.w1, q.w2, q.w3, q.w4] : Nat) : Int) 8 ((q.k + 1 : Nat) : Int) (div8 H.siz) <|
    ownsX [(3, 15), (0, 15), (9, 15), (10, 0), (0, 0), (1, 0), (1, 0), (4, 0), (0, 0), (2, 0)] <|
    xRiter 0 [0] (q.k + 1) (by have := H.ten; omega) <|
    ownsX [(1, 0)] <|
    xDs 2 [0, 2, 1, 21, 16, 17] xs e' q.k S (by have := H.ten; omega) fun dc =>
    ownsX [(0, 2), (1, 2), (0, 2)] <|
    tlF3 q H s0 s1 s2 s3 s4 dc.1.vs dc.1.ns dc.1.e dc.2
def tlF (xs : Array Value) (e' : Nat) (S : Scr xs) (w0 w1 w2 w3 : Nat) (h0 : Wd w0) (h1 : Wd w1) (h2 : Wd w2) (h3 : Wd w3) : Hx prog (wr w b1 false) (kt w.params) (Array Value × Array Value × Array Value) :=
    ownsX [(1, 0), (7, 2), (0, 2), (2, 2), (2, 2), (2, 2), (1, 2), (1, 2), (0, 2), (0, 2), (0, 2), (0, 2), (0, 2), (0, 2), (6, 0), (0, 0), (4, 15)] <|
    xTake 3 [10, 11] xs e' S 1 (by decide) fun p0 =>
    isX 6 ((p0.v : Int) == 1) (p0.v == 1) (eq1 p0.v) <|
    ownsX [(2, 1), (1, 1), (0, 1), (0, 1), (3, 2), (1, 2), (1, 2), (0, 2), (0, 2), (0, 2), (0, 2), (0, 2), (0, 2), (6, 0), (0, 0), (4, 15)] <|
    xTake 3 [10, 11] xs e' S 1 (by decide) fun p1 =>
    isX 6 ((p1.v : Int) == 1) (p1.v == 1) (eq1 p1.v) <|
    ownsX [(2, 1), (1, 1), (0, 1), (0, 1), (3, 2), (1, 2), (1, 2), (0, 2), (0, 2), (0, 2), (0, 2), (0, 2), (0, 2), (6, 0), (0, 0), (4, 15)] <|
    xTake 3 [10, 11] xs e' S 1 (by decide) fun p2 =>
    isX 6 ((p2.v : Int) == 1) (p2.v == 1) (eq1 p2.v) <|
    ownsX [(2, 1), (1, 1), (0, 1), (0, 1), (3, 2), (1, 2), (1, 2), (0, 2), (0, 2), (0, 2), (0, 2), (0, 2), (0, 2), (6, 0), (0, 0), (4, 15)] <|
    xTake 3 [10, 11] xs e' S 1 (by decide) fun p3 =>
    isX 6 ((p3.v : Int) == 1) (p3.v == 1) (eq1 p3.v) <|
    ownsX [(2, 1), (1, 1), (0, 1), (0, 1), (3, 2), (1, 2), (1, 2), (0, 2), (0, 2), (0, 2), (0, 2), (0, 2), (0, 2), (6, 0), (0, 0), (4, 15)] <|
    xTake 3 [10, 11] xs e' S 1 (by decide) fun p4 =>
    isX 6 ((p4.v : Int) == 1) (p4.v == 1) (eq1 p4.v) <|
    ownsX [(2, 1), (1, 1), (0, 1), (0, 1), (3, 2), (1, 2), (1, 2), (0, 2), (0, 2), (5, 0), (6, 18), (0, 18), (1, 2), (1, 2), (0, 2), (3, 16), (1, 9), (0, 9), (0, 9), (0, 9), (6, 16)] <|
    xSum 1 [9] [w0, w1, w2, w3] <|
    xBin 4 "int.__mod__" (((sumN [w0, w1, w2, w3]) : Nat) : Int) 8 (((sumN [w0, w1, w2, w3]) % 8 : Nat) : Int) (mod8 rfl) <|
    isY 5 (8 - (((sumN [w0, w1, w2, w3]) % 8 : Nat) : Int)) ((8 - (sumN [w0, w1, w2, w3]) % 8 : Nat) : Int) (by omega) <|
    ownsX [(5, 17)] <|
    xTake 3 [12, 13] xs e' S 1 (by decide) fun p5 =>
    xBin 3 "int.__mul__" ((8 : Nat) : Int) (p5.v : Int) ((8 * p5.v : Nat) : Int) (mulN (by decide) rfl) <|
    ownsX [(8, 9), (1, 9), (0, 9), (0, 9), (7, 16)] <|
    tlF2 xs e' S (lwOf w0 w1 w2 w3 p5.v) (lwOf_ok w0 w1 w2 w3 p5.v h0 h1 h2 h3 (fun z => nomatch z) (by have := p5.hv; omega)) (p0.v == 1) (p1.v == 1) (p2.v == 1) (p3.v == 1) (p4.v == 1)

def lwH (ys : Array Value) (e : Nat) (hz : ys.size ≤ 1000) (hi : ∀ i, i < ys.size → ∃ x t, ys[i]? = some (.int x t)) : Hx prog (wr w b1 false) (kt w.params) (Array Value × Array Value × Array Value) :=
    ownsX [(9, 4), (0, 4)] <|
    ownsX [(8, 4)] <|
    xBox 2 [5] ys e hz hi fun bx =>
    ownsX [(3, 5), (0, 5), (16, 0), (0, 0), (1, 0), (1, 0), (4, 0), (0, 0), (2, 0)] <|
    xRiter 0 [0] 4 (by decide) <|
    ownsX [(1, 0), (6, 2), (0, 2), (2, 2), (2, 2), (2, 2), (1, 2), (1, 2), (0, 2), (0, 2), (0, 2), (0, 2), (0, 2), (0, 2), (6, 0), (0, 0), (5, 9)] <|
    xTake 3 [4, 5] bx.1.zs bx.1.e (scrB bx.2 hz) 15 (by decide) fun p0 =>
    ownsX [(7, 1), (1, 1), (0, 1), (0, 1), (3, 2), (1, 2), (1, 2), (0, 2), (0, 2), (0, 2), (0, 2), (0, 2), (0, 2), (6, 0), (0, 0), (5, 9)] <|
    xTake 3 [4, 5] bx.1.zs bx.1.e (scrB bx.2 hz) 15 (by decide) fun p1 =>
    ownsX [(7, 1), (1, 1), (0, 1), (0, 1), (3, 2), (1, 2), (1, 2), (0, 2), (0, 2), (0, 2), (0, 2), (0, 2), (0, 2), (6, 0), (0, 0), (5, 9)] <|
    xTake 3 [4, 5] bx.1.zs bx.1.e (scrB bx.2 hz) 15 (by decide) fun p2 =>
    ownsX [(7, 1), (1, 1), (0, 1), (0, 1), (3, 2), (1, 2), (1, 2), (0, 2), (0, 2), (0, 2), (0, 2), (0, 2), (0, 2), (6, 0), (0, 0), (5, 9)] <|
    xTake 3 [4, 5] bx.1.zs bx.1.e (scrB bx.2 hz) 15 (by decide) fun p3 =>
    ownsX [(7, 1), (1, 1), (0, 1), (0, 1), (3, 2), (1, 2), (1, 2), (0, 2), (0, 2), (5, 0), (1, 2), (1, 2), (0, 2), (3, 10), (0, 10), (7, 11)] <|
    xTake 3 [6, 7] bx.1.zs bx.1.e (scrB bx.2 hz) 1 (by decide) fun p4 =>
    xBin 8 "int.__mul__" ((8 : Nat) : Int) ((1 + p4.v : Nat) : Int) (((8 * (1 + p4.v)) : Nat) : Int) (mulN (by decide) rfl) <|
    ownsX [(5, 12), (0, 12), (5, 11)] <|
    xTake 3 [6, 7] bx.1.zs bx.1.e (scrB bx.2 hz) 1 (by decide) fun p5 =>
    .br 6 ((p5.v : Int) == 0) (fun _ =>
    ownsX [(2, 12), (1, 10), (2, 3), (0, 3), (1, 3), (1, 3), (0, 3), (0, 3), (3, 10), (2, 3), (0, 3), (0, 3), (1, 3), (1, 3), (2, 12)] <|
    isX 4 ((((8 * (1 + p4.v)) : Nat) : Int) == (((8 * (1 + p4.v)) : Nat) : Int)) true (beq_self_eq_true _) <|
    ownsX [(5, 11)] <|
    xTake 3 [6, 7] bx.1.zs bx.1.e (scrB bx.2 hz) 1 (by decide) fun p6 =>
    .br 6 ((p6.v : Int) == 0) (fun _ =>
    ownsX [(5, 12), (0, 12), (16, 0), (0, 0), (1, 0), (1, 0), (4, 0), (0, 0), (2, 0)] <|
    xRiter 0 [0] 5 (by decide) <|
    tlT bx.1.zs bx.1.e (scrB bx.2 hz) (1 + p0.v) (1 + p1.v) (8 * (1 + p4.v)) (1 + p3.v) (wd15 p0) (wd15 p1) (lw16 p4) (wd15 p3) (lw8 p4)) (fun _ =>
    ownsX [(5, 12), (0, 12), (16, 0), (0, 0), (1, 0), (1, 0), (4, 0), (0, 0), (2, 0)] <|
    xRiter 0 [0] 5 (by decide) <|
    tlF bx.1.zs bx.1.e (scrB bx.2 hz) (1 + p0.v) (1 + p1.v) (8 * (1 + p4.v)) (1 + p3.v) (wd15 p0) (wd15 p1) (lw16 p4) (wd15 p3))) (fun _ =>
    ownsX [(2, 10), (2, 3), (0, 3), (0, 3), (1, 3), (1, 3), (2, 10), (2, 3), (0, 3), (1, 3), (1, 3), (0, 3), (0, 3), (3, 10), (2, 3), (0, 3), (0, 3), (1, 3), (1, 3), (2, 12)] <|
    .br 4 (((1 + p2.v : Nat) : Int) == (((8 * (1 + p4.v)) : Nat) : Int)) (fun hq =>
    ownsX [(5, 11)] <|
    xTake 3 [6, 7] bx.1.zs bx.1.e (scrB bx.2 hz) 1 (by decide) fun p6 =>
    .br 6 ((p6.v : Int) == 0) (fun _ =>
    ownsX [(5, 12), (0, 12), (16, 0), (0, 0), (1, 0), (1, 0), (4, 0), (0, 0), (2, 0)] <|
    xRiter 0 [0] 5 (by decide) <|
    tlT bx.1.zs bx.1.e (scrB bx.2 hz) (1 + p0.v) (1 + p1.v) (1 + p2.v) (1 + p3.v) (wd15 p0) (wd15 p1) (wd15 p2) (wd15 p3) (lw8q hq)) (fun _ =>
    ownsX [(5, 12), (0, 12), (16, 0), (0, 0), (1, 0), (1, 0), (4, 0), (0, 0), (2, 0)] <|
    xRiter 0 [0] 5 (by decide) <|
    tlF bx.1.zs bx.1.e (scrB bx.2 hz) (1 + p0.v) (1 + p1.v) (1 + p2.v) (1 + p3.v) (wd15 p0) (wd15 p1) (wd15 p2) (wd15 p3))) (fun _ =>
    ownsX [(6, 12), (0, 12), (16, 0), (0, 0), (1, 0), (1, 0), (4, 0), (0, 0), (2, 0)] <|
    xRiter 0 [0] 5 (by decide) <|
    tlF bx.1.zs bx.1.e (scrB bx.2 hz) (1 + p0.v) (1 + p1.v) (1 + p2.v) (1 + p3.v) (wd15 p0) (wd15 p1) (wd15 p2) (wd15 p3)))

theorem lawT (w : World) (q : Pos) (l : Addr) (ys : Array Value) (e : Nat) (hz : ys.size ≤ 1000) (hi : ∀ i, i < ys.size → ∃ x t, ys[i]? = some (.int x t)) :
    CtrX prog (wr w true false) (kt w.params) 400 (lev 400) (stk [] q) (.call (.ref 1257) ⟨[.ref l], []⟩) [(l, lstO ys e), (48, me0), (1035, me0), (1188, me0)] [] [.finished, .finished, .finished] (α := Array Value × Array Value × Array Value) (fun _ => .ok (.ret (.bool true)))
      (fun x => [lstO ys e, meA x.1, meA x.2.1, meA x.2.2]) (fun _ => []) := by
  refine CtrX.of_go (lwH ys e hz hi) ?_
  intro h dep fr gd un R d os tok b; kernel_rfl
theorem lawF (w : World) (q : Pos) (l : Addr) (ys : Array Value) (e : Nat) (hz : ys.size ≤ 1000) (hi : ∀ i, i < ys.size → ∃ x t, ys[i]? = some (.int x t)) :
    CtrX prog (wr w false false) (kt w.params) 400 (lev 400) (stk [] q) (.call (.ref 1257) ⟨[.ref l], []⟩) [(l, lstO ys e), (48, me0), (1035, me0), (1188, me0)] [] [.finished, .finished, .finished] (α := Array Value × Array Value × Array Value) (fun _ => .ok (.ret (.bool true)))
      (fun x => [lstO ys e, meA x.1, meA x.2.1, meA x.2.2]) (fun _ => []) := by
  refine CtrX.of_go (lwH ys e hz hi) ?_
  intro h dep fr gd un R d os tok b; kernel_rfl
theorem lawC (w : World) (b1 : Bool) (q : Pos) (l : Addr) (ys : Array Value) (e : Nat) (hz : ys.size ≤ 1000) (hi : ∀ i, i < ys.size → ∃ x t, ys[i]? = some (.int x t)) :
    CtrX prog (wr w b1 false) (kt w.params) 400 (lev 400) (stk [] q) (.call (.ref 1257) ⟨[.ref l], []⟩) [(l, lstO ys e), (48, me0), (1035, me0), (1188, me0)] [] [.finished, .finished, .finished] (α := Array Value × Array Value × Array Value) (fun _ => .ok (.ret (.bool true)))
      (fun x => [lstO ys e, meA x.1, meA x.2.1, meA x.2.2]) (fun _ => []) := by
  cases b1 with
  | true => exact lawT w q l ys e hz hi
  | false => exact lawF w q l ys e hz hi
end
end Mine.R0
namespace Mine
open _root_.PySem _root_.PySem.Spec _root_.PySem.Calls PyProof.Rows _root_.PySem.W _root_.PySem.W.X
/-- every object of the tree -/
def allB (f : Obj → Bool) : KT → Bool
  | .nil => true
  | .node v l r => (match v with
    | some o => f o
    | none => true) && (allB f l && allB f r)
theorem allB_get {f : Obj → Bool} : ∀ {t : KT}, allB f t = true → ∀ {j : Nat} {o : Obj}, t.get j = some o → f o = true
  | .nil, _, _, _, e => by cases e
  | .node v l r, H, j, o, e => by
    obtain ⟨h1, h2⟩ := Bool.and_eq_true_iff.mp H
    obtain ⟨h2, h3⟩ := Bool.and_eq_true_iff.mp h2
    rw [KT.get_node] at e
    by_cases h0 : j = 0
    · rw [if_pos h0] at e
      subst e
      exact h1
    · rw [if_neg h0] at e
      by_cases p : j % 2 = 1
      · rw [if_pos p] at e; exact allB_get h2 e
      · rw [if_neg p] at e; exact allB_get h3 e
theorem look_mem : ∀ (K : Frag), (K.map (·.1)).Nodup → ∀ p ∈ K, K.lookup p.1 = some p.2
  | [], _, _, h => nomatch h
  | q :: K, hn, p, hp => by
    obtain ⟨h1, h2⟩ := List.nodup_cons.mp hn
    rcases List.mem_cons.mp hp with rfl | hp
    · show (match p.1 == p.1 with | true => some p.2 | false => _) = _
      rw [beq_self_eq_true]
    · have : p.1 ≠ q.1 := fun e => h1 (by show q.1 ∈ _; rw [← e]; exact List.mem_map_of_mem hp)
      rw [List.lookup_cons, beq_eq_false_iff_ne.mpr this]
      exact look_mem K h2 p hp
theorem allIn_in {h : Heap} {K : Frag} (hn : (K.map (·.1)).Nodup) (X : K.In h) : ∀ (L : Frag), (∀ p ∈ L, p ∈ K) → AllIn h L
  | [], _ => trivial
  | p :: L, hs => ⟨X _ _ (look_mem K hn p (hs p (.head _))), allIn_in hn X L fun q hq => hs q (.tail _ hq)⟩
def Kf (P : Params) : Frag := (K P).filter fun p => !(Nat.beq p.1 48 || (Nat.beq p.1 1035 || Nat.beq p.1 1188))
theorem kt_of (P : Params) : kt P = KT.of (Kf P) := by kernel_rfl
theorem keys_of (P : Params) : (K P).map (·.1) = as := by kernel_rfl
theorem as_nodup : as.Nodup := of_decide_eq_true (by kernel_rfl)
theorem in_gen {h : Heap} {K' : Frag} {ks : List Addr} {f : Addr × Obj → Bool} {t : KT} (hk : K'.map (·.1) = ks) (hn : ks.Nodup) (ht : t = KT.of (K'.filter f)) (X : K'.In h) {a : Addr} {o : Obj} (e : t.get a = some o) : h.get? a = some o := by
  subst hk
  subst ht
  exact kt_at (holds_of (allIn_in hn X _ fun p hp => (List.mem_filter.mp hp).1)) e
theorem kt_in {P : Params} {h : Heap} (X : (K P).In h) {a : Addr} {o : Obj} (e : (kt P).get a = some o) : h.get? a = some o :=
  in_gen (keys_of P) as_nodup (kt_of P) X e
theorem kt_nolist (P : Params) : allB (fun o => match o.cls with
  | .type n => !(n == "list")
  | _ => true) (kt P) = true := by kernel_rfl
theorem wr_self (w : World) : wr w (w.params.followText "special-get-raises") (w.params.followText "comprehension-iter-twice") = w := by
  unfold wr
  rw [World.withFollow_self, World.withFollow_self]
theorem W0.call {prog : Program} {w : World} {f : Value} {vs : List Value} {Q : Value → Shared → Prop} {E : Value → Shared → Prop} {s : Shared}
    (hc : ∀ q, codeX (model prog w) callerA [(.builtin "claim.caller" {}, q)] (.call f ⟨vs, []⟩) (fun r s' => match r with | .ok (.ret v) => Q v s' | .ok _ => False | .error e => E e s') s) : W0 (model prog w) (PySem.call f vs) Q E s := fun p => by
  show Sem.wp _ _ (runValue _) _ _ _ _
  rw [Sem.wp_runValue]
  exact hc p _ p rfl (caller_in.enter _ none p (by intro x; cases x)) rfl
end Mine
namespace Mine
open _root_.PySem _root_.PySem.Spec _root_.PySem.Calls PyProof.Rows _root_.PySem.W _root_.PySem.W.X
theorem lawAll (w : World) (q : Pos) (l : Addr) (ys : Array Value) (e : Nat) (hz : ys.size ≤ 1000) (hi : ∀ i, i < ys.size → ∃ x t, ys[i]? = some (.int x t)) :
    CtrX prog w (kt w.params) 400 (lev 400) (stk [] q) (.call (.ref 1257) ⟨[.ref l], []⟩) [(l, lstO ys e), (48, me0), (1035, me0), (1188, me0)] [] [.finished, .finished, .finished] (α := Array Value × Array Value × Array Value) (fun _ => .ok (.ret (.bool true)))
      (fun x => [lstO ys e, meA x.1, meA x.2.1, meA x.2.2]) (fun _ => []) := by
  have h : ∀ b2, CtrX prog (wr w (w.params.followText "special-get-raises") b2) (kt w.params) 400 (lev 400) (stk [] q) (.call (.ref 1257) ⟨[.ref l], []⟩) [(l, lstO ys e), (48, me0), (1035, me0), (1188, me0)] [] [.finished, .finished, .finished] (α := Array Value × Array Value × Array Value) (fun _ => .ok (.ret (.bool true)))
      (fun x => [lstO ys e, meA x.1, meA x.2.1, meA x.2.2]) (fun _ => []) := fun b2 => by
    cases b2 with
    | true => exact R1.lawC w _ q l ys e hz hi
    | false => exact R0.lawC w _ q l ys e hz hi
  have z := h (w.params.followText "comprehension-iter-twice")
  rw [wr_self] at z
  exact z
theorem ints_len : ∀ {vs : List Value} {ns : List Int}, IntsAre vs ns → vs.length = ns.length
  | _, _, .nil => rfl
  | _, _, .cons _ _ h => congrArg Nat.succ (ints_len h)
theorem ints_at : ∀ {vs : List Value} {ns : List Int}, IntsAre vs ns → ∀ i, i < vs.length → ∃ x t, vs[i]? = some (.int x t)
  | _, _, .nil, _, h => absurd h (Nat.not_lt_zero _)
  | _, _, .cons x t _, 0, _ => ⟨x, t, rfl⟩
  | _, _, .cons _ _ h, i + 1, hi => ints_at h i (Nat.lt_of_succ_lt_succ hi)
theorem look48 (P : Params) : (K P).lookup 48 = some me0 := by kernel_rfl
theorem look1035 (P : Params) : (K P).lookup 1035 = some me0 := by kernel_rfl
theorem look1188 (P : Params) : (K P).lookup 1188 = some me0 := by kernel_rfl
theorem no48 (P : Params) : (kt P).get 48 = none := by kernel_rfl
theorem no1035 (P : Params) : (kt P).get 1035 = none := by kernel_rfl
theorem no1188 (P : Params) : (kt P).get 1188 = none := by kernel_rfl
theorem code48 {P : Params} {h : Heap} (X : (K P).In h) : isCodeTable h 48 := ⟨52, k52 P, _, X 52 _ (by kernel_rfl), rfl, rfl, by kernel_rfl⟩
theorem code1035 {P : Params} {h : Heap} (X : (K P).In h) : isCodeTable h 1035 := ⟨1039, k1039 P, _, X 1039 _ (by kernel_rfl), rfl, rfl, by kernel_rfl⟩
theorem code1188 {P : Params} {h : Heap} (X : (K P).In h) : isCodeTable h 1188 := ⟨1192, k1192 P, _, X 1192 _ (by kernel_rfl), rfl, rfl, by kernel_rfl⟩
theorem walk0 {q : Program} {loose : List Str} {XP : (Str → Option Value) → Heap → Prop} {d : DefRec} {kwd : List (Str × Expr)} (hn : d.name = Str.ofString "law") {e : ∀ P, as = (K P).map (·.1)} :
    Mine.Walk0 q loose XP (kHook K as e).says (OpenLaw.row PySem.Challenge.rw_ez0263_01).toRowW d kwd (fun f vs => PySem.call f vs) := by
  intro w s₀ s₁ mg mb G Y a hmg hgens args vals as' hpre hlay L low
  have hrd := L.reads
  have hwl := L.well
  have hlo := L.low low
  have KX : (K w.params).In s₁.heap := kIn_of Y
  rw [hn] at hmg
  have ha : mg (Str.ofString "law") = some (.ref 1257) := mg_of KX G.T.g (by kernel_rfl)
  rw [ha] at hmg
  cases hmg
  wrow_args hpre hlay hrd hwl hlo
  rename_i ns a1 a2 a3 a4 a5 x4 x3 l vs x0 hL ra w1 r0 hI hr hc ht
  have ho : s₁.heap.get? l = some (lstO vs.toArray 0) := script_obj L hL
  clear ht hr r0 w1 ra a5 a4 a3 a2 a1 L hL
  have hlen : vs.length ≤ 63 := by rw [ints_len hI]; omega
  obtain ⟨h, ⟨gens⟩, dr, tok, os⟩ := s₁
  have hgens : gens = [] := by injection hgens
  subst hgens
  have e48 : h.get? 48 = some me0 := KX 48 _ (look48 _)
  have e1035 : h.get? 1035 = some me0 := KX 1035 _ (look1035 _)
  have e1188 : h.get? 1188 = some me0 := KX 1188 _ (look1188 _)
  have hne : ∀ b, h.get? b = some me0 → l ≠ b := fun b eb z => by
    subst z
    rw [ho] at eb
    cases eb
  refine W0.call (prog := prog) fun q => ?_
  refine lawAll w q l vs.toArray 0 (by rw [List.size_toArray]; omega) (fun i hi => ?_) callerA _ h dr os tok rfl (by decide) (by decide) (fun a o e => kt_in KX e) (fun p hp => ?_) ?_ (fun p hp => ?_) (fun x h' tok' hkeep hul hupd hnew hnd => ?_)
  · rw [List.getElem?_toArray]
    exact ints_at hI i (by rw [List.size_toArray] at hi; exact hi)
  · simp only [List.mem_cons, List.not_mem_nil, or_false] at hp
    rcases hp with rfl | rfl | rfl | rfl
    · exact ho
    · exact e48
    · exact e1035
    · exact e1188
  · show [l, 48, 1035, 1188].Nodup
    have := hne 48 e48
    have := hne 1035 e1035
    have := hne 1188 e1188
    simp [*]
  · simp only [List.mem_cons, List.not_mem_nil, or_false] at hp
    rcases hp with rfl | rfl | rfl | rfl
    · show (kt w.params).get l = none
      cases z : (kt w.params).get l with
      | none => rfl
      | some o =>
        have := allB_get (kt_nolist w.params) z
        have e := kt_in KX z
        have : (some o : Option Obj) = some _ := e.symm.trans ho
        cases this
        contradiction
    · exact no48 _
    · exact no1035 _
    · exact no1188 _
  · have u0 : h'.get? l = some (lstO vs.toArray 0) := hupd (l, _) (.head _)
    have u1 : h'.get? 48 = some (meA x.1) := hupd (48, _) (.tail _ (.head _))
    have u2 : h'.get? 1035 = some (meA x.2.1) := hupd (1035, _) (.tail _ (.tail _ (.head _)))
    have u3 : h'.get? 1188 = some (meA x.2.2) := hupd (1188, _) (.tail _ (.tail _ (.tail _ (.head _))))
    refine ⟨.inl ⟨.bool true, .bool true, [], rfl, fun cls => ?_, .bool true, ?_, fun _ => ⟨List.nodup_nil, nofun⟩⟩, ⟨fun b o eb => ?_, fun b o eb => ?_⟩, rfl, ?_⟩
    · first
        | rfl
        | exact allW_false_nil
    · exact postW_of (by wrow_shape) (by wtm_val) (by w_fin)
    · by_cases c0 : b = l
      · subst c0
        rw [ho] at eb
        cases eb
        exact .inl u0
      by_cases c1 : b = 48
      · subst c1
        rw [e48] at eb
        cases eb
        exact .inr (.inl ⟨code48 KX, rfl, #[], x.1, rfl, by rw [u1, Array.empty_append]⟩)
      by_cases c2 : b = 1035
      · subst c2
        rw [e1035] at eb
        cases eb
        exact .inr (.inl ⟨code1035 KX, rfl, #[], x.2.1, rfl, by rw [u2, Array.empty_append]⟩)
      by_cases c3 : b = 1188
      · subst c3
        rw [e1188] at eb
        cases eb
        exact .inr (.inl ⟨code1188 KX, rfl, #[], x.2.2, rfl, by rw [u3, Array.empty_append]⟩)
      · exact .inl (hkeep b o eb fun hm => by
          simp only [List.map_cons, List.map_nil, List.mem_cons, List.not_mem_nil, or_false] at hm
          rcases hm with z | z | z | z
          · exact c0 z
          · exact c1 z
          · exact c2 z
          · exact c3 z)
    · by_cases c0 : b = l
      · subst c0; exact ⟨_, u0⟩
      by_cases c1 : b = 48
      · subst c1; exact ⟨_, u1⟩
      by_cases c2 : b = 1035
      · subst c2; exact ⟨_, u2⟩
      by_cases c3 : b = 1188
      · subst c3; exact ⟨_, u3⟩
      · exact ⟨o, hkeep b o eb fun hm => by
          simp only [List.map_cons, List.map_nil, List.mem_cons, List.not_mem_nil, or_false] at hm
          rcases hm with z | z | z | z
          · exact c0 z
          · exact c1 z
          · exact c2 z
          · exact c3 z⟩
    · intro y hy
      have hy' : y ∈ [GenState.finished, .finished, .finished] := Array.mem_toList_iff.mpr hy
      simp only [List.mem_cons, List.not_mem_nil, or_false] at hy'
      rcases hy' with rfl | rfl | rfl <;> rfl
end Mine
section
open PySem PySem.Spec PySem.Calls PyProof.Rows PySem.W in
theorem Mhd.PySem.W.holds_open {r : OpenRow} {q : Program} {loose : List Str} {Xt : Shared → Bool} {XP : (Str → Option Value) → Heap → Prop} {α : Type} {Yf : Shared → α} {Ya : World → α} {YP : World → Heap → Prop} {d : DefRec} {kwd : List (Str × Expr)} {N : Nat}
    (left : LeftO r.prog q loose Xt Yf Ya N) (hY : ∀ w s, Yf s = Ya w → YP w s.heap) (hYk : ∀ w h h', YP w h → (∀ b o, h.get? b = some o → h'.get? b = some o) → YP w h')
    (hX : ∀ s, Xt s = true → XP (s.heap.nsMap mainGlobals) s.heap) (hXk : ∀ mg h h', XP mg h → (∀ b o, h.get? b = some o → h'.get? b = some o) → XP mg h')
    (hdef : defOf q r.name = some (d, kwd)) (hp : r.prog.theDef r.name = some (d.params, d.body, d.scope)) (hk : kwWritten? d.params.kwonlyargs d.params.kw_defaults = some kwd) (hRf : ∀ s, Xt s = true → RecFacts r.records s.heap) (hwr : (!r.writes || r.records.isEmpty) = true)
    (k1 : r.wellSaid = true) (ok : (chainsOk q && opensWell r.prog && (frees r.toRowW && r.within.isEmpty)) = true) (hb : r.prog.bare) (hw : r.toRowW.promised)
    (call : Mine.Walk0 q loose XP YP r.toRowW d kwd fun f vs => _root_.PySem.call f vs) : r.Holds := by
  refine ⟨k1, hw, Mine.open0 (r := r.toRowW) (run := fun f vs => _root_.PySem.call f vs) (tree := fun vs => do match ← nsGet mainNs r.name with
      | some f => do ret (← _root_.PySem.call f vs)
      | none => unsupported "claim.caller:no-such-global") left hY hYk hX hXk hRf hwr ok hb hw
    (fun vs w s mg f Q E hg hf h => Mine.W0.bind (Mine.W0.of_any (wpAny_nsGet hg (by rw [hf]; exact Mine.W0.bind (h.mono (fun _ _ x => Mine.W0.pure x) fun _ _ x => x)))))
    (fun w s hg G n hn => ?_) fun w s₀ s₁ mg mb G Y args vs as hpre hlay L low => ?_⟩
  · obtain rfl : n = r.name := by split at hn <;> simp_all
    exact pinned_of_view hg G hdef hp hk
  · obtain ⟨a, o, pm, cd, doc, dV, kV, h1, h2, h3, h4, h5⟩ := G.fn hdef
    exact ⟨.ref a, h1, call w s₀ s₁ mg mb G Y a (defOf_name hdef ▸ h1) L.gens args vs as hpre hlay L low⟩
end
/-! names that the head's tactic would take for copies of the states: taken here, so that none is made (each copy's equation weighs some 50 MB) -/
def Mhd.headm.tw3916449130317163645 : Unit := ()
def Mhd.headm.tw1319052463136062551 : Unit := ()
def Mhd.headm.tw6249134359937420462 : Unit := ()
def Mhd.headm.tw2842161277361880578 : Unit := ()
def Mhd.headm.tw16039556870656793664 : Unit := ()
def Mhd.headm.tw9456100124452406587 : Unit := ()
def Mhd.headm.tw6861974331774863580 : Unit := ()
def Mhd.headm.tw17373419005676993180 : Unit := ()
def Mhd.headm.tw6530948848735370900 : Unit := ()
def Mhd.headm.tw4065350505771333186 : Unit := ()
def Mhd.headm.tw9028530444311617174 : Unit := ()
def Mhd.headm.tw17613611815957921927 : Unit := ()
def Mhd.headm.tw4373901740013914722 : Unit := ()
def Mhd.headm.tw6621792239961568589 : Unit := ()
def Mhd.headm.tw11264004181775569074 : Unit := ()
def Mhd.headm.tw3483724039261374436 : Unit := ()
def Mhd.headm.tw6089494600884623287 : Unit := ()
def Mhd.headm.tw1064868131793614243 : Unit := ()
def Mhd.headm.tw11763014093349141374 : Unit := ()
def Mhd.headm.tw3959643567850362849 : Unit := ()
def Mhd.headm.tw9102756073439853157 : Unit := ()
def Mhd.headm.tw11927374423077684307 : Unit := ()
def Mhd.headm.tw15762221171121262182 : Unit := ()
def Mhd.headm.tw2361203574019456689 : Unit := ()
def Mhd.headm.tw5384315719415731932 : Unit := ()
def Mhd.headm.tw498940859656416240 : Unit := ()
def Mhd.headm.tw15147359968582384992 : Unit := ()
def Mhd.headm.tw15250381013981512288 : Unit := ()
def Mhd.headm.tw6108876417975093943 : Unit := ()
def Mhd.headm.tw10711170723719934403 : Unit := ()
def Mhd.headm.tw17426814412436231095 : Unit := ()
def Mhd.headm.tw7442216318069040566 : Unit := ()
def Mhd.headm.tw5848385986174048720 : Unit := ()
def Mhd.headm.tw1125849887890310790 : Unit := ()

namespace Mhd
open _root_.PySem _root_.PySem.W _root_.PySem.W.X PyProof.Rows
set_option Elab.async true
set_option maxRecDepth 100000 in
set_option maxHeartbeats 0 in
theorem headm : _root_.PySem.Challenge.rw_ez0263_01.Holds := by
  w_on; o_law; o_head (kHook Mine.K Mine.as (fun _ => by kernel_rfl)); (case hw => w_witness2)
  exact Mine.walk0 rfl
end Mhd
theorem PySem.Challenge.cw_ez0263_01_holds : PySem.Challenge.rw_ez0263_01.Holds :=
  Mhd.headm
