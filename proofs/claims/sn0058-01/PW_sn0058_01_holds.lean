import PyProof.Rows.All
import Wide.All
import OpenK.AllK
import Wide.FinOn
import PySem.Sre
import Lean
import PySem.Challenge.RW_sn0058_01
set_option Elab.async false
namespace Mine
section ZHL
open PySem PySem.W PySem.Spec PySem.Calls PyProof.Rows
set_option maxRecDepth 100000
set_option maxHeartbeats 8000000
noncomputable abbrev pw : Program := PySem.Challenge.pw_sn0058_01
abbrev rw : OpenLaw := PySem.Challenge.rw_sn0058_01
noncomputable abbrev en (P : Params) (x : Str) (t : Tok) (v : Value) : DictEntry := ⟨PyData.keyHash P x, .str x t, v⟩
noncomputable def ob0 : Params → Obj := fun P => { cls := (.type "dict"), dict := none, data := (.dict (List.toArray [en P (Str.ofString "__name__") 1 (.str (Str.ofString "builtins") 160),   en P (Str.ofString "__doc__") 2 (.builtin "builtins.__doc__:str#opaque"),   en P (Str.ofString "__package__") 3 (.builtin "builtins.__package__:str#opaque"),   en P (Str.ofString "__loader__") 4 (.builtin "builtins.__loader__:shared#opaque"),   en P (Str.ofString "__spec__") 5 (.builtin "builtins.__spec__#opaque"),   en P (Str.ofString "__build_class__") 6 (.builtin "__build_class__"),   en P (Str.ofString "__imp\x6frt__") 7 (.builtin "__imp\x6frt__"),   en P (Str.ofString "abs") 8 (.builtin "abs"),   en P (Str.ofString "all") 9 (.builtin "all"),   en P (Str.ofString "any") 10 (.builtin "any"),   en P (Str.ofString "ascii") 11 (.builtin "ascii"),   en P (Str.ofString "bin") 12 (.builtin "bin"),   en P (Str.ofString "breakpoint") 13 (.builtin "breakpoint"),   en P (Str.ofString "callable") 14 (.builtin "callable"),   en P (Str.ofString "chr") 15 (.builtin "chr"),   en P (Str.ofString "compile") 16 (.builtin "compile"),   en P (Str.ofString "delattr") 17 (.builtin "delattr"),   en P (Str.ofString "dir") 18 (.builtin "dir"),   en P (Str.ofString "divmod") 19 (.builtin "divmod"),   en P (Str.ofString "eval") 20 (.builtin "eval"),   en P (Str.ofString "exec") 21 (.builtin "exec"),   en P (Str.ofString "format") 22 (.builtin "format"),   en P (Str.ofString "getattr") 23 (.builtin "getattr"),   en P (Str.ofString "globals") 24 (.builtin "globals"),   en P (Str.ofString "hasattr") 25 (.builtin "hasattr"),   en P (Str.ofString "hash") 26 (.builtin "hash"),   en P (Str.ofString "hex") 27 (.builtin "hex"),   en P (Str.ofString "id") 28 (.builtin "id"),   en P (Str.ofString "input") 29 (.builtin "input"),   en P (Str.ofString "isinstance") 30 (.builtin "isinstance"),   en P (Str.ofString "issubclass") 31 (.builtin "issubclass"),   en P (Str.ofString "iter") 32 (.builtin "iter"),   en P (Str.ofString "aiter") 33 (.builtin "aiter"),   en P (Str.ofString "len") 34 (.builtin "len"),   en P (Str.ofString "locals") 35 (.builtin "locals"),   en P (Str.ofString "max") 36 (.builtin "max"),   en P (Str.ofString "min") 37 (.builtin "min"),   en P (Str.ofString "next") 38 (.builtin "next"),   en P (Str.ofString "anext") 39 (.builtin "anext"),   en P (Str.ofString "oct") 40 (.builtin "oct"),   en P (Str.ofString "ord") 41 (.builtin "ord"),   en P (Str.ofString "pow") 42 (.builtin "pow"),   en P (Str.ofString "print") 43 (.builtin "print"),   en P (Str.ofString "repr") 44 (.builtin "repr"),   en P (Str.ofString "round") 45 (.builtin "round"),   en P (Str.ofString "setattr") 46 (.builtin "setattr"),   en P (Str.ofString "sorted") 47 (.builtin "sorted"),   en P (Str.ofString "sum") 48 (.builtin "sum"),   en P (Str.ofString "vars") 49 (.builtin "vars"),   en P (Str.ofString "None") 50 .none,   en P (Str.ofString "Ellipsis") 51 .ellipsis,   en P (Str.ofString "NotImplemented") 52 .notImplemented,   en P (Str.ofString "False") 53 (.bool false),   en P (Str.ofString "True") 54 (.bool true),   en P (Str.ofString "bool") 55 (.type "bool"),   en P (Str.ofString "memoryview") 56 (.type "memoryview"),   en P (Str.ofString "bytearray") 57 (.type "bytearray"),   en P (Str.ofString "bytes") 58 (.type "bytes"),   en P (Str.ofString "classmethod") 59 (.type "classmethod"),   en P (Str.ofString "complex") 60 (.type "complex"),   en P (Str.ofString "dict") 61 (.type "dict"),   en P (Str.ofString "enumerate") 62 (.type "enumerate"),   en P (Str.ofString "filter") 63 (.type "filter"),   en P (Str.ofString "float") 64 (.type "float"),   en P (Str.ofString "frozenset") 65 (.type "frozenset"),   en P (Str.ofString "property") 66 (.type "property"),   en P (Str.ofString "int") 67 (.type "int"),   en P (Str.ofString "list") 68 (.type "list"),   en P (Str.ofString "map") 69 (.type "map"),   en P (Str.ofString "object") 70 (.type "object"),   en P (Str.ofString "range") 71 (.type "range"),   en P (Str.ofString "reversed") 72 (.type "reversed"),   en P (Str.ofString "set") 73 (.type "set"),   en P (Str.ofString "slice") 74 (.type "slice"),   en P (Str.ofString "staticmethod") 75 (.type "staticmethod"),   en P (Str.ofString "str") 76 (.type "str"),   en P (Str.ofString "super") 77 (.type "super"),   en P (Str.ofString "tuple") 78 (.type "tuple"),   en P (Str.ofString "type") 79 (.type "type"),   en P (Str.ofString "zip") 80 (.type "zip"),   en P (Str.ofString "__debug__") 81 (.bool true),   en P (Str.ofString "BaseException") 82 (.type "BaseException"),   en P (Str.ofString "BaseExceptionGroup") 83 (.type "BaseExceptionGroup"),   en P (Str.ofString "Exception") 84 (.type "Exception"),   en P (Str.ofString "GeneratorExit") 85 (.type "GeneratorExit"),   en P (Str.ofString "KeyboardInterrupt") 86 (.type "KeyboardInterrupt"),   en P (Str.ofString "SystemExit") 87 (.type "SystemExit"),   en P (Str.ofString "ArithmeticError") 88 (.type "ArithmeticError"),   en P (Str.ofString "AssertionError") 89 (.type "AssertionError"),   en P (Str.ofString "AttributeError") 90 (.type "AttributeError"),   en P (Str.ofString "BufferError") 91 (.type "BufferError"),   en P (Str.ofString "EOFError") 92 (.type "EOFError"),   en P (Str.ofString "ImportError") 93 (.type "ImportError"),   en P (Str.ofString "LookupError") 94 (.type "LookupError"),   en P (Str.ofString "MemoryError") 95 (.type "MemoryError"),   en P (Str.ofString "NameError") 96 (.type "NameError"),   en P (Str.ofString "OSError") 97 (.type "OSError"),   en P (Str.ofString "ReferenceError") 98 (.type "ReferenceError"),   en P (Str.ofString "RuntimeError") 99 (.type "RuntimeError"),   en P (Str.ofString "StopAsyncIteration") 100 (.type "StopAsyncIteration"),   en P (Str.ofString "StopIteration") 101 (.type "StopIteration"),   en P (Str.ofString "SyntaxError") 102 (.type "SyntaxError"),   en P (Str.ofString "SystemError") 103 (.type "SystemError"),   en P (Str.ofString "TypeError") 104 (.type "TypeError"),   en P (Str.ofString "ValueError") 105 (.type "ValueError"),   en P (Str.ofString "Warning") 106 (.type "Warning"),   en P (Str.ofString "FloatingPointError") 107 (.type "FloatingPointError"),   en P (Str.ofString "OverflowError") 108 (.type "OverflowError"),   en P (Str.ofString "ZeroDivisionError") 109 (.type "ZeroDivisionError"),   en P (Str.ofString "BytesWarning") 110 (.type "BytesWarning"),   en P (Str.ofString "DeprecationWarning") 111 (.type "DeprecationWarning"),   en P (Str.ofString "EncodingWarning") 112 (.type "EncodingWarning"),   en P (Str.ofString "FutureWarning") 113 (.type "FutureWarning"),   en P (Str.ofString "ImportWarning") 114 (.type "ImportWarning"),   en P (Str.ofString "PendingDeprecationWarning") 115 (.type "PendingDeprecationWarning"),   en P (Str.ofString "ResourceWarning") 116 (.type "ResourceWarning"),   en P (Str.ofString "RuntimeWarning") 117 (.type "RuntimeWarning"),   en P (Str.ofString "SyntaxWarning") 118 (.type "SyntaxWarning"),   en P (Str.ofString "UnicodeWarning") 119 (.type "UnicodeWarning"),   en P (Str.ofString "UserWarning") 120 (.type "UserWarning"),   en P (Str.ofString "BlockingIOError") 121 (.type "BlockingIOError"),   en P (Str.ofString "ChildProcessError") 122 (.type "ChildProcessError"),   en P (Str.ofString "ConnectionError") 123 (.type "ConnectionError"),   en P (Str.ofString "FileExistsError") 124 (.type "FileExistsError"),   en P (Str.ofString "FileNotFoundError") 125 (.type "FileNotFoundError"),   en P (Str.ofString "InterruptedError") 126 (.type "InterruptedError"),   en P (Str.ofString "IsADirectoryError") 127 (.type "IsADirectoryError"),   en P (Str.ofString "NotADirectoryError") 128 (.type "NotADirectoryError"),   en P (Str.ofString "PermissionError") 129 (.type "PermissionError"),   en P (Str.ofString "ProcessLookupError") 130 (.type "ProcessLookupError"),   en P (Str.ofString "TimeoutError") 131 (.type "TimeoutError"),   en P (Str.ofString "IndentationError") 132 (.type "IndentationError"),   en P (Str.ofString "_IncompleteInputError") 133 (.type "_IncompleteInputError"),   en P (Str.ofString "IndexError") 134 (.type "IndexError"),   en P (Str.ofString "KeyError") 135 (.type "KeyError"),   en P (Str.ofString "ModuleNotFoundError") 136 (.type "ModuleNotFoundError"),   en P (Str.ofString "NotImplementedError") 137 (.type "NotImplementedError"),   en P (Str.ofString "PythonFinalizationError") 138 (.type "PythonFinalizationError"),   en P (Str.ofString "RecursionError") 139 (.type "RecursionError"),   en P (Str.ofString "UnboundLocalError") 140 (.type "UnboundLocalError"),   en P (Str.ofString "UnicodeError") 141 (.type "UnicodeError"),   en P (Str.ofString "BrokenPipeError") 142 (.type "BrokenPipeError"),   en P (Str.ofString "ConnectionAbortedError") 143 (.type "ConnectionAbortedError"),   en P (Str.ofString "ConnectionRefusedError") 144 (.type "ConnectionRefusedError"),   en P (Str.ofString "ConnectionResetError") 145 (.type "ConnectionResetError"),   en P (Str.ofString "TabError") 146 (.type "TabError"),   en P (Str.ofString "UnicodeDecodeError") 147 (.type "UnicodeDecodeError"),   en P (Str.ofString "UnicodeEncodeError") 148 (.type "UnicodeEncodeError"),   en P (Str.ofString "UnicodeTranslateError") 149 (.type "UnicodeTranslateError"),   en P (Str.ofString "ExceptionGroup") 150 (.type "ExceptionGroup"),   en P (Str.ofString "EnvironmentError") 151 (.type "OSError"),   en P (Str.ofString "IOError") 152 (.type "OSError"),   en P (Str.ofString "open") 153 (.builtin "open"),   en P (Str.ofString "quit") 154 (.builtin "builtins.quit#opaque"),   en P (Str.ofString "exit") 155 (.builtin "builtins.exit#opaque"),   en P (Str.ofString "copyright") 156 (.builtin "builtins.copyright#opaque"),   en P (Str.ofString "credits") 157 (.builtin "builtins.credits#opaque"),   en P (Str.ofString "license") 158 (.builtin "builtins.license#opaque"),   en P (Str.ofString "help") 159 (.builtin "builtins.help#opaque")]) 159), slots := #[] }
noncomputable def ob1 : Params → Obj := fun P => { cls := (.type "dict"), dict := none, data := (.dict (List.toArray [en P (Str.ofString "builtins") 162 (.ref 4),   en P (Str.ofString "__main__") 163 (.ref 5),   en P (Str.ofString "_sre") 244 (.ref 12)]) 3), slots := #[] }
noncomputable def ob2 : Params → Obj := fun P => { cls := .none, dict := none, data := (.dict (List.toArray [⟨PyData.keyHash P (Str.ofString "imp\x6frt.loaded._sre"), (.str (Str.ofString "imp\x6frt.loaded._sre") 183), (.bool true)⟩,   ⟨PyData.keyHash P (Str.ofString "class._frozen_imp\x6frtlib.BuiltinImporter"), (.str (Str.ofString "class._frozen_imp\x6frtlib.BuiltinImporter") 185), (.ref 14)⟩,   ⟨PyData.keyHash P (Str.ofString "watched.imp\x6frt"), (.str (Str.ofString "watched.imp\x6frt") 206), (.ref 18)⟩,   ⟨PyData.keyHash P (Str.ofString "class._frozen_imp\x6frtlib.ModuleSpec"), (.str (Str.ofString "class._frozen_imp\x6frtlib.ModuleSpec") 216), (.ref 22)⟩,   ⟨PyData.keyHash P (Str.ofString "sys.modules.booked-epoch"), (.str (Str.ofString "sys.modules.booked-epoch") 245), (.int 3 0)⟩,   ⟨PyData.keyHash P (Str.ofString "imp\x6frt.later-laid._sre"), (.str (Str.ofString "imp\x6frt.later-laid._sre") 270), (.bool true)⟩,   ⟨PyData.keyHash P (Str.ofString "watched.library"), (.str (Str.ofString "watched.library") 272), (.ref 27)⟩,   ⟨PyData.keyHash P (Str.ofString "watched.library-objects"), (.str (Str.ofString "watched.library-objects") 0), (.str (Str.ofString "\x0c") 0)⟩,   ⟨PyData.keyHash P (Str.ofString "watched.library-deep._sre"), (.str (Str.ofString "watched.library-deep._sre") 273), (.str (Str.ofString "\x04\x00\x00\x0b\x04\x00\x00\x0b\x04\x00\x00\x03\x04\x00\x00\x0b\x08\x04dict\x02") 0)⟩]) 9), slots := #[] }
noncomputable def ob3 : Params → Obj := fun P => { cls := (.type "dict"), dict := none, data := (.dict (List.toArray [en P (Str.ofString "__name__") 165 (.str (Str.ofString "law_sn0058_01") 667),   en P (Str.ofString "__doc__") 166 .none,   en P (Str.ofString "__package__") 167 .none,   en P (Str.ofString "__loader__") 168 (.builtin "__main__.__loader__#opaque"),   en P (Str.ofString "__spec__") 169 .none,   en P (Str.ofString "__annotations__") 170 (.ref 6),   en P (Str.ofString "__builtins__") 171 (.ref 4),   en P (Str.ofString "__file__") 173 (.str (Str.ofString "/claim/cut.py") 172),   en P (Str.ofString "__cached__") 174 .none,   en P (Str.ofString "_sre") 275 (.ref 12),   en P (Str.ofString "_DIV_LIMIT") 285 (.int 4000 284),   en P (Str.ofString "_div2n1n") 302 (.ref 38),   en P (Str.ofString "_div3n2n") 316 (.ref 45),   en P (Str.ofString "_int2digits") 327 (.ref 52),   en P (Str.ofString "_digits2int") 338 (.ref 59),   en P (Str.ofString "_divmod_pos") 353 (.ref 66),   en P (Str.ofString "int_divmod") 363 (.ref 73),   en P (Str.ofString "bisect_right") 379 (.ref 82),   en P (Str.ofString "bisect_left") 393 (.ref 91),   en P (Str.ofString "_twin_re_1") 411 (.ref 96),   en P (Str.ofString "_twin_re_2") 453 (.ref 101),   en P (Str.ofString "CRLF") 455 (.str (Str.ofString "\x0d\n") 454),   en P (Str.ofString "quotedata") 462 (.ref 108),   en P (Str.ofString "ENDMARKER") 466 (.int 0 465),   en P (Str.ofString "LPAR") 468 (.int 7 467),   en P (Str.ofString "RPAR") 470 (.int 8 469),   en P (Str.ofString "LSQB") 472 (.int 9 471),   en P (Str.ofString "RSQB") 474 (.int 10 473),   en P (Str.ofString "COLON") 476 (.int 11 475),   en P (Str.ofString "COMMA") 478 (.int 12 477),   en P (Str.ofString "SEMI") 480 (.int 13 479),   en P (Str.ofString "PLUS") 482 (.int 14 481),   en P (Str.ofString "MINUS") 484 (.int 15 483),   en P (Str.ofString "STAR") 486 (.int 16 485),   en P (Str.ofString "SLASH") 488 (.int 17 487),   en P (Str.ofString "VBAR") 490 (.int 18 489),   en P (Str.ofString "AMPER") 492 (.int 19 491),   en P (Str.ofString "LESS") 494 (.int 20 493),   en P (Str.ofString "GREATER") 496 (.int 21 495),   en P (Str.ofString "EQUAL") 498 (.int 22 497),   en P (Str.ofString "DOT") 500 (.int 23 499),   en P (Str.ofString "PERCENT") 502 (.int 24 501),   en P (Str.ofString "LBRACE") 504 (.int 25 503),   en P (Str.ofString "RBRACE") 506 (.int 26 505),   en P (Str.ofString "EQEQUAL") 508 (.int 27 507),   en P (Str.ofString "NOTEQUAL") 510 (.int 28 509),   en P (Str.ofString "LESSEQUAL") 512 (.int 29 511),   en P (Str.ofString "GREATEREQUAL") 514 (.int 30 513),   en P (Str.ofString "TILDE") 516 (.int 31 515),   en P (Str.ofString "CIRCUMFLEX") 518 (.int 32 517),   en P (Str.ofString "LEFTSHIFT") 520 (.int 33 519),   en P (Str.ofString "RIGHTSHIFT") 522 (.int 34 521),   en P (Str.ofString "DOUBLESTAR") 524 (.int 35 523),   en P (Str.ofString "PLUSEQUAL") 526 (.int 36 525),   en P (Str.ofString "MINEQUAL") 528 (.int 37 527),   en P (Str.ofString "STAREQUAL") 530 (.int 38 529),   en P (Str.ofString "SLASHEQUAL") 532 (.int 39 531),   en P (Str.ofString "PERCENTEQUAL") 534 (.int 40 533),   en P (Str.ofString "AMPEREQUAL") 536 (.int 41 535),   en P (Str.ofString "VBAREQUAL") 538 (.int 42 537),   en P (Str.ofString "CIRCUMFLEXEQUAL") 540 (.int 43 539),   en P (Str.ofString "LEFTSHIFTEQUAL") 542 (.int 44 541),   en P (Str.ofString "RIGHTSHIFTEQUAL") 544 (.int 45 543),   en P (Str.ofString "DOUBLESTAREQUAL") 546 (.int 46 545),   en P (Str.ofString "DOUBLESLASH") 548 (.int 47 547),   en P (Str.ofString "DOUBLESLASHEQUAL") 550 (.int 48 549),   en P (Str.ofString "AT") 552 (.int 49 551),   en P (Str.ofString "ATEQUAL") 554 (.int 50 553),   en P (Str.ofString "RARROW") 556 (.int 51 555),   en P (Str.ofString "ELLIPSIS") 558 (.int 52 557),   en P (Str.ofString "COLONEQUAL") 560 (.int 53 559),   en P (Str.ofString "EXCLAMATION") 562 (.int 54 561),   en P (Str.ofString "EXACT_TOKEN_TYPES") 659 (.ref 109),   en P (Str.ofString "ISEOF") 666 (.ref 118),   en P (Str.ofString "_law_symbols") 678 (.ref 125),   en P (Str.ofString "_law_groups") 688 (.ref 132),   en P (Str.ofString "_law_product") 694 (.ref 137),   en P (Str.ofString "_law_sums") 709 (.ref 144),   en P (Str.ofString "_law_struck") 715 (.ref 149),   en P (Str.ofString "law") 721 (.ref 154)]) 80), slots := #[] }
noncomputable def ob4 : Params → Obj := fun P => { cls := (.type "module"), dict := (some 0), data := .plain, slots := #[] }
noncomputable def ob5 : Params → Obj := fun P => { cls := (.type "module"), dict := (some 3), data := .plain, slots := #[] }
noncomputable def ob6 : Params → Obj := fun P => { cls := (.type "dict"), dict := none, data := (.dict (List.toArray []) 0), slots := #[] }
noncomputable def ob7 : Params → Obj := fun P => { cls := (.type "tuple"), dict := none, data := (.seq #[] 0), slots := #[] }
noncomputable def ob8 : Params → Obj := fun P => { cls := .none, dict := none, data := (.fields #[]), slots := #[] }
noncomputable def ob9 : Params → Obj := fun P => { cls := (.type "code"), dict := none, data := (.fields #[(.str (Str.ofString "<module>") 176), (.str (Str.ofString "<module>") 177), (.str (Str.ofString "/claim/cut.py") 178), (.int 1 0), (.int 0 0), (.int 0 0), (.int 0 0), (.int 0 0), (.ref 7), (.bool false), (.int 175 0), (.ref 8), .none, .none, .none, .none, (.int 179 0), (.int 1 0), (.str (Str.ofString "/claim/cut.py") 180)]), slots := #[] }
noncomputable def ob10 : Params → Obj := fun P => { cls := (.type "frame"), dict := none, data := .plain, slots := #[some (.ref 9), some (.ref 3), some (.ref 3), none, some (.str (Str.ofString "__main__") 164), none, some (.ref 0)] }
noncomputable def ob11 : Params → Obj := fun P => { cls := (.type "dict"), dict := none, data := (.dict (List.toArray [⟨PyData.keyHash P (Str.ofString "__name__"), (.str (Str.ofString "__name__") 247), (.str (Str.ofString "_sre") 246)⟩,   ⟨PyData.keyHash P (Str.ofString "__doc__"), (.str (Str.ofString "__doc__") 248), .none⟩,   ⟨PyData.keyHash P (Str.ofString "__package__"), (.str (Str.ofString "__package__") 250), (.str (Str.ofString "") 249)⟩,   ⟨PyData.keyHash P (Str.ofString "__loader__"), (.str (Str.ofString "__loader__") 251), (.builtin "off-the-table:_sre.__loader__:shared#opaque")⟩,   ⟨PyData.keyHash P (Str.ofString "__spec__"), (.str (Str.ofString "__spec__") 252), (.builtin "off-the-table:_sre.__spec__:shared#opaque")⟩,   ⟨PyData.keyHash P (Str.ofString "compile"), (.str (Str.ofString "compile") 253), (.builtin "_sre.compile")⟩,   ⟨PyData.keyHash P (Str.ofString "template"), (.str (Str.ofString "template") 254), (.builtin "off-the-table:_sre.template:shared#opaque")⟩,   ⟨PyData.keyHash P (Str.ofString "getcodesize"), (.str (Str.ofString "getcodesize") 255), (.builtin "off-the-table:_sre.getcodesize:shared#opaque")⟩,   ⟨PyData.keyHash P (Str.ofString "ascii_iscased"), (.str (Str.ofString "ascii_iscased") 256), (.builtin "off-the-table:_sre.ascii_iscased:shared#opaque")⟩,   ⟨PyData.keyHash P (Str.ofString "unicode_iscased"), (.str (Str.ofString "unicode_iscased") 257), (.builtin "off-the-table:_sre.unicode_iscased:shared#opaque")⟩,   ⟨PyData.keyHash P (Str.ofString "ascii_tolower"), (.str (Str.ofString "ascii_tolower") 258), (.builtin "off-the-table:_sre.ascii_tolower:shared#opaque")⟩,   ⟨PyData.keyHash P (Str.ofString "unicode_tolower"), (.str (Str.ofString "unicode_tolower") 259), (.builtin "off-the-table:_sre.unicode_tolower:shared#opaque")⟩,   ⟨PyData.keyHash P (Str.ofString "MAGIC"), (.str (Str.ofString "MAGIC") 261), (.int 20230612 260)⟩,   ⟨PyData.keyHash P (Str.ofString "CODESIZE"), (.str (Str.ofString "CODESIZE") 263), (.int 4 262)⟩,   ⟨PyData.keyHash P (Str.ofString "MAXREPEAT"), (.str (Str.ofString "MAXREPEAT") 265), (.int 4294967295 264)⟩,   ⟨PyData.keyHash P (Str.ofString "MAXGROUPS"), (.str (Str.ofString "MAXGROUPS") 267), (.int 1073741823 266)⟩,   ⟨PyData.keyHash P (Str.ofString "copyright"), (.str (Str.ofString "copyright") 269), (.str (Str.ofString " SRE 2.2.2 Copyright (c) 1997-2002 by Secret Labs AB ") 268)⟩]) 17), slots := #[] }
noncomputable def ob12 : Params → Obj := fun P => { cls := (.type "module"), dict := (some 11), data := .plain, slots := #[] }
noncomputable def ob13 : Params → Obj := fun P => { cls := (.type "dict"), dict := none, data := (.dict (List.toArray [⟨PyData.keyHash P (Str.ofString "__module__"), (.str (Str.ofString "__module__") 189), (.str (Str.ofString "_frozen_imp\x6frtlib") 186)⟩,   ⟨PyData.keyHash P (Str.ofString "__firstlineno__"), (.str (Str.ofString "__firstlineno__") 190), (.int 971 187)⟩,   ⟨PyData.keyHash P (Str.ofString "__doc__"), (.str (Str.ofString "__doc__") 191), (.builtin "_frozen_imp\x6frtlib.BuiltinImporter.__doc__:str#opaque")⟩,   ⟨PyData.keyHash P (Str.ofString "_ORIGIN"), (.str (Str.ofString "_ORIGIN") 192), (.str (Str.ofString "built-in") 188)⟩,   ⟨PyData.keyHash P (Str.ofString "find_spec"), (.str (Str.ofString "find_spec") 193), (.builtin "_frozen_imp\x6frtlib.BuiltinImporter.find_spec#opaque")⟩,   ⟨PyData.keyHash P (Str.ofString "create_module"), (.str (Str.ofString "create_module") 194), (.builtin "_frozen_imp\x6frtlib.BuiltinImporter.create_module#opaque")⟩,   ⟨PyData.keyHash P (Str.ofString "exec_module"), (.str (Str.ofString "exec_module") 195), (.builtin "_frozen_imp\x6frtlib.BuiltinImporter.exec_module#opaque")⟩,   ⟨PyData.keyHash P (Str.ofString "get_code"), (.str (Str.ofString "get_code") 196), (.builtin "_frozen_imp\x6frtlib.BuiltinImporter.get_code#opaque")⟩,   ⟨PyData.keyHash P (Str.ofString "get_source"), (.str (Str.ofString "get_source") 197), (.builtin "_frozen_imp\x6frtlib.BuiltinImporter.get_source#opaque")⟩,   ⟨PyData.keyHash P (Str.ofString "is_package"), (.str (Str.ofString "is_package") 198), (.builtin "_frozen_imp\x6frtlib.BuiltinImporter.is_package#opaque")⟩,   ⟨PyData.keyHash P (Str.ofString "load_module"), (.str (Str.ofString "load_module") 199), (.builtin "_frozen_imp\x6frtlib.BuiltinImporter.load_module#opaque")⟩,   ⟨PyData.keyHash P (Str.ofString "__static_attributes__"), (.str (Str.ofString "__static_attributes__") 200), (.ref 15)⟩,   ⟨PyData.keyHash P (Str.ofString "__dict__"), (.str (Str.ofString "__dict__") 202), (.ref 16)⟩,   ⟨PyData.keyHash P (Str.ofString "__weakref__"), (.str (Str.ofString "__weakref__") 204), (.ref 17)⟩]) 14), slots := #[] }
noncomputable def ob14 : Params → Obj := fun P => { cls := (.type "type"), dict := none, data := (.cls { name := (Str.ofString "BuiltinImporter"), bases := [(.type "object")], mro := [(.ref 14), (.type "object")], ns := 13, qualname := (Str.ofString "BuiltinImporter"), hasDict := true, slotNames := [], subclasses := [], abstract := false, collection := none, hasDel := false }), slots := #[] }
noncomputable def ob15 : Params → Obj := fun P => { cls := (.type "tuple"), dict := none, data := (.seq #[] 0), slots := #[] }
noncomputable def ob16 : Params → Obj := fun P => { cls := (.type "getset_descriptor"), dict := none, data := (.fields #[(.str (Str.ofString "__dict__") 201), (.ref 14), (.builtin "function.__dict__"), (.builtin "function.__dict__#set")]), slots := #[] }
noncomputable def ob17 : Params → Obj := fun P => { cls := (.type "getset_descriptor"), dict := none, data := (.fields #[(.str (Str.ofString "__weakref__") 203), (.ref 14), (.builtin "ExceptionGroup.__weakref__"), .none]), slots := #[] }
noncomputable def ob18 : Params → Obj := fun P => { cls := .none, dict := none, data := (.seq #[(.int 13 0), (.str (Str.ofString "\x06½\n__module__\x06º\x11_frozen_imp\x6frtlib\x06¾\x0f__firstlineno__\x04»\x00ϋ\x06¿\x07__doc__\t4_frozen_imp\x6frtlib.BuiltinImporter.__doc__:str#opaque\x06À\x07_ORIGIN\x06¼\x08built-in\x06Á\tfind_spec\t2_frozen_imp\x6frtlib.BuiltinImporter.find_spec#opaque\x06Â\x0dcreate_module\t6_frozen_imp\x6frtlib.BuiltinImporter.create_module#opaque\x06Ã\x0bexec_module\t4_frozen_imp\x6frtlib.BuiltinImporter.exec_module#opaque\x06Ä\x08get_code\t1_frozen_imp\x6frtlib.BuiltinImporter.get_code#opaque\x06Å\nget_source\t3_frozen_imp\x6frtlib.BuiltinImporter.get_source#opaque\x06Æ\nis_package\t3_frozen_imp\x6frtlib.BuiltinImporter.is_package#opaque\x06Ç\x0bload_module\t4_frozen_imp\x6frtlib.BuiltinImporter.load_module#opaque\x06È\x15__static_attributes__\x04\x00\x00\x0f\x06Ê\x08__dict__\x04\x00\x00\x10\x06Ì\x0b__weakref__\x04\x00\x00\x11") 0), (.bool true), (.bool true), (.str (Str.ofString "") 205), (.int 21 0), (.str (Str.ofString "\x06ã\n__module__\x06Ù\x11_frozen_imp\x6frtlib\x06ä\x0f__firstlineno__\x04Ú\x00Ȳ\x06å\x07__doc__\t/_frozen_imp\x6frtlib.ModuleSpec.__doc__:str#opaque\x06æ\x08__init__\t,_frozen_imp\x6frtlib.ModuleSpec.__init__#opaque\x06ç\x08__repr__\t,_frozen_imp\x6frtlib.ModuleSpec.__repr__#opaque\x06è\x06__eq__\t*_frozen_imp\x6frtlib.ModuleSpec.__eq__#opaque\x06é\x06cached\t*_frozen_imp\x6frtlib.ModuleSpec.cached#opaque\x06ê\x06parent\t*_frozen_imp\x6frtlib.ModuleSpec.parent#opaque\x06ë\x0chas_location\t0_frozen_imp\x6frtlib.ModuleSpec.has_location#opaque\x06ì\x15__static_attributes__\x04\x00\x00\x17\x06î\x08__dict__\x04\x00\x00\x18\x06ð\x0b__weakref__\x04\x00\x00\x19\x06ñ\x08__hash__\x00") 0), (.bool true), (.bool true), (.str (Str.ofString "") 242)] 1), slots := #[] }
noncomputable def ob19 : Params → Obj := fun P => { cls := (.type "list"), dict := none, data := (.seq #[] 0), slots := #[] }
noncomputable def ob20 : Params → Obj := fun P => { cls := (.type "dict"), dict := none, data := (.dict (List.toArray [⟨PyData.keyHash P (Str.ofString "name"), (.str (Str.ofString "name") 208), (.str (Str.ofString "_sre") 207)⟩,   ⟨PyData.keyHash P (Str.ofString "loader"), (.str (Str.ofString "loader") 209), (.ref 14)⟩,   ⟨PyData.keyHash P (Str.ofString "origin"), (.str (Str.ofString "origin") 210), (.str (Str.ofString "built-in") 184)⟩,   ⟨PyData.keyHash P (Str.ofString "loader_state"), (.str (Str.ofString "loader_state") 211), .none⟩,   ⟨PyData.keyHash P (Str.ofString "submodule_search_locations"), (.str (Str.ofString "submodule_search_locations") 212), .none⟩,   ⟨PyData.keyHash P (Str.ofString "_uninitialized_submodules"), (.str (Str.ofString "_uninitialized_submodules") 213), (.ref 19)⟩,   ⟨PyData.keyHash P (Str.ofString "_set_fileattr"), (.str (Str.ofString "_set_fileattr") 214), (.bool false)⟩,   ⟨PyData.keyHash P (Str.ofString "_cached"), (.str (Str.ofString "_cached") 215), .none⟩,   ⟨PyData.keyHash P (Str.ofString "_initializing"), (.str (Str.ofString "_initializing") 243), (.bool false)⟩]) 9), slots := #[] }
noncomputable def ob21 : Params → Obj := fun P => { cls := (.type "dict"), dict := none, data := (.dict (List.toArray [⟨PyData.keyHash P (Str.ofString "__module__"), (.str (Str.ofString "__module__") 227), (.str (Str.ofString "_frozen_imp\x6frtlib") 217)⟩,   ⟨PyData.keyHash P (Str.ofString "__firstlineno__"), (.str (Str.ofString "__firstlineno__") 228), (.int 562 218)⟩,   ⟨PyData.keyHash P (Str.ofString "__doc__"), (.str (Str.ofString "__doc__") 229), (.builtin "_frozen_imp\x6frtlib.ModuleSpec.__doc__:str#opaque")⟩,   ⟨PyData.keyHash P (Str.ofString "__init__"), (.str (Str.ofString "__init__") 230), (.builtin "_frozen_imp\x6frtlib.ModuleSpec.__init__#opaque")⟩,   ⟨PyData.keyHash P (Str.ofString "__repr__"), (.str (Str.ofString "__repr__") 231), (.builtin "_frozen_imp\x6frtlib.ModuleSpec.__repr__#opaque")⟩,   ⟨PyData.keyHash P (Str.ofString "__eq__"), (.str (Str.ofString "__eq__") 232), (.builtin "_frozen_imp\x6frtlib.ModuleSpec.__eq__#opaque")⟩,   ⟨PyData.keyHash P (Str.ofString "cached"), (.str (Str.ofString "cached") 233), (.builtin "_frozen_imp\x6frtlib.ModuleSpec.cached#opaque")⟩,   ⟨PyData.keyHash P (Str.ofString "parent"), (.str (Str.ofString "parent") 234), (.builtin "_frozen_imp\x6frtlib.ModuleSpec.parent#opaque")⟩,   ⟨PyData.keyHash P (Str.ofString "has_location"), (.str (Str.ofString "has_location") 235), (.builtin "_frozen_imp\x6frtlib.ModuleSpec.has_location#opaque")⟩,   ⟨PyData.keyHash P (Str.ofString "__static_attributes__"), (.str (Str.ofString "__static_attributes__") 236), (.ref 23)⟩,   ⟨PyData.keyHash P (Str.ofString "__dict__"), (.str (Str.ofString "__dict__") 238), (.ref 24)⟩,   ⟨PyData.keyHash P (Str.ofString "__weakref__"), (.str (Str.ofString "__weakref__") 240), (.ref 25)⟩,   ⟨PyData.keyHash P (Str.ofString "__hash__"), (.str (Str.ofString "__hash__") 241), .none⟩]) 13), slots := #[] }
noncomputable def ob22 : Params → Obj := fun P => { cls := (.type "type"), dict := none, data := (.cls { name := (Str.ofString "ModuleSpec"), bases := [(.type "object")], mro := [(.ref 22), (.type "object")], ns := 21, qualname := (Str.ofString "ModuleSpec"), hasDict := true, slotNames := [], subclasses := [], abstract := false, collection := none, hasDel := false }), slots := #[] }
noncomputable def ob23 : Params → Obj := fun P => { cls := (.type "tuple"), dict := none, data := (.seq #[(.str (Str.ofString "_cached") 219), (.str (Str.ofString "_set_fileattr") 220), (.str (Str.ofString "_uninitialized_submodules") 221), (.str (Str.ofString "loader") 222), (.str (Str.ofString "loader_state") 223), (.str (Str.ofString "name") 224), (.str (Str.ofString "origin") 225), (.str (Str.ofString "submodule_search_locations") 226)] 0), slots := #[] }
noncomputable def ob24 : Params → Obj := fun P => { cls := (.type "getset_descriptor"), dict := none, data := (.fields #[(.str (Str.ofString "__dict__") 237), (.ref 22), (.builtin "function.__dict__"), (.builtin "function.__dict__#set")]), slots := #[] }
noncomputable def ob25 : Params → Obj := fun P => { cls := (.type "getset_descriptor"), dict := none, data := (.fields #[(.str (Str.ofString "__weakref__") 239), (.ref 22), (.builtin "ExceptionGroup.__weakref__"), .none]), slots := #[] }
noncomputable def ob26 : Params → Obj := fun P => { cls := (.ref 22), dict := (some 20), data := .plain, slots := #[] }
noncomputable def ob27 : Params → Obj := fun P => { cls := .none, dict := none, data := (.seq #[(.int 11 0), (.str (Str.mk #[6, 247, 8, 95, 95, 110, 97, 109, 101, 95, 95, 6, 246, 4, 95, 115, 114, 101, 6, 248, 7, 95, 95, 100, 111, 99, 95, 95, 0, 6, 250, 11, 95, 95, 112, 97, 99, 107, 97, 103, 101, 95, 95, 6, 249, 0, 6, 251, 10, 95, 95, 108, 111, 97, 100, 101, 114, 95, 95, 4, 0, 0, 14, 6, 252, 8, 95, 95, 115, 112, 101, 99, 95, 95, 4, 0, 0, 26, 6, 253, 7, 99, 111, 109, 112, 105, 108, 101, 9, 12, 95, 115, 114, 101, 46, 99, 111, 109, 112, 105, 108, 101, 6, 254, 8, 116, 101, 109, 112, 108, 97, 116, 101, 9, 13, 95, 115, 114, 101, 46, 116, 101, 109, 112, 108, 97, 116, 101, 6, 255, 11, 103, 101, 116, 99, 111, 100, 101, 115, 105, 122, 101, 9, 16, 95, 115, 114, 101, 46, 103, 101, 116, 99, 111, 100, 101, 115, 105, 122, 101, 6, 256, 13, 97, 115, 99, 105, 105, 95, 105, 115, 99, 97, 115, 101, 100, 9, 18, 95, 115, 114, 101, 46, 97, 115, 99, 105, 105, 95, 105, 115, 99, 97, 115, 101, 100, 6, 257, 15, 117, 110, 105, 99, 111, 100, 101, 95, 105, 115, 99, 97, 115, 101, 100, 9, 20, 95, 115, 114, 101, 46, 117, 110, 105, 99, 111, 100, 101, 95, 105, 115, 99, 97, 115, 101, 100, 6, 258, 13, 97, 115, 99, 105, 105, 95, 116, 111, 108, 111, 119, 101, 114, 9, 18, 95, 115, 114, 101, 46, 97, 115, 99, 105, 105, 95, 116, 111, 108, 111, 119, 101, 114, 6, 259, 15, 117, 110, 105, 99, 111, 100, 101, 95, 116, 111, 108, 111, 119, 101, 114, 9, 20, 95, 115, 114, 101, 46, 117, 110, 105, 99, 111, 100, 101, 95, 116, 111, 108, 111, 119, 101, 114, 6, 261, 5, 77, 65, 71, 73, 67, 4, 260, 0, 20230612, 6, 263, 8, 67, 79, 68, 69, 83, 73, 90, 69, 4, 262, 0, 4, 6, 265, 9, 77, 65, 88, 82, 69, 80, 69, 65, 84, 4, 264, 0, 4294967295, 6, 267, 9, 77, 65, 88, 71, 82, 79, 85, 80, 83, 4, 266, 0, 1073741823, 6, 269, 9, 99, 111, 112, 121, 114, 105, 103, 104, 116, 6, 268, 53, 32, 83, 82, 69, 32, 50, 46, 50, 46, 50, 32, 67, 111, 112, 121, 114, 105, 103, 104, 116, 32, 40, 99, 41, 32, 49, 57, 57, 55, 45, 50, 48, 48, 50, 32, 98, 121, 32, 83, 101, 99, 114, 101, 116, 32, 76, 97, 98, 115, 32, 65, 66, 32]) 0), (.bool true), (.bool false), (.str (Str.ofString "_sre") 271)] 0), slots := #[] }
noncomputable def ob28 : Params → Obj := fun P => { cls := (.type "tuple"), dict := none, data := (.seq #[] 0), slots := #[] }
noncomputable def ob29 : Params → Obj := fun P => { cls := .none, dict := none, data := (.fields #[(.int 4 0), (.int 0 0), (.ref 37), (.int 20 0), (.int 0 0), (.ref 44), (.int 30 0), (.int 0 0), (.ref 51), (.int 46 0), (.int 0 0), (.ref 58), (.int 55 0), (.int 0 0), (.ref 65), (.int 66 0), (.int 0 0), (.ref 72), (.int 78 0), (.int 0 0), (.ref 81), (.int 98 0), (.int 0 0), (.ref 90), (.int 122 0), (.int 0 0), (.ref 107), (.int 175 0), (.int 0 0), (.ref 117), (.int 178 0), (.int 0 0), (.ref 124), (.int 192 0), (.int 0 0), (.ref 131), (.int 202 0), (.int 0 0), (.ref 136), (.int 210 0), (.int 0 0), (.ref 143), (.int 222 0), (.int 0 0), (.ref 148), (.int 242 0), (.int 0 0), (.ref 153)]), slots := #[] }
noncomputable def ob30 : Params → Obj := fun P => { cls := (.type "code"), dict := none, data := (.fields #[(.str (Str.ofString "<module>") 277), (.str (Str.ofString "<module>") 278), (.str (Str.ofString "/claim/cut.py") 279), (.int 1 0), (.int 0 0), (.int 0 0), (.int 0 0), (.int 0 0), (.ref 28), (.bool false), (.int 276 0), (.ref 29), .none, .none, .none, .none, (.int 280 0), (.int 1 0), (.str (Str.ofString "/claim/cut.py") 281)]), slots := #[] }
noncomputable def ob31 : Params → Obj := fun P => { cls := (.type "frame"), dict := none, data := .plain, slots := #[some (.ref 30), some (.ref 3), some (.ref 3), none, some (.str (Str.ofString "__main__") 164), none, some (.ref 0)] }
noncomputable def ob32 : Params → Obj := fun P => { cls := (.type "tuple"), dict := none, data := (.seq #[] 0), slots := #[] }
noncomputable def ob33 : Params → Obj := fun P => { cls := .none, dict := none, data := (.fields #[]), slots := #[] }
noncomputable def ob34 : Params → Obj := fun P => { cls := (.type "tuple"), dict := none, data := (.seq #[(.str (Str.ofString "a") 289), (.str (Str.ofString "b") 290), (.str (Str.ofString "n") 291), (.str (Str.ofString "pad") 292), (.str (Str.ofString "half_n") 293), (.str (Str.ofString "mask") 294), (.str (Str.ofString "b1") 295), (.str (Str.ofString "b2") 296), (.str (Str.ofString "q1") 297), (.str (Str.ofString "r") 298), (.str (Str.ofString "q2") 299)] 0), slots := #[] }
noncomputable def ob35 : Params → Obj := fun P => { cls := (.type "tuple"), dict := none, data := (.seq #[] 0), slots := #[] }
noncomputable def ob36 : Params → Obj := fun P => { cls := .none, dict := none, data := (.func { name := (Str.ofString "_div2n1n"), qualname := (Str.ofString "_div2n1n"), params := ((by exact fun s _ => s : (s : Arguments) → (match PySem.Challenge.pw_sn0058_01.main.body[3]? with | some (Stmt.FunctionDef _ x _ _ _ _ _ _ _ _) => some x | _ => none) = some s → Arguments) _ (by unfold PySem.Challenge.pw_sn0058_01; exact rfl)), body := .stmts ((by exact fun s _ => s : (s : List Stmt) → (match PySem.Challenge.pw_sn0058_01.main.body[3]? with | some (Stmt.FunctionDef _ _ x _ _ _ _ _ _ _) => some x | _ => none) = some s → List Stmt) _ (by unfold PySem.Challenge.pw_sn0058_01; exact rfl)), scope := ((by exact fun s _ => s : (s : Scope) → (match PySem.Challenge.pw_sn0058_01.main.body[3]? with | some (Stmt.FunctionDef _ _ _ _ _ _ x _ _ _) => some x | _ => none) = some s → Scope) _ (by unfold PySem.Challenge.pw_sn0058_01; exact rfl)), globals := 0, closure := [], defaults := .none, kwdefaults := .none, doc := .none, pyModule := .none, annotations := none, code := .none, closureTuple := .none, builtins := 0 }), slots := #[] }
noncomputable def ob37 : Params → Obj := fun P => { cls := (.type "code"), dict := none, data := (.fields #[(.str (Str.ofString "_div2n1n") 286), (.str (Str.ofString "_div2n1n") 287), (.str (Str.ofString "/claim/cut.py") 288), (.int 4 0), (.int 3 0), (.int 0 0), (.int 0 0), (.int 3 0), (.ref 32), (.bool true), (.int 276 0), (.ref 33), .none, (.ref 34), (.ref 35), (.ref 36), (.int 300 0), (.int 4 0), (.str (Str.ofString "/claim/cut.py") 301)]), slots := #[] }
noncomputable def ob38 : Params → Obj := fun P => { cls := (.type "function"), dict := none, data := (.func { name := (Str.ofString "_div2n1n"), qualname := (Str.ofString "_div2n1n"), params := ((by exact fun s _ => s : (s : Arguments) → (match PySem.Challenge.pw_sn0058_01.main.body[3]? with | some (Stmt.FunctionDef _ x _ _ _ _ _ _ _ _) => some x | _ => none) = some s → Arguments) _ (by unfold PySem.Challenge.pw_sn0058_01; exact rfl)), body := .stmts ((by exact fun s _ => s : (s : List Stmt) → (match PySem.Challenge.pw_sn0058_01.main.body[3]? with | some (Stmt.FunctionDef _ _ x _ _ _ _ _ _ _) => some x | _ => none) = some s → List Stmt) _ (by unfold PySem.Challenge.pw_sn0058_01; exact rfl)), scope := ((by exact fun s _ => s : (s : Scope) → (match PySem.Challenge.pw_sn0058_01.main.body[3]? with | some (Stmt.FunctionDef _ _ _ _ _ _ x _ _ _) => some x | _ => none) = some s → Scope) _ (by unfold PySem.Challenge.pw_sn0058_01; exact rfl)), globals := 3, closure := [], defaults := .none, kwdefaults := .none, doc := .none, pyModule := (.str (Str.ofString "cpy313._pylong") 282), annotations := none, code := (.ref 37), closureTuple := .none, builtins := 0 }), slots := #[] }
noncomputable def ob39 : Params → Obj := fun P => { cls := (.type "tuple"), dict := none, data := (.seq #[] 0), slots := #[] }
noncomputable def ob40 : Params → Obj := fun P => { cls := .none, dict := none, data := (.fields #[]), slots := #[] }
noncomputable def ob41 : Params → Obj := fun P => { cls := (.type "tuple"), dict := none, data := (.seq #[(.str (Str.ofString "a12") 306), (.str (Str.ofString "a3") 307), (.str (Str.ofString "b") 308), (.str (Str.ofString "b1") 309), (.str (Str.ofString "b2") 310), (.str (Str.ofString "n") 311), (.str (Str.ofString "q") 312), (.str (Str.ofString "r") 313)] 0), slots := #[] }
noncomputable def ob42 : Params → Obj := fun P => { cls := (.type "tuple"), dict := none, data := (.seq #[] 0), slots := #[] }
noncomputable def ob43 : Params → Obj := fun P => { cls := .none, dict := none, data := (.func { name := (Str.ofString "_div3n2n"), qualname := (Str.ofString "_div3n2n"), params := ((by exact fun s _ => s : (s : Arguments) → (match PySem.Challenge.pw_sn0058_01.main.body[4]? with | some (Stmt.FunctionDef _ x _ _ _ _ _ _ _ _) => some x | _ => none) = some s → Arguments) _ (by unfold PySem.Challenge.pw_sn0058_01; exact rfl)), body := .stmts ((by exact fun s _ => s : (s : List Stmt) → (match PySem.Challenge.pw_sn0058_01.main.body[4]? with | some (Stmt.FunctionDef _ _ x _ _ _ _ _ _ _) => some x | _ => none) = some s → List Stmt) _ (by unfold PySem.Challenge.pw_sn0058_01; exact rfl)), scope := ((by exact fun s _ => s : (s : Scope) → (match PySem.Challenge.pw_sn0058_01.main.body[4]? with | some (Stmt.FunctionDef _ _ _ _ _ _ x _ _ _) => some x | _ => none) = some s → Scope) _ (by unfold PySem.Challenge.pw_sn0058_01; exact rfl)), globals := 0, closure := [], defaults := .none, kwdefaults := .none, doc := .none, pyModule := .none, annotations := none, code := .none, closureTuple := .none, builtins := 0 }), slots := #[] }
noncomputable def ob44 : Params → Obj := fun P => { cls := (.type "code"), dict := none, data := (.fields #[(.str (Str.ofString "_div3n2n") 303), (.str (Str.ofString "_div3n2n") 304), (.str (Str.ofString "/claim/cut.py") 305), (.int 20 0), (.int 6 0), (.int 0 0), (.int 0 0), (.int 3 0), (.ref 39), (.bool true), (.int 276 0), (.ref 40), .none, (.ref 41), (.ref 42), (.ref 43), (.int 314 0), (.int 20 0), (.str (Str.ofString "/claim/cut.py") 315)]), slots := #[] }
noncomputable def ob45 : Params → Obj := fun P => { cls := (.type "function"), dict := none, data := (.func { name := (Str.ofString "_div3n2n"), qualname := (Str.ofString "_div3n2n"), params := ((by exact fun s _ => s : (s : Arguments) → (match PySem.Challenge.pw_sn0058_01.main.body[4]? with | some (Stmt.FunctionDef _ x _ _ _ _ _ _ _ _) => some x | _ => none) = some s → Arguments) _ (by unfold PySem.Challenge.pw_sn0058_01; exact rfl)), body := .stmts ((by exact fun s _ => s : (s : List Stmt) → (match PySem.Challenge.pw_sn0058_01.main.body[4]? with | some (Stmt.FunctionDef _ _ x _ _ _ _ _ _ _) => some x | _ => none) = some s → List Stmt) _ (by unfold PySem.Challenge.pw_sn0058_01; exact rfl)), scope := ((by exact fun s _ => s : (s : Scope) → (match PySem.Challenge.pw_sn0058_01.main.body[4]? with | some (Stmt.FunctionDef _ _ _ _ _ _ x _ _ _) => some x | _ => none) = some s → Scope) _ (by unfold PySem.Challenge.pw_sn0058_01; exact rfl)), globals := 3, closure := [], defaults := .none, kwdefaults := .none, doc := .none, pyModule := (.str (Str.ofString "cpy313._pylong") 282), annotations := none, code := (.ref 44), closureTuple := .none, builtins := 0 }), slots := #[] }
noncomputable def ob46 : Params → Obj := fun P => { cls := (.type "tuple"), dict := none, data := (.seq #[] 0), slots := #[] }
noncomputable def ob47 : Params → Obj := fun P => { cls := .none, dict := none, data := (.fields #[]), slots := #[] }
noncomputable def ob48 : Params → Obj := fun P => { cls := (.type "tuple"), dict := none, data := (.seq #[(.str (Str.ofString "a") 320), (.str (Str.ofString "n") 321)] 0), slots := #[] }
noncomputable def ob49 : Params → Obj := fun P => { cls := (.type "tuple"), dict := none, data := (.seq #[(.str (Str.ofString "n") 322), (.str (Str.ofString "a_digits") 323), (.str (Str.ofString "inner") 324)] 0), slots := #[] }
noncomputable def ob50 : Params → Obj := fun P => { cls := .none, dict := none, data := (.func { name := (Str.ofString "_int2digits"), qualname := (Str.ofString "_int2digits"), params := ((by exact fun s _ => s : (s : Arguments) → (match PySem.Challenge.pw_sn0058_01.main.body[5]? with | some (Stmt.FunctionDef _ x _ _ _ _ _ _ _ _) => some x | _ => none) = some s → Arguments) _ (by unfold PySem.Challenge.pw_sn0058_01; exact rfl)), body := .stmts ((by exact fun s _ => s : (s : List Stmt) → (match PySem.Challenge.pw_sn0058_01.main.body[5]? with | some (Stmt.FunctionDef _ _ x _ _ _ _ _ _ _) => some x | _ => none) = some s → List Stmt) _ (by unfold PySem.Challenge.pw_sn0058_01; exact rfl)), scope := ((by exact fun s _ => s : (s : Scope) → (match PySem.Challenge.pw_sn0058_01.main.body[5]? with | some (Stmt.FunctionDef _ _ _ _ _ _ x _ _ _) => some x | _ => none) = some s → Scope) _ (by unfold PySem.Challenge.pw_sn0058_01; exact rfl)), globals := 0, closure := [], defaults := .none, kwdefaults := .none, doc := .none, pyModule := .none, annotations := none, code := .none, closureTuple := .none, builtins := 0 }), slots := #[] }
noncomputable def ob51 : Params → Obj := fun P => { cls := (.type "code"), dict := none, data := (.fields #[(.str (Str.ofString "_int2digits") 317), (.str (Str.ofString "_int2digits") 318), (.str (Str.ofString "/claim/cut.py") 319), (.int 30 0), (.int 2 0), (.int 0 0), (.int 0 0), (.int 3 0), (.ref 46), (.bool true), (.int 276 0), (.ref 47), .none, (.ref 48), (.ref 49), (.ref 50), (.int 325 0), (.int 30 0), (.str (Str.ofString "/claim/cut.py") 326)]), slots := #[] }
noncomputable def ob52 : Params → Obj := fun P => { cls := (.type "function"), dict := none, data := (.func { name := (Str.ofString "_int2digits"), qualname := (Str.ofString "_int2digits"), params := ((by exact fun s _ => s : (s : Arguments) → (match PySem.Challenge.pw_sn0058_01.main.body[5]? with | some (Stmt.FunctionDef _ x _ _ _ _ _ _ _ _) => some x | _ => none) = some s → Arguments) _ (by unfold PySem.Challenge.pw_sn0058_01; exact rfl)), body := .stmts ((by exact fun s _ => s : (s : List Stmt) → (match PySem.Challenge.pw_sn0058_01.main.body[5]? with | some (Stmt.FunctionDef _ _ x _ _ _ _ _ _ _) => some x | _ => none) = some s → List Stmt) _ (by unfold PySem.Challenge.pw_sn0058_01; exact rfl)), scope := ((by exact fun s _ => s : (s : Scope) → (match PySem.Challenge.pw_sn0058_01.main.body[5]? with | some (Stmt.FunctionDef _ _ _ _ _ _ x _ _ _) => some x | _ => none) = some s → Scope) _ (by unfold PySem.Challenge.pw_sn0058_01; exact rfl)), globals := 3, closure := [], defaults := .none, kwdefaults := .none, doc := .none, pyModule := (.str (Str.ofString "cpy313._pylong") 282), annotations := none, code := (.ref 51), closureTuple := .none, builtins := 0 }), slots := #[] }
noncomputable def ob53 : Params → Obj := fun P => { cls := (.type "tuple"), dict := none, data := (.seq #[] 0), slots := #[] }
noncomputable def ob54 : Params → Obj := fun P => { cls := .none, dict := none, data := (.fields #[]), slots := #[] }
noncomputable def ob55 : Params → Obj := fun P => { cls := (.type "tuple"), dict := none, data := (.seq #[(.str (Str.ofString "digits") 331), (.str (Str.ofString "n") 332)] 0), slots := #[] }
noncomputable def ob56 : Params → Obj := fun P => { cls := (.type "tuple"), dict := none, data := (.seq #[(.str (Str.ofString "digits") 333), (.str (Str.ofString "n") 334), (.str (Str.ofString "inner") 335)] 0), slots := #[] }
noncomputable def ob57 : Params → Obj := fun P => { cls := .none, dict := none, data := (.func { name := (Str.ofString "_digits2int"), qualname := (Str.ofString "_digits2int"), params := ((by exact fun s _ => s : (s : Arguments) → (match PySem.Challenge.pw_sn0058_01.main.body[6]? with | some (Stmt.FunctionDef _ x _ _ _ _ _ _ _ _) => some x | _ => none) = some s → Arguments) _ (by unfold PySem.Challenge.pw_sn0058_01; exact rfl)), body := .stmts ((by exact fun s _ => s : (s : List Stmt) → (match PySem.Challenge.pw_sn0058_01.main.body[6]? with | some (Stmt.FunctionDef _ _ x _ _ _ _ _ _ _) => some x | _ => none) = some s → List Stmt) _ (by unfold PySem.Challenge.pw_sn0058_01; exact rfl)), scope := ((by exact fun s _ => s : (s : Scope) → (match PySem.Challenge.pw_sn0058_01.main.body[6]? with | some (Stmt.FunctionDef _ _ _ _ _ _ x _ _ _) => some x | _ => none) = some s → Scope) _ (by unfold PySem.Challenge.pw_sn0058_01; exact rfl)), globals := 0, closure := [], defaults := .none, kwdefaults := .none, doc := .none, pyModule := .none, annotations := none, code := .none, closureTuple := .none, builtins := 0 }), slots := #[] }
noncomputable def ob58 : Params → Obj := fun P => { cls := (.type "code"), dict := none, data := (.fields #[(.str (Str.ofString "_digits2int") 328), (.str (Str.ofString "_digits2int") 329), (.str (Str.ofString "/claim/cut.py") 330), (.int 46 0), (.int 2 0), (.int 0 0), (.int 0 0), (.int 3 0), (.ref 53), (.bool true), (.int 276 0), (.ref 54), .none, (.ref 55), (.ref 56), (.ref 57), (.int 336 0), (.int 46 0), (.str (Str.ofString "/claim/cut.py") 337)]), slots := #[] }
noncomputable def ob59 : Params → Obj := fun P => { cls := (.type "function"), dict := none, data := (.func { name := (Str.ofString "_digits2int"), qualname := (Str.ofString "_digits2int"), params := ((by exact fun s _ => s : (s : Arguments) → (match PySem.Challenge.pw_sn0058_01.main.body[6]? with | some (Stmt.FunctionDef _ x _ _ _ _ _ _ _ _) => some x | _ => none) = some s → Arguments) _ (by unfold PySem.Challenge.pw_sn0058_01; exact rfl)), body := .stmts ((by exact fun s _ => s : (s : List Stmt) → (match PySem.Challenge.pw_sn0058_01.main.body[6]? with | some (Stmt.FunctionDef _ _ x _ _ _ _ _ _ _) => some x | _ => none) = some s → List Stmt) _ (by unfold PySem.Challenge.pw_sn0058_01; exact rfl)), scope := ((by exact fun s _ => s : (s : Scope) → (match PySem.Challenge.pw_sn0058_01.main.body[6]? with | some (Stmt.FunctionDef _ _ _ _ _ _ x _ _ _) => some x | _ => none) = some s → Scope) _ (by unfold PySem.Challenge.pw_sn0058_01; exact rfl)), globals := 3, closure := [], defaults := .none, kwdefaults := .none, doc := .none, pyModule := (.str (Str.ofString "cpy313._pylong") 282), annotations := none, code := (.ref 58), closureTuple := .none, builtins := 0 }), slots := #[] }
noncomputable def ob60 : Params → Obj := fun P => { cls := (.type "tuple"), dict := none, data := (.seq #[] 0), slots := #[] }
noncomputable def ob61 : Params → Obj := fun P => { cls := .none, dict := none, data := (.fields #[]), slots := #[] }
noncomputable def ob62 : Params → Obj := fun P => { cls := (.type "tuple"), dict := none, data := (.seq #[(.str (Str.ofString "a") 342), (.str (Str.ofString "b") 343), (.str (Str.ofString "n") 344), (.str (Str.ofString "a_digits") 345), (.str (Str.ofString "r") 346), (.str (Str.ofString "q_digits") 347), (.str (Str.ofString "a_digit") 348), (.str (Str.ofString "q_digit") 349), (.str (Str.ofString "q") 350)] 0), slots := #[] }
noncomputable def ob63 : Params → Obj := fun P => { cls := (.type "tuple"), dict := none, data := (.seq #[] 0), slots := #[] }
noncomputable def ob64 : Params → Obj := fun P => { cls := .none, dict := none, data := (.func { name := (Str.ofString "_divmod_pos"), qualname := (Str.ofString "_divmod_pos"), params := ((by exact fun s _ => s : (s : Arguments) → (match PySem.Challenge.pw_sn0058_01.main.body[7]? with | some (Stmt.FunctionDef _ x _ _ _ _ _ _ _ _) => some x | _ => none) = some s → Arguments) _ (by unfold PySem.Challenge.pw_sn0058_01; exact rfl)), body := .stmts ((by exact fun s _ => s : (s : List Stmt) → (match PySem.Challenge.pw_sn0058_01.main.body[7]? with | some (Stmt.FunctionDef _ _ x _ _ _ _ _ _ _) => some x | _ => none) = some s → List Stmt) _ (by unfold PySem.Challenge.pw_sn0058_01; exact rfl)), scope := ((by exact fun s _ => s : (s : Scope) → (match PySem.Challenge.pw_sn0058_01.main.body[7]? with | some (Stmt.FunctionDef _ _ _ _ _ _ x _ _ _) => some x | _ => none) = some s → Scope) _ (by unfold PySem.Challenge.pw_sn0058_01; exact rfl)), globals := 0, closure := [], defaults := .none, kwdefaults := .none, doc := .none, pyModule := .none, annotations := none, code := .none, closureTuple := .none, builtins := 0 }), slots := #[] }
noncomputable def ob65 : Params → Obj := fun P => { cls := (.type "code"), dict := none, data := (.fields #[(.str (Str.ofString "_divmod_pos") 339), (.str (Str.ofString "_divmod_pos") 340), (.str (Str.ofString "/claim/cut.py") 341), (.int 55 0), (.int 2 0), (.int 0 0), (.int 0 0), (.int 3 0), (.ref 60), (.bool true), (.int 276 0), (.ref 61), .none, (.ref 62), (.ref 63), (.ref 64), (.int 351 0), (.int 55 0), (.str (Str.ofString "/claim/cut.py") 352)]), slots := #[] }
noncomputable def ob66 : Params → Obj := fun P => { cls := (.type "function"), dict := none, data := (.func { name := (Str.ofString "_divmod_pos"), qualname := (Str.ofString "_divmod_pos"), params := ((by exact fun s _ => s : (s : Arguments) → (match PySem.Challenge.pw_sn0058_01.main.body[7]? with | some (Stmt.FunctionDef _ x _ _ _ _ _ _ _ _) => some x | _ => none) = some s → Arguments) _ (by unfold PySem.Challenge.pw_sn0058_01; exact rfl)), body := .stmts ((by exact fun s _ => s : (s : List Stmt) → (match PySem.Challenge.pw_sn0058_01.main.body[7]? with | some (Stmt.FunctionDef _ _ x _ _ _ _ _ _ _) => some x | _ => none) = some s → List Stmt) _ (by unfold PySem.Challenge.pw_sn0058_01; exact rfl)), scope := ((by exact fun s _ => s : (s : Scope) → (match PySem.Challenge.pw_sn0058_01.main.body[7]? with | some (Stmt.FunctionDef _ _ _ _ _ _ x _ _ _) => some x | _ => none) = some s → Scope) _ (by unfold PySem.Challenge.pw_sn0058_01; exact rfl)), globals := 3, closure := [], defaults := .none, kwdefaults := .none, doc := .none, pyModule := (.str (Str.ofString "cpy313._pylong") 282), annotations := none, code := (.ref 65), closureTuple := .none, builtins := 0 }), slots := #[] }
noncomputable def ob67 : Params → Obj := fun P => { cls := (.type "tuple"), dict := none, data := (.seq #[] 0), slots := #[] }
noncomputable def ob68 : Params → Obj := fun P => { cls := .none, dict := none, data := (.fields #[]), slots := #[] }
noncomputable def ob69 : Params → Obj := fun P => { cls := (.type "tuple"), dict := none, data := (.seq #[(.str (Str.ofString "a") 357), (.str (Str.ofString "b") 358), (.str (Str.ofString "q") 359), (.str (Str.ofString "r") 360)] 0), slots := #[] }
noncomputable def ob70 : Params → Obj := fun P => { cls := (.type "tuple"), dict := none, data := (.seq #[] 0), slots := #[] }
noncomputable def ob71 : Params → Obj := fun P => { cls := .none, dict := none, data := (.func { name := (Str.ofString "int_divmod"), qualname := (Str.ofString "int_divmod"), params := ((by exact fun s _ => s : (s : Arguments) → (match PySem.Challenge.pw_sn0058_01.main.body[8]? with | some (Stmt.FunctionDef _ x _ _ _ _ _ _ _ _) => some x | _ => none) = some s → Arguments) _ (by unfold PySem.Challenge.pw_sn0058_01; exact rfl)), body := .stmts ((by exact fun s _ => s : (s : List Stmt) → (match PySem.Challenge.pw_sn0058_01.main.body[8]? with | some (Stmt.FunctionDef _ _ x _ _ _ _ _ _ _) => some x | _ => none) = some s → List Stmt) _ (by unfold PySem.Challenge.pw_sn0058_01; exact rfl)), scope := ((by exact fun s _ => s : (s : Scope) → (match PySem.Challenge.pw_sn0058_01.main.body[8]? with | some (Stmt.FunctionDef _ _ _ _ _ _ x _ _ _) => some x | _ => none) = some s → Scope) _ (by unfold PySem.Challenge.pw_sn0058_01; exact rfl)), globals := 0, closure := [], defaults := .none, kwdefaults := .none, doc := .none, pyModule := .none, annotations := none, code := .none, closureTuple := .none, builtins := 0 }), slots := #[] }
noncomputable def ob72 : Params → Obj := fun P => { cls := (.type "code"), dict := none, data := (.fields #[(.str (Str.ofString "int_divmod") 354), (.str (Str.ofString "int_divmod") 355), (.str (Str.ofString "/claim/cut.py") 356), (.int 66 0), (.int 2 0), (.int 0 0), (.int 0 0), (.int 3 0), (.ref 67), (.bool true), (.int 276 0), (.ref 68), .none, (.ref 69), (.ref 70), (.ref 71), (.int 361 0), (.int 66 0), (.str (Str.ofString "/claim/cut.py") 362)]), slots := #[] }
noncomputable def ob73 : Params → Obj := fun P => { cls := (.type "function"), dict := none, data := (.func { name := (Str.ofString "int_divmod"), qualname := (Str.ofString "int_divmod"), params := ((by exact fun s _ => s : (s : Arguments) → (match PySem.Challenge.pw_sn0058_01.main.body[8]? with | some (Stmt.FunctionDef _ x _ _ _ _ _ _ _ _) => some x | _ => none) = some s → Arguments) _ (by unfold PySem.Challenge.pw_sn0058_01; exact rfl)), body := .stmts ((by exact fun s _ => s : (s : List Stmt) → (match PySem.Challenge.pw_sn0058_01.main.body[8]? with | some (Stmt.FunctionDef _ _ x _ _ _ _ _ _ _) => some x | _ => none) = some s → List Stmt) _ (by unfold PySem.Challenge.pw_sn0058_01; exact rfl)), scope := ((by exact fun s _ => s : (s : Scope) → (match PySem.Challenge.pw_sn0058_01.main.body[8]? with | some (Stmt.FunctionDef _ _ _ _ _ _ x _ _ _) => some x | _ => none) = some s → Scope) _ (by unfold PySem.Challenge.pw_sn0058_01; exact rfl)), globals := 3, closure := [], defaults := .none, kwdefaults := .none, doc := .none, pyModule := (.str (Str.ofString "cpy313._pylong") 282), annotations := none, code := (.ref 72), closureTuple := .none, builtins := 0 }), slots := #[] }
noncomputable def ob74 : Params → Obj := fun P => { cls := (.type "tuple"), dict := none, data := (.seq #[(.int 0 366), .none] 0), slots := #[] }
noncomputable def ob75 : Params → Obj := fun P => { cls := (.type "dict"), dict := none, data := (.dict (List.toArray [⟨PyData.keyHash P (Str.ofString "key"), (.str (Str.ofString "key") 367), .none⟩]) 1), slots := #[] }
noncomputable def ob76 : Params → Obj := fun P => { cls := (.type "tuple"), dict := none, data := (.seq #[] 0), slots := #[] }
noncomputable def ob77 : Params → Obj := fun P => { cls := .none, dict := none, data := (.fields #[]), slots := #[] }
noncomputable def ob78 : Params → Obj := fun P => { cls := (.type "tuple"), dict := none, data := (.seq #[(.str (Str.ofString "a") 371), (.str (Str.ofString "x") 372), (.str (Str.ofString "lo") 373), (.str (Str.ofString "hi") 374), (.str (Str.ofString "key") 375), (.str (Str.ofString "mid") 376)] 0), slots := #[] }
noncomputable def ob79 : Params → Obj := fun P => { cls := (.type "tuple"), dict := none, data := (.seq #[] 0), slots := #[] }
noncomputable def ob80 : Params → Obj := fun P => { cls := .none, dict := none, data := (.func { name := (Str.ofString "bisect_right"), qualname := (Str.ofString "bisect_right"), params := ((by exact fun s _ => s : (s : Arguments) → (match PySem.Challenge.pw_sn0058_01.main.body[10]? with | some (Stmt.FunctionDef _ x _ _ _ _ _ _ _ _) => some x | _ => none) = some s → Arguments) _ (by unfold PySem.Challenge.pw_sn0058_01; exact rfl)), body := .stmts ((by exact fun s _ => s : (s : List Stmt) → (match PySem.Challenge.pw_sn0058_01.main.body[10]? with | some (Stmt.FunctionDef _ _ x _ _ _ _ _ _ _) => some x | _ => none) = some s → List Stmt) _ (by unfold PySem.Challenge.pw_sn0058_01; exact rfl)), scope := ((by exact fun s _ => s : (s : Scope) → (match PySem.Challenge.pw_sn0058_01.main.body[10]? with | some (Stmt.FunctionDef _ _ _ _ _ _ x _ _ _) => some x | _ => none) = some s → Scope) _ (by unfold PySem.Challenge.pw_sn0058_01; exact rfl)), globals := 0, closure := [], defaults := .none, kwdefaults := .none, doc := .none, pyModule := .none, annotations := none, code := .none, closureTuple := .none, builtins := 0 }), slots := #[] }
noncomputable def ob81 : Params → Obj := fun P => { cls := (.type "code"), dict := none, data := (.fields #[(.str (Str.ofString "bisect_right") 368), (.str (Str.ofString "bisect_right") 369), (.str (Str.ofString "/claim/cut.py") 370), (.int 78 0), (.int 4 0), (.int 0 0), (.int 1 0), (.int 3 0), (.ref 76), (.bool true), (.int 276 0), (.ref 77), .none, (.ref 78), (.ref 79), (.ref 80), (.int 377 0), (.int 78 0), (.str (Str.ofString "/claim/cut.py") 378)]), slots := #[] }
noncomputable def ob82 : Params → Obj := fun P => { cls := (.type "function"), dict := none, data := (.func { name := (Str.ofString "bisect_right"), qualname := (Str.ofString "bisect_right"), params := ((by exact fun s _ => s : (s : Arguments) → (match PySem.Challenge.pw_sn0058_01.main.body[10]? with | some (Stmt.FunctionDef _ x _ _ _ _ _ _ _ _) => some x | _ => none) = some s → Arguments) _ (by unfold PySem.Challenge.pw_sn0058_01; exact rfl)), body := .stmts ((by exact fun s _ => s : (s : List Stmt) → (match PySem.Challenge.pw_sn0058_01.main.body[10]? with | some (Stmt.FunctionDef _ _ x _ _ _ _ _ _ _) => some x | _ => none) = some s → List Stmt) _ (by unfold PySem.Challenge.pw_sn0058_01; exact rfl)), scope := ((by exact fun s _ => s : (s : Scope) → (match PySem.Challenge.pw_sn0058_01.main.body[10]? with | some (Stmt.FunctionDef _ _ _ _ _ _ x _ _ _) => some x | _ => none) = some s → Scope) _ (by unfold PySem.Challenge.pw_sn0058_01; exact rfl)), globals := 3, closure := [], defaults := (.ref 74), kwdefaults := (.ref 75), doc := .none, pyModule := (.str (Str.ofString "cpy313.bisect") 364), annotations := none, code := (.ref 81), closureTuple := .none, builtins := 0 }), slots := #[] }
noncomputable def ob83 : Params → Obj := fun P => { cls := (.type "tuple"), dict := none, data := (.seq #[(.int 0 380), .none] 0), slots := #[] }
noncomputable def ob84 : Params → Obj := fun P => { cls := (.type "dict"), dict := none, data := (.dict (List.toArray [⟨PyData.keyHash P (Str.ofString "key"), (.str (Str.ofString "key") 381), .none⟩]) 1), slots := #[] }
noncomputable def ob85 : Params → Obj := fun P => { cls := (.type "tuple"), dict := none, data := (.seq #[] 0), slots := #[] }
noncomputable def ob86 : Params → Obj := fun P => { cls := .none, dict := none, data := (.fields #[]), slots := #[] }
noncomputable def ob87 : Params → Obj := fun P => { cls := (.type "tuple"), dict := none, data := (.seq #[(.str (Str.ofString "a") 385), (.str (Str.ofString "x") 386), (.str (Str.ofString "lo") 387), (.str (Str.ofString "hi") 388), (.str (Str.ofString "key") 389), (.str (Str.ofString "mid") 390)] 0), slots := #[] }
noncomputable def ob88 : Params → Obj := fun P => { cls := (.type "tuple"), dict := none, data := (.seq #[] 0), slots := #[] }
noncomputable def ob89 : Params → Obj := fun P => { cls := .none, dict := none, data := (.func { name := (Str.ofString "bisect_left"), qualname := (Str.ofString "bisect_left"), params := ((by exact fun s _ => s : (s : Arguments) → (match PySem.Challenge.pw_sn0058_01.main.body[11]? with | some (Stmt.FunctionDef _ x _ _ _ _ _ _ _ _) => some x | _ => none) = some s → Arguments) _ (by unfold PySem.Challenge.pw_sn0058_01; exact rfl)), body := .stmts ((by exact fun s _ => s : (s : List Stmt) → (match PySem.Challenge.pw_sn0058_01.main.body[11]? with | some (Stmt.FunctionDef _ _ x _ _ _ _ _ _ _) => some x | _ => none) = some s → List Stmt) _ (by unfold PySem.Challenge.pw_sn0058_01; exact rfl)), scope := ((by exact fun s _ => s : (s : Scope) → (match PySem.Challenge.pw_sn0058_01.main.body[11]? with | some (Stmt.FunctionDef _ _ _ _ _ _ x _ _ _) => some x | _ => none) = some s → Scope) _ (by unfold PySem.Challenge.pw_sn0058_01; exact rfl)), globals := 0, closure := [], defaults := .none, kwdefaults := .none, doc := .none, pyModule := .none, annotations := none, code := .none, closureTuple := .none, builtins := 0 }), slots := #[] }
noncomputable def ob90 : Params → Obj := fun P => { cls := (.type "code"), dict := none, data := (.fields #[(.str (Str.ofString "bisect_left") 382), (.str (Str.ofString "bisect_left") 383), (.str (Str.ofString "/claim/cut.py") 384), (.int 98 0), (.int 4 0), (.int 0 0), (.int 1 0), (.int 3 0), (.ref 85), (.bool true), (.int 276 0), (.ref 86), .none, (.ref 87), (.ref 88), (.ref 89), (.int 391 0), (.int 98 0), (.str (Str.ofString "/claim/cut.py") 392)]), slots := #[] }
noncomputable def ob91 : Params → Obj := fun P => { cls := (.type "function"), dict := none, data := (.func { name := (Str.ofString "bisect_left"), qualname := (Str.ofString "bisect_left"), params := ((by exact fun s _ => s : (s : Arguments) → (match PySem.Challenge.pw_sn0058_01.main.body[11]? with | some (Stmt.FunctionDef _ x _ _ _ _ _ _ _ _) => some x | _ => none) = some s → Arguments) _ (by unfold PySem.Challenge.pw_sn0058_01; exact rfl)), body := .stmts ((by exact fun s _ => s : (s : List Stmt) → (match PySem.Challenge.pw_sn0058_01.main.body[11]? with | some (Stmt.FunctionDef _ _ x _ _ _ _ _ _ _) => some x | _ => none) = some s → List Stmt) _ (by unfold PySem.Challenge.pw_sn0058_01; exact rfl)), scope := ((by exact fun s _ => s : (s : Scope) → (match PySem.Challenge.pw_sn0058_01.main.body[11]? with | some (Stmt.FunctionDef _ _ _ _ _ _ x _ _ _) => some x | _ => none) = some s → Scope) _ (by unfold PySem.Challenge.pw_sn0058_01; exact rfl)), globals := 3, closure := [], defaults := (.ref 83), kwdefaults := (.ref 84), doc := .none, pyModule := (.str (Str.ofString "cpy313.bisect") 364), annotations := none, code := (.ref 90), closureTuple := .none, builtins := 0 }), slots := #[] }
noncomputable def ob92 : Params → Obj := fun P => { cls := (.type "list"), dict := none, data := (.seq #[(.int 14 399), (.int 4 400), (.int 0 401), (.int 1 402), (.int 1 403), (.int 6 404), (.int 1 405), (.int 16 406), (.int 46 407), (.int 1 408)] 0), slots := #[] }
noncomputable def ob93 : Params → Obj := fun P => { cls := (.type "dict"), dict := none, data := (.dict (List.toArray []) 0), slots := #[] }
noncomputable def ob94 : Params → Obj := fun P => { cls := (.type "tuple"), dict := none, data := (.seq #[.none] 0), slots := #[] }
noncomputable def ob95 : Params → Obj := fun P => { cls := (.type "tuple"), dict := none, data := (.seq #[(.int 14 0), (.int 4 0), (.int 0 0), (.int 1 0), (.int 1 0), (.int 6 0), (.int 1 0), (.int 16 0), (.int 46 0), (.int 1 0)] 0), slots := #[] }
noncomputable def ob96 : Params → Obj := fun P => { cls := (.type "re.Pattern"), dict := none, data := (.fields #[(.str (Str.ofString "(?m)^\\.") 397), (.int 40 410), (.int 0 0), .none, .none, (.ref 95), (.int 0 0)]), slots := #[] }
noncomputable def ob97 : Params → Obj := fun P => { cls := (.type "list"), dict := none, data := (.seq #[(.int 14 415), (.int 9 416), (.int 4 417), (.int 1 418), (.int 2 419), (.int 16 420), (.int 10 421), (.int 16 422), (.int 13 423), (.int 0 424), (.int 7 425), (.int 7 426), (.int 16 427), (.int 13 428), (.int 16 429), (.int 10 430), (.int 15 431), (.int 18 432), (.int 5 433), (.int 16 434), (.int 10 435), (.int 15 436), (.int 13 437), (.int 11 438), (.int 16 439), (.int 13 440), (.int 5 441), (.int 5 442), (.int 0 443), (.int 16 444), (.int 10 445), (.int 1 446), (.int 15 447), (.int 2 448), (.int 0 449), (.int 1 450)] 0), slots := #[] }
noncomputable def ob98 : Params → Obj := fun P => { cls := (.type "dict"), dict := none, data := (.dict (List.toArray []) 0), slots := #[] }
noncomputable def ob99 : Params → Obj := fun P => { cls := (.type "tuple"), dict := none, data := (.seq #[.none] 0), slots := #[] }
noncomputable def ob100 : Params → Obj := fun P => { cls := (.type "tuple"), dict := none, data := (.seq #[(.int 14 0), (.int 9 0), (.int 4 0), (.int 1 0), (.int 2 0), (.int 16 0), (.int 10 0), (.int 16 0), (.int 13 0), (.int 0 0), (.int 7 0), (.int 7 0), (.int 16 0), (.int 13 0), (.int 16 0), (.int 10 0), (.int 15 0), (.int 18 0), (.int 5 0), (.int 16 0), (.int 10 0), (.int 15 0), (.int 13 0), (.int 11 0), (.int 16 0), (.int 13 0), (.int 5 0), (.int 5 0), (.int 0 0), (.int 16 0), (.int 10 0), (.int 1 0), (.int 15 0), (.int 2 0), (.int 0 0), (.int 1 0)] 0), slots := #[] }
noncomputable def ob101 : Params → Obj := fun P => { cls := (.type "re.Pattern"), dict := none, data := (.fields #[(.str (Str.ofString "(?:\\r\\n|\\n|\\r(?!\\n))") 413), (.int 32 452), (.int 0 0), .none, .none, (.ref 100), (.int 0 0)]), slots := #[] }
noncomputable def ob102 : Params → Obj := fun P => { cls := (.type "tuple"), dict := none, data := (.seq #[] 0), slots := #[] }
noncomputable def ob103 : Params → Obj := fun P => { cls := .none, dict := none, data := (.fields #[]), slots := #[] }
noncomputable def ob104 : Params → Obj := fun P => { cls := (.type "tuple"), dict := none, data := (.seq #[(.str (Str.ofString "data") 459)] 0), slots := #[] }
noncomputable def ob105 : Params → Obj := fun P => { cls := (.type "tuple"), dict := none, data := (.seq #[] 0), slots := #[] }
noncomputable def ob106 : Params → Obj := fun P => { cls := .none, dict := none, data := (.func { name := (Str.ofString "quotedata"), qualname := (Str.ofString "quotedata"), params := ((by exact fun s _ => s : (s : Arguments) → (match PySem.Challenge.pw_sn0058_01.main.body[16]? with | some (Stmt.FunctionDef _ x _ _ _ _ _ _ _ _) => some x | _ => none) = some s → Arguments) _ (by unfold PySem.Challenge.pw_sn0058_01; exact rfl)), body := .stmts ((by exact fun s _ => s : (s : List Stmt) → (match PySem.Challenge.pw_sn0058_01.main.body[16]? with | some (Stmt.FunctionDef _ _ x _ _ _ _ _ _ _) => some x | _ => none) = some s → List Stmt) _ (by unfold PySem.Challenge.pw_sn0058_01; exact rfl)), scope := ((by exact fun s _ => s : (s : Scope) → (match PySem.Challenge.pw_sn0058_01.main.body[16]? with | some (Stmt.FunctionDef _ _ _ _ _ _ x _ _ _) => some x | _ => none) = some s → Scope) _ (by unfold PySem.Challenge.pw_sn0058_01; exact rfl)), globals := 0, closure := [], defaults := .none, kwdefaults := .none, doc := .none, pyModule := .none, annotations := none, code := .none, closureTuple := .none, builtins := 0 }), slots := #[] }
noncomputable def ob107 : Params → Obj := fun P => { cls := (.type "code"), dict := none, data := (.fields #[(.str (Str.ofString "quotedata") 456), (.str (Str.ofString "quotedata") 457), (.str (Str.ofString "/claim/cut.py") 458), (.int 122 0), (.int 1 0), (.int 0 0), (.int 0 0), (.int 3 0), (.ref 102), (.bool true), (.int 276 0), (.ref 103), .none, (.ref 104), (.ref 105), (.ref 106), (.int 460 0), (.int 122 0), (.str (Str.ofString "/claim/cut.py") 461)]), slots := #[] }
noncomputable def ob108 : Params → Obj := fun P => { cls := (.type "function"), dict := none, data := (.func { name := (Str.ofString "quotedata"), qualname := (Str.ofString "quotedata"), params := ((by exact fun s _ => s : (s : Arguments) → (match PySem.Challenge.pw_sn0058_01.main.body[16]? with | some (Stmt.FunctionDef _ x _ _ _ _ _ _ _ _) => some x | _ => none) = some s → Arguments) _ (by unfold PySem.Challenge.pw_sn0058_01; exact rfl)), body := .stmts ((by exact fun s _ => s : (s : List Stmt) → (match PySem.Challenge.pw_sn0058_01.main.body[16]? with | some (Stmt.FunctionDef _ _ x _ _ _ _ _ _ _) => some x | _ => none) = some s → List Stmt) _ (by unfold PySem.Challenge.pw_sn0058_01; exact rfl)), scope := ((by exact fun s _ => s : (s : Scope) → (match PySem.Challenge.pw_sn0058_01.main.body[16]? with | some (Stmt.FunctionDef _ _ _ _ _ _ x _ _ _) => some x | _ => none) = some s → Scope) _ (by unfold PySem.Challenge.pw_sn0058_01; exact rfl)), globals := 3, closure := [], defaults := .none, kwdefaults := .none, doc := .none, pyModule := (.str (Str.ofString "cpy313.smtplib") 394), annotations := none, code := (.ref 107), closureTuple := .none, builtins := 0 }), slots := #[] }
noncomputable def ob109 : Params → Obj := fun P => { cls := (.type "dict"), dict := none, data := (.dict (List.toArray [⟨PyData.keyHash P (Str.ofString "!"), (.str (Str.ofString "!") 563), (.int 54 561)⟩,   ⟨PyData.keyHash P (Str.ofString "!="), (.str (Str.ofString "!=") 565), (.int 28 509)⟩,   ⟨PyData.keyHash P (Str.ofString "%"), (.str (Str.ofString "%") 567), (.int 24 501)⟩,   ⟨PyData.keyHash P (Str.ofString "%="), (.str (Str.ofString "%=") 569), (.int 40 533)⟩,   ⟨PyData.keyHash P (Str.ofString "&"), (.str (Str.ofString "&") 571), (.int 19 491)⟩,   ⟨PyData.keyHash P (Str.ofString "&="), (.str (Str.ofString "&=") 573), (.int 41 535)⟩,   ⟨PyData.keyHash P (Str.ofString "("), (.str (Str.ofString "(") 575), (.int 7 467)⟩,   ⟨PyData.keyHash P (Str.ofString ")"), (.str (Str.ofString ")") 577), (.int 8 469)⟩,   ⟨PyData.keyHash P (Str.ofString "*"), (.str (Str.ofString "*") 579), (.int 16 485)⟩,   ⟨PyData.keyHash P (Str.ofString "**"), (.str (Str.ofString "**") 581), (.int 35 523)⟩,   ⟨PyData.keyHash P (Str.ofString "**="), (.str (Str.ofString "**=") 583), (.int 46 545)⟩,   ⟨PyData.keyHash P (Str.ofString "*="), (.str (Str.ofString "*=") 585), (.int 38 529)⟩,   ⟨PyData.keyHash P (Str.ofString "+"), (.str (Str.ofString "+") 587), (.int 14 481)⟩,   ⟨PyData.keyHash P (Str.ofString "+="), (.str (Str.ofString "+=") 589), (.int 36 525)⟩,   ⟨PyData.keyHash P (Str.ofString ","), (.str (Str.ofString ",") 591), (.int 12 477)⟩,   ⟨PyData.keyHash P (Str.ofString "-"), (.str (Str.ofString "-") 593), (.int 15 483)⟩,   ⟨PyData.keyHash P (Str.ofString "-="), (.str (Str.ofString "-=") 595), (.int 37 527)⟩,   ⟨PyData.keyHash P (Str.ofString "->"), (.str (Str.ofString "->") 597), (.int 51 555)⟩,   ⟨PyData.keyHash P (Str.ofString "."), (.str (Str.ofString ".") 599), (.int 23 499)⟩,   ⟨PyData.keyHash P (Str.ofString "..."), (.str (Str.ofString "...") 601), (.int 52 557)⟩,   ⟨PyData.keyHash P (Str.ofString "/"), (.str (Str.ofString "/") 603), (.int 17 487)⟩,   ⟨PyData.keyHash P (Str.ofString "//"), (.str (Str.ofString "//") 605), (.int 47 547)⟩,   ⟨PyData.keyHash P (Str.ofString "//="), (.str (Str.ofString "//=") 607), (.int 48 549)⟩,   ⟨PyData.keyHash P (Str.ofString "/="), (.str (Str.ofString "/=") 609), (.int 39 531)⟩,   ⟨PyData.keyHash P (Str.ofString ":"), (.str (Str.ofString ":") 611), (.int 11 475)⟩,   ⟨PyData.keyHash P (Str.ofString ":="), (.str (Str.ofString ":=") 613), (.int 53 559)⟩,   ⟨PyData.keyHash P (Str.ofString ";"), (.str (Str.ofString ";") 615), (.int 13 479)⟩,   ⟨PyData.keyHash P (Str.ofString "<"), (.str (Str.ofString "<") 617), (.int 20 493)⟩,   ⟨PyData.keyHash P (Str.ofString "<<"), (.str (Str.ofString "<<") 619), (.int 33 519)⟩,   ⟨PyData.keyHash P (Str.ofString "<<="), (.str (Str.ofString "<<=") 621), (.int 44 541)⟩,   ⟨PyData.keyHash P (Str.ofString "<="), (.str (Str.ofString "<=") 623), (.int 29 511)⟩,   ⟨PyData.keyHash P (Str.ofString "="), (.str (Str.ofString "=") 625), (.int 22 497)⟩,   ⟨PyData.keyHash P (Str.ofString "=="), (.str (Str.ofString "==") 627), (.int 27 507)⟩,   ⟨PyData.keyHash P (Str.ofString ">"), (.str (Str.ofString ">") 629), (.int 21 495)⟩,   ⟨PyData.keyHash P (Str.ofString ">="), (.str (Str.ofString ">=") 631), (.int 30 513)⟩,   ⟨PyData.keyHash P (Str.ofString ">>"), (.str (Str.ofString ">>") 632), (.int 34 521)⟩,   ⟨PyData.keyHash P (Str.ofString ">>="), (.str (Str.ofString ">>=") 633), (.int 45 543)⟩,   ⟨PyData.keyHash P (Str.ofString "@"), (.str (Str.ofString "@") 634), (.int 49 551)⟩,   ⟨PyData.keyHash P (Str.ofString "@="), (.str (Str.ofString "@=") 635), (.int 50 553)⟩,   ⟨PyData.keyHash P (Str.ofString "["), (.str (Str.ofString "[") 636), (.int 9 471)⟩,   ⟨PyData.keyHash P (Str.ofString "]"), (.str (Str.ofString "]") 637), (.int 10 473)⟩,   ⟨PyData.keyHash P (Str.ofString "^"), (.str (Str.ofString "^") 638), (.int 32 517)⟩,   ⟨PyData.keyHash P (Str.ofString "^="), (.str (Str.ofString "^=") 639), (.int 43 539)⟩,   ⟨PyData.keyHash P (Str.ofString "{"), (.str (Str.ofString "{") 640), (.int 25 503)⟩,   ⟨PyData.keyHash P (Str.ofString "|"), (.str (Str.ofString "|") 641), (.int 18 489)⟩,   ⟨PyData.keyHash P (Str.ofString "|="), (.str (Str.ofString "|=") 642), (.int 42 537)⟩,   ⟨PyData.keyHash P (Str.ofString "}"), (.str (Str.ofString "}") 643), (.int 26 505)⟩,   ⟨PyData.keyHash P (Str.ofString "~"), (.str (Str.ofString "~") 644), (.int 31 515)⟩]) 48), slots := #[] }
noncomputable def ob110 : Params → Obj := fun P => { cls := (.type "dict"), dict := none, data := (.dict (List.toArray [⟨PyData.keyHash P (Str.ofString "->"), (.str (Str.ofString "->") 597), (.int 51 555)⟩,   ⟨PyData.keyHash P (Str.ofString "."), (.str (Str.ofString ".") 599), (.int 23 499)⟩,   ⟨PyData.keyHash P (Str.ofString "..."), (.str (Str.ofString "...") 601), (.int 52 557)⟩,   ⟨PyData.keyHash P (Str.ofString "/"), (.str (Str.ofString "/") 603), (.int 17 487)⟩,   ⟨PyData.keyHash P (Str.ofString "//"), (.str (Str.ofString "//") 605), (.int 47 547)⟩,   ⟨PyData.keyHash P (Str.ofString "//="), (.str (Str.ofString "//=") 607), (.int 48 549)⟩,   ⟨PyData.keyHash P (Str.ofString "/="), (.str (Str.ofString "/=") 609), (.int 39 531)⟩,   ⟨PyData.keyHash P (Str.ofString ":"), (.str (Str.ofString ":") 611), (.int 11 475)⟩,   ⟨PyData.keyHash P (Str.ofString ":="), (.str (Str.ofString ":=") 613), (.int 53 559)⟩,   ⟨PyData.keyHash P (Str.ofString ";"), (.str (Str.ofString ";") 615), (.int 13 479)⟩,   ⟨PyData.keyHash P (Str.ofString "<"), (.str (Str.ofString "<") 617), (.int 20 493)⟩,   ⟨PyData.keyHash P (Str.ofString "<<"), (.str (Str.ofString "<<") 619), (.int 33 519)⟩,   ⟨PyData.keyHash P (Str.ofString "<<="), (.str (Str.ofString "<<=") 621), (.int 44 541)⟩,   ⟨PyData.keyHash P (Str.ofString "<="), (.str (Str.ofString "<=") 623), (.int 29 511)⟩,   ⟨PyData.keyHash P (Str.ofString "="), (.str (Str.ofString "=") 625), (.int 22 497)⟩,   ⟨PyData.keyHash P (Str.ofString "=="), (.str (Str.ofString "==") 627), (.int 27 507)⟩,   ⟨PyData.keyHash P (Str.ofString ">"), (.str (Str.ofString ">") 629), (.int 21 495)⟩]) 17), slots := #[] }
noncomputable def ob111 : Params → Obj := fun P => { cls := (.type "dict"), dict := none, data := (.dict (List.toArray [⟨PyData.keyHash P (Str.ofString ">="), (.str (Str.ofString ">=") 631), (.int 30 513)⟩,   ⟨PyData.keyHash P (Str.ofString ">>"), (.str (Str.ofString ">>") 632), (.int 34 521)⟩,   ⟨PyData.keyHash P (Str.ofString ">>="), (.str (Str.ofString ">>=") 633), (.int 45 543)⟩,   ⟨PyData.keyHash P (Str.ofString "@"), (.str (Str.ofString "@") 634), (.int 49 551)⟩,   ⟨PyData.keyHash P (Str.ofString "@="), (.str (Str.ofString "@=") 635), (.int 50 553)⟩,   ⟨PyData.keyHash P (Str.ofString "["), (.str (Str.ofString "[") 636), (.int 9 471)⟩,   ⟨PyData.keyHash P (Str.ofString "]"), (.str (Str.ofString "]") 637), (.int 10 473)⟩,   ⟨PyData.keyHash P (Str.ofString "^"), (.str (Str.ofString "^") 638), (.int 32 517)⟩,   ⟨PyData.keyHash P (Str.ofString "^="), (.str (Str.ofString "^=") 639), (.int 43 539)⟩,   ⟨PyData.keyHash P (Str.ofString "{"), (.str (Str.ofString "{") 640), (.int 25 503)⟩,   ⟨PyData.keyHash P (Str.ofString "|"), (.str (Str.ofString "|") 641), (.int 18 489)⟩,   ⟨PyData.keyHash P (Str.ofString "|="), (.str (Str.ofString "|=") 642), (.int 42 537)⟩,   ⟨PyData.keyHash P (Str.ofString "}"), (.str (Str.ofString "}") 643), (.int 26 505)⟩,   ⟨PyData.keyHash P (Str.ofString "~"), (.str (Str.ofString "~") 644), (.int 31 515)⟩]) 14), slots := #[] }
noncomputable def ob112 : Params → Obj := fun P => { cls := (.type "tuple"), dict := none, data := (.seq #[] 0), slots := #[] }
noncomputable def ob113 : Params → Obj := fun P => { cls := .none, dict := none, data := (.fields #[]), slots := #[] }
noncomputable def ob114 : Params → Obj := fun P => { cls := (.type "tuple"), dict := none, data := (.seq #[(.str (Str.ofString "x") 663)] 0), slots := #[] }
noncomputable def ob115 : Params → Obj := fun P => { cls := (.type "tuple"), dict := none, data := (.seq #[] 0), slots := #[] }
noncomputable def ob116 : Params → Obj := fun P => { cls := .none, dict := none, data := (.func { name := (Str.ofString "ISEOF"), qualname := (Str.ofString "ISEOF"), params := ((by exact fun s _ => s : (s : Arguments) → (match PySem.Challenge.pw_sn0058_01.main.body[68]? with | some (Stmt.FunctionDef _ x _ _ _ _ _ _ _ _) => some x | _ => none) = some s → Arguments) _ (by unfold PySem.Challenge.pw_sn0058_01; exact rfl)), body := .stmts ((by exact fun s _ => s : (s : List Stmt) → (match PySem.Challenge.pw_sn0058_01.main.body[68]? with | some (Stmt.FunctionDef _ _ x _ _ _ _ _ _ _) => some x | _ => none) = some s → List Stmt) _ (by unfold PySem.Challenge.pw_sn0058_01; exact rfl)), scope := ((by exact fun s _ => s : (s : Scope) → (match PySem.Challenge.pw_sn0058_01.main.body[68]? with | some (Stmt.FunctionDef _ _ _ _ _ _ x _ _ _) => some x | _ => none) = some s → Scope) _ (by unfold PySem.Challenge.pw_sn0058_01; exact rfl)), globals := 0, closure := [], defaults := .none, kwdefaults := .none, doc := .none, pyModule := .none, annotations := none, code := .none, closureTuple := .none, builtins := 0 }), slots := #[] }
noncomputable def ob117 : Params → Obj := fun P => { cls := (.type "code"), dict := none, data := (.fields #[(.str (Str.ofString "ISEOF") 660), (.str (Str.ofString "ISEOF") 661), (.str (Str.ofString "/claim/cut.py") 662), (.int 175 0), (.int 1 0), (.int 0 0), (.int 0 0), (.int 3 0), (.ref 112), (.bool true), (.int 276 0), (.ref 113), .none, (.ref 114), (.ref 115), (.ref 116), (.int 664 0), (.int 175 0), (.str (Str.ofString "/claim/cut.py") 665)]), slots := #[] }
noncomputable def ob118 : Params → Obj := fun P => { cls := (.type "function"), dict := none, data := (.func { name := (Str.ofString "ISEOF"), qualname := (Str.ofString "ISEOF"), params := ((by exact fun s _ => s : (s : Arguments) → (match PySem.Challenge.pw_sn0058_01.main.body[68]? with | some (Stmt.FunctionDef _ x _ _ _ _ _ _ _ _) => some x | _ => none) = some s → Arguments) _ (by unfold PySem.Challenge.pw_sn0058_01; exact rfl)), body := .stmts ((by exact fun s _ => s : (s : List Stmt) → (match PySem.Challenge.pw_sn0058_01.main.body[68]? with | some (Stmt.FunctionDef _ _ x _ _ _ _ _ _ _) => some x | _ => none) = some s → List Stmt) _ (by unfold PySem.Challenge.pw_sn0058_01; exact rfl)), scope := ((by exact fun s _ => s : (s : Scope) → (match PySem.Challenge.pw_sn0058_01.main.body[68]? with | some (Stmt.FunctionDef _ _ _ _ _ _ x _ _ _) => some x | _ => none) = some s → Scope) _ (by unfold PySem.Challenge.pw_sn0058_01; exact rfl)), globals := 3, closure := [], defaults := .none, kwdefaults := .none, doc := .none, pyModule := (.str (Str.ofString "cpy313.token") 463), annotations := none, code := (.ref 117), closureTuple := .none, builtins := 0 }), slots := #[] }
noncomputable def ob119 : Params → Obj := fun P => { cls := (.type "tuple"), dict := none, data := (.seq #[] 0), slots := #[] }
noncomputable def ob120 : Params → Obj := fun P => { cls := .none, dict := none, data := (.fields #[]), slots := #[] }
noncomputable def ob121 : Params → Obj := fun P => { cls := (.type "tuple"), dict := none, data := (.seq #[(.str (Str.ofString "text") 672), (.str (Str.ofString "symbols") 673), (.str (Str.ofString "place") 674), (.str (Str.ofString "size") 675)] 0), slots := #[] }
noncomputable def ob122 : Params → Obj := fun P => { cls := (.type "tuple"), dict := none, data := (.seq #[] 0), slots := #[] }
noncomputable def ob123 : Params → Obj := fun P => { cls := .none, dict := none, data := (.func { name := (Str.ofString "_law_symbols"), qualname := (Str.ofString "_law_symbols"), params := ((by exact fun s _ => s : (s : Arguments) → (match PySem.Challenge.pw_sn0058_01.main.body[70]? with | some (Stmt.FunctionDef _ x _ _ _ _ _ _ _ _) => some x | _ => none) = some s → Arguments) _ (by unfold PySem.Challenge.pw_sn0058_01; exact rfl)), body := .stmts ((by exact fun s _ => s : (s : List Stmt) → (match PySem.Challenge.pw_sn0058_01.main.body[70]? with | some (Stmt.FunctionDef _ _ x _ _ _ _ _ _ _) => some x | _ => none) = some s → List Stmt) _ (by unfold PySem.Challenge.pw_sn0058_01; exact rfl)), scope := ((by exact fun s _ => s : (s : Scope) → (match PySem.Challenge.pw_sn0058_01.main.body[70]? with | some (Stmt.FunctionDef _ _ _ _ _ _ x _ _ _) => some x | _ => none) = some s → Scope) _ (by unfold PySem.Challenge.pw_sn0058_01; exact rfl)), globals := 0, closure := [], defaults := .none, kwdefaults := .none, doc := .none, pyModule := .none, annotations := none, code := .none, closureTuple := .none, builtins := 0 }), slots := #[] }
noncomputable def ob124 : Params → Obj := fun P => { cls := (.type "code"), dict := none, data := (.fields #[(.str (Str.ofString "_law_symbols") 669), (.str (Str.ofString "_law_symbols") 670), (.str (Str.ofString "/claim/cut.py") 671), (.int 178 0), (.int 1 0), (.int 0 0), (.int 0 0), (.int 3 0), (.ref 119), (.bool true), (.int 276 0), (.ref 120), .none, (.ref 121), (.ref 122), (.ref 123), (.int 676 0), (.int 178 0), (.str (Str.ofString "/claim/cut.py") 677)]), slots := #[] }
noncomputable def ob125 : Params → Obj := fun P => { cls := (.type "function"), dict := none, data := (.func { name := (Str.ofString "_law_symbols"), qualname := (Str.ofString "_law_symbols"), params := ((by exact fun s _ => s : (s : Arguments) → (match PySem.Challenge.pw_sn0058_01.main.body[70]? with | some (Stmt.FunctionDef _ x _ _ _ _ _ _ _ _) => some x | _ => none) = some s → Arguments) _ (by unfold PySem.Challenge.pw_sn0058_01; exact rfl)), body := .stmts ((by exact fun s _ => s : (s : List Stmt) → (match PySem.Challenge.pw_sn0058_01.main.body[70]? with | some (Stmt.FunctionDef _ _ x _ _ _ _ _ _ _) => some x | _ => none) = some s → List Stmt) _ (by unfold PySem.Challenge.pw_sn0058_01; exact rfl)), scope := ((by exact fun s _ => s : (s : Scope) → (match PySem.Challenge.pw_sn0058_01.main.body[70]? with | some (Stmt.FunctionDef _ _ _ _ _ _ x _ _ _) => some x | _ => none) = some s → Scope) _ (by unfold PySem.Challenge.pw_sn0058_01; exact rfl)), globals := 3, closure := [], defaults := .none, kwdefaults := .none, doc := .none, pyModule := (.str (Str.ofString "law_sn0058_01") 667), annotations := none, code := (.ref 124), closureTuple := .none, builtins := 0 }), slots := #[] }
noncomputable def ob126 : Params → Obj := fun P => { cls := (.type "tuple"), dict := none, data := (.seq #[] 0), slots := #[] }
noncomputable def ob127 : Params → Obj := fun P => { cls := .none, dict := none, data := (.fields #[]), slots := #[] }
noncomputable def ob128 : Params → Obj := fun P => { cls := (.type "tuple"), dict := none, data := (.seq #[(.str (Str.ofString "symbols") 682), (.str (Str.ofString "groups") 683), (.str (Str.ofString "count") 684), (.str (Str.ofString "symbol") 685)] 0), slots := #[] }
noncomputable def ob129 : Params → Obj := fun P => { cls := (.type "tuple"), dict := none, data := (.seq #[] 0), slots := #[] }
noncomputable def ob130 : Params → Obj := fun P => { cls := .none, dict := none, data := (.func { name := (Str.ofString "_law_groups"), qualname := (Str.ofString "_law_groups"), params := ((by exact fun s _ => s : (s : Arguments) → (match PySem.Challenge.pw_sn0058_01.main.body[71]? with | some (Stmt.FunctionDef _ x _ _ _ _ _ _ _ _) => some x | _ => none) = some s → Arguments) _ (by unfold PySem.Challenge.pw_sn0058_01; exact rfl)), body := .stmts ((by exact fun s _ => s : (s : List Stmt) → (match PySem.Challenge.pw_sn0058_01.main.body[71]? with | some (Stmt.FunctionDef _ _ x _ _ _ _ _ _ _) => some x | _ => none) = some s → List Stmt) _ (by unfold PySem.Challenge.pw_sn0058_01; exact rfl)), scope := ((by exact fun s _ => s : (s : Scope) → (match PySem.Challenge.pw_sn0058_01.main.body[71]? with | some (Stmt.FunctionDef _ _ _ _ _ _ x _ _ _) => some x | _ => none) = some s → Scope) _ (by unfold PySem.Challenge.pw_sn0058_01; exact rfl)), globals := 0, closure := [], defaults := .none, kwdefaults := .none, doc := .none, pyModule := .none, annotations := none, code := .none, closureTuple := .none, builtins := 0 }), slots := #[] }
noncomputable def ob131 : Params → Obj := fun P => { cls := (.type "code"), dict := none, data := (.fields #[(.str (Str.ofString "_law_groups") 679), (.str (Str.ofString "_law_groups") 680), (.str (Str.ofString "/claim/cut.py") 681), (.int 192 0), (.int 1 0), (.int 0 0), (.int 0 0), (.int 3 0), (.ref 126), (.bool true), (.int 276 0), (.ref 127), .none, (.ref 128), (.ref 129), (.ref 130), (.int 686 0), (.int 192 0), (.str (Str.ofString "/claim/cut.py") 687)]), slots := #[] }
noncomputable def ob132 : Params → Obj := fun P => { cls := (.type "function"), dict := none, data := (.func { name := (Str.ofString "_law_groups"), qualname := (Str.ofString "_law_groups"), params := ((by exact fun s _ => s : (s : Arguments) → (match PySem.Challenge.pw_sn0058_01.main.body[71]? with | some (Stmt.FunctionDef _ x _ _ _ _ _ _ _ _) => some x | _ => none) = some s → Arguments) _ (by unfold PySem.Challenge.pw_sn0058_01; exact rfl)), body := .stmts ((by exact fun s _ => s : (s : List Stmt) → (match PySem.Challenge.pw_sn0058_01.main.body[71]? with | some (Stmt.FunctionDef _ _ x _ _ _ _ _ _ _) => some x | _ => none) = some s → List Stmt) _ (by unfold PySem.Challenge.pw_sn0058_01; exact rfl)), scope := ((by exact fun s _ => s : (s : Scope) → (match PySem.Challenge.pw_sn0058_01.main.body[71]? with | some (Stmt.FunctionDef _ _ _ _ _ _ x _ _ _) => some x | _ => none) = some s → Scope) _ (by unfold PySem.Challenge.pw_sn0058_01; exact rfl)), globals := 3, closure := [], defaults := .none, kwdefaults := .none, doc := .none, pyModule := (.str (Str.ofString "law_sn0058_01") 667), annotations := none, code := (.ref 131), closureTuple := .none, builtins := 0 }), slots := #[] }
noncomputable def ob133 : Params → Obj := fun P => { cls := (.type "tuple"), dict := none, data := (.seq #[] 0), slots := #[] }
noncomputable def ob134 : Params → Obj := fun P => { cls := .none, dict := none, data := (.fields #[]), slots := #[] }
noncomputable def ob135 : Params → Obj := fun P => { cls := .none, dict := none, data := (.func { name := (Str.ofString "_law_product"), qualname := (Str.ofString "_law_product"), params := ((by exact fun s _ => s : (s : Arguments) → (match PySem.Challenge.pw_sn0058_01.main.body[72]? with | some (Stmt.FunctionDef _ x _ _ _ _ _ _ _ _) => some x | _ => none) = some s → Arguments) _ (by unfold PySem.Challenge.pw_sn0058_01; exact rfl)), body := .stmts ((by exact fun s _ => s : (s : List Stmt) → (match PySem.Challenge.pw_sn0058_01.main.body[72]? with | some (Stmt.FunctionDef _ _ x _ _ _ _ _ _ _) => some x | _ => none) = some s → List Stmt) _ (by unfold PySem.Challenge.pw_sn0058_01; exact rfl)), scope := ((by exact fun s _ => s : (s : Scope) → (match PySem.Challenge.pw_sn0058_01.main.body[72]? with | some (Stmt.FunctionDef _ _ _ _ _ _ x _ _ _) => some x | _ => none) = some s → Scope) _ (by unfold PySem.Challenge.pw_sn0058_01; exact rfl)), globals := 0, closure := [], defaults := .none, kwdefaults := .none, doc := .none, pyModule := .none, annotations := none, code := .none, closureTuple := .none, builtins := 0 }), slots := #[] }
noncomputable def ob136 : Params → Obj := fun P => { cls := (.type "code"), dict := none, data := (.fields #[(.str (Str.ofString "_law_product") 689), (.str (Str.ofString "_law_product") 690), (.str (Str.ofString "/claim/cut.py") 691), (.int 202 0), (.int 4 0), (.int 0 0), (.int 0 0), (.int 3 0), (.ref 133), (.bool true), (.int 276 0), (.ref 134), .none, .none, .none, (.ref 135), (.int 692 0), (.int 202 0), (.str (Str.ofString "/claim/cut.py") 693)]), slots := #[] }
noncomputable def ob137 : Params → Obj := fun P => { cls := (.type "function"), dict := none, data := (.func { name := (Str.ofString "_law_product"), qualname := (Str.ofString "_law_product"), params := ((by exact fun s _ => s : (s : Arguments) → (match PySem.Challenge.pw_sn0058_01.main.body[72]? with | some (Stmt.FunctionDef _ x _ _ _ _ _ _ _ _) => some x | _ => none) = some s → Arguments) _ (by unfold PySem.Challenge.pw_sn0058_01; exact rfl)), body := .stmts ((by exact fun s _ => s : (s : List Stmt) → (match PySem.Challenge.pw_sn0058_01.main.body[72]? with | some (Stmt.FunctionDef _ _ x _ _ _ _ _ _ _) => some x | _ => none) = some s → List Stmt) _ (by unfold PySem.Challenge.pw_sn0058_01; exact rfl)), scope := ((by exact fun s _ => s : (s : Scope) → (match PySem.Challenge.pw_sn0058_01.main.body[72]? with | some (Stmt.FunctionDef _ _ _ _ _ _ x _ _ _) => some x | _ => none) = some s → Scope) _ (by unfold PySem.Challenge.pw_sn0058_01; exact rfl)), globals := 3, closure := [], defaults := .none, kwdefaults := .none, doc := .none, pyModule := (.str (Str.ofString "law_sn0058_01") 667), annotations := none, code := (.ref 136), closureTuple := .none, builtins := 0 }), slots := #[] }
noncomputable def ob138 : Params → Obj := fun P => { cls := (.type "tuple"), dict := none, data := (.seq #[] 0), slots := #[] }
noncomputable def ob139 : Params → Obj := fun P => { cls := .none, dict := none, data := (.fields #[]), slots := #[] }
noncomputable def ob140 : Params → Obj := fun P => { cls := (.type "tuple"), dict := none, data := (.seq #[(.str (Str.ofString "row") 698), (.str (Str.ofString "half") 699), (.str (Str.ofString "ones") 700), (.str (Str.ofString "whole") 701), (.str (Str.ofString "sums") 702), (.str (Str.ofString "rest") 703), (.str (Str.ofString "number") 704), (.str (Str.ofString "high") 705), (.str (Str.ofString "low") 706)] 0), slots := #[] }
noncomputable def ob141 : Params → Obj := fun P => { cls := (.type "tuple"), dict := none, data := (.seq #[] 0), slots := #[] }
noncomputable def ob142 : Params → Obj := fun P => { cls := .none, dict := none, data := (.func { name := (Str.ofString "_law_sums"), qualname := (Str.ofString "_law_sums"), params := ((by exact fun s _ => s : (s : Arguments) → (match PySem.Challenge.pw_sn0058_01.main.body[73]? with | some (Stmt.FunctionDef _ x _ _ _ _ _ _ _ _) => some x | _ => none) = some s → Arguments) _ (by unfold PySem.Challenge.pw_sn0058_01; exact rfl)), body := .stmts ((by exact fun s _ => s : (s : List Stmt) → (match PySem.Challenge.pw_sn0058_01.main.body[73]? with | some (Stmt.FunctionDef _ _ x _ _ _ _ _ _ _) => some x | _ => none) = some s → List Stmt) _ (by unfold PySem.Challenge.pw_sn0058_01; exact rfl)), scope := ((by exact fun s _ => s : (s : Scope) → (match PySem.Challenge.pw_sn0058_01.main.body[73]? with | some (Stmt.FunctionDef _ _ _ _ _ _ x _ _ _) => some x | _ => none) = some s → Scope) _ (by unfold PySem.Challenge.pw_sn0058_01; exact rfl)), globals := 0, closure := [], defaults := .none, kwdefaults := .none, doc := .none, pyModule := .none, annotations := none, code := .none, closureTuple := .none, builtins := 0 }), slots := #[] }
noncomputable def ob143 : Params → Obj := fun P => { cls := (.type "code"), dict := none, data := (.fields #[(.str (Str.ofString "_law_sums") 695), (.str (Str.ofString "_law_sums") 696), (.str (Str.ofString "/claim/cut.py") 697), (.int 210 0), (.int 2 0), (.int 0 0), (.int 0 0), (.int 3 0), (.ref 138), (.bool true), (.int 276 0), (.ref 139), .none, (.ref 140), (.ref 141), (.ref 142), (.int 707 0), (.int 210 0), (.str (Str.ofString "/claim/cut.py") 708)]), slots := #[] }
noncomputable def ob144 : Params → Obj := fun P => { cls := (.type "function"), dict := none, data := (.func { name := (Str.ofString "_law_sums"), qualname := (Str.ofString "_law_sums"), params := ((by exact fun s _ => s : (s : Arguments) → (match PySem.Challenge.pw_sn0058_01.main.body[73]? with | some (Stmt.FunctionDef _ x _ _ _ _ _ _ _ _) => some x | _ => none) = some s → Arguments) _ (by unfold PySem.Challenge.pw_sn0058_01; exact rfl)), body := .stmts ((by exact fun s _ => s : (s : List Stmt) → (match PySem.Challenge.pw_sn0058_01.main.body[73]? with | some (Stmt.FunctionDef _ _ x _ _ _ _ _ _ _) => some x | _ => none) = some s → List Stmt) _ (by unfold PySem.Challenge.pw_sn0058_01; exact rfl)), scope := ((by exact fun s _ => s : (s : Scope) → (match PySem.Challenge.pw_sn0058_01.main.body[73]? with | some (Stmt.FunctionDef _ _ _ _ _ _ x _ _ _) => some x | _ => none) = some s → Scope) _ (by unfold PySem.Challenge.pw_sn0058_01; exact rfl)), globals := 3, closure := [], defaults := .none, kwdefaults := .none, doc := .none, pyModule := (.str (Str.ofString "law_sn0058_01") 667), annotations := none, code := (.ref 143), closureTuple := .none, builtins := 0 }), slots := #[] }
noncomputable def ob145 : Params → Obj := fun P => { cls := (.type "tuple"), dict := none, data := (.seq #[] 0), slots := #[] }
noncomputable def ob146 : Params → Obj := fun P => { cls := .none, dict := none, data := (.fields #[]), slots := #[] }
noncomputable def ob147 : Params → Obj := fun P => { cls := .none, dict := none, data := (.func { name := (Str.ofString "_law_struck"), qualname := (Str.ofString "_law_struck"), params := ((by exact fun s _ => s : (s : Arguments) → (match PySem.Challenge.pw_sn0058_01.main.body[74]? with | some (Stmt.FunctionDef _ x _ _ _ _ _ _ _ _) => some x | _ => none) = some s → Arguments) _ (by unfold PySem.Challenge.pw_sn0058_01; exact rfl)), body := .stmts ((by exact fun s _ => s : (s : List Stmt) → (match PySem.Challenge.pw_sn0058_01.main.body[74]? with | some (Stmt.FunctionDef _ _ x _ _ _ _ _ _ _) => some x | _ => none) = some s → List Stmt) _ (by unfold PySem.Challenge.pw_sn0058_01; exact rfl)), scope := ((by exact fun s _ => s : (s : Scope) → (match PySem.Challenge.pw_sn0058_01.main.body[74]? with | some (Stmt.FunctionDef _ _ _ _ _ _ x _ _ _) => some x | _ => none) = some s → Scope) _ (by unfold PySem.Challenge.pw_sn0058_01; exact rfl)), globals := 0, closure := [], defaults := .none, kwdefaults := .none, doc := .none, pyModule := .none, annotations := none, code := .none, closureTuple := .none, builtins := 0 }), slots := #[] }
noncomputable def ob148 : Params → Obj := fun P => { cls := (.type "code"), dict := none, data := (.fields #[(.str (Str.ofString "_law_struck") 710), (.str (Str.ofString "_law_struck") 711), (.str (Str.ofString "/claim/cut.py") 712), (.int 222 0), (.int 4 0), (.int 0 0), (.int 0 0), (.int 3 0), (.ref 145), (.bool true), (.int 276 0), (.ref 146), .none, .none, .none, (.ref 147), (.int 713 0), (.int 222 0), (.str (Str.ofString "/claim/cut.py") 714)]), slots := #[] }
noncomputable def ob149 : Params → Obj := fun P => { cls := (.type "function"), dict := none, data := (.func { name := (Str.ofString "_law_struck"), qualname := (Str.ofString "_law_struck"), params := ((by exact fun s _ => s : (s : Arguments) → (match PySem.Challenge.pw_sn0058_01.main.body[74]? with | some (Stmt.FunctionDef _ x _ _ _ _ _ _ _ _) => some x | _ => none) = some s → Arguments) _ (by unfold PySem.Challenge.pw_sn0058_01; exact rfl)), body := .stmts ((by exact fun s _ => s : (s : List Stmt) → (match PySem.Challenge.pw_sn0058_01.main.body[74]? with | some (Stmt.FunctionDef _ _ x _ _ _ _ _ _ _) => some x | _ => none) = some s → List Stmt) _ (by unfold PySem.Challenge.pw_sn0058_01; exact rfl)), scope := ((by exact fun s _ => s : (s : Scope) → (match PySem.Challenge.pw_sn0058_01.main.body[74]? with | some (Stmt.FunctionDef _ _ _ _ _ _ x _ _ _) => some x | _ => none) = some s → Scope) _ (by unfold PySem.Challenge.pw_sn0058_01; exact rfl)), globals := 3, closure := [], defaults := .none, kwdefaults := .none, doc := .none, pyModule := (.str (Str.ofString "law_sn0058_01") 667), annotations := none, code := (.ref 148), closureTuple := .none, builtins := 0 }), slots := #[] }
noncomputable def ob150 : Params → Obj := fun P => { cls := (.type "tuple"), dict := none, data := (.seq #[] 0), slots := #[] }
noncomputable def ob151 : Params → Obj := fun P => { cls := .none, dict := none, data := (.fields #[]), slots := #[] }
noncomputable def ob152 : Params → Obj := fun P => { cls := .none, dict := none, data := (.func { name := (Str.ofString "law"), qualname := (Str.ofString "law"), params := ((by exact fun s _ => s : (s : Arguments) → (match PySem.Challenge.pw_sn0058_01.main.body[75]? with | some (Stmt.FunctionDef _ x _ _ _ _ _ _ _ _) => some x | _ => none) = some s → Arguments) _ (by unfold PySem.Challenge.pw_sn0058_01; exact rfl)), body := .stmts ((by exact fun s _ => s : (s : List Stmt) → (match PySem.Challenge.pw_sn0058_01.main.body[75]? with | some (Stmt.FunctionDef _ _ x _ _ _ _ _ _ _) => some x | _ => none) = some s → List Stmt) _ (by unfold PySem.Challenge.pw_sn0058_01; exact rfl)), scope := ((by exact fun s _ => s : (s : Scope) → (match PySem.Challenge.pw_sn0058_01.main.body[75]? with | some (Stmt.FunctionDef _ _ _ _ _ _ x _ _ _) => some x | _ => none) = some s → Scope) _ (by unfold PySem.Challenge.pw_sn0058_01; exact rfl)), globals := 0, closure := [], defaults := .none, kwdefaults := .none, doc := .none, pyModule := .none, annotations := none, code := .none, closureTuple := .none, builtins := 0 }), slots := #[] }
noncomputable def ob153 : Params → Obj := fun P => { cls := (.type "code"), dict := none, data := (.fields #[(.str (Str.ofString "law") 716), (.str (Str.ofString "law") 717), (.str (Str.ofString "/claim/cut.py") 718), (.int 242 0), (.int 1 0), (.int 0 0), (.int 0 0), (.int 3 0), (.ref 150), (.bool true), (.int 276 0), (.ref 151), .none, .none, .none, (.ref 152), (.int 719 0), (.int 242 0), (.str (Str.ofString "/claim/cut.py") 720)]), slots := #[] }
noncomputable def ob154 : Params → Obj := fun P => { cls := (.type "function"), dict := none, data := (.func { name := (Str.ofString "law"), qualname := (Str.ofString "law"), params := ((by exact fun s _ => s : (s : Arguments) → (match PySem.Challenge.pw_sn0058_01.main.body[75]? with | some (Stmt.FunctionDef _ x _ _ _ _ _ _ _ _) => some x | _ => none) = some s → Arguments) _ (by unfold PySem.Challenge.pw_sn0058_01; exact rfl)), body := .stmts ((by exact fun s _ => s : (s : List Stmt) → (match PySem.Challenge.pw_sn0058_01.main.body[75]? with | some (Stmt.FunctionDef _ _ x _ _ _ _ _ _ _) => some x | _ => none) = some s → List Stmt) _ (by unfold PySem.Challenge.pw_sn0058_01; exact rfl)), scope := ((by exact fun s _ => s : (s : Scope) → (match PySem.Challenge.pw_sn0058_01.main.body[75]? with | some (Stmt.FunctionDef _ _ _ _ _ _ x _ _ _) => some x | _ => none) = some s → Scope) _ (by unfold PySem.Challenge.pw_sn0058_01; exact rfl)), globals := 3, closure := [], defaults := .none, kwdefaults := .none, doc := .none, pyModule := (.str (Str.ofString "law_sn0058_01") 667), annotations := none, code := (.ref 153), closureTuple := .none, builtins := 0 }), slots := #[] }
noncomputable def oz3 : Params → Obj := fun P => { cls := (.type "dict"), dict := none, data := (.dict (List.toArray [en P (Str.ofString "__name__") 165 (.str (Str.ofString "__main__") 164),   en P (Str.ofString "__doc__") 166 .none,   en P (Str.ofString "__package__") 167 .none,   en P (Str.ofString "__loader__") 168 (.builtin "__main__.__loader__#opaque"),   en P (Str.ofString "__spec__") 169 .none,   en P (Str.ofString "__annotations__") 170 (.ref 6),   en P (Str.ofString "__builtins__") 171 (.ref 4),   en P (Str.ofString "__file__") 173 (.str (Str.ofString "/claim/cut.py") 172),   en P (Str.ofString "__cached__") 174 .none,   en P (Str.ofString "_sre") 275 (.ref 12)]) 10), slots := #[] }
noncomputable def hz : Params → Heap := fun P => { objs := Array.mk (ob0 P :: ob1 P :: ob2 P :: oz3 P :: ob4 P :: ob5 P :: ob6 P :: ob7 P :: ob8 P :: ob9 P :: ob10 P :: ob11 P :: ob12 P :: ob13 P :: ob14 P :: ob15 P :: ob16 P :: ob17 P :: ob18 P :: ob19 P :: ob20 P :: ob21 P :: ob22 P :: ob23 P :: ob24 P :: ob25 P :: ob26 P :: ob27 P :: []), life := {} }
noncomputable def he : Params → Heap := fun P => { objs := Array.mk (ob0 P :: ob1 P :: ob2 P :: ob3 P :: ob4 P :: ob5 P :: ob6 P :: ob7 P :: ob8 P :: ob9 P :: ob10 P :: ob11 P :: ob12 P :: ob13 P :: ob14 P :: ob15 P :: ob16 P :: ob17 P :: ob18 P :: ob19 P :: ob20 P :: ob21 P :: ob22 P :: ob23 P :: ob24 P :: ob25 P :: ob26 P :: ob27 P :: ob28 P :: ob29 P :: ob30 P :: ob31 P :: ob32 P :: ob33 P :: ob34 P :: ob35 P :: ob36 P :: ob37 P :: ob38 P :: ob39 P :: ob40 P :: ob41 P :: ob42 P :: ob43 P :: ob44 P :: ob45 P :: ob46 P :: ob47 P :: ob48 P :: ob49 P :: ob50 P :: ob51 P :: ob52 P :: ob53 P :: ob54 P :: ob55 P :: ob56 P :: ob57 P :: ob58 P :: ob59 P :: ob60 P :: ob61 P :: ob62 P :: ob63 P :: ob64 P :: ob65 P :: ob66 P :: ob67 P :: ob68 P :: ob69 P :: ob70 P :: ob71 P :: ob72 P :: ob73 P :: ob74 P :: ob75 P :: ob76 P :: ob77 P :: ob78 P :: ob79 P :: ob80 P :: ob81 P :: ob82 P :: ob83 P :: ob84 P :: ob85 P :: ob86 P :: ob87 P :: ob88 P :: ob89 P :: ob90 P :: ob91 P :: ob92 P :: ob93 P :: ob94 P :: ob95 P :: ob96 P :: ob97 P :: ob98 P :: ob99 P :: ob100 P :: ob101 P :: ob102 P :: ob103 P :: ob104 P :: ob105 P :: ob106 P :: ob107 P :: ob108 P :: ob109 P :: ob110 P :: ob111 P :: ob112 P :: ob113 P :: ob114 P :: ob115 P :: ob116 P :: ob117 P :: ob118 P :: ob119 P :: ob120 P :: ob121 P :: ob122 P :: ob123 P :: ob124 P :: ob125 P :: ob126 P :: ob127 P :: ob128 P :: ob129 P :: ob130 P :: ob131 P :: ob132 P :: ob133 P :: ob134 P :: ob135 P :: ob136 P :: ob137 P :: ob138 P :: ob139 P :: ob140 P :: ob141 P :: ob142 P :: ob143 P :: ob144 P :: ob145 P :: ob146 P :: ob147 P :: ob148 P :: ob149 P :: ob150 P :: ob151 P :: ob152 P :: ob153 P :: ob154 P :: []), life := {} }
noncomputable def hp : Params → Frag := fun P => ((nat_lit 2 : Nat), ob2 P) :: ((nat_lit 3 : Nat), ob3 P) :: ((nat_lit 6 : Nat), ob6 P) :: ((nat_lit 11 : Nat), ob11 P) :: ((nat_lit 12 : Nat), ob12 P) :: ((nat_lit 32 : Nat), ob32 P) :: ((nat_lit 34 : Nat), ob34 P) :: ((nat_lit 35 : Nat), ob35 P) :: ((nat_lit 37 : Nat), ob37 P) :: ((nat_lit 38 : Nat), ob38 P) :: ((nat_lit 39 : Nat), ob39 P) :: ((nat_lit 41 : Nat), ob41 P) :: ((nat_lit 42 : Nat), ob42 P) :: ((nat_lit 44 : Nat), ob44 P) :: ((nat_lit 45 : Nat), ob45 P) :: ((nat_lit 46 : Nat), ob46 P) :: ((nat_lit 48 : Nat), ob48 P) :: ((nat_lit 49 : Nat), ob49 P) :: ((nat_lit 51 : Nat), ob51 P) :: ((nat_lit 52 : Nat), ob52 P) :: ((nat_lit 53 : Nat), ob53 P) :: ((nat_lit 55 : Nat), ob55 P) :: ((nat_lit 56 : Nat), ob56 P) :: ((nat_lit 58 : Nat), ob58 P) :: ((nat_lit 59 : Nat), ob59 P) :: ((nat_lit 60 : Nat), ob60 P) :: ((nat_lit 62 : Nat), ob62 P) :: ((nat_lit 63 : Nat), ob63 P) :: ((nat_lit 65 : Nat), ob65 P) :: ((nat_lit 66 : Nat), ob66 P) :: ((nat_lit 67 : Nat), ob67 P) :: ((nat_lit 69 : Nat), ob69 P) :: ((nat_lit 70 : Nat), ob70 P) :: ((nat_lit 72 : Nat), ob72 P) :: ((nat_lit 73 : Nat), ob73 P) :: ((nat_lit 74 : Nat), ob74 P) :: ((nat_lit 75 : Nat), ob75 P) :: ((nat_lit 76 : Nat), ob76 P) :: ((nat_lit 78 : Nat), ob78 P) :: ((nat_lit 79 : Nat), ob79 P) :: ((nat_lit 81 : Nat), ob81 P) :: ((nat_lit 82 : Nat), ob82 P) :: ((nat_lit 83 : Nat), ob83 P) :: ((nat_lit 84 : Nat), ob84 P) :: ((nat_lit 85 : Nat), ob85 P) :: ((nat_lit 87 : Nat), ob87 P) :: ((nat_lit 88 : Nat), ob88 P) :: ((nat_lit 90 : Nat), ob90 P) :: ((nat_lit 91 : Nat), ob91 P) :: ((nat_lit 95 : Nat), ob95 P) :: ((nat_lit 96 : Nat), ob96 P) :: ((nat_lit 100 : Nat), ob100 P) :: ((nat_lit 101 : Nat), ob101 P) :: ((nat_lit 102 : Nat), ob102 P) :: ((nat_lit 104 : Nat), ob104 P) :: ((nat_lit 105 : Nat), ob105 P) :: ((nat_lit 107 : Nat), ob107 P) :: ((nat_lit 108 : Nat), ob108 P) :: ((nat_lit 109 : Nat), ob109 P) :: ((nat_lit 112 : Nat), ob112 P) :: ((nat_lit 114 : Nat), ob114 P) :: ((nat_lit 115 : Nat), ob115 P) :: ((nat_lit 117 : Nat), ob117 P) :: ((nat_lit 118 : Nat), ob118 P) :: ((nat_lit 119 : Nat), ob119 P) :: ((nat_lit 121 : Nat), ob121 P) :: ((nat_lit 122 : Nat), ob122 P) :: ((nat_lit 124 : Nat), ob124 P) :: ((nat_lit 125 : Nat), ob125 P) :: ((nat_lit 126 : Nat), ob126 P) :: ((nat_lit 128 : Nat), ob128 P) :: ((nat_lit 129 : Nat), ob129 P) :: ((nat_lit 131 : Nat), ob131 P) :: ((nat_lit 132 : Nat), ob132 P) :: ((nat_lit 133 : Nat), ob133 P) :: ((nat_lit 136 : Nat), ob136 P) :: ((nat_lit 137 : Nat), ob137 P) :: ((nat_lit 138 : Nat), ob138 P) :: ((nat_lit 140 : Nat), ob140 P) :: ((nat_lit 141 : Nat), ob141 P) :: ((nat_lit 143 : Nat), ob143 P) :: ((nat_lit 144 : Nat), ob144 P) :: ((nat_lit 145 : Nat), ob145 P) :: ((nat_lit 148 : Nat), ob148 P) :: ((nat_lit 149 : Nat), ob149 P) :: ((nat_lit 150 : Nat), ob150 P) :: ((nat_lit 153 : Nat), ob153 P) :: ((nat_lit 154 : Nat), ob154 P) :: []
@[irreducible] noncomputable def lo : List Str := [Str.ofString "_DIV_LIMIT", Str.ofString "_div2n1n", Str.ofString "_div3n2n", Str.ofString "_int2digits", Str.ofString "_digits2int", Str.ofString "_divmod_pos", Str.ofString "int_divmod", Str.ofString "bisect_right", Str.ofString "bisect_left", Str.ofString "_twin_re_1", Str.ofString "_twin_re_2", Str.ofString "CRLF", Str.ofString "quotedata", Str.ofString "ENDMARKER", Str.ofString "LPAR", Str.ofString "RPAR", Str.ofString "LSQB", Str.ofString "RSQB", Str.ofString "COLON", Str.ofString "COMMA", Str.ofString "SEMI", Str.ofString "PLUS", Str.ofString "MINUS", Str.ofString "STAR", Str.ofString "SLASH", Str.ofString "VBAR", Str.ofString "AMPER", Str.ofString "LESS", Str.ofString "GREATER", Str.ofString "EQUAL", Str.ofString "DOT", Str.ofString "PERCENT", Str.ofString "LBRACE", Str.ofString "RBRACE", Str.ofString "EQEQUAL", Str.ofString "NOTEQUAL", Str.ofString "LESSEQUAL", Str.ofString "GREATEREQUAL", Str.ofString "TILDE", Str.ofString "CIRCUMFLEX", Str.ofString "LEFTSHIFT", Str.ofString "RIGHTSHIFT", Str.ofString "DOUBLESTAR", Str.ofString "PLUSEQUAL", Str.ofString "MINEQUAL", Str.ofString "STAREQUAL", Str.ofString "SLASHEQUAL", Str.ofString "PERCENTEQUAL", Str.ofString "AMPEREQUAL", Str.ofString "VBAREQUAL", Str.ofString "CIRCUMFLEXEQUAL", Str.ofString "LEFTSHIFTEQUAL", Str.ofString "RIGHTSHIFTEQUAL", Str.ofString "DOUBLESTAREQUAL", Str.ofString "DOUBLESLASH", Str.ofString "DOUBLESLASHEQUAL", Str.ofString "AT", Str.ofString "ATEQUAL", Str.ofString "RARROW", Str.ofString "ELLIPSIS"] ++ [Str.ofString "COLONEQUAL", Str.ofString "EXCLAMATION", Str.ofString "EXACT_TOKEN_TYPES", Str.ofString "ISEOF", Str.ofString "_law_symbols", Str.ofString "_law_groups", Str.ofString "_law_product", Str.ofString "_law_sums", Str.ofString "_law_struck"]
@[irreducible] noncomputable def vw : Program := view PySem.Challenge.pw_sn0058_01 [0, 75]
theorem hpas : ∀ P, 2 :: 3 :: 6 :: 11 :: 12 :: 32 :: 34 :: 35 :: 37 :: 38 :: 39 :: 41 :: 42 :: 44 :: 45 :: 46 :: 48 :: 49 :: 51 :: 52 :: 53 :: 55 :: 56 :: 58 :: 59 :: 60 :: 62 :: 63 :: 65 :: 66 :: 67 :: 69 :: 70 :: 72 :: 73 :: 74 :: 75 :: 76 :: 78 :: 79 :: 81 :: 82 :: 83 :: 84 :: 85 :: 87 :: 88 :: 90 :: 91 :: 95 :: 96 :: 100 :: 101 :: 102 :: 104 :: 105 :: 107 :: 108 :: 109 :: 112 :: 114 :: 115 :: 117 :: 118 :: 119 :: 121 :: 122 :: 124 :: 125 :: 126 :: 128 :: 129 :: 131 :: 132 :: 133 :: 136 :: 137 :: 138 :: 140 :: 141 :: 143 :: 144 :: 145 :: 148 :: 149 :: 150 :: 153 :: 154 :: [] = (hp P).map (·.1) := fun _ => by kernel_rfl
noncomputable abbrev hk : Hook := kmHook Mine.hp (2 :: 3 :: 6 :: 11 :: 12 :: 32 :: 34 :: 35 :: 37 :: 38 :: 39 :: 41 :: 42 :: 44 :: 45 :: 46 :: 48 :: 49 :: 51 :: 52 :: 53 :: 55 :: 56 :: 58 :: 59 :: 60 :: 62 :: 63 :: 65 :: 66 :: 67 :: 69 :: 70 :: 72 :: 73 :: 74 :: 75 :: 76 :: 78 :: 79 :: 81 :: 82 :: 83 :: 84 :: 85 :: 87 :: 88 :: 90 :: 91 :: 95 :: 96 :: 100 :: 101 :: 102 :: 104 :: 105 :: 107 :: 108 :: 109 :: 112 :: 114 :: 115 :: 117 :: 118 :: 119 :: 121 :: 122 :: 124 :: 125 :: 126 :: 128 :: 129 :: 131 :: 132 :: 133 :: 136 :: 137 :: 138 :: 140 :: 141 :: 143 :: 144 :: 145 :: 148 :: 149 :: 150 :: 153 :: 154 :: []) hpas [54, 47]
theorem said : rw.wellSaid = true := by
  rw [PySem.W.Fast.te9446332074065402090]; kernel_rfl
theorem opn : ∀ w : World, (fencedOpening treeTable pw w 4436).map (fun s => (s.heap, s.gens, s.drawn, s.toks)) = some (hz w.params, #[], {}, 276) := by
  unfold fencedOpening
  rw [PySem.W.Fast.te10274390034422433532, PySem.W.Fast.te14364793385576792824, PySem.W.Fast.te14289696077712309145, PySem.W.Fast.te1435165496053646825]
  intro w; kernel_rfl
theorem siz : ∀ w : World, ((hz w.params).isNs mainGlobals && (#[] : Array GenState).size == 0, (hz w.params).objs.size, (hz w.params).nsMap mainGlobals "__annotations__") = (true, 28, some (.ref 6)) := by
  intro w; kernel_rfl
theorem rnF : ∀ (w : World) (os : OsState), topRun treeTable pw (w.withFollow "special-get-raises" false) 28 (some (.ref 6)) 4436 ⟨hz (w.withFollow "special-get-raises" false).params, #[], {}, 276, os⟩ (topStub pw) = some ⟨he (w.withFollow "special-get-raises" false).params, #[], {}, 722, os⟩ := by
  rw [PySem.W.Fast.te14082659384304107361, PySem.W.Fast.te14364793385576792824]
  intro w os; kernel_rfl
theorem rnT : ∀ (w : World) (os : OsState), topRun treeTable pw (w.withFollow "special-get-raises" true) 28 (some (.ref 6)) 4436 ⟨hz (w.withFollow "special-get-raises" true).params, #[], {}, 276, os⟩ (topStub pw) = some ⟨he (w.withFollow "special-get-raises" true).params, #[], {}, 722, os⟩ := by
  rw [PySem.W.Fast.te14082659384304107361, PySem.W.Fast.te14364793385576792824]
  intro w os; kernel_rfl
theorem rn : ∀ (w : World) (os : OsState), topRun treeTable pw w 28 (some (.ref 6)) 4436 ⟨hz w.params, #[], {}, 276, os⟩ (topStub pw) = some ⟨he w.params, #[], {}, 722, os⟩ :=
  fun w => byRow2 "special-get-raises" (P := fun w => ∀ os : OsState, topRun treeTable pw w 28 (some (.ref 6)) 4436 ⟨hz w.params, #[], {}, 276, os⟩ (topStub pw) = some ⟨he w.params, #[], {}, 722, os⟩) rnF rnT w
noncomputable abbrev xt (s : Shared) : Bool := xlAt vw [] s && recOk (RowW.records rw.row.toRowW) s
theorem lk1 : ∀ w : World, (staticsOk (importedModules pw.main.body) (hz w.params) (he w.params) && namesBound pw (he w.params) && gensDone ⟨he w.params, #[], {}, 722, {}⟩ && laidKept (hz w.params) (he w.params)) = true := by
  intro w; kernel_rfl
theorem lk2 : ∀ w : World, (fun os => openSeen vw lo (importedModules pw.main.body) xt true ⟨he w.params, #[], {}, 722, os⟩) = fun _ => openGood vw lo := by
  rw [PySem.W.Fast.te4187177175401517315]
  intro w; kernel_rfl
theorem lk3 : ∀ w : World, (fun os => Hook.obs hk ⟨he w.params, #[], {}, 722, os⟩) = fun _ => Hook.val hk w := by
  intro w; kernel_rfl
theorem left : LeftO pw vw lo xt (Hook.obs hk) (Hook.val hk) 4436 :=
  LeftO.of_pieces opn siz rn (by decide) (fun w => funext fun os => Prod.ext (lk1 w) (Prod.ext (congrFun (lk2 w) os) (congrFun (lk3 w) os)))
noncomputable def drec : DefRec := (by exact fun s _ => s : (s : DefRec) → defOf vw "law" = some (s, []) → DefRec) _ (by unfold vw; with_unfolding_all exact rfl)
theorem hd (walk : WalkO vw lo (XL vw []) (Hook.says (kmHook Mine.hp (2 :: 3 :: 6 :: 11 :: 12 :: 32 :: 34 :: 35 :: 37 :: 38 :: 39 :: 41 :: 42 :: 44 :: 45 :: 46 :: 48 :: 49 :: 51 :: 52 :: 53 :: 55 :: 56 :: 58 :: 59 :: 60 :: 62 :: 63 :: 65 :: 66 :: 67 :: 69 :: 70 :: 72 :: 73 :: 74 :: 75 :: 76 :: 78 :: 79 :: 81 :: 82 :: 83 :: 84 :: 85 :: 87 :: 88 :: 90 :: 91 :: 95 :: 96 :: 100 :: 101 :: 102 :: 104 :: 105 :: 107 :: 108 :: 109 :: 112 :: 114 :: 115 :: 117 :: 118 :: 119 :: 121 :: 122 :: 124 :: 125 :: 126 :: 128 :: 129 :: 131 :: 132 :: 133 :: 136 :: 137 :: 138 :: 140 :: 141 :: 143 :: 144 :: 145 :: 148 :: 149 :: 150 :: 153 :: 154 :: []) hpas [54, 47])) rw.row.toRowW drec [] fun f vs => PySem.call f vs) : rw.Holds := by
  refine holds_law said fun ok => ?_
  refine holds_open (q := vw) (loose := lo) (Xt := xt) (XP := XL vw []) (Yf := Hook.obs hk) (Ya := Hook.val hk) (YP := Hook.says hk) (N := 4436) left (Hook.of hk) (Hook.keeps hk)
    (fun s e => xl_of s (Bool.and_eq_true_iff.mp e).1) XL.keeps (by unfold vw; with_unfolding_all rfl) (by with_unfolding_all rfl) (by with_unfolding_all rfl) (fun s e => recFacts_of (Bool.and_eq_true_iff.mp e).2) (by rfl) ok (by decide +kernel) ⟨rfl, rfl, rfl, rfl, rfl, by decide +kernel⟩ ?hw walk
  case hw => w_witness2
end ZHL
open PyProof.Rows in
set_option maxRecDepth 100000 in
set_option maxHeartbeats 8000000 in
theorem filled : Mine.rw = Mine.rw ∧ Mine.hp = Mine.hp := by
  k_fill
  exact ⟨rfl, rfl⟩
section ZFO
open PySem PySem.W PySem.Spec PySem.Calls PyProof.Rows
theorem nilX {α : Type} {a : α} (h : a ∈ ([] : List α)) : a ∈ ([] : List α) := h
theorem memH {α : Type} {a : α} {l : List α} : a ∈ a :: l := .head _
theorem memT {α : Type} {a b : α} {l : List α} (h : a ∈ l) : a ∈ b :: l := .tail _ h
theorem andR {a b c : Prop} (k : b → c) : a ∧ b → c := fun h => k h.2
theorem ltVia {a d x : Nat} {R : Prop} (h : x < d ∧ R) (k : (x < d ∧ R) → a < d) : a < d := k h
theorem neA0 {a d x : Nat} {R : Prop} (h : x < d ∧ R) (k : (x < d ∧ R) → a < d) : a ≠ d := Nat.ne_of_lt (k h)
theorem neA1 {a d x : Nat} {R : Prop} (h : x < d ∧ R) (k : (x < d ∧ R) → a < d) : a ≠ d + 1 := Nat.ne_of_lt (Nat.lt_succ_of_lt (k h))
theorem neA2 {a d x : Nat} {R : Prop} (h : x < d ∧ R) (k : (x < d ∧ R) → a < d) : a ≠ d + 1 + 1 := Nat.ne_of_lt (Nat.lt_succ_of_lt (Nat.lt_succ_of_lt (k h)))
theorem neA3 {a d x : Nat} {R : Prop} (h : x < d ∧ R) (k : (x < d ∧ R) → a < d) : a ≠ d + 1 + 1 + 1 := Nat.ne_of_lt (Nat.lt_succ_of_lt (Nat.lt_succ_of_lt (Nat.lt_succ_of_lt (k h))))
theorem neB0 {a d x : Nat} {R : Prop} (h : x < d ∧ R) (k : (x < d ∧ R) → a < d) : d ≠ a := (neA0 h k).symm
theorem neB1 {a d x : Nat} {R : Prop} (h : x < d ∧ R) (k : (x < d ∧ R) → a < d) : d + 1 ≠ a := (neA1 h k).symm
theorem neB2 {a d x : Nat} {R : Prop} (h : x < d ∧ R) (k : (x < d ∧ R) → a < d) : d + 1 + 1 ≠ a := (neA2 h k).symm
theorem neB3 {a d x : Nat} {R : Prop} (h : x < d ∧ R) (k : (x < d ∧ R) → a < d) : d + 1 + 1 + 1 ≠ a := (neA3 h k).symm
theorem neC {a d x : Nat} {R : Prop} (h : x ≠ d ∧ R) (k : (x ≠ d ∧ R) → a ≠ d) : a ≠ d := k h
theorem neCs {a d x : Nat} {R : Prop} (h : x ≠ d ∧ R) (k : (x ≠ d ∧ R) → a ≠ d) : d ≠ a := (k h).symm
theorem subC {p : Addr × Obj} {l r : List (Addr × Obj)} (h : p ∈ l) (t : ∀ q ∈ r, q ∈ l) : ∀ q ∈ p :: r, q ∈ l := fun q hq => by
  rcases List.mem_cons.mp hq with rfl | hq
  · exact h
  · exact t q hq
theorem news_sub {h₀ h : Heap} {L : Addr} {l r : List (Addr × Obj)} (N : News h₀ L h l) (t : ∀ q ∈ r, q ∈ l) : News h₀ L h r := fun p hp => N p (t p hp)
theorem roomK {dp c n : Nat} (hd : dp + c < recursionLimit) (hc : n ≤ c) : dp + n < recursionLimit := Nat.lt_of_le_of_lt (Nat.add_le_add_left hc dp) hd
theorem ktrDepth {dp un : Nat} {gd : Option (List Code)} {cn : Str} {cs : Scope} {L a : Addr} {ccd : Value} {cl : List (Str × Addr)} {outer : List Env} : (ktrTop dp un gd cn cs L a ccd cl outer).depth = dp := rfl
theorem room0 {dp c : Nat} (hd : dp + c < recursionLimit) : dp < recursionLimit := Nat.lt_of_le_of_lt (Nat.le_add_right dp c) hd
theorem room1 {x dp c : Nat} (h : x = dp + 1) (hd : dp + c < recursionLimit) (hc : 1 ≤ c) : x < recursionLimit := Nat.lt_of_le_of_lt (Nat.le_of_eq h) (roomK (n := 1) hd hc)
theorem room2 {x dp c : Nat} (h : x = dp + 1 + 1) (hd : dp + c < recursionLimit) (hc : 2 ≤ c) : x < recursionLimit := Nat.lt_of_le_of_lt (Nat.le_of_eq h) (roomK (n := 2) hd hc)
theorem room3 {x dp c : Nat} (h : x = dp + 1 + 1 + 1) (hd : dp + c < recursionLimit) (hc : 3 ≤ c) : x < recursionLimit := Nat.lt_of_le_of_lt (Nat.le_of_eq h) (roomK (n := 3) hd hc)
theorem room4 {x dp c : Nat} (h : x = dp + 1 + 1 + 1 + 1) (hd : dp + c < recursionLimit) (hc : 4 ≤ c) : x < recursionLimit := Nat.lt_of_le_of_lt (Nat.le_of_eq h) (roomK (n := 4) hd hc)
theorem room5 {x dp c : Nat} (h : x = dp + 1 + 1 + 1 + 1 + 1) (hd : dp + c < recursionLimit) (hc : 5 ≤ c) : x < recursionLimit := Nat.lt_of_le_of_lt (Nat.le_of_eq h) (roomK (n := 5) hd hc)
theorem nwLt {d : Nat} {nw : List (Addr × Obj)} (h : AllLt d nw) : ∀ p ∈ nw, @LT.lt Nat _ p.1 d := by
  induction nw with
  | nil => intro p hp; cases hp
  | cons q r ih => intro p hp; rcases List.mem_cons.mp hp with rfl | hp; exact h.1; exact ih h.2 p hp
theorem nwA0 {d x : Nat} {R : Prop} {nw : List (Addr × Obj)} (h : x < d ∧ R) (k : (x < d ∧ R) → AllLt d nw) : ∀ p ∈ nw, p.1 ≠ d := fun p hp => Nat.ne_of_lt (nwLt (k h) p hp)
theorem nwA1 {d x : Nat} {R : Prop} {nw : List (Addr × Obj)} (h : x < d ∧ R) (k : (x < d ∧ R) → AllLt d nw) : ∀ p ∈ nw, p.1 ≠ d + 1 := fun p hp => Nat.ne_of_lt (Nat.lt_succ_of_lt (nwLt (k h) p hp))
theorem nwA2 {d x : Nat} {R : Prop} {nw : List (Addr × Obj)} (h : x < d ∧ R) (k : (x < d ∧ R) → AllLt d nw) : ∀ p ∈ nw, p.1 ≠ d + 1 + 1 := fun p hp => Nat.ne_of_lt (Nat.lt_succ_of_lt (Nat.lt_succ_of_lt (nwLt (k h) p hp)))
theorem nwA3 {d x : Nat} {R : Prop} {nw : List (Addr × Obj)} (h : x < d ∧ R) (k : (x < d ∧ R) → AllLt d nw) : ∀ p ∈ nw, p.1 ≠ d + 1 + 1 + 1 := fun p hp => Nat.ne_of_lt (Nat.lt_succ_of_lt (Nat.lt_succ_of_lt (Nat.lt_succ_of_lt (nwLt (k h) p hp))))
theorem execs_consF {M : Model} {A : Around} {E : Value → Shared → Prop} {s : Shared} {env : Env} {st : Stmt} {rest : List Stmt} {Q : Flow → Shared → Prop}
    (h : let q : Flow → Shared → Prop := fun f s' => match f with | .next => wpAny M A (execs rest env) Q E s' | f => Q f s'
      wpAny M A (exec st env) q E s) : wpAny M A (execs (st :: rest) env) Q E s := wpAny_execs_cons h
theorem foldQE {α : Type} {M : Model} {A : Around} {x : Sem α} {E : Value → Shared → Prop} {s : Shared} {Q : α → Shared → Prop}
    (h : let q := Q; let e := E; wpAny M A x q e s) : wpAny M A x Q E s := h
theorem foldAQE {α : Type} {M : Model} {A : Around} {x : Sem α} {E : Value → Shared → Prop} {s : Shared} {Q : α → Shared → Prop}
    (h : let a := A; a.depth = A.depth → a.units = A.units → let q := Q; let e := E; wpAny M a x q e s) : wpAny M A x Q E s := h rfl rfl
noncomputable def LeaveF (h₀ : Heap) (L : Addr) (m : Str → Option Value) (g : Heap) (Q : Value → Shared → Prop) (v : Value) (s' : Shared) : Prop :=
  ∃ L' m' news', Fr g L' s'.heap m' ∧ News g L' s'.heap news' ∧ (Fr h₀ L s'.heap m → News h₀ L s'.heap news' → Q v s')
theorem leaveF_ {h₀ g : Heap} {L L' : Addr} {m m' : Str → Option Value} {news' : List (Addr × Obj)} {Q : Value → Shared → Prop} {v : Value} {s' : Shared} (F' : Fr g L' s'.heap m') (N' : News g L' s'.heap news')
    (k : Fr h₀ L s'.heap m → News h₀ L s'.heap news' → Q v s') : LeaveF h₀ L m g Q v s' := ⟨L', m', news', F', N', k⟩
theorem or45 {P : Int → Prop} {a x y : Int} (ha : a = x ∨ a = y) (h4 : P x) (h5 : P y) : P a := by
  rcases ha with rfl | rfl
  · exact h4
  · exact h5
section
variable {prog : Program} {w : World} {A : Around} {E : Value → Shared → Prop} {Q : Value → Shared → Prop} {hp : Heap} {gg : Array GenState} {dd : Drawn} {t : Nat} {oo : OsState}
theorem bitlenK {a k : Int} {u : Tok} (hb : ((Builtin.Int.intBits a : Nat) : Int) = k) (h : Q (.int k t) ⟨hp, gg, dd, t + 1, oo⟩) : wpAny (model prog w) A (call (.builtin "int.bit_length") [.int a u]) Q E ⟨hp, gg, dd, t, oo⟩ :=
  call_int_bit_length (by rw [hb]; exact h)
end
section
variable {M : Model} {A : Around} {E : Value → Shared → Prop} {hp h₀ : Heap} {gg : Array GenState} {dd : Drawn} {t : Nat} {oo : OsState} {L a : Addr} {m : Str → Option Value} {cn : Str} {cs : Scope} {ccd : Value} {cl : List (Str × Addr)} {news : List (Addr × Obj)} {x : Str} {v : Value} {Q : Unit → Shared → Prop}
theorem storeX_LF (F : Fr h₀ L hp m) (N : News h₀ L hp news)
    (h : ∀ h' tk, (let mz : Str → Option Value := fun y => if y = x then some v else m y
      Fr h₀ L h' mz → News h₀ L h' news → Q () ⟨h', gg, dd, tk, oo⟩))
    (hk : cs.kind = .function) (hx : (envX cn cs L a ccd cl).kindOf x = some .local) : wpAny M A (storeName (envX cn cs L a ccd cl) x v) Q E ⟨hp, gg, dd, t, oo⟩ := storeX_L (s := ⟨hp, gg, dd, t, oo⟩) F N (fun h' F' N' => h h' _ F' N') hk hx
theorem storeX_CF {c : Addr} {o : Obj} {v₀ : Option Value} {G : Obj → List (Addr × Obj)} (F : Fr h₀ L hp m) (N : News h₀ L hp news) (hc : cl.lookup x = some c) (U : UpdF c o news G) (hd : o.data = .cell v₀)
    (h : ∀ h' o', Fr h₀ L h' m → News h₀ L h' (G o') → o'.data = .cell (some v) → Q () ⟨h', gg, dd, t, oo⟩)
    (hk : cs.kind = .function) (hx : (envX cn cs L a ccd cl).kindOf x = some .cell) : wpAny M A (storeName (envX cn cs L a ccd cl) x v) Q E ⟨hp, gg, dd, t, oo⟩ := storeX_C (s := ⟨hp, gg, dd, t, oo⟩) F N hc U hd h hk hx
end
section
variable {prog : Program} {w : World} {A A₀ : Around} {s : Shared} {base h₀ : Heap} {L : Addr} {m : Str → Option Value} {news : List (Addr × Obj)} {K : Frag} {p : Program} {loose : List Str} {mean : ExcName → Option Value} {mg mb : Str → Option Value}
  {env : Env} {outer : List Env} {Q E : Value → Shared → Prop} {name qual : Str} {params : Arguments} {body : List Stmt} {scope : Scope}
theorem code_defF {dV kV doc pm cdv ct oc : Value} {an od : Option Addr} {osl : Array (Option Value)} {f : Addr} {pos : List Value} {kw : List (Str × Value)} {binds : List (Str × Value)}
    (B : Below A₀ base outer h₀) (F : Fr h₀ L s.heap m) (X₀ : K.In h₀) (N : News h₀ L s.heap news) (T : Top p loose mean mg mb h₀) (hA : A.frames = some (env :: outer)) {dn : Nat} (hAd : A.depth = dn) (hf : env.frame = some L) (hke : env.scope.kind = .function)
    (ho : K.lookup f = some ⟨oc, od, .func (fnOf name qual params body scope dV kV doc pm an cdv ct), osl⟩) (hcd : codeIn K cdv qual = true) (hroom : A.depth < recursionLimit)
    (hbind : BindsTo s (fnOf name qual params body scope dV kV doc pm an cdv ct) ⟨pos, kw⟩ binds) (hloc : ∀ y ∈ binds, scope.names.lookup y.1 = some .local)
    (h : let qr := Q; let er := E; ∀ g L' h₁ tk, Fr h₀ L g m → (let mz : Str → Option Value := fun y => binds.reverse.lookup y; Fr g L' h₁ mz → News g L' h₁ news → Below A base (env :: outer) g → K.In g → Top p loose mean mg mb g →
      (let a := A.deeper (envOf qual scope L' f cdv)
      a.depth = dn + 1 → a.units = A.units + 3 →
      (let q : Flow → Shared → Prop := fun fl s' => LeaveF h₀ L m g qr (match fl with | .ret v => v | _ => .none) s'
      let e : Value → Shared → Prop := fun e s' => wpAny (model prog w) (A.deeper (envOf qual scope L' f cdv)) (leaving (envOf qual scope L' f cdv) e) (fun _ s'' => er e s'') (fun e' s'' => er e' s'') s'
      wpAny (model prog w) a (execs body (envOf qual scope L' f cdv)) q e ⟨h₁, s.gens, s.drawn, tk, s.os⟩))))
    (hco : scope.isCoroutine = false) (hgen : scope.isGenerator = false) (hk : scope.kind = .function)
    (hcell : ∀ x ∈ scope.names, x.2 ≠ .cell) : wpAny (model prog w) A (call (.ref f) pos kw) Q E s :=
  wpAny_call <| code_def B F X₀ N T hA hf hke ho hcd hroom hbind hloc (fun g L' h₁ a b c d e f => h g L' h₁ _ a b c d e f (congrArg (· + 1) hAd) rfl) hco hgen hk hcell
theorem code_defCF {dV kV doc pm cdv ct oc : Value} {an od : Option Addr} {osl : Array (Option Value)} {f : Addr} {pos : List Value} {kw : List (Str × Value)} {binds : List (Str × Value)}
    (B : Below A₀ base outer h₀) (F : Fr h₀ L s.heap m) (X₀ : K.In h₀) (N : News h₀ L s.heap news) (T : Top p loose mean mg mb h₀) (hA : A.frames = some (env :: outer)) {dn : Nat} (hAd : A.depth = dn) (hf : env.frame = some L) (hke : env.scope.kind = .function)
    (ho : K.lookup f = some ⟨oc, od, .func (fnOf name qual params body scope dV kV doc pm an cdv ct), osl⟩) (hcd : codeIn K cdv qual = true) (hroom : A.depth < recursionLimit)
    (hbind : BindsTo s (fnOf name qual params body scope dV kV doc pm an cdv ct) ⟨pos, kw⟩ binds) (hkind : (binds.all fun y => scope.names.lookup y.1 == some .local || scope.names.lookup y.1 == some .cell) = true)
    (hnd : ((cellsFrom 0 scope.names []).map (·.1)).Nodup)
    (h : let qr := Q; let er := E; ∀ g L' h₁ tk cells, Fr h₀ L g m → Fr g L' h₁ (bindL (envOfC qual scope L' f cdv).kindOf binds fun _ => none) → News g L' h₁ (cells ++ news) →
      CellsAre (bindC (envOfC qual scope L' f cdv).kindOf binds fun _ => none) (cellsFrom (L' + 1) scope.names []) cells → Below A base (env :: outer) g → K.In g → Top p loose mean mg mb g → (∀ p ∈ news, p.1 < L') →
      (let a := A.deeper (envOfC qual scope L' f cdv)
      a.depth = dn + 1 → a.units = A.units + 3 →
      (let q : Flow → Shared → Prop := fun fl s' => LeaveF h₀ L m g qr (match fl with | .ret v => v | _ => .none) s'
      let e : Value → Shared → Prop := fun e s' => wpAny (model prog w) (A.deeper (envOfC qual scope L' f cdv)) (leaving (envOfC qual scope L' f cdv) e) (fun _ s'' => er e s'') (fun e' s'' => er e' s'') s'
      wpAny (model prog w) a (execs body (envOfC qual scope L' f cdv)) q e ⟨h₁, s.gens, s.drawn, tk, s.os⟩)))
    (hco : scope.isCoroutine = false) (hgen : scope.isGenerator = false) (hk : scope.kind = .function) : wpAny (model prog w) A (call (.ref f) pos kw) Q E s :=
  wpAny_call <| code_defC B F X₀ N T hA hf hke ho hcd hroom hbind hkind hnd (fun g L' h₁ tk cells a b c d e f i j => h g L' h₁ tk cells a b c d e f i j (congrArg (· + 1) hAd) rfl) hco hgen hk
theorem code_nestF {cl : List (Str × Addr)} {doc pm ctv : Value} {c' : Addr} {f : Addr} {pos : List Value} {kw : List (Str × Value)} {binds : List (Str × Value)}
    (B : Below A₀ base outer h₀) (F : Fr h₀ L s.heap m) (X₀ : K.In h₀) (N : News h₀ L s.heap news) (T : Top p loose mean mg mb h₀) (hA : A.frames = some (env :: outer)) {dn : Nat} (hAd : A.depth = dn) (hf : env.frame = some L) (hke : env.scope.kind = .function)
    (ho : (f, fnMade name qual params body scope cl doc pm c' ctv) ∈ news) (hcd : s.heap.CodeRec (.ref c') qual) (hroom : A.depth < recursionLimit)
    (hbind : BindsTo s (fnX name qual params body scope cl .none .none doc pm none (.ref c') ctv) ⟨pos, kw⟩ binds) (hloc : ∀ y ∈ binds, scope.names.lookup y.1 = some .local)
    (h : let qr := Q; let er := E; ∀ g L' h₁ tk, Fr h₀ L g m → (let mz : Str → Option Value := fun y => binds.reverse.lookup y; Fr g L' h₁ mz → News g L' h₁ news → Below A base (env :: outer) g → K.In g → Top p loose mean mg mb g →
      (let a := A.deeper (envX qual scope L' f (.ref c') cl)
      a.depth = dn + 1 → a.units = A.units + 3 →
      (let q : Flow → Shared → Prop := fun fl s' => LeaveF h₀ L m g qr (match fl with | .ret v => v | _ => .none) s'
      let e : Value → Shared → Prop := fun e s' => wpAny (model prog w) (A.deeper (envX qual scope L' f (.ref c') cl)) (leaving (envX qual scope L' f (.ref c') cl) e) (fun _ s'' => er e s'') (fun e' s'' => er e' s'') s'
      wpAny (model prog w) a (execs body (envX qual scope L' f (.ref c') cl)) q e ⟨h₁, s.gens, s.drawn, tk, s.os⟩))))
    (hco : scope.isCoroutine = false) (hgen : scope.isGenerator = false) (hk : scope.kind = .function)
    (hcell : ∀ x ∈ scope.names, x.2 ≠ .cell) : wpAny (model prog w) A (call (.ref f) pos kw) Q E s :=
  wpAny_call <| code_nest B F X₀ N T hA hf hke ho hcd hroom hbind hloc (fun g L' h₁ a b c d e f => h g L' h₁ _ a b c d e f (congrArg (· + 1) hAd) rfl) hco hgen hk hcell
end
end ZFO
open PySem PySem.W PySem.Spec PySem.Calls PyProof.Rows in
local macro_rules | `(tactic| units_room) => `(tactic| walk_at "zUR")
open PySem PySem.W PySem.Spec PySem.Calls PyProof.Rows in
local macro_rules | `(tactic| k_ne) => `(tactic| walk_at "zNE")
open PySem PySem.W PySem.Spec PySem.Calls PyProof.Rows in
local macro_rules | `(tactic| ktr_room) => `(tactic| walk_at "zRM")
open PySem PySem.W PySem.Spec PySem.Calls PyProof.Rows in
local macro_rules | `(tactic| k_all) => `(tactic| walk_at "zALL")
open PySem PySem.W PySem.Spec PySem.Calls PyProof.Rows in
local macro_rules | `(tactic| walk_at $s:str) => `(tactic| k_extra $s)
section ZS2
open PySem.Sre PySem.Sre.M
set_option maxRecDepth 100000
theorem runFor_succ (n : Nat) (m : M) : runFor (n + 1) m = runFor n m.step := by
  show (if m.outcome.isSome then m else runFor n m.step) = _
  by_cases h : m.outcome.isSome = true
  · rw [if_pos h]
    have e : m.step = m := by unfold M.step; rw [if_pos h]
    rw [e]
    cases n with
    | zero => rfl
    | succ n => show m = (if m.outcome.isSome then m else runFor n m.step); rw [if_pos h]
  · rw [if_neg h]
theorem runFor_add : ∀ (a b : Nat) (m : M), runFor (a + b) m = runFor b (runFor a m)
  | 0, b, m => by rw [Nat.zero_add]; rfl
  | a + 1, b, m => by rw [Nat.succ_add, runFor_succ, runFor_succ, runFor_add a b]
theorem runFor_done (n : Nat) {m : M} (h : m.outcome.isSome = true) : runFor n m = m := by
  cases n with
  | zero => rfl
  | succ n => show (if m.outcome.isSome then m else runFor n m.step) = m; rw [if_pos h]
/-- within n steps m comes to m' -/
noncomputable def Reach (n : Nat) (m m' : M) : Prop := ∃ k, k ≤ n ∧ runFor k m = m'
theorem Reach.refl {n : Nat} {m : M} : Reach n m m := ⟨0, Nat.zero_le _, rfl⟩
theorem Reach.trans {a b : Nat} {x y z : M} : Reach a x y → Reach b y z → Reach (a + b) x z
  | ⟨k, hk, e⟩, ⟨l, hl, f⟩ => ⟨k + l, Nat.add_le_add hk hl, by rw [runFor_add, e, f]⟩
theorem Reach.step {n : Nat} {x y z : M} (h : x.step = y) (r : Reach n y z) : Reach (n + 1) x z := by
  obtain ⟨k, hk, e⟩ := r
  exact ⟨k + 1, Nat.succ_le_succ hk, by rw [runFor_succ, h, e]⟩
theorem Reach.mono {a b : Nat} {x y : M} (h : a ≤ b) : Reach a x y → Reach b x y
  | ⟨k, hk, e⟩ => ⟨k, Nat.le_trans hk h, e⟩
noncomputable def code1 : Array Nat := #[14, 4, 0, 1, 1, 6, 1, 16, 46, 1]
noncomputable def code2 : Array Nat := #[14, 9, 4, 1, 2, 16, 10, 16, 13, 0, 7, 7, 16, 13, 16, 10, 15, 18, 5, 16, 10, 15, 13, 11, 16, 13, 5, 5, 0, 16, 10, 1, 15, 2, 0, 1]
noncomputable def lineStart (text : Array Nat) (s : Nat) : Bool := s == 0 || text.getD (s - 1) 0 == 10
/-- where pattern 1 is found, from s on -/
noncomputable def find1 (text : Array Nat) (lim : Nat) : Nat → Nat → Option (Nat × Nat)
  | 0, _ => none
  | f + 1, s => if s < lim ∧ lineStart text s = true ∧ text.getD s 0 = 46 then some (s, s + 1) else if s < lim then find1 text lim f (s + 1) else none
/-- the run from m comes within n steps to a find (a, b), or to none -/
noncomputable def Ends (n : Nat) (m : M) (r : Option (Nat × Nat)) : Prop :=
  ∃ m', Reach n m m' ∧ match r with
    | some (a, b) => m'.outcome = some .matched ∧ m'.start = a ∧ m'.handed = b
    | none => m'.outcome = some .failed
theorem Ends.step {n : Nat} {m : M} {r : Option (Nat × Nat)} (h : Ends n m.step r) : Ends (n + 1) m r := by
  obtain ⟨m', hr, h⟩ := h
  exact ⟨m', Reach.step rfl hr, h⟩
theorem Ends.mono {a b : Nat} {m : M} {r : Option (Nat × Nat)} (hab : a ≤ b) (h : Ends a m r) : Ends b m r := by
  obtain ⟨m', hr, h⟩ := h
  exact ⟨m', hr.mono hab, h⟩
theorem accepts_lit {code : Array Nat} {i c : Nat} {seen : Seen} (h : code.getD i 0 = 16) : accepts code i c seen = .ok (c == code.getD (i + 1) 0, seen) := by
  unfold accepts; rw [h]; rfl
theorem width_lit {code : Array Nat} {i : Nat} (h : code.getD i 0 = 16) : itemWidth code i = 2 := by
  unfold itemWidth; rw [h]; rfl
theorem exec16 {m : M} (hw : m.word 0 = 16) : m.exec = (if m.pos ≥ m.lim then ({ m with seen := m.seen.add 16 } : M).say false else match accepts m.code m.pc (m.text.getD m.pos 0) (m.seen.add 16) with
    | .error why => ({ m with seen := m.seen.add 16 } : M).stick why
    | .ok (false, seen) => ({ m with seen } : M).say false
    | .ok (true, seen) => { m with seen, pc := m.pc + itemWidth m.code m.pc, pos := m.pos + 1 }) := by
  unfold M.exec; rw [hw]; rfl
theorem step_exec {m : M} (ho : m.outcome = none) (ha : m.answer = none) (hp : m.pc < m.code.size) : m.step = m.exec := by
  unfold M.step
  rw [ho, ha]
  simp only [Option.isSome_none, Bool.false_eq_true, if_false, if_pos hp]
theorem step_lit {m : M} (ho : m.outcome = none) (ha : m.answer = none) (hp : m.pc < m.code.size) (hw : m.word 0 = 16) (hl : m.pos < m.lim) (hc : m.text.getD m.pos 0 = m.word 1) :
    m.step = { m with seen := m.seen.add 16, pc := m.pc + 2, pos := m.pos + 1 } := by
  have hw' : m.code.getD m.pc 0 = 16 := hw
  have hb : (m.text.getD m.pos 0 == m.code.getD (m.pc + 1) 0) = true := beq_iff_eq.mpr hc
  rw [step_exec ho ha hp, exec16 hw, if_neg (Nat.not_le.mpr hl), accepts_lit hw', width_lit hw', hb]
theorem step_nolit {m : M} (ho : m.outcome = none) (ha : m.answer = none) (hp : m.pc < m.code.size) (hw : m.word 0 = 16) (hc : m.lim ≤ m.pos ∨ m.text.getD m.pos 0 ≠ m.word 1) :
    m.step = { m with seen := m.seen.add 16, answer := some false } := by
  have hw' : m.code.getD m.pc 0 = 16 := hw
  rw [step_exec ho ha hp, exec16 hw]
  by_cases hl : m.lim ≤ m.pos
  · rw [if_pos hl]
    simp [M.say, ho]
  · have hb : (m.text.getD m.pos 0 == m.code.getD (m.pc + 1) 0) = false := beq_eq_false_iff_ne.mpr (hc.resolve_left hl)
    rw [if_neg hl, accepts_lit hw', hb]
    simp [M.say, ho]
theorem Ends.lit {n : Nat} {m : M} {r : Option (Nat × Nat)} (ho : m.outcome = none) (ha : m.answer = none) (hp : m.pc < m.code.size) (hw : m.word 0 = 16) (hl : m.pos < m.lim) (hc : m.text.getD m.pos 0 = m.word 1)
    (h : Ends n { m with seen := m.seen.add 16, pc := m.pc + 2, pos := m.pos + 1 } r) : Ends (n + 1) m r := Ends.step (by rw [step_lit ho ha hp hw hl hc]; exact h)
theorem Ends.nolit {n : Nat} {m : M} {r : Option (Nat × Nat)} (ho : m.outcome = none) (ha : m.answer = none) (hp : m.pc < m.code.size) (hw : m.word 0 = 16) (hc : m.lim ≤ m.pos ∨ m.text.getD m.pos 0 ≠ m.word 1)
    (h : Ends n { m with seen := m.seen.add 16, answer := some false } r) : Ends (n + 1) m r := Ends.step (by rw [step_nolit ho ha hp hw hc]; exact h)
noncomputable def at1 (text : Array Nat) (lim s : Nat) (first : Bool) (seen : Seen) : M :=
  { code := code1, text, lim, start := s, lastStart := lim, pc := 5, pos := s, handed := s, outermost := first, marks := #[], frames := [{ wait := .nextStart, pc := 5, pos := s, outermost := first }], weight := 1, seen }
theorem at1_start (text : Array Nat) (lim s : Nat) (h : s < lim) : forSearch code1 text 0 s lim false = at1 text lim s true (({} : Seen).add 14) := by
  have e : forSearch code1 text 0 s lim false = if (decide (s > lim) || decide (lim - s < 1)) = true then ({ code := code1, text, lim, start := s, pc := 5, pos := s, handed := s, marks := #[], mustAdvance := false, seen := ({} : Seen).add 14 } : M).say false else at1 text lim s true (({} : Seen).add 14) := rfl
  rw [e, if_neg]
  simp; omega
theorem ends_said {m : M} (h1 : m.outcome = none) (h2 : m.frames = []) (h3 : m.answer = some false) : Ends 1 m none := by
  refine ⟨{ m with outcome := some .failed }, ⟨1, Nat.le_refl _, ?_⟩, rfl⟩
  rw [runFor_succ]
  show m.step = _
  unfold M.step
  rw [h1, h2, h3]
  rfl
theorem fail1 (text : Array Nat) (lim s pc : Nat) (first : Bool) (seen : Seen) (h : s < lim) :
    M.step { at1 text lim s first seen with pc := pc, answer := some false } = at1 text lim (s + 1) false seen := by
  have e : M.step { at1 text lim s first seen with pc := pc, answer := some false } = if s < lim then at1 text lim (s + 1) false seen else ({ at1 text lim s first seen with answer := some false, frames := [], weight := 0 } : M) := rfl
  rw [e, if_pos h]
theorem search1 (text : Array Nat) (lim : Nat) : ∀ (f s : Nat) (first : Bool) (seen : Seen), s ≤ lim → lim - s < f → Ends (4 * f) (at1 text lim s first seen) (find1 text lim f s)
  | 0, _, _, _, _, h => absurd h (Nat.not_lt_zero _)
  | f + 1, s, first, seen, h1, h2 => by
    have e : M.step (at1 text lim s first seen) = if lineStart text s = true then ({ at1 text lim s first ((seen.add 6).add 44) with pc := 7 } : M) else ({ at1 text lim s first ((seen.add 6).add 44) with answer := some false } : M) := rfl
    have no : ∀ (pc n : Nat) (seen : Seen), n ≤ 4 * f + 2 → ¬ (s < lim ∧ lineStart text s = true ∧ text.getD s 0 = 46) → Ends (4 * f + 2) ({ at1 text lim s first seen with pc := pc, answer := some false } : M) (find1 text lim (f + 1) s) := by
      intro pc n seen _ hn
      show Ends _ _ (if s < lim ∧ lineStart text s = true ∧ text.getD s 0 = 46 then some (s, s + 1) else if s < lim then find1 text lim f (s + 1) else none)
      rw [if_neg hn]
      by_cases hs : s < lim
      · rw [if_pos hs]
        refine Ends.mono (a := 4 * f + 1) (by omega) (Ends.step ?_)
        rw [fail1 text lim s pc first seen hs]
        exact search1 text lim f (s + 1) false seen hs (by omega)
      · rw [if_neg hs]
        refine Ends.mono (a := 2) (by omega) (Ends.step ?_)
        have e : M.step { at1 text lim s first seen with pc := pc, answer := some false } = if s < lim then at1 text lim (s + 1) false seen else ({ at1 text lim s first seen with answer := some false, frames := [], weight := 0 } : M) := rfl
        rw [e, if_neg hs]
        exact ends_said rfl rfl rfl
    by_cases hl : lineStart text s = true
    · by_cases hc : s < lim ∧ text.getD s 0 = 46
      · show Ends _ _ (if s < lim ∧ lineStart text s = true ∧ text.getD s 0 = 46 then some (s, s + 1) else if s < lim then find1 text lim f (s + 1) else none)
        rw [if_pos ⟨hc.1, hl, hc.2⟩]
        cases f with
        | zero => omega
        | succ f =>
        refine Ends.mono (a := 5) (by omega) (Ends.step ?_)
        rw [e, if_pos hl]
        refine Ends.step ?_
        rw [step_lit rfl rfl (Nat.le_of_ble_eq_true rfl) rfl hc.1 hc.2]
        refine Ends.step (Ends.step (Ends.step ?_))
        cases first
        · exact ⟨_, Reach.refl, rfl, rfl, rfl⟩
        · exact ⟨_, Reach.refl, rfl, rfl, rfl⟩
      · refine Ends.mono (a := (4 * f + 2) + 1 + 1) (by omega) (Ends.step ?_)
        rw [e, if_pos hl]
        refine Ends.step ?_
        rw [step_nolit rfl rfl (Nat.le_of_ble_eq_true rfl) rfl (by by_cases hs : s < lim; exact .inr (fun h => hc ⟨hs, h⟩); exact .inl (Nat.not_lt.mp hs))]
        exact no 7 0 _ (by omega) (fun h => hc ⟨h.1, h.2.2⟩)
    · refine Ends.mono (a := (4 * f + 2) + 1) (by omega) (Ends.step ?_)
      rw [e, if_neg hl]
      exact no 5 0 _ (by omega) (fun h => hl h.2.1)
theorem at1_end (text : Array Nat) (lim : Nat) : Ends 1 (forSearch code1 text 0 lim lim false) none := by
  have e : forSearch code1 text 0 lim lim false = if (decide (lim > lim) || decide (lim - lim < 1)) = true then ({ code := code1, text, lim, start := lim, pc := 5, pos := lim, handed := lim, marks := #[], mustAdvance := false, seen := ({} : Seen).add 14 } : M).say false else at1 text lim lim true (({} : Seen).add 14) := rfl
  rw [e, if_pos (by simp)]
  exact ends_said rfl rfl rfl
/-- pattern 1 on a whole text -/
noncomputable def look1 (text : Array Nat) (s : Nat) : Option (Nat × Nat) := if s < text.size then find1 text text.size (text.size - s + 1) s else none
theorem found1 (text : Array Nat) (s : Nat) (h : s ≤ text.size) : Ends (4 * text.size + 8) (forSearch code1 text 0 s text.size false) (look1 text s) := by
  unfold look1
  by_cases hs : s < text.size
  · rw [if_pos hs, at1_start text text.size s hs]
    exact (search1 text text.size (text.size - s + 1) s true _ h (by omega)).mono (by omega)
  · rw [if_neg hs]
    have : s = text.size := by omega
    subst this
    exact (at1_end text text.size).mono (by omega)
/-- where pattern 2 is found, from s on -/
noncomputable def find2 (text : Array Nat) (lim : Nat) : Nat → Nat → Option (Nat × Nat)
  | 0, _ => none
  | f + 1, s => if s < lim then (if text.getD s 0 = 10 then some (s, s + 1) else if text.getD s 0 = 13 then (if s + 1 < lim ∧ text.getD (s + 1) 0 = 10 then some (s, s + 2) else some (s, s + 1)) else find2 text lim f (s + 1)) else none
noncomputable def base2 (text : Array Nat) (lim s : Nat) (seen : Seen) : M :=
  { code := code2, text, lim, start := s, lastStart := lim, pc := 10, pos := s, handed := s, marks := #[], seen }
noncomputable def at2 (text : Array Nat) (lim s : Nat) (first : Bool) (seen : Seen) : M :=
  { code := code2, text, lim, start := s, lastStart := lim, pc := 10, pos := s, handed := s, outermost := first, marks := #[], frames := [{ wait := .nextStart, pc := 10, pos := s, outermost := first }], weight := 1, seen }
noncomputable def St2 (text : Array Nat) (lim s : Nat) (seen : Seen) (frames : List Frame) (weight pc pos handed : Nat) (outermost : Bool) (answer : Option Bool) : M :=
  { code := code2, text, lim, start := s, lastStart := lim, pc, pos, handed, outermost, marks := #[], frames, weight, seen, answer }
/-- an attempt at a place where a line ends -/
theorem hit2 (text : Array Nat) (lim s : Nat) (seen : Seen) (hs : s < lim) (hc : text.getD s 0 = 10 ∨ text.getD s 0 = 13) :
    Ends 20 (at2 text lim s true seen) (if text.getD s 0 = 10 then some (s, s + 1) else if s + 1 < lim ∧ text.getD (s + 1) 0 = 10 then some (s, s + 2) else some (s, s + 1)) := by
  by_cases h10 : text.getD s 0 = 10
  · rw [if_pos h10]
    refine Ends.mono (a := 5 + 1 + 1 + 1 + 1) (by omega) (Ends.step ?_)
    change Ends _ (St2 text lim s _ [{ wait := .nextBranch, pc := 11, pos := s, outermost := true }, { wait := .nextStart, pc := 10, pos := s, outermost := true }] 2 12 (s) (s) true none) _
    refine Ends.nolit rfl rfl (Nat.le_of_ble_eq_true rfl) rfl (.inr (by show text.getD s 0 ≠ 13; omega)) ?_
    refine Ends.step ?_
    change Ends _ (St2 text lim s _ [{ wait := .nextBranch, pc := 18, pos := s, outermost := true }, { wait := .nextStart, pc := 10, pos := s, outermost := true }] 2 19 (s) (s) true none) _
    refine Ends.lit rfl rfl (Nat.le_of_ble_eq_true rfl) rfl hs h10 ?_
    refine Ends.step ?_
    change Ends _ (St2 text lim s _ [{ wait := .nextBranch, pc := 18, pos := s, outermost := true }, { wait := .nextStart, pc := 10, pos := s, outermost := true }] 2 35 (s + 1) (s) true none) _
    refine Ends.step ?_
    change Ends _ (St2 text lim s _ [{ wait := .nextBranch, pc := 18, pos := s, outermost := true }, { wait := .nextStart, pc := 10, pos := s, outermost := true }] 2 35 (s + 1) (s + 1) true (some true)) _
    refine Ends.step ?_
    change Ends _ (St2 text lim s _ [{ wait := .nextStart, pc := 10, pos := s, outermost := true }] 1 18 (s) (s + 1) true (some true)) _
    refine Ends.step ?_
    change Ends _ (St2 text lim s _ [] 0 10 (s) (s + 1) true (some true)) _
    refine Ends.step ?_
    exact ⟨_, Reach.refl, rfl, rfl, rfl⟩
  · have h13 := hc.resolve_left h10
    rw [if_neg h10]
    by_cases hn : s + 1 < lim ∧ text.getD (s + 1) 0 = 10
    · rw [if_pos hn]
      refine Ends.mono (a := 5 + 1 + 1 + 1) (by omega) (Ends.step ?_)
      change Ends _ (St2 text lim s _ [{ wait := .nextBranch, pc := 11, pos := s, outermost := true }, { wait := .nextStart, pc := 10, pos := s, outermost := true }] 2 12 (s) (s) true none) _
      refine Ends.lit rfl rfl (Nat.le_of_ble_eq_true rfl) rfl hs h13 ?_
      change Ends _ (St2 text lim s _ [{ wait := .nextBranch, pc := 11, pos := s, outermost := true }, { wait := .nextStart, pc := 10, pos := s, outermost := true }] 2 14 (s + 1) (s) true none) _
      refine Ends.lit rfl rfl (Nat.le_of_ble_eq_true rfl) rfl hn.1 hn.2 ?_
      refine Ends.step ?_
      change Ends _ (St2 text lim s _ [{ wait := .nextBranch, pc := 11, pos := s, outermost := true }, { wait := .nextStart, pc := 10, pos := s, outermost := true }] 2 35 (s + 2) (s) true none) _
      refine Ends.step ?_
      change Ends _ (St2 text lim s _ [{ wait := .nextBranch, pc := 11, pos := s, outermost := true }, { wait := .nextStart, pc := 10, pos := s, outermost := true }] 2 35 (s + 2) (s + 2) true (some true)) _
      refine Ends.step ?_
      change Ends _ (St2 text lim s _ [{ wait := .nextStart, pc := 10, pos := s, outermost := true }] 1 11 (s) (s + 2) true (some true)) _
      refine Ends.step ?_
      change Ends _ (St2 text lim s _ [] 0 10 (s) (s + 2) true (some true)) _
      refine Ends.step ?_
      exact ⟨_, Reach.refl, rfl, rfl, rfl⟩
    · rw [if_neg hn]
      have hn' : lim ≤ s + 1 ∨ text.getD (s + 1) 0 ≠ 10 := by
        by_cases h : s + 1 < lim
        · exact .inr (fun e => hn ⟨h, e⟩)
        · exact .inl (by omega)
      refine Ends.mono (a := 6 + 1 + 1 + 1 + 1 + 1 + 1 + 1 + 1 + 1) (by omega) (Ends.step ?_)
      change Ends _ (St2 text lim s _ [{ wait := .nextBranch, pc := 11, pos := s, outermost := true }, { wait := .nextStart, pc := 10, pos := s, outermost := true }] 2 12 (s) (s) true none) _
      refine Ends.lit rfl rfl (Nat.le_of_ble_eq_true rfl) rfl hs h13 ?_
      change Ends _ (St2 text lim s _ [{ wait := .nextBranch, pc := 11, pos := s, outermost := true }, { wait := .nextStart, pc := 10, pos := s, outermost := true }] 2 14 (s + 1) (s) true none) _
      refine Ends.nolit rfl rfl (Nat.le_of_ble_eq_true rfl) rfl hn' ?_
      refine Ends.step ?_
      change Ends _ (St2 text lim s _ [{ wait := .nextBranch, pc := 18, pos := s, outermost := true }, { wait := .nextStart, pc := 10, pos := s, outermost := true }] 2 19 (s) (s) true none) _
      refine Ends.nolit rfl rfl (Nat.le_of_ble_eq_true rfl) rfl (.inr (by show text.getD s 0 ≠ 10; exact h10)) ?_
      refine Ends.step ?_
      change Ends _ (St2 text lim s _ [{ wait := .nextBranch, pc := 23, pos := s, outermost := true }, { wait := .nextStart, pc := 10, pos := s, outermost := true }] 2 24 (s) (s) true none) _
      refine Ends.lit rfl rfl (Nat.le_of_ble_eq_true rfl) rfl hs h13 ?_
      refine Ends.step ?_
      change Ends _ (St2 text lim s _ [{ wait := .lookNot, pc := 26, pos := s + 1, outermost := true }, { wait := .nextBranch, pc := 23, pos := s, outermost := true }, { wait := .nextStart, pc := 10, pos := s, outermost := true }] 3 29 (s + 1) (s + 1) false none) _
      refine Ends.nolit rfl rfl (Nat.le_of_ble_eq_true rfl) rfl hn' ?_
      refine Ends.step ?_
      change Ends _ (St2 text lim s _ [{ wait := .nextBranch, pc := 23, pos := s, outermost := true }, { wait := .nextStart, pc := 10, pos := s, outermost := true }] 2 32 (s + 1) (s + 1) true none) _
      refine Ends.step ?_
      change Ends _ (St2 text lim s _ [{ wait := .nextBranch, pc := 23, pos := s, outermost := true }, { wait := .nextStart, pc := 10, pos := s, outermost := true }] 2 35 (s + 1) (s + 1) true none) _
      refine Ends.step ?_
      change Ends _ (St2 text lim s _ [{ wait := .nextBranch, pc := 23, pos := s, outermost := true }, { wait := .nextStart, pc := 10, pos := s, outermost := true }] 2 35 (s + 1) (s + 1) true (some true)) _
      refine Ends.step ?_
      change Ends _ (St2 text lim s _ [{ wait := .nextStart, pc := 10, pos := s, outermost := true }] 1 23 (s) (s + 1) true (some true)) _
      refine Ends.step ?_
      change Ends _ (St2 text lim s _ [] 0 10 (s) (s + 1) true (some true)) _
      refine Ends.step ?_
      exact ⟨_, Reach.refl, rfl, rfl, rfl⟩
theorem inSet2 (text : Array Nat) (lim s : Nat) (seen : Seen) (c : Nat) (seen' : Seen) : ∃ sn, inSet code2 c code2.size 5 true seen' = .ok (decide (c = 10 ∨ c = 13), sn) := by
  by_cases h10 : c = 10
  · subst h10; exact ⟨_, rfl⟩
  · by_cases h13 : c = 13
    · subst h13; exact ⟨_, rfl⟩
    · have e : ∃ sn1 sn2 sn3, inSet code2 c code2.size 5 true seen' = if (c == 10) = true then .ok (true, sn1) else if (c == 13) = true then .ok (true, sn2) else .ok (false, sn3) := ⟨_, _, _, rfl⟩
      obtain ⟨sn1, sn2, sn3, e⟩ := e
      refine ⟨sn3, ?_⟩
      rw [e, if_neg (by simpa using h10), if_neg (by simpa using h13)]
      simp [h10, h13]
theorem admitted2 (text : Array Nat) (lim : Nat) (m : M) (hm : m.code = code2 ∧ m.text = text ∧ m.lim = lim) : ∀ (f s : Nat) (seen : Seen), lim - s < f → (∃ sn, admitted m f s seen = .ok (none, sn) ∧ find2 text lim f s = none) ∨
    (∃ sn s', admitted m f s seen = .ok (some s', sn) ∧ s' < lim ∧ (text.getD s' 0 = 10 ∨ text.getD s' 0 = 13) ∧ find2 text lim f s = if text.getD s' 0 = 10 then some (s', s' + 1) else if s' + 1 < lim ∧ text.getD (s' + 1) 0 = 10 then some (s', s' + 2) else some (s', s' + 1))
  | 0, _, _, h => absurd h (Nat.not_lt_zero _)
  | f + 1, s, seen, h => by
    obtain ⟨e1, e2, e3⟩ := hm
    unfold admitted find2
    rw [e1, e2, e3]
    by_cases hs : s < lim
    · rw [if_neg (by omega), if_pos hs]
      obtain ⟨sn, e⟩ := inSet2 text lim s seen (text.getD s 0) seen
      rw [e]
      by_cases h10 : text.getD s 0 = 10
      · right
        refine ⟨sn, s, ?_, hs, .inl h10, ?_⟩
        · simp [h10]
        · rw [if_pos h10, if_pos h10]
      · by_cases h13 : text.getD s 0 = 13
        · right
          refine ⟨sn, s, ?_, hs, .inr h13, ?_⟩
          · simp [h13]
          · rw [if_neg h10, if_pos h13, if_neg h10]
        · rw [if_neg h10, if_neg h13]
          have d : decide (text.getD s 0 = 10 ∨ text.getD s 0 = 13) = false := by simp only [h10, h13, or_self, decide_false]
          rw [d]
          exact admitted2 text lim m ⟨e1, e2, e3⟩ f (s + 1) sn (by omega)
    · left
      rw [if_pos (by omega), if_neg hs]
      exact ⟨_, rfl, rfl⟩
noncomputable def look2 (text : Array Nat) (s : Nat) : Option (Nat × Nat) := if s < text.size then find2 text text.size (text.size + 1 - s) s else none
theorem found2 (text : Array Nat) (s : Nat) (h : s ≤ text.size) : Ends 20 (forSearch code2 text 0 s text.size false) (look2 text s) := by
  unfold look2
  have e : forSearch code2 text 0 s text.size false = if (decide (s > text.size) || decide (text.size - s < 1)) = true then ({ base2 text text.size s (({} : Seen).add 14) with lastStart := 0 } : M).say false else
      (base2 text text.size s (({} : Seen).add 14)).attemptFrom s true := rfl
  by_cases hs : s < text.size
  · rw [e, if_neg (by simp; omega), if_pos hs]
    have hf : (base2 text text.size s (({} : Seen).add 14)).hasFirstSet = true := rfl
    unfold M.attemptFrom
    rw [hf]
    rcases admitted2 text text.size (base2 text text.size s (({} : Seen).add 14)) ⟨rfl, rfl, rfl⟩ (text.size + 1 - s) s (({} : Seen).add 14) (by omega) with ⟨sn, a, b⟩ | ⟨sn, s', a, b, c, d⟩
    · have a' : admitted (base2 text text.size s (({} : Seen).add 14)) ((base2 text text.size s (({} : Seen).add 14)).lim + 1 - s) s (base2 text text.size s (({} : Seen).add 14)).seen = _ := a
      rw [a', b]
      exact (ends_said rfl rfl rfl).mono (by omega)
    · have a' : admitted (base2 text text.size s (({} : Seen).add 14)) ((base2 text text.size s (({} : Seen).add 14)).lim + 1 - s) s (base2 text text.size s (({} : Seen).add 14)).seen = _ := a
      rw [a', d]
      exact hit2 text text.size s' sn b c
  · rw [e, if_pos (by simp; omega), if_neg hs]
    exact (ends_said rfl rfl rfl).mono (by omega)
end ZS2
section ZS3
open PySem PySem.W PySem.Spec PySem.Calls PyProof.Rows Builtin
set_option maxRecDepth 100000
theorem owner_pat : Manifest.owners.lookup (String.ofList ['n', 'r', 'e', 't', 't', 'a', 'P', '.', 'e', 'r'].reverse) = some Manifest.sig_re_Pattern := by kernel_rfl
theorem slot_sub : Slot "re.Pattern" (Str.ofString "sub") "re.Pattern.sub" :=
  .of (owner := "re.Pattern") (n := "sub") (by rw [typeLookup_type, builtinLookup_eq_fast]; kernel_rfl) (by decide +kernel) (by decide +kernel) (by decide +kernel)
    (by first | exact .inl (by decide +kernel) | exact .inr (by decide +kernel)) (by rw [isSubtype_type]; kernel_rfl)
theorem type_sub : typeOf (.builtin "re.Pattern.sub") = pure (.type "method_descriptor") := by show builtinType _ = _; rw [builtinType_eq_fast]; kernel_rfl
theorem entry_sub : entryFor table "re.Pattern.sub" = some Builtin.«re.Pattern.sub» := entryFor_of_tree (by kernel_rfl)
theorem entry_loop : entryFor table "re.Pattern.sub.loop" = some Builtin.«re.Pattern.sub.loop» := entryFor_of_tree (by kernel_rfl)
theorem plain_sub : plainId "re.Pattern.sub" = true := by decide +kernel
theorem plain_loop : plainId "re.Pattern.sub.loop" = true := by decide +kernel
theorem pat_getattribute : typeLookup (.type "re.Pattern") "__getattribute__" = pure (some (.builtin "object.__getattribute__")) := by rw [typeLookup_type, builtinLookup_eq_fast]; kernel_rfl
theorem pat_getattr_none : typeLookup (.type "re.Pattern") "__getattr__" = pure none := by rw [typeLookup_type, builtinLookup_eq_fast]; kernel_rfl
theorem str_call_none : typeLookup (.type "str") "__call__" = pure none := by rw [typeLookup_type, builtinLookup_eq_fast]; kernel_rfl
theorem args_sub (a b c : Value) : argsOk "re.Pattern.sub" ⟨[a, b, c], []⟩ := by
  unfold argsOk; rw [signature?_of (id := "re.Pattern.sub") (n := ['b', 'u', 's']) (o := ['n', 'r', 'e', 't', 't', 'a', 'P', '.', 'e', 'r']) (by kernel_rfl) owner_pat]; kernel_rfl
theorem canon_obj : (Manifest.canonical "object.__getattribute__" != "object.__getattribute__") = false := by decide +kernel
theorem getMethod_sub {M : Model} {A : Around} {E : Value → Shared → Prop} {s : Shared} {l : Addr} {o : Obj} {pl : Sem Bool} {Q : Value × List Value → Shared → Prop} (ho : s.heap.get? l = some o) (hc : o.cls = .type "re.Pattern") (hd : o.dict = none)
    (h : Q (.builtin "re.Pattern.sub", [.ref l]) s) : wpAny M A (getMethod (.ref l) "sub" pl) Q E s := by
  have hT : s.TypeIs (.ref l) "re.Pattern" := ⟨o, ho, hc⟩
  unfold getMethod
  refine wpAny_bind (wpAny_specialOf hT pat_getattribute ?_)
  show wpAny M A (if (Manifest.canonical "object.__getattribute__" != "object.__getattribute__") = true then _ else _) Q E s
  rw [canon_obj, if_neg Bool.false_ne_true]
  refine wpAny_bind (wpAny_specialOf hT pat_getattr_none ?_)
  refine wpAny_bind (wpAny_specialOf hT slot_sub.lookup ?_)
  refine wpAny_bind (wpAny_of_eq type_sub ?_)
  refine wpAny_bind (wpAny_loadPart ho ?_)
  rw [hd]
  exact wpAny_bind (wpAny_rule (wpAny_pure h))
theorem reNamed_sub (a b : Value) : Re.reNamed "re.Pattern.sub" "sub" ["repl", "string", "count"] 2 [a, b] [] = pure [some a, some b, none] := rfl
section
variable {M : Model} {A : Around} {E : Value → Shared → Prop} {s : Shared}
theorem wpAny_reDrive : ∀ (n k : Nat) (m m' : Sre.M) {Q : Sre.M → Shared → Prop}, 0 < n → k ≤ 4 * n → Sre.M.runFor k m = m' → m'.outcome.isSome = true → Q m' s → wpAny M A (Re.reDrive n m) Q E s
  | 0, _, _, _, _, h, _, _, _, _ => absurd h (Nat.lt_irrefl _)
  | n + 1, k, m, m', Q, _, hk, hm, ho, hq => by
    show wpAny M A (if (m.runFor 4).outcome.isSome then pure (m.runFor 4) else (do rule "sre.turn"; Re.reDrive n (m.runFor 4))) Q E s
    by_cases h4 : k ≤ 4
    · have e : m.runFor 4 = m' := by
        have : 4 = k + (4 - k) := by omega
        rw [this, runFor_add, hm, runFor_done _ ho]
      rw [e, if_pos ho]
      exact wpAny_pure hq
    · have e : (m.runFor 4).runFor (k - 4) = m' := by
        rw [← runFor_add, show 4 + (k - 4) = k by omega, hm]
      by_cases hd : (m.runFor 4).outcome.isSome = true
      · rw [if_pos hd]
        rw [runFor_done _ hd] at e
        rw [e]
        exact wpAny_pure hq
      · rw [if_neg hd]
        exact wpAny_bind (wpAny_rule (wpAny_reDrive n (k - 4) (m.runFor 4) m' (by omega) (by omega) e ho hq))
theorem wpAny_rules (c : Nat → Bool) (nm : Nat → String) : ∀ (l : List Nat) {Q : PUnit → Shared → Prop}, Q ⟨⟩ s → wpAny M A (forIn l PUnit.unit fun i _ => (if c i = true then (do rule (nm i); pure (ForInStep.yield PUnit.unit)) else pure (ForInStep.yield PUnit.unit) : Sem (ForInStep PUnit))) Q E s
  | [], _, h => by rw [List.forIn_nil]; exact wpAny_pure h
  | i :: l, Q, h => by
    rw [List.forIn_cons]
    refine wpAny_bind ?_
    by_cases hc : c i = true
    · rw [if_pos hc]
      exact wpAny_bind (wpAny_rule (wpAny_pure (wpAny_rules c nm l h)))
    · rw [if_neg hc]
      exact wpAny_pure (wpAny_rules c nm l h)
noncomputable def FoundQ (r : Option (Nat × Nat)) (Q : Option Sre.M → Shared → Prop) (s : Shared) : Prop :=
  match r with
  | some (a, b) => ∀ m' : Sre.M, m'.start = a → m'.handed = b → Q (some m') s
  | none => Q none s
theorem wpAny_runToEnd {n : Nat} {m : Sre.M} {r : Option (Nat × Nat)} {Q : Option Sre.M → Shared → Prop} (hn : n ≤ 2 ^ 65) (h : Ends n m r) (hq : FoundQ r Q s) : wpAny M A (Re.reRunToEnd m) Q E s := by
  obtain ⟨m', ⟨k, hk, hr⟩, hm⟩ := h
  have ho : m'.outcome.isSome = true := by
    cases r with
    | none => rw [show m'.outcome = some .failed from hm]; rfl
    | some r => rw [show m'.outcome = some .matched from hm.1]; rfl
  unfold Re.reRunToEnd
  refine wpAny_bind (wpAny_reDrive (2 ^ 64) k m m' (by decide) (by omega) hr ho ?_)
  refine wpAny_bind (wpAny_rules _ _ _ ?_)
  cases r with
  | none => rw [show m'.outcome = some .failed from hm]; exact wpAny_pure hq
  | some r => rw [show m'.outcome = some .matched from hm.1]; exact wpAny_pure (hq m' hm.2.1 hm.2.2)
/-- the pattern's two objects -/
noncomputable def PatAt (h : Heap) (P : Addr) (code : Array Nat) : Prop :=
  ∃ (T : Addr) (p : Str) (tp : Tok) (fl : Int) (tf : Tok) (items : Array Value) (n : Nat), h.get? P = some { cls := .type "re.Pattern", dict := none, data := .fields #[.str p tp, .int fl tf, .int 0 0, .none, .none, .ref T, .int 0 0], slots := #[] } ∧
    h.get? T = some { cls := .type "tuple", dict := none, data := .seq items n, slots := #[] } ∧ (items.map Re.reRawOf).map (·.toNat) = code
theorem wpAny_target {P : Addr} {code : Array Nat} {x : Str} {t : Tok} {Q : Re.ReTarget → Shared → Prop} (hp : PatAt s.heap P code)
    (h : Q { pattern := .ref P, string := .str x t, code, text := x.cps, kind := 0, groups := 0, pos := 0, lim := x.cps.size } s) : wpAny M A (Re.reWholeTarget (.ref P) (.str x t)) Q E s := by
  obtain ⟨T, p, tp, fl, tf, items, n, h1, h2, rfl⟩ := hp
  unfold Re.reWholeTarget
  refine wpAny_bind (wpAny_fieldsOf h1 rfl ?_)
  show wpAny M A (do let z ← Re.reRawItems (.ref T); pure { pattern := .ref P, string := .str x t, code := z.map (·.toNat), text := x.cps, kind := 0, groups := 0, pos := 0, lim := x.cps.size }) Q E s
  refine wpAny_bind ?_
  unfold Re.reRawItems
  refine wpAny_bind (wpAny_seqItems h2 rfl ?_)
  exact wpAny_pure (wpAny_pure h)
end
/-- the pieces from done on -/
noncomputable def pieces (look : Array Nat → Nat → Option (Nat × Nat)) (text : Array Nat) (rp : Str) : Nat → Nat → List Str
  | 0, _ => []
  | f + 1, done => match look text done with
    | some (a, b) => (if done < a then [⟨text.extract done a⟩] else []) ++ rp :: pieces look text rp f b
    | none => if done < text.size then [⟨text.extract done text.size⟩] else []
noncomputable def cat : List Str → Str
  | [] => ⟨#[]⟩
  | x :: r => ⟨x.cps ++ (cat r).cps⟩
noncomputable def sumLen (l : List Str) : Nat := (l.map (·.length)).sum
section
variable {prog : Program} {w : World} {A : Around} {E : Value → Shared → Prop} {h₀ : Heap} {L : Addr} {m : Str → Option Value} {news : List (Addr × Obj)} {D P : Addr} {code : Array Nat} {look : Array Nat → Nat → Option (Nat × Nat)} {x rp : Str} {tx tr : Tok} {Q : Value → Shared → Prop}
theorem push_J {h : Heap} {l : List (Str × Tok)} {n : Nat} {y : Str} {ty : Tok} {s : Shared} {Q : PUnit → Shared → Prop} {M : Model} (F : Fr h₀ L s.heap m) (N : News h₀ L s.heap ((D, listOf (strValues l).toArray n) :: news)) (hap : ∀ p ∈ news, p.1 ≠ D) (hl : l.length ≤ 5000)
    (hq : ∀ h' n', Fr h₀ L h' m → News h₀ L h' ((D, listOf (strValues (l ++ [(y, ty)])).toArray n') :: news) → Q ⟨⟩ { s with heap := h' }) :
    wpAny M A (updateSeq D (·.push (.str y ty))) Q E s := by
  refine wpAny_updateSeq (N.get (.head _)) rfl ?_ ?_ ?_
  · refine hq _ (n + 1) (F.change (Heap.SameBut.update ..) (N _ (.head _)).2.1 (N _ (.head _)).2.2) (N.setHead hap (Heap.SameBut.update ..) ?_)
    rw [Heap.get?_update_self _ (N.get (.head _)) (by rw [mapSeq_push]; rfl), mapSeq_push]
    simp [strValues]
  · simp [strValues, sizeLine_eq]; omega
  · simp [strValues, sizeLine_eq]; omega
theorem glued_cat (l : List Str) : Builtin.Str.glued ⟨#[]⟩ l = cat l := by
  have g : ∀ (l : List Str) (acc : Array Nat), l.foldl (fun acc p => acc ++ (⟨#[]⟩ : Str).cps ++ p.cps) acc = acc ++ (cat l).cps := by
    intro l
    induction l with
    | nil => intro acc; simp [cat]
    | cons x r ih => intro acc; rw [List.foldl_cons, ih]; simp [cat]
  cases l with
  | nil => rfl
  | cons x r => unfold Builtin.Str.glued; rw [List.drop_one, List.tail_cons, g]; rfl
theorem cat_app (a b : List Str) : cat (a ++ b) = ⟨(cat a).cps ++ (cat b).cps⟩ := by
  induction a with
  | nil => simp [cat]
  | cons x r ih => simp [cat, ih]
theorem cat_len (l : List Str) : (cat l).length = sumLen l := by
  induction l with
  | nil => rfl
  | cons x r ih =>
    show ((x.cps ++ (cat r).cps).size) = _
    rw [Array.size_append]
    show x.length + (cat r).length = _
    rw [ih]; simp [sumLen]
theorem sum_foldl (l : List Str) (k : Nat) : l.toArray.foldl (· + ·.length + (⟨#[]⟩ : Str).length) k = k + sumLen l := by
  rw [← Array.foldl_toList]
  show l.foldl _ k = _
  induction l generalizing k with
  | nil => simp [sumLen]
  | cons x r ih => rw [List.foldl_cons, ih]; simp [sumLen, Str.length]; omega
/-- the end of it: the pieces joined -/
theorem subJoin {l : List (Str × Tok)} {n : Nat} {s : Shared} {t0 : Tok} (F : Fr h₀ L s.heap m) (N : News h₀ L s.heap ((D, listOf (strValues l).toArray n) :: news)) (hs : sumLen (l.map (·.1)) ≤ 100000)
    (hq : ∀ t tk, Q (.str (cat (l.map (·.1))) t) { s with toks := tk }) :
    wpAny (model prog w) A (call (.builtin "str.join") [.str ⟨#[]⟩ t0, .ref D]) Q E s := by
  refine call_meets PySem.F.slot_str_join (typeIs_str s _ _) PySem.F.entry_str_join (PySem.F.args_str_join_2 _ _) (meets_str_join_list ⟨#[]⟩ t0 D l ?_) ⟨⟨_, N.get (.head _), rfl, _, rfl⟩, ?_⟩
  · rw [sum_foldl]
    simp [Builtin.Str.tooLong, sizeLine_eq]; omega
  · have big : (Made.str (Builtin.Str.glued ⟨#[]⟩ (l.map (·.1)))).post (fun v s' => wants Q E (.ok (.ret v)) s') s := by
      refine ⟨?_, ?_⟩
      · rw [glued_cat, cat_len, sizeLine_eq]; omega
      · rw [glued_cat]; exact hq _ _
    match l, big, hq with
    | [], big, _ => exact big
    | [p], _, hq =>
      have h1 := hq p.2 s.toks
      simp only [List.map_cons, List.map_nil, cat, Array.append_empty] at h1
      exact h1
    | p :: q :: r, big, _ => exact big
noncomputable abbrev finQ (prog : Program) (w : World) (A : Around) (Q E : Value → Shared → Prop) : Fin → Shared → Prop := fun fin s' => match fin with
  | .done f => wants Q E (.ok f) s'
  | .again c' => c'.quiet = true ∧ codeAny (model prog w) A c' (wants Q E) s'
theorem subFin {l : List (Str × Tok)} {n : Nat} {s : Shared} (F : Fr h₀ L s.heap m) (N : News h₀ L s.heap ((D, listOf (strValues l).toArray n) :: news)) (hs : sumLen (l.map (·.1)) ≤ 100000)
    (hq : ∀ t h tk, Fr h₀ L h m → News h₀ L h news → Q (.str (cat (l.map (·.1))) t) { s with heap := h, toks := tk }) :
    wpAny (model prog w) A.in1 (do let joiner ← Re.reSlice x.cps 0 0 0; let z ← seqItems? (.ref D); if (z.getD #[]).isEmpty = true then (do let t ← pure joiner; ret t) else (do let t ← call (.builtin "str.join") [joiner, .ref D]; ret t))
      (finQ prog w A Q E) (fun e s' => wants Q E (.error e) s') s := by
  have N' : News h₀ L s.heap news := fun p hp => N p (.tail _ hp)
  show wpAny _ _ (do let joiner ← mkStr ⟨x.cps.extract 0 0⟩; _) _ _ s
  have e0 : x.cps.extract 0 0 = #[] := by simp
  rw [e0]
  refine wpAny_bind (wpAny_mkStr ?_ (by show 0 ≤ _; exact Nat.zero_le _))
  refine wpAny_bind (wpAny_seqItems (N.get (.head _)) rfl ?_)
  show wpAny _ _ (if (strValues l).toArray.isEmpty = true then _ else _) _ _ _
  by_cases hl : (strValues l).toArray.isEmpty = true
  · rw [if_pos hl]
    have hl' : l = [] := by
      cases l with
      | nil => rfl
      | cons p r => simp [strValues] at hl
    subst hl'
    exact wpAny_bind (wpAny_pure (wpAny_pure (hq _ _ _ F N')))
  · rw [if_neg hl]
    exact wpAny_bind (subJoin F N hs fun t tk => wpAny_pure (hq t _ tk F N'))
/-- the sub's loop, from `done` on -/
theorem subLoop (hlook : ∀ s, s ≤ x.cps.size → ∃ K, K ≤ 2 ^ 65 ∧ Ends K (Sre.forSearch code x.cps 0 s x.cps.size false) (look x.cps s)) (hprog : ∀ s a b, look x.cps s = some (a, b) → s ≤ a ∧ a < b ∧ b ≤ x.cps.size)
    (hP : PatAt h₀ P code) (hx : x.cps.size ≤ 1000) (hrp : rp.length ≤ 10) (hap : ∀ p ∈ news, p.1 ≠ D) :
    ∀ (fuel done : Nat) (l : List (Str × Tok)) (n : Nat) (cnt : Int) (s : Shared), x.cps.size - done < fuel → done ≤ x.cps.size → l.length ≤ 2 * done → sumLen (l.map (·.1)) ≤ 11 * done →
      Fr h₀ L s.heap m → News h₀ L s.heap ((D, listOf (strValues l).toArray n) :: news) →
      (∀ t h tk, Fr h₀ L h m → News h₀ L h news → Q (.str (cat (l.map (·.1) ++ pieces look x.cps rp fuel done)) t) { s with heap := h, toks := tk }) →
      codeAny (model prog w) A (.builtin "re.Pattern.sub.loop" ⟨[.ref P, .str x tx, .str rp tr, rawInt 0, rawInt 0, rawInt cnt, rawInt done, rawInt done, .bool false, .ref D, .bool false], []⟩) (wants Q E) s
  | 0, _, _, _, _, _, h, _, _, _, _, _, _ => absurd h (Nat.not_lt_zero _)
  | fuel + 1, done, l, n, cnt, s, hf, hd, hl, hs, F, N, hq => by
    refine codeAny_builtin entry_loop ?_
    rw [Around.under_plainId plain_loop]
    have hP' : PatAt s.heap P code := by
      obtain ⟨T, p, tp, fl, tf, items, n, h1, h2, h3⟩ := hP
      exact ⟨T, p, tp, fl, tf, items, n, F.keep _ _ h1, F.keep _ _ h2, h3⟩
    unfold Builtin.«re.Pattern.sub.loop»
    dsimp only [rawInt]
    refine wpAny_bind (wpAny_target hP' ?_)
    simp only [beq_self_eq_true, if_true, bne_self_eq_false, Bool.false_and, Bool.false_eq_true, if_false, Int.toNat_natCast]
    have e1 : Re.reLiteralCannotBeTurned (.str rp tr) = pure () := rfl
    rw [e1]
    refine wpAny_bind (wpAny_pure ?_)
    obtain ⟨K, hK, hE⟩ := hlook done hd
    refine wpAny_bind (wpAny_runToEnd hK hE ?_)
    cases hf' : look x.cps done with
    | none =>
      show wpAny _ _ _ _ _ _
      dsimp only
      have hp : pieces look x.cps rp (fuel + 1) done = if done < x.cps.size then [⟨x.cps.extract done x.cps.size⟩] else [] := by
        show (match look x.cps done with | some (a, b) => _ | none => _) = _
        rw [hf']
      rw [hp] at hq
      by_cases hdl : done < x.cps.size
      · rw [if_pos hdl]
        rw [if_pos hdl] at hq
        show wpAny _ _ (do let z ← mkStr ⟨x.cps.extract done x.cps.size⟩; _) _ _ s
        have hz : (⟨x.cps.extract done x.cps.size⟩ : Str).length ≤ x.cps.size - done := by show (x.cps.extract done x.cps.size).size ≤ _; rw [Array.size_extract]; omega
        refine wpAny_bind (wpAny_mkStr ?_ (by rw [sizeLine_eq]; omega))
        refine wpAny_bind (push_J (n := n) (l := l) (h := s.heap) F N hap (by omega) fun h' n' F' N' => ?_)
        refine subFin F' N' ?_ ?_
        · rw [List.map_append]
          simp only [sumLen, List.map_append, List.sum_append, List.map_cons, List.map_nil, List.sum_cons, List.sum_nil] at hs ⊢
          omega
        · intro t h tk F2 N2
          rw [List.map_append]
          exact hq t h tk F2 N2
      · rw [if_neg hdl]
        rw [if_neg hdl, List.append_nil] at hq
        exact subFin F N (by omega) hq
    | some ab =>
      obtain ⟨a, b⟩ := ab
      intro m' hm1 hm2
      obtain ⟨g1, g2, g3⟩ := hprog done a b hf'
      have hp : pieces look x.cps rp (fuel + 1) done = (if done < a then [⟨x.cps.extract done a⟩] else []) ++ rp :: pieces look x.cps rp fuel b := by
        show (match look x.cps done with | some (a, b) => _ | none => _) = _
        rw [hf']
      rw [hp] at hq
      subst hm1 hm2
      have eb : (m'.handed == m'.start) = false := by simp; omega
      have ev : (Value.str rp tr != Value.none) = true := rfl
      dsimp only
      rw [eb]
      have turn : ∀ (l' : List (Str × Tok)) (n' : Nat) (s' : Shared), l'.length ≤ 2 * done + 1 → sumLen (l'.map (·.1)) ≤ 11 * done + (m'.start - done) → Fr h₀ L s'.heap m → News h₀ L s'.heap ((D, listOf (strValues l').toArray n') :: news) →
          (∀ t h tk, Fr h₀ L h m → News h₀ L h news → Q (.str (cat (l'.map (·.1) ++ rp :: pieces look x.cps rp fuel m'.handed)) t) { s' with heap := h, toks := tk }) →
          wpAny (model prog w) A.in1 (do
            let item ← (pure (Value.str rp tr) : Sem Value)
            if (item != Value.none) = true then (do
              updateSeq D fun x => x.push item
              again (Code.builtin "re.Pattern.sub.loop" ⟨[.ref P, .str x tx, .str rp tr, .int 0 0, .int 0 0, .int (cnt + 1) 0, .int m'.handed 0, .int m'.handed 0, .bool false, .ref D, .bool false], []⟩))
            else again (Code.builtin "re.Pattern.sub.loop" ⟨[.ref P, .str x tx, .str rp tr, .int 0 0, .int 0 0, .int (cnt + 1) 0, .int m'.handed 0, .int m'.handed 0, .bool false, .ref D, .bool false], []⟩))
          (finQ prog w A Q E) (fun e s' => wants Q E (.error e) s') s' := by
        intro l' n' s' z1 z2 F' N' hq'
        refine wpAny_bind (wpAny_pure ?_)
        rw [if_pos ev]
        refine wpAny_bind (push_J (n := n') (l := l') (h := s'.heap) F' N' hap (by omega) fun h'' n'' F'' N'' => ?_)
        refine wpAny_pure ⟨plainId_quiet plain_loop _, ?_⟩
        refine subLoop hlook hprog hP hx hrp hap fuel m'.handed (l' ++ [(rp, tr)]) n'' (cnt + 1) _ (by omega) g3 ?_ ?_ F'' N'' ?_
        · rw [List.length_append]; show _ + 1 ≤ _; omega
        · simp only [sumLen, List.map_append, List.sum_append, List.map_cons, List.map_nil, List.sum_cons, List.sum_nil] at z2 ⊢
          omega
        · intro t h tk F3 N3
          have := hq' t h tk F3 N3
          rw [List.map_append]
          simpa using this
      by_cases hda : done < m'.start
      · rw [if_pos hda]
        rw [if_pos hda] at hq
        show wpAny _ _ (do let z ← mkStr ⟨x.cps.extract done m'.start⟩; _) _ _ s
        have hz : (⟨x.cps.extract done m'.start⟩ : Str).length = m'.start - done := by show (x.cps.extract done m'.start).size = _; rw [Array.size_extract]; omega
        refine wpAny_bind (wpAny_mkStr ?_ (by rw [sizeLine_eq]; omega))
        refine wpAny_bind (push_J (n := n) (l := l) (h := s.heap) F N hap (by omega) fun h' n' F' N' => ?_)
        refine turn _ n' _ ?_ ?_ F' N' ?_
        · rw [List.length_append]; show _ + 1 ≤ _; omega
        · simp only [sumLen, List.map_append, List.sum_append, List.map_cons, List.map_nil, List.sum_cons, List.sum_nil] at hs ⊢
          omega
        · intro t h tk F3 N3
          have := hq t h tk F3 N3
          rw [List.map_append]
          simpa using this
      · rw [if_neg hda]
        rw [if_neg hda] at hq
        refine turn l n s (by omega) (by omega) F N ?_
        intro t h tk F3 N3
        have := hq t h tk F3 N3
        simpa using this
end
end ZS3
section ZS4
open PySem PySem.W PySem.Spec PySem.Calls PyProof.Rows Builtin
set_option maxRecDepth 100000
section
variable {prog : Program} {w : World} {A : Around} {E : Value → Shared → Prop} {h₀ : Heap} {L : Addr} {m : Str → Option Value} {news : List (Addr × Obj)} {P : Addr} {code : Array Nat} {look : Array Nat → Nat → Option (Nat × Nat)} {x rp : Str} {tx tr : Tok} {Q : Value → Shared → Prop} {s : Shared}
theorem subCall (hlook : ∀ s, s ≤ x.cps.size → ∃ K, K ≤ 2 ^ 65 ∧ Ends K (Sre.forSearch code x.cps 0 s x.cps.size false) (look x.cps s)) (hprog : ∀ s a b, look x.cps s = some (a, b) → s ≤ a ∧ a < b ∧ b ≤ x.cps.size)
    (hP : PatAt h₀ P code) (hx : x.cps.size ≤ 1000) (hrp : rp.length ≤ 10) (hlit : rp.cps.contains 92 = false) (F : Fr h₀ L s.heap m) (N : News h₀ L s.heap news)
    (hq : ∀ t h tk, Fr h₀ L h m → News h₀ L h news → Q (.str (cat (pieces look x.cps rp (x.cps.size + 1) 0)) t) { s with heap := h, toks := tk }) :
    wpAny (model prog w) A (call (.builtin "re.Pattern.sub") [.ref P, .str rp tr, .str x tx]) Q E s := by
  have hP' : PatAt s.heap P code := by
    obtain ⟨T, p, tp, fl, tf, items, n, h1, h2, h3⟩ := hP
    exact ⟨T, p, tp, fl, tf, items, n, F.keep _ _ h1, F.keep _ _ h2, h3⟩
  have hT : s.TypeIs (.ref P) "re.Pattern" := by
    obtain ⟨T, p, tp, fl, tf, items, n, h1, h2, h3⟩ := hP'
    exact ⟨_, h1, rfl⟩
  refine wpAny_call (codeAny_call_builtin plain_sub entry_sub (slot_sub.check _ _ _ _ _ _ _ _ hT (args_sub _ _ _) ?_))
  unfold Builtin.«re.Pattern.sub»
  unfold Re.reSubstitute
  show wpAny _ _ (do let z ← Re.reNamed "re.Pattern.sub" "sub" ["repl", "string", "count"] 2 [.str rp tr, .str x tx] []; _) _ _ s
  rw [reNamed_sub]
  refine wpAny_bind (wpAny_pure ?_)
  show wpAny _ _ _ _ _ _
  dsimp only
  refine wpAny_bind (wpAny_pure ?_)
  refine wpAny_bind (wpAny_specialOf (typeIs_str s _ _) str_call_none ?_)
  have hn : ¬ ((none : Option Value).isSome = true) := by simp
  rw [if_neg hn]
  show wpAny _ _ (do let z ← (pure (some rp) : Sem (Option Str)); _) _ _ s
  refine wpAny_bind (wpAny_pure ?_)
  dsimp only
  rw [hlit]
  show wpAny _ _ (do let literal ← (pure true : Sem Bool); _) _ _ s
  refine wpAny_bind (wpAny_pure ?_)
  rw [if_neg hn, if_pos rfl]
  refine wpAny_bind (wpAny_pure ?_)
  refine wpAny_bind (wpAny_holding (wpAny_target hP' ?_))
  dsimp only
  have h01 : ¬ (((0 : Int) == 1) = true) := by decide
  rw [if_neg h01]
  refine wpAny_bind (newList_K (vs := []) F N (fun D h' F' N' hlt => ?_))
  refine wpAny_pure ⟨plainId_quiet plain_loop _, ?_⟩
  exact subLoop (l := []) (n := 0) hlook hprog hP hx hrp (fun p hp => Nat.ne_of_lt (hlt p hp)) (x.cps.size + 1) 0 0 _ (by omega) (Nat.zero_le _) (Nat.zero_le _) (Nat.zero_le _) F' N' hq
end
end ZS4
section ZS5
open PySem PySem.W PySem.Spec PySem.Calls PyProof.Rows PyProof.V
set_option maxRecDepth 100000
theorem strs_of_get : ∀ {vs : List Value} {as : List Str}, vs.length = as.length → (∀ (i : Nat) (v : Value), vs[i]? = some v → ∃ (a : Str) (t : Tok), as[i]? = some a ∧ v = Value.str a t) → StrsAre vs as
  | [], [], _, _ => .nil
  | v :: vs, a :: as, h, g => by
    obtain ⟨a', t, e, rfl⟩ := g 0 v rfl
    have e' : a = a' := by simpa using e
    subst e'
    exact .cons a t (strs_of_get (by simpa using h) fun i v hi => by simpa using g (i + 1) v (by simpa using hi))
  | [], _ :: _, h, _ => by simp at h
  | _ :: _, [], h, _ => by simp at h
theorem strs_filter {pz : Str → Bool} {p : Value → Bool} {G : Value → Value → Prop} (hp : ∀ a t, p (.str a t) = pz a) (hG : ∀ a t r, G (.str a t) r → ∃ t', r = .str a t') :
    ∀ {vs : List Value} {as : List Str}, StrsAre vs as → ∀ {ys : List Value}, Paired G (vs.filter p) ys → StrsAre ys (as.filter pz)
  | _, _, .nil, ys, h => by cases h; exact .nil
  | _, _, .cons x t r, ys, h => by
    rw [List.filter_cons, hp] at h
    rw [List.filter_cons]
    by_cases hx : pz x = true
    · rw [if_pos hx] at h ⊢
      cases h with
      | cons h1 h2 =>
        obtain ⟨t', rfl⟩ := hG _ _ _ h1
        exact .cons x t' (strs_filter hp hG r h2)
    · rw [if_neg hx] at h ⊢
      exact strs_filter hp hG r h
section
variable {prog : Program} {w : World} {A : Around} {E : Value → Shared → Prop} {s₁ : Shared} {h₀ : Heap} {L : Addr} {m : Str → Option Value} {news : List (Addr × Obj)}
theorem ld_builtE {K : Frag} {p : Program} {loose : List Str} {mean : ExcName → Option Value} {mg mb : Str → Option Value} {env : Env} {scope : Scope} {C : Addr} {x : Str} {pos : Pos} {v : Value} {Q : Value → Shared → Prop}
    (F : Fr h₀ L s₁.heap m) (X : K.In h₀) (T : Top p loose mean mg mb h₀) (e : nsIn K mainGlobals x = some none) (hv : bootBuiltins x = some v) (hn : x ≠ "__name__") (h : Q v s₁) (hg : env.globals = mainGlobals) (hb : env.builtins = builtinsNs)
    (hk : (compEnv scope C env).scope.kind = .function) (hx : (compEnv scope C env).kindOf x = some .globalImplicit) (hd : (x == ("__debug__" : Str)) = false) :
    wpAny (model prog w) A (eval (.Name x pos) (compEnv scope C env)) Q E s₁ :=
  Name_function_global hk hx (loadGlobal_builtin (env := compEnv scope C env) (show s₁.heap.Ns env.globals mg from hg ▸ (T.keeps F.keep).g) (mg_none_of X T.g e) (show s₁.heap.Ns env.builtins mb from hb ▸ (T.keeps F.keep).b) ((T.builtins x hn).trans hv) h) hd
/-- a comprehension over a dict of str keys -/
theorem srcC_dict {env : Env} {elt : Expr} {x : Str} {ifs : List Expr} {scope : Scope} {Q : Value → Shared → Prop} {d : Addr} {D : List (PyData × PyData)} {as : List Str} {pz : Str → Bool} (hD : D.map (·.1) = as.map PyData.str)
    (hh : A.handled = none) (T : StrTab prog w s₁.heap d D) (F : Fr h₀ L s₁.heap m) (N : News h₀ L s₁.heap news)
    (g1 : ∀ C a t s₂ m₂ E', a ∈ as → s₂.heap.Ns (compEnv scope C env).locals m₂ → m₂ x = some (.str a t) → s₁.toks ≤ s₂.toks → (∀ b o, s₁.heap.get? b = some o → s₂.heap.get? b = some o) →
        wpAny (model prog w) A (forIn ifs true fun c r => if r = true then do let ok ← isTrue c (compEnv scope C env) (eval c (compEnv scope C env)); pure (ForInStep.yield ok) else pure (ForInStep.yield r))
          (fun ok s₃ => ok = pz a ∧ Keeps s₂ s₃) E' s₂)
    (g2 : ∀ C a t s₂ m₂ E', a ∈ as → pz a = true → s₂.heap.Ns (compEnv scope C env).locals m₂ → m₂ x = some (.str a t) → s₁.toks ≤ s₂.toks → (∀ b o, s₁.heap.get? b = some o → s₂.heap.get? b = some o) → wpAny (model prog w) A (eval elt (compEnv scope C env)) (fun r s₃ => (∃ t', r = .str a t') ∧ Keeps s₂ s₃) E' s₂)
    (g3 : ∀ D (ys : List Value) h' tk, Fr h₀ L h' m → News h₀ L h' news → h₀.get? D = none → h'.IsList D ys.toArray → NewPlain h' news D ys.toArray → StrsAre ys (as.filter pz) → Q (.ref D) { s₁ with heap := h', toks := tk })
    (hsz : as.length ≤ sizeLine) :
    wpAny (model prog w) A (pyIter (.ref d)) (CompPost prog w A env scope x ifs elt Q) E s₁ := by
  obtain ⟨lo, kvs, hdo, hf⟩ := T
  obtain ⟨ep, hat⟩ := hdo.dictAt
  have hne : d ≠ s₁.heap.objs.size := Nat.ne_of_lt hat.lt_size
  have hlen : kvs.length = as.length := by
    have a := congrArg List.length hD
    rw [List.length_map, List.length_map] at a
    exact hf.length.symm.trans a
  have key : ∀ (i : Nat) (v : Value), (∃ k y, kvs[i]? = some (k, y) ∧ (strKind prog w).is k v = true) → ∃ a t, as[i]? = some a ∧ v = .str a t := by
    rintro i v ⟨k, y, hx, hk⟩
    obtain ⟨dv, hDi, _⟩ := hf.at hx
    have : (D.map (·.1))[i]? = some (.str k) := by rw [List.getElem?_map, hDi]; rfl
    rw [hD, List.getElem?_map] at this
    cases ha : as[i]? with
    | none => rw [ha] at this; cases this
    | some a =>
      rw [ha] at this
      have e : PyData.str a = PyData.str k := by simpa using this
      injection e with e
      subst e
      obtain ⟨t, rfl⟩ := Value.isStrOf_shape (show Value.isStrOf a v = true from hk)
      exact ⟨a, t, rfl, rfl⟩
  refine wpAny_pyIter_dict lo hat ?_
  have up : ∀ (h' : Heap), (∀ b o', b ∉ [s₁.heap.objs.size] → (s₁.heap.push { cls := .type "dict_keyiterator", data := .fields #[.ref d, .int 0 0, .int kvs.length 0, .int ep 0] }).get? b = some o' → h'.get? b = some o') → ∀ b o', s₁.heap.get? b = some o' → h'.get? b = some o' :=
    fun h' hk b o' e => hk b o' (not_iter_of_old e) (Heap.get?_push_of_some _ e)
  let p : Value → Bool := fun v => match v with | .str a _ => pz a | _ => false
  refine ⟨p, fun v r => ∃ a t t', v = .str a t ∧ r = .str a t', s₁.heap.objs.size, [s₁.heap.objs.size, d], [s₁.heap.objs.size], kvs.length, _, _, rfl, Walks.dictKeys (knd := strKind prog w) hh _ d hne kvs ep, (by rw [hlen]; exact hsz),
    ⟨⟨_, Heap.get?_push_size _ rfl, rfl, rfl⟩, hat.push _⟩, ?_, ⟨?_, ?_⟩, ?_⟩
  · intro b hb
    show b < (s₁.heap.push _).objs.size
    rw [Heap.size_push]
    rcases List.mem_cons.mp hb with rfl | hb
    · exact Nat.lt_succ_self _
    · rw [List.mem_singleton.mp hb]; exact Nat.lt_succ_of_lt hat.lt_size
  · intro C i v s₃ m₃ E' hP hn hm hk htk
    obtain ⟨a, t, ha, rfl⟩ := key i v hP
    exact g1 C a t s₃ m₃ E' (List.mem_of_getElem? ha) hn hm htk (up _ hk)
  · intro C i v s₃ m₃ E' hP hp hn hm hk htk
    obtain ⟨a, t, ha, rfl⟩ := key i v hP
    exact wpAny_mono (g2 C a t s₃ m₃ E' (List.mem_of_getElem? ha) hp hn hm htk (up _ hk)) (fun r s₄ h₄ => ⟨let ⟨t', e⟩ := h₄.1; ⟨a, t, t', rfl, e⟩, h₄.2⟩) fun _ _ e => e
  · intro D' h' tk ys vs' hnew hlD hplD hlen' hP hF hk
    refine g3 D' ys.toList h' tk (F.keeps (up h' hk)) (N.grown (up h' hk)) ?_ (by rw [Array.toArray_toList]; exact hlD) ⟨by rw [Array.toArray_toList]; exact hplD, fun p hp e => by rw [← e, Heap.get?_push_of_some _ (N p hp).1] at hnew; cases hnew⟩ ?_
    · cases e : h₀.get? D' with
      | none => rfl
      | some o' => rw [Heap.get?_push_of_some _ (F.keep _ _ e)] at hnew; cases hnew
    · exact strs_filter (p := p) (G := fun v r => ∃ a t t', v = .str a t ∧ r = .str a t') (fun a t => rfl) (fun a t r h => by obtain ⟨a', t1, t2, e1, e2⟩ := h; injection e1 with e1 _; subst e1; exact ⟨t2, e2⟩)
        (strs_of_get (hlen'.trans hlen) fun i v hi => key i v (hP i v hi)) hF
end
end ZS5
section ZC1
open PySem PySem.W PySem.Spec PySem.Calls PyProof.Rows
set_option rowWalk.seconds 0
set_option compiler.extract_closed false
set_option maxRecDepth 100000
set_option maxHeartbeats 8000000
set_option pp.deepTerms false
set_option pp.deepTerms.threshold 10
set_option pp.maxSteps 20000
theorem fill : Mine.rw = Mine.rw ∧ Mine.hp = Mine.hp := by
  k_fill
  exact ⟨rfl, rfl⟩
noncomputable abbrev tup2 (x y : Int) (t u : Tok) (c : Nat) : Obj := { cls := .type "tuple", data := .seq #[.int x t, .int y u] c }
theorem divmodK {prog : Program} {w : World} {A : Around} {E : Value → Shared → Prop} {s : Shared} {a b : Int} {t u : Tok} {Q : Value → Shared → Prop} {h₀ : Heap} {L : Addr} {m : Str → Option Value} {news : List (Addr × Obj)}
    (F : Fr h₀ L s.heap m) (N : News h₀ L s.heap news) (hb : b ≠ 0) (hs : b.natAbs < 1073741824)
    (h : ∀ (D : Addr) (t1 t2 : Tok) (h' : Heap) (tk' : Nat), Fr h₀ L h' m → News h₀ L h' ((D, tup2 (a.fdiv b) (a.fmod b) t1 t2 0) :: news) → (∀ p ∈ news, p.1 < D) → Q (.ref D) { s with toks := tk', heap := h' }) :
    wpAny (model prog w) A (call (.builtin "divmod") [.int a t, .int b u]) Q E s :=
  divmod_N F N hb (fun _ F' N' => h _ _ _ _ _ F' N' (fun p hp => Heap.lt_size (N p hp).1)) (Or.inl (PyProof.noPylong_small hs))
theorem bits60 {a : Int} (h0 : 0 ≤ a) (h : a < 2 ^ 60) : (Builtin.Int.intBits a : Int) ≤ 60 := by
  have : Builtin.Int.intBits a ≤ 60 := intBits_le_iff.mpr (by omega)
  omega
theorem div2 {w : World} {mean : ExcName → Option Value} {mg mb : Str → Option Value} (dp un : Nat) (gd : Option (List Code)) (cn : Str) (cs : Scope) (ca : Addr) (ccd : Value) (cl : List (Str × Addr)) (outer : List Env) (A₀ : Around) (base h₀ : Heap) (L : Addr) (m : Str → Option Value) (s : Shared) (Q E : Value → Shared → Prop) (news : List (Addr × Obj))
  (B : Below A₀ base outer h₀) (F : Fr h₀ L s.heap m) (X : (Mine.hp w.params).In h₀) (N : News h₀ L s.heap news) (T : Top topProg (looseW Mine.vw Mine.lo ++ (recsOf Mine.vw).map (·.name) ++ (litsOf Mine.vw).map (·.1) ++ (clssOf Mine.vw (looseW Mine.vw Mine.lo)).map (·.name)) mean mg mb h₀) (hk : cs.kind = .function)
  (a b n : Int) (ta tb tn : Tok) (ha : 0 ≤ a) (hb : 0 < b) (hb2 : b < 1073741824) (hab : a < 2 ^ 60) (hn : 0 ≤ n) (hn2 : n ≤ 64)
  (hd : dp + 1 < recursionLimit) (hu : un + 8 < cLine)
  (ret : ∀ (D : Addr) (t1 t2 : Tok) (h : Heap) (tk : Nat), Fr h₀ L h m → News h₀ L h ((D, tup2 (a.fdiv b) (a.fmod b) t1 t2 0) :: news) → (∀ p ∈ news, p.1 < D) → Q (.ref D) { s with heap := h, toks := tk }) :
  wpAny (model Mine.rw.prog w) (ktrTop dp un gd cn cs L ca ccd cl outer) (call (.ref 38) [.int a ta, .int b tb, .int n tn]) Q E s := by
  have hz := bits60 ha hab
  k_with_none
  k_with "execs cons" => (k_here; first | k_gentoks | (k_made; walk_at "execs cons") | ((with_reducible refine execs_consF ?_); intro qz))
  k_with "storeName" => (k_here; (fail_if_success (k_extra "unfolded")); k_dflt (first | (refine' storeX_LF ?F ?N ?_ ?a ?b; (case F => k_asm); (case N => k_asm); (case a => rfl); (case b => rfl); k_whole; intro h' tk' mz F' N'; (try k_sweep)) | (refine' storeX_CF ?F ?N ?c ?U ?d ?_ ?a ?b; (case a => rfl); (case b => rfl); (case F => k_asm); (case N => k_asm); (case c => rfl); (case U => k_updF); (case d => k_asm); k_whole; intro h' o' F' N' d'; (try dsimp only at N'); (try k_sweep))))
  k_with "LeaveF" => (k_dflt (refine' leaveF_ ?k1 ?k2 ?_; (case k1 => k_asm); (case k2 => k_asm); k_whole); intro kF kN; (try ground_anew kF); (try have kX := kFor kF (by k_asm)))
  k_with "LeaveF" => (k_made; walk_at "LeaveF")
  k_with "zUR" => (have hcL9 := cLine_is; omega)
  k_with "zNE" => (refine neN ?_; (try dsimp only); first | with_reducible (first | (refine neA0 (by assumption) ?_; focus ((repeat (first | exact And.left | exact id | refine andR ?_)); done)) | (refine neB0 (by assumption) ?_; focus ((repeat (first | exact And.left | exact id | refine andR ?_)); done)) | (refine neC (by assumption) ?_; focus ((repeat (first | exact And.left | exact id | refine andR ?_)); done)) | (refine neCs (by assumption) ?_; focus ((repeat (first | exact And.left | exact id | refine andR ?_)); done)) | (refine neA1 (by assumption) ?_; focus ((repeat (first | exact And.left | exact id | refine andR ?_)); done)) | (refine neB1 (by assumption) ?_; focus ((repeat (first | exact And.left | exact id | refine andR ?_)); done)) | (refine neA2 (by assumption) ?_; focus ((repeat (first | exact And.left | exact id | refine andR ?_)); done)) | (refine neB2 (by assumption) ?_; focus ((repeat (first | exact And.left | exact id | refine andR ?_)); done)) | (refine neA3 (by assumption) ?_; focus ((repeat (first | exact And.left | exact id | refine andR ?_)); done)) | (refine neB3 (by assumption) ?_; focus ((repeat (first | exact And.left | exact id | refine andR ?_)); done))) | omega)
  k_with "zRM" => (with_reducible first | exact room1 (by assumption) (by assumption) (by decide) | exact room2 (by assumption) (by assumption) (by decide) | exact room3 (by assumption) (by assumption) (by decide) | exact room4 (by assumption) (by assumption) (by decide) | exact room5 (by assumption) (by assumption) (by decide) | exact room0 (by assumption))
  k_with "zALL" => first | assumption | with_reducible (first | (refine nwA0 (by assumption) ?_; focus ((refine andR ?_); (repeat (first | exact id | refine andR ?_)); done)) | (refine nwA1 (by assumption) ?_; focus ((refine andR ?_); (repeat (first | exact id | refine andR ?_)); done)) | (refine nwA2 (by assumption) ?_; focus ((refine andR ?_); (repeat (first | exact id | refine andR ?_)); done)) | (refine nwA3 (by assumption) ?_; focus ((refine andR ?_); (repeat (first | exact id | refine andR ?_)); done)))
  k_with "call builtin:divmod" => ((with_reducible show wpAny _ _ (call (Value.builtin _) [Value.int _ _, Value.int _ _]) _ _ _); (k_dflt (refine' divmodK ?k1 ?k2 ?k3 ?k4 ?_; (case k1 => k_asm); (case k2 => k_asm); (case k3 => omega); (case k4 => omega); k_whole)); intro D' t1' t2' h' tk' F' N' l1; (try k_lt l1); (try k_sweep))
  k_dflt (refine' code_defF ?k1 ?k2 ?k3 ?k4 ?k5 ?kA ?kZ ?kF ?kK ?k6 ?k7 ?k8 ?k9 ?kB ?_ ?c2 ?c3 ?c4 ?c5; (case kA => exact rfl); (case kZ => first | with_reducible assumption | exact ktrDepth); (case kF => exact rfl); (case kK => first | exact rfl | assumption); (case k1 => k_asm); (case k2 => k_asm); (case k3 => k_asm); (case k4 => k_asm); (case k5 => k_asm); (case k6 => k_is); (case k7 => k_is); (case k8 => ktr_room); (case k9 => (first | exact BindsTo.of_eq (binds := []) rfl | exact BindsTo.of_eq (binds := [(_, _)]) rfl | exact BindsTo.of_eq (binds := [(_, _), (_, _)]) rfl | exact BindsTo.of_eq (binds := [(_, _), (_, _), (_, _)]) rfl | exact BindsTo.of_eq (binds := [(_, _), (_, _), (_, _), (_, _)]) rfl | exact BindsTo.of_eq (binds := [(_, _), (_, _), (_, _), (_, _), (_, _)]) rfl | exact BindsTo.of_eq rfl)); (case c5 => decide); (case kB => exact locs rfl); (case c2 => exact rfl); (case c3 => exact rfl); (case c4 => exact rfl); k_whole; intro qr er g' L' h' tk' FG' mz F' N' B' X' T' az hzd hzu qz ez; (try dsimp only [ktrTop] at hzu); (try k_lift B'))
  k_steps
  exact ret _ _ _ _ _ (by assumption) (by assumption) (by assumption)
end ZC1
section ZC2
open PySem PySem.W PySem.Spec PySem.Calls PyProof.Rows
set_option rowWalk.seconds 0
set_option compiler.extract_closed false
set_option maxRecDepth 100000
set_option maxHeartbeats 8000000
set_option pp.deepTerms false
set_option pp.deepTerms.threshold 10
set_option pp.maxSteps 20000
section
variable {prog : Program} {w : World} {A : Around} {E : Value → Shared → Prop} {s : Shared} {a n P : Int} {t u : Tok} {Q : Value → Shared → Prop}
theorem lshP (hP : (2 : Int) ^ n.toNat = P) (hn : 0 ≤ n) (hn2 : n ≤ 1000000) (ha : a.natAbs < 2 ^ 64) (h : Q (.int (a * P) s.toks) { s with toks := s.toks + 1 }) :
    wpAny (model prog w) A (binaryOp .LShift (.int a t) (.int n u)) Q E s := lshift_int_small hn hn2 ha (by rw [hP]; exact h)
theorem rshP (hP : (2 : Int) ^ n.toNat = P) (hn : 0 ≤ n) (h : Q (.int (a.fdiv P) s.toks) { s with toks := s.toks + 1 }) :
    wpAny (model prog w) A (binaryOp .RShift (.int a t) (.int n u)) Q E s := rshift_int hn (by rw [hP]; exact h)
theorem bitOr_add {x y : Int} {k : Nat} (hx : 0 ≤ x) (hy : 0 ≤ y) (hy2 : y < 2 ^ k) : Builtin.bitOr (x * 2 ^ k) y = x * 2 ^ k + y := by
  have h1 := bitXor_and (x * 2 ^ k) y
  have h2 : Builtin.bitAnd (x * 2 ^ k) y = 0 := by
    have hp := kbt_pos k
    rw [bitAnd_pp (Int.mul_nonneg hx (by omega)) hy]
    obtain ⟨x', rfl⟩ := Int.eq_ofNat_of_zero_le hx
    obtain ⟨y', rfl⟩ := Int.eq_ofNat_of_zero_le hy
    have hc := kbt_cast k
    have e1 : ((x' : Int) * 2 ^ k).toNat = x' <<< k := by
      rw [Nat.shiftLeft_eq]
      have : ((x' : Int) * 2 ^ k) = ((x' * 2 ^ k : Nat) : Int) := by rw [Int.natCast_mul, hc]
      rw [this]; rfl
    rw [e1]
    have e2 : y' < 2 ^ k := by rw [← hc] at hy2; exact_mod_cast hy2
    have e3 : x' <<< k &&& ((y' : Int)).toNat = 0 := by
      apply Nat.eq_of_testBit_eq
      intro i
      simp only [Nat.testBit_and, Nat.testBit_shiftLeft, Nat.zero_testBit, Int.toNat_natCast]
      by_cases hi : i ≥ k
      · rw [Nat.testBit_lt_two_pow (Nat.lt_of_lt_of_le e2 (Nat.pow_le_pow_right (by decide) hi))]; simp
      · simp [hi]
    rw [e3]; rfl
  unfold Builtin.bitXor at h1
  rw [h2] at h1
  omega
theorem orP {x y : Int} {t u : Tok} (hP : (2 : Int) ^ n.toNat = P) (hx : 0 ≤ x) (hy : 0 ≤ y) (hy2 : y < P) (h : Q (.int (x * P + y) s.toks) { s with toks := s.toks + 1 }) :
    wpAny (model prog w) A (binaryOp .BitOr (.int (x * P) t) (.int y u)) Q E s := or_int (by subst hP; rw [bitOr_add hx hy hy2]; exact h)
end
theorem d3_pos1 {a12 b1 P : Int} (hP1 : 4 ≤ P) (hb1 : b1 = P - 1) (h0 : 0 ≤ a12) (hc : a12.fdiv P = b1) : 0 ≤ a12 - b1 * P + b1 := by
  have h1 := Int.fdiv_eq_ediv_of_nonneg a12 (show (0:Int) ≤ P by omega)
  rw [h1] at hc
  have h2 := Int.mul_ediv_add_emod a12 P
  have h3 := Int.emod_nonneg a12 (show P ≠ 0 by omega)
  rw [hc, Int.mul_comm] at h2
  omega
theorem d3_pos2 {a12 b1 P : Int} (hP1 : 4 ≤ P) (hb1 : b1 = P - 1) : 0 ≤ a12.fmod b1 := by
  rw [Int.fmod_eq_emod_of_nonneg _ (by omega)]
  exact Int.emod_nonneg _ (by omega)
theorem d3_sm1 {a12 b b1 P : Int} (hP1 : 4 ≤ P) (hP2 : P ≤ 4096) (hb1 : b1 = P - 1) (hb : b = P * P - 1) (h0 : 0 ≤ a12) (h1 : a12 < b) (hc : a12.fdiv P = b1) : (a12 - b1 * P + b1).natAbs < 2 ^ 64 := by
  have h2 := d3_pos1 hP1 hb1 h0 hc
  subst hb hb1
  rw [Int.sub_mul, Int.one_mul] at h2 ⊢
  omega
theorem d3_sm2 {a12 b1 P : Int} (hP1 : 4 ≤ P) (hP2 : P ≤ 4096) (hb1 : b1 = P - 1) : (a12.fmod b1).natAbs < 2 ^ 64 := by
  have h2 := d3_pos2 (a12 := a12) hP1 hb1
  rw [Int.fmod_eq_emod_of_nonneg _ (by omega)] at h2 ⊢
  have h7 := Int.emod_lt_of_pos a12 (show 0 < b1 by omega)
  omega
theorem d3_start1 {a12 a3 b b1 b2 P : Int} (hP1 : 4 ≤ P) (hb : b = P * P - 1) (hb1 : b1 = P - 1) (hb2 : b2 = P - 1) (h1 : a12 < b) (h3 : a3 < P) :
    ((a12 - b1 * P + b1) * P + a3) - (1 * P - 1) * b2 = (a12 * P + a3) - (1 * P - 1) * b ∧ ((a12 - b1 * P + b1) * P + a3) - (1 * P - 1) * b2 < b := by
  have e : ((a12 - b1 * P + b1) * P + a3) - (1 * P - 1) * b2 = (a12 * P + a3) - (1 * P - 1) * b := by
    subst hb hb1 hb2
    simp only [Int.sub_mul, Int.mul_sub, Int.add_mul, Int.one_mul, Int.mul_one, Int.mul_assoc]
    omega
  refine ⟨e, ?_⟩
  rw [e]
  have h4 : a12 * P ≤ (b - 1) * P := Int.mul_le_mul_of_nonneg_right (by omega) (by omega)
  have h5 : (b - 1) * P = b * P - P := by rw [Int.sub_mul, Int.one_mul]
  have h6 : (1 * P - 1) * b = b * P - b := by rw [Int.sub_mul, Int.one_mul, Int.one_mul, Int.mul_comm]
  omega
theorem d3_start2 {a12 a3 b b1 b2 P : Int} (hP1 : 4 ≤ P) (hb : b = P * P - 1) (hb1 : b1 = P - 1) (hb2 : b2 = P - 1) (h3 : a3 < P) (h0 : 0 ≤ a12) :
    (a12.fmod b1 * P + a3) - a12.fdiv b1 * b2 = (a12 * P + a3) - a12.fdiv b1 * b ∧ (a12.fmod b1 * P + a3) - a12.fdiv b1 * b2 < b := by
  rw [Int.fmod_eq_emod_of_nonneg _ (by omega), Int.fdiv_eq_ediv_of_nonneg _ (by omega)]
  have h6 := Int.mul_ediv_add_emod a12 b1
  have h7 := Int.emod_lt_of_pos a12 (show 0 < b1 by omega)
  have hq := Int.ediv_nonneg h0 (show 0 ≤ b1 by omega)
  have hq2 := Int.mul_nonneg hq (show 0 ≤ b1 by omega)
  generalize a12 / b1 = q at *
  generalize a12 % b1 = r at *
  subst h6 hb hb1 hb2
  have h8 : r * P ≤ (P - 2) * P := Int.mul_le_mul_of_nonneg_right (by omega) (by omega)
  have h9 : 0 ≤ P * P := Int.mul_nonneg (by omega) (by omega)
  refine ⟨?_, ?_⟩
  · simp only [Int.sub_mul, Int.mul_sub, Int.add_mul, Int.one_mul, Int.mul_one]
    have : P * q * P = q * (P * P) := by rw [Int.mul_comm P q, Int.mul_assoc]
    omega
  · have e1 : (P - 2) * P = P * P - 2 * P := by rw [Int.sub_mul]
    omega
theorem d3_turn {A b q r : Int} (h : r = A - q * b) (hn : r < 0) : r + b = A - (q - 1) * b ∧ r + b < b := by
  refine ⟨?_, by omega⟩
  rw [Int.sub_mul, Int.one_mul]; omega
theorem d3_end {A b q r : Int} (h : r = A - q * b ∧ r < b) (hb : 0 < b) (h2 : ¬ r < 0) : q = A / b ∧ r = A % b := by
  have := (Int.ediv_emod_unique (a := A) (b := b) (q := q) (r := r) hb).mpr ⟨by rw [Int.mul_comm]; omega, by omega, h.2⟩
  exact ⟨this.1.symm, this.2.symm⟩
theorem d3_fin {h₀ : Heap} {L : Addr} {m : Str → Option Value} {news l' : List (Addr × Obj)} {s : Shared} {Q : Value → Shared → Prop} {A b q r : Int} {D : Addr} {t1 t2 : Tok} {h : Heap} {tk : Nat}
   (ret : ∀ (D : Addr) (t1 t2 : Tok) (h : Heap) (tk : Nat), Fr h₀ L h m → News h₀ L h ((D, tup2 (A / b) (A % b) t1 t2 0) :: news) → (∀ p ∈ news, p.1 < D) → Q (.ref D) { s with heap := h, toks := tk })
   (hi : r = A - q * b) (hi2 : r < b) (hn : ¬ r < 0) (hb : 0 < b) (F : Fr h₀ L h m) (N : News h₀ L h ((D, tup2 q r t1 t2 0) :: l')) (hs : ∀ p ∈ news, p ∈ l') (hl : ∀ p ∈ news, p.1 < D) : Q (.ref D) { s with heap := h, toks := tk } := by
  obtain ⟨e1, e2⟩ := d3_end ⟨hi, hi2⟩ hb hn
  subst e1 e2
  exact ret D t1 t2 h tk F (cb_drop N (by intro p hp; rcases List.mem_cons.mp hp with rfl | hp; exact .head _; exact .tail _ (hs p hp))) hl
theorem div3 {w : World} {mean : ExcName → Option Value} {mg mb : Str → Option Value} (dp un : Nat) (gd : Option (List Code)) (cn : Str) (cs : Scope) (ca : Addr) (ccd : Value) (cl : List (Str × Addr)) (outer : List Env) (A₀ : Around) (base h₀ : Heap) (L : Addr) (m : Str → Option Value) (s : Shared) (Q E : Value → Shared → Prop) (news : List (Addr × Obj))
  (B : Below A₀ base outer h₀) (F : Fr h₀ L s.heap m) (X : (Mine.hp w.params).In h₀) (N : News h₀ L s.heap news) (T : Top topProg (looseW Mine.vw Mine.lo ++ (recsOf Mine.vw).map (·.name) ++ (litsOf Mine.vw).map (·.1) ++ (clssOf Mine.vw (looseW Mine.vw Mine.lo)).map (·.name)) mean mg mb h₀) (hk : cs.kind = .function)
  (a12 a3 b b1 b2 n : Int) (t0 t1 t2 t3 t4 t5 : Tok) (P : Int) (hn : 2 ≤ n) (hn2 : n ≤ 12) (hP : (2 : Int) ^ n.toNat = P) (hP1 : 4 ≤ P) (hP2 : P ≤ 4096)
  (hb : b = P * P - 1) (hbb : b ≤ 16777215) (hb1 : b1 = P - 1) (hb2 : b2 = P - 1) (h0 : 0 ≤ a12) (h1 : a12 < b) (h2 : 0 ≤ a3) (h3 : a3 < P)
  (hd : dp + 2 < recursionLimit) (hu : un + 16 < cLine)
  (ret : ∀ (D : Addr) (t1 t2 : Tok) (h : Heap) (tk : Nat), Fr h₀ L h m → News h₀ L h ((D, tup2 ((a12 * P + a3) / b) ((a12 * P + a3) % b) t1 t2 0) :: news) → (∀ p ∈ news, p.1 < D) → Q (.ref D) { s with heap := h, toks := tk }) :
  wpAny (model Mine.rw.prog w) (ktrTop dp un gd cn cs L ca ccd cl outer) (call (.ref 45) [.int a12 t0, .int a3 t1, .int b t2, .int b1 t3, .int b2 t4, .int n t5]) Q E s := by
  k_with_none
  k_with "execs cons" => (k_here; first | k_gentoks | (k_made; walk_at "execs cons") | ((with_reducible refine execs_consF ?_); intro qz))
  k_with "storeName" => (k_here; (fail_if_success (k_extra "unfolded")); k_dflt (first | (refine' storeX_LF ?F ?N ?_ ?a ?b; (case F => k_asm); (case N => k_asm); (case a => rfl); (case b => rfl); k_whole; intro h' tk' mz F' N'; (try k_sweep)) | (refine' storeX_CF ?F ?N ?c ?U ?d ?_ ?a ?b; (case a => rfl); (case b => rfl); (case F => k_asm); (case N => k_asm); (case c => rfl); (case U => k_updF); (case d => k_asm); k_whole; intro h' o' F' N' d'; (try dsimp only at N'); (try k_sweep))))
  k_with "LeaveF" => (k_dflt (refine' leaveF_ ?k1 ?k2 ?_; (case k1 => k_asm); (case k2 => k_asm); k_whole); intro kF kN; (try ground_anew kF); (try have kX := kFor kF (by k_asm)))
  k_with "LeaveF" => (k_made; walk_at "LeaveF")
  k_with "zUR" => (have hcL9 := cLine_is; omega)
  k_with "zNE" => (refine neN ?_; (try dsimp only); first | with_reducible (first | (refine neA0 (by assumption) ?_; focus ((repeat (first | exact And.left | exact id | refine andR ?_)); done)) | (refine neB0 (by assumption) ?_; focus ((repeat (first | exact And.left | exact id | refine andR ?_)); done)) | (refine neC (by assumption) ?_; focus ((repeat (first | exact And.left | exact id | refine andR ?_)); done)) | (refine neCs (by assumption) ?_; focus ((repeat (first | exact And.left | exact id | refine andR ?_)); done)) | (refine neA1 (by assumption) ?_; focus ((repeat (first | exact And.left | exact id | refine andR ?_)); done)) | (refine neB1 (by assumption) ?_; focus ((repeat (first | exact And.left | exact id | refine andR ?_)); done)) | (refine neA2 (by assumption) ?_; focus ((repeat (first | exact And.left | exact id | refine andR ?_)); done)) | (refine neB2 (by assumption) ?_; focus ((repeat (first | exact And.left | exact id | refine andR ?_)); done)) | (refine neA3 (by assumption) ?_; focus ((repeat (first | exact And.left | exact id | refine andR ?_)); done)) | (refine neB3 (by assumption) ?_; focus ((repeat (first | exact And.left | exact id | refine andR ?_)); done))) | omega)
  k_with "zRM" => (with_reducible first | exact room1 (by assumption) (by assumption) (by decide) | exact room2 (by assumption) (by assumption) (by decide) | exact room3 (by assumption) (by assumption) (by decide) | exact room4 (by assumption) (by assumption) (by decide) | exact room5 (by assumption) (by assumption) (by decide) | exact room0 (by assumption))
  k_with "zALL" => first | assumption | with_reducible (first | (refine nwA0 (by assumption) ?_; focus ((refine andR ?_); (repeat (first | exact id | refine andR ?_)); done)) | (refine nwA1 (by assumption) ?_; focus ((refine andR ?_); (repeat (first | exact id | refine andR ?_)); done)) | (refine nwA2 (by assumption) ?_; focus ((refine andR ?_); (repeat (first | exact id | refine andR ?_)); done)) | (refine nwA3 (by assumption) ?_; focus ((refine andR ?_); (repeat (first | exact id | refine andR ?_)); done)))
  k_with "unfolded" => skip
  k_with "exec While" => (k_here; k_while (fun script r q => r = (a12 * P + a3) - q * b ∧ r < b) (fun script r q => (-r).toNat) "r" "q")
  k_with "state" => first | exact d3_turn (by assumption) (by assumption) | exact d3_start1 (by assumption) (by assumption) (by assumption) (by assumption) (by assumption) (by assumption) | exact d3_start2 (by assumption) (by assumption) (by assumption) (by assumption) (by assumption) (by assumption)
  have hbp : 0 < b := by have := Int.mul_le_mul_of_nonneg_right hP1 (show (0:Int) ≤ P by omega); omega
  k_with "binaryOp LShift int int" => ((with_reducible refine lshP (by assumption) (by omega) (by omega) (by first | omega | exact d3_sm1 (by assumption) (by assumption) (by assumption) (by assumption) (by assumption) (by assumption) (by assumption) | exact d3_sm2 (by assumption) (by assumption) (by assumption)) ?_))
  k_with "binaryOp RShift int int" => ((with_reducible refine rshP (by assumption) (by omega) ?_))
  k_with "binaryOp BitOr int int" => ((with_reducible refine orP (by assumption) (by first | exact d3_pos1 (by assumption) (by assumption) (by assumption) (by assumption) | exact d3_pos2 (by assumption) (by assumption)) (by omega) (by omega) ?_))
  k_with "call ref" => (k_here; (with_reducible show wpAny _ _ (call (Value.ref 38) [Value.int _ _, Value.int _ _, Value.int _ _]) _ _ _); (with_unfolding_all refine' div2 _ _ _ _ _ _ _ _ _ _ _ _ _ _ _ _ _ _ ?k1 ?k2 ?k3 ?k4 ?k5 ?kK _ _ _ _ _ _ ?a1 ?a2 ?a3 ?a4 ?a5 ?a6 ?kd ?ku ?_); (case k1 => k_asm); (case k2 => k_asm); (case k3 => k_asm); (case k4 => k_asm); (case k5 => k_asm); (case kK => first | exact rfl | assumption); (case a1 => omega); (case a2 => omega); (case a3 => omega); (case a4 => omega); (case a5 => omega); (case a6 => omega); (case kd => ktr_room); (case ku => ktr_units); intro D' t1' t2' h' tk' F' N' l1; (try k_lt l1); (try dsimp only); (try k_fold); (try k_sweep))
  k_dflt (refine' code_defF ?k1 ?k2 ?k3 ?k4 ?k5 ?kA ?kZ ?kF ?kK ?k6 ?k7 ?k8 ?k9 ?kB ?_ ?c2 ?c3 ?c4 ?c5; (case kA => exact rfl); (case kZ => first | with_reducible assumption | exact ktrDepth); (case kF => exact rfl); (case kK => first | exact rfl | assumption); (case k1 => k_asm); (case k2 => k_asm); (case k3 => k_asm); (case k4 => k_asm); (case k5 => k_asm); (case k6 => k_is); (case k7 => k_is); (case k8 => ktr_room); (case k9 => (first | exact BindsTo.of_eq (binds := []) rfl | exact BindsTo.of_eq (binds := [(_, _)]) rfl | exact BindsTo.of_eq (binds := [(_, _), (_, _)]) rfl | exact BindsTo.of_eq (binds := [(_, _), (_, _), (_, _)]) rfl | exact BindsTo.of_eq (binds := [(_, _), (_, _), (_, _), (_, _)]) rfl | exact BindsTo.of_eq (binds := [(_, _), (_, _), (_, _), (_, _), (_, _)]) rfl | exact BindsTo.of_eq rfl)); (case c5 => decide); (case kB => exact locs rfl); (case c2 => exact rfl); (case c3 => exact rfl); (case c4 => exact rfl); k_whole; intro qr er g' L' h' tk' FG' mz F' N' B' X' T' az hzd hzu qz ez; (try dsimp only [ktrTop] at hzu); (try k_lift B'))
  k_steps
  all_goals (refine d3_fin ret (by assumption) (by assumption) (by first | assumption | omega) hbp (by assumption) (by assumption) (by (focus (intro p hp; (repeat (first | exact hp | refine memT ?_)); done))) (by (first | assumption | exact ktn_ltOf (by assumption) | exact ktn_ltOf (And.right (by assumption)) | exact ktn_ltOf (And.right (And.right (by assumption))) | exact ktn_ltOf (And.right (And.right (And.right (by assumption)))) | exact ktn_ltOf (And.right (And.right (And.right (And.right (by assumption))))) | exact ktn_ltOf (And.right (And.right (And.right (And.right (And.right (by assumption)))))) | exact ktn_ltOf (And.right (And.right (And.right (And.right (And.right (And.right (by assumption))))))))))
end ZC2
section ZC3
open PySem PySem.W PySem.Spec PySem.Calls PyProof.Rows
set_option rowWalk.seconds 0
set_option compiler.extract_closed false
set_option maxRecDepth 100000
set_option maxHeartbeats 8000000
set_option pp.deepTerms false
set_option pp.deepTerms.threshold 10
set_option pp.maxSteps 20000
theorem div3q {w : World} {mean : ExcName → Option Value} {mg mb : Str → Option Value} (dp un : Nat) (gd : Option (List Code)) (cn : Str) (cs : Scope) (ca : Addr) (ccd : Value) (cl : List (Str × Addr)) (outer : List Env) (A₀ : Around) (base h₀ : Heap) (L : Addr) (m : Str → Option Value) (s : Shared) (Q E : Value → Shared → Prop) (news : List (Addr × Obj))
  (B : Below A₀ base outer h₀) (F : Fr h₀ L s.heap m) (X : (Mine.hp w.params).In h₀) (N : News h₀ L s.heap news) (T : Top topProg (looseW Mine.vw Mine.lo ++ (recsOf Mine.vw).map (·.name) ++ (litsOf Mine.vw).map (·.1) ++ (clssOf Mine.vw (looseW Mine.vw Mine.lo)).map (·.name)) mean mg mb h₀) (hk : cs.kind = .function)
  (a12 a3 b b1 b2 n : Int) (t0 t1 t2 t3 t4 t5 : Tok) (P : Int) (hn : 2 ≤ n) (hn2 : n ≤ 12) (hP : (2 : Int) ^ n.toNat = P) (hP1 : 4 ≤ P) (hP2 : P ≤ 4096)
  (hb : b = P * P - 1) (hbb : b ≤ 16777215) (hb1 : b1 = P - 1) (hb2 : b2 = P - 1) (h0 : 0 ≤ a12) (h1 : a12 < b) (h2 : 0 ≤ a3) (h3 : a3 < P)
  (hd : dp + 2 < recursionLimit) (hu : un + 16 < cLine)
  (ret : ∀ (q r : Int) (D : Addr) (t1 t2 : Tok) (h : Heap) (tk : Nat), 0 ≤ q → q ≤ P - 1 → 0 ≤ r → r < b → a12 * P + a3 = q * b + r → Fr h₀ L h m → News h₀ L h ((D, tup2 q r t1 t2 0) :: news) → (∀ p ∈ news, p.1 < D) → Q (.ref D) { s with heap := h, toks := tk }) :
  wpAny (model Mine.rw.prog w) (ktrTop dp un gd cn cs L ca ccd cl outer) (call (.ref 45) [.int a12 t0, .int a3 t1, .int b t2, .int b1 t3, .int b2 t4, .int n t5]) Q E s := by
  have hbp : 0 < b := by have := Int.mul_le_mul_of_nonneg_right hP1 (show (0:Int) ≤ P by omega); omega
  have hA : 0 ≤ a12 * P + a3 := by have := Int.mul_nonneg h0 (show (0:Int) ≤ P by omega); omega
  refine div3 _ _ _ _ _ _ _ _ _ _ _ _ _ _ _ _ _ _ B F X N T hk a12 a3 b b1 b2 n t0 t1 t2 t3 t4 t5 P hn hn2 hP hP1 hP2 hb hbb hb1 hb2 h0 h1 h2 h3 hd hu (fun D t1 t2 h tk F' N' l => ret _ _ D t1 t2 h tk (Int.ediv_nonneg hA (by omega)) ?_ (Int.emod_nonneg _ (by omega)) (Int.emod_lt_of_pos _ hbp) ?_ F' N' l)
  · have h4 : a12 * P ≤ (b - 1) * P := Int.mul_le_mul_of_nonneg_right (by omega) (by omega)
    have h5 : (b - 1) * P = b * P - P := by rw [Int.sub_mul, Int.one_mul]
    have h6 : (a12 * P + a3) / b < P := Int.ediv_lt_of_lt_mul hbp (by rw [Int.mul_comm P b]; omega)
    omega
  · rw [Int.mul_comm ((a12 * P + a3) / b)]; exact (Int.mul_ediv_add_emod _ _).symm
section
variable {prog : Program} {w : World} {A : Around} {E : Value → Shared → Prop} {s : Shared} {a b n P : Int} {t u : Tok} {Q : Value → Shared → Prop}
theorem lshP2 (hP : (2 : Int) ^ n.toNat = P) (hn : 0 ≤ n) (hn2 : n ≤ 1000) (h : Q (.int (P * P) s.toks) { s with toks := s.toks + 1 }) :
    wpAny (model prog w) A (binaryOp .LShift (.int 1 t) (.int (2 * n) u)) Q E s := lshift_int_small (by omega) (by omega) (by omega) (by
      have : (1 : Int) * 2 ^ (2 * n).toNat = P * P := by
        rw [show (2 * n).toNat = n.toNat + n.toNat by omega, Int.pow_add, hP, Int.one_mul]
      rw [this]; exact h)
theorem andP (hP : (2 : Int) ^ n.toNat = P) (h : Q (.int (a % P) s.toks) { s with toks := s.toks + 1 }) :
    wpAny (model prog w) A (binaryOp .BitAnd (.int a t) (.int (1 * P - 1) u)) Q E s := and_int (by subst hP; rw [Int.one_mul, kbt_mask]; exact h)
theorem rshPe (hP : (2 : Int) ^ n.toNat = P) (hn : 0 ≤ n) (h : Q (.int (a / P) s.toks) { s with toks := s.toks + 1 }) :
    wpAny (model prog w) A (binaryOp .RShift (.int a t) (.int n u)) Q E s := rshift_int hn (by rw [hP, Int.fdiv_eq_ediv_of_nonneg _ (by have := kbt_pos n.toNat; omega)]; exact h)
end
noncomputable def prefS : List Int → Int → List Int
  | [], _ => []
  | n :: r, a => a :: prefS r (a + n)
theorem prefS_app (l : List Int) (n : Int) : ∀ a, prefS (l ++ [n]) a = prefS l a ++ [a + l.sum] := by
  induction l with
  | nil => intro a; simp [prefS]
  | cons x r ih => intro a; simp only [List.cons_append, prefS, ih, List.sum_cons]; rw [Int.add_assoc]
theorem prefS_len (l : List Int) : ∀ a, (prefS l a).length = l.length := by
  induction l with
  | nil => intro a; rfl
  | cons x r ih => intro a; simp only [prefS, List.length_cons, ih]
theorem sm_start {W : Int} (h : 4 ≤ W) (h' : W * W - 1 ≤ 16777215) : (0 : Int) = ([] : List Int).sum ∧ (0 : Int) ≤ 0 ∧ (0 : Int) < W * W - 1 ∧ ([] : List Int) = prefS [] 0 ∧ ([] : List Int).length = ([] : List Int).length :=
  ⟨rfl, by omega, by have := Int.mul_le_mul_of_nonneg_right h (show (0:Int) ≤ W by omega); omega, rfl, rfl⟩
theorem sm_mem {ns : List Int} {k : Int} (hpos : ∀ x ∈ ns, 0 ≤ x) (hm : k ∈ ns ++ [0]) : 0 ≤ k ∧ k ≤ ns.sum := by
  have hs : ∀ {l : List Int}, (∀ x ∈ l, 0 ≤ x) → 0 ≤ l.sum := by
    intro l; induction l with
    | nil => intro _; simp
    | cons a r ih => intro h; rw [List.sum_cons]; have := ih fun x hx => h x (.tail _ hx); have := h a (.head _); omega
  rcases List.mem_append.mp hm with h | h
  · refine ⟨hpos _ h, ?_⟩
    clear hm
    induction ns with
    | nil => cases h
    | cons a r ih =>
      rw [List.sum_cons]
      have h0 := hs (l := r) fun x hx => hpos x (.tail _ hx)
      have h1 := hpos a (.head _)
      rcases List.mem_cons.mp h with rfl | h
      · omega
      · have := ih (fun x hx => hpos x (.tail _ hx)) h; omega
  · rw [List.mem_singleton.mp h]; exact ⟨Int.le_refl _, hs hpos⟩
theorem sm_pre {ns pre post : List Int} {k : Int} (hpos : ∀ x ∈ ns, 0 ≤ x) (e : ns ++ [0] = pre ++ k :: post) : pre.sum + k ≤ ns.sum := by
  have h1 := congrArg List.sum e
  simp only [List.sum_append, List.sum_cons, List.sum_nil] at h1
  have hs : ∀ {l : List Int}, (∀ x ∈ l, 0 ≤ x) → 0 ≤ l.sum := by
    intro l; induction l with
    | nil => intro _; simp
    | cons a r ih => intro h; rw [List.sum_cons]; have := ih fun x hx => h x (.tail _ hx); have := h a (.head _); omega
  have h2 : 0 ≤ post.sum := hs fun x hx => by
    have : x ∈ ns ++ [0] := by rw [e]; exact List.mem_append.mpr (.inr (.tail _ hx))
    exact (sm_mem hpos this).1
  omega
theorem sm_turn {ns pre post sm : List Int} {P k rest q1 r1 q2 r2 : Int} (hP1 : 4 ≤ P) (hpos : ∀ x ∈ ns, 0 ≤ x) (hsum : ns.sum < P * P - 1) (e : ns ++ [0] = pre ++ k :: post) (hr : rest = pre.sum) (hs : sm = prefS pre 0) (hl : sm.length = pre.length)
    (a1 : rest * P + k / P = q1 * (P * P - 1) + r1) (a2 : r1 * P + k % P = q2 * (P * P - 1) + r2) (b1 : 0 ≤ r2) (b2 : r2 < P * P - 1) (b3 : 0 ≤ rest) :
    r2 = (pre ++ [k]).sum ∧ 0 ≤ r2 ∧ r2 < P * P - 1 ∧ sm ++ [q1 * P + q2] = prefS (pre ++ [k]) 0 ∧ (sm ++ [q1 * P + q2]).length = (pre ++ [k]).length := by
  have hk : 0 ≤ k := (sm_mem hpos (by rw [e]; exact List.mem_append.mpr (.inr (.head _)))).1
  have h1 := sm_pre hpos e
  have hW : 0 < P * P - 1 := by omega
  have key : rest * (P * P - 1) + (rest + k) = (q1 * P + q2) * (P * P - 1) + r2 := by
    have h2 := Int.mul_ediv_add_emod k P
    have h3 : (rest * P + k / P) * P = (q1 * (P * P - 1) + r1) * P := by rw [a1]
    rw [Int.add_mul, Int.add_mul, Int.mul_assoc rest P P] at h3
    have h4 : q1 * (P * P - 1) * P = q1 * P * (P * P - 1) := by rw [Int.mul_assoc, Int.mul_comm (P * P - 1), ← Int.mul_assoc]
    rw [h4] at h3
    rw [Int.add_mul]
    have h5 : rest * (P * P - 1) = rest * (P * P) - rest := by rw [Int.mul_sub, Int.mul_one]
    rw [Int.mul_comm P] at h2
    omega
  have u1 := (Int.ediv_emod_unique (a := rest * (P * P - 1) + (rest + k)) (q := rest) (r := rest + k) hW).mpr ⟨by rw [Int.mul_comm]; omega, by omega, by omega⟩
  have u2 := (Int.ediv_emod_unique (a := rest * (P * P - 1) + (rest + k)) (q := q1 * P + q2) (r := r2) hW).mpr ⟨by rw [Int.mul_comm]; omega, by omega, by omega⟩
  have e1 : q1 * P + q2 = rest := by rw [← u2.1, u1.1]
  have e2 : r2 = rest + k := by rw [← u2.2, u1.2]
  refine ⟨by rw [e2, hr]; simp, b1, b2, ?_, by simp [hl]⟩
  rw [prefS_app, e1, hs, hr, Int.zero_add]
theorem sm_fin {us : List Value} {sm ns : List Int} (h : IntsAre us (List.drop 1 sm)) (e : sm = prefS (ns ++ [0]) 0) : IntsAre us (prefS (ns ++ [0]) 0).tail := by
  rw [← e, ← List.drop_one]; exact h
theorem sums {w : World} {mean : ExcName → Option Value} {mg mb : Str → Option Value} (dp un : Nat) (gd : Option (List Code)) (cn : Str) (cs : Scope) (ca : Addr) (ccd : Value) (cl : List (Str × Addr)) (outer : List Env) (A₀ : Around) (base h₀ : Heap) (L : Addr) (m : Str → Option Value) (s : Shared) (Q E : Value → Shared → Prop) (news : List (Addr × Obj))
  (B : Below A₀ base outer h₀) (F : Fr h₀ L s.heap m) (X : (Mine.hp w.params).In h₀) (N : News h₀ L s.heap news) (T : Top topProg (looseW Mine.vw Mine.lo ++ (recsOf Mine.vw).map (·.name) ++ (litsOf Mine.vw).map (·.1) ++ (clssOf Mine.vw (looseW Mine.vw Mine.lo)).map (·.name)) mean mg mb h₀) (hk : cs.kind = .function)
  (l : Addr) (vs : List Value) (ns : List Int) (nn : Nat) (n : Int) (t1 : Tok) (P : Int) (hn : 2 ≤ n) (hn2 : n ≤ 12) (hP : (2 : Int) ^ n.toNat = P) (hP1 : 4 ≤ P) (hP2 : P ≤ 4096) (hbb : P * P - 1 ≤ 16777215)
  (hl : (l, listOf vs.toArray nn) ∈ news) (hi : IntsAre vs ns) (hlen : ns.length < 1000) (hpos : ∀ x ∈ ns, 0 ≤ x) (hsum : ns.sum < P * P - 1)
  (hd : dp + 4 < recursionLimit) (hu : un + 32 < cLine)
  (ret : ∀ (D : Addr) (vs' : List Value) (nn' : Nat) (h : Heap) (tk : Nat), IntsAre vs' (prefS (ns ++ [0]) 0).tail → Fr h₀ L h m → News h₀ L h ((D, listOf vs'.toArray nn') :: news) → (∀ p ∈ news, p.1 < D) → Q (.ref D) { s with heap := h, toks := tk }) :
  wpAny (model Mine.rw.prog w) (ktrTop dp un gd cn cs L ca ccd cl outer) (call (.ref 144) [.ref l, .int n t1]) Q E s := by
  k_with_none
  k_with "execs cons" => (k_here; first | k_gentoks | (k_made; walk_at "execs cons") | ((with_reducible refine execs_consF ?_); intro qz))
  k_with "storeName" => (k_here; (fail_if_success (k_extra "unfolded")); k_dflt (first | (refine' storeX_LF ?F ?N ?_ ?a ?b; (case F => k_asm); (case N => k_asm); (case a => rfl); (case b => rfl); k_whole; intro h' tk' mz F' N'; (try k_sweep)) | (refine' storeX_CF ?F ?N ?c ?U ?d ?_ ?a ?b; (case a => rfl); (case b => rfl); (case F => k_asm); (case N => k_asm); (case c => rfl); (case U => k_updF); (case d => k_asm); k_whole; intro h' o' F' N' d'; (try dsimp only at N'); (try k_sweep))))
  k_with "LeaveF" => (k_dflt (refine' leaveF_ ?k1 ?k2 ?_; (case k1 => k_asm); (case k2 => k_asm); k_whole); intro kF kN; (try ground_anew kF); (try have kX := kFor kF (by k_asm)))
  k_with "LeaveF" => (k_made; walk_at "LeaveF")
  k_with "zUR" => (have hcL9 := cLine_is; omega)
  k_with "zNE" => (refine neN ?_; (try dsimp only); first | with_reducible (first | (refine neA0 (by assumption) ?_; focus ((repeat (first | exact And.left | exact id | refine andR ?_)); done)) | (refine neB0 (by assumption) ?_; focus ((repeat (first | exact And.left | exact id | refine andR ?_)); done)) | (refine neC (by assumption) ?_; focus ((repeat (first | exact And.left | exact id | refine andR ?_)); done)) | (refine neCs (by assumption) ?_; focus ((repeat (first | exact And.left | exact id | refine andR ?_)); done)) | (refine neA1 (by assumption) ?_; focus ((repeat (first | exact And.left | exact id | refine andR ?_)); done)) | (refine neB1 (by assumption) ?_; focus ((repeat (first | exact And.left | exact id | refine andR ?_)); done)) | (refine neA2 (by assumption) ?_; focus ((repeat (first | exact And.left | exact id | refine andR ?_)); done)) | (refine neB2 (by assumption) ?_; focus ((repeat (first | exact And.left | exact id | refine andR ?_)); done)) | (refine neA3 (by assumption) ?_; focus ((repeat (first | exact And.left | exact id | refine andR ?_)); done)) | (refine neB3 (by assumption) ?_; focus ((repeat (first | exact And.left | exact id | refine andR ?_)); done))) | omega)
  k_with "zRM" => (with_reducible first | exact room1 (by assumption) (by assumption) (by decide) | exact room2 (by assumption) (by assumption) (by decide) | exact room3 (by assumption) (by assumption) (by decide) | exact room4 (by assumption) (by assumption) (by decide) | exact room5 (by assumption) (by assumption) (by decide) | exact room0 (by assumption))
  k_with "zALL" => first | assumption | with_reducible (first | (refine nwA0 (by assumption) ?_; focus ((refine andR ?_); (repeat (first | exact id | refine andR ?_)); done)) | (refine nwA1 (by assumption) ?_; focus ((refine andR ?_); (repeat (first | exact id | refine andR ?_)); done)) | (refine nwA2 (by assumption) ?_; focus ((refine andR ?_); (repeat (first | exact id | refine andR ?_)); done)) | (refine nwA3 (by assumption) ?_; focus ((refine andR ?_); (repeat (first | exact id | refine andR ?_)); done)))
  k_with "unfolded" => skip
  k_with "pyIter ref" => k_state (fun pre rest sums => rest = pre.sum ∧ 0 ≤ rest ∧ rest < P * P - 1 ∧ sums = prefS pre 0 ∧ sums.length = pre.length) "rest" "sums"
  k_with "state" => first | exact sm_start (by assumption) (by assumption) | exact sm_turn (by assumption) (by assumption) (by assumption) (by assumption) (by assumption) (by assumption) (by assumption) (by assumption) (by assumption) (by assumption) (by assumption) (by assumption)
  k_with "num" => first | exact Int.ediv_nonneg (sm_mem hpos (by assumption)).1 (by omega) | exact Int.ediv_lt_of_lt_mul (by omega) (by have := (sm_mem hpos (by assumption)).2; omega)
  k_with "num" => first | exact Int.emod_nonneg _ (by omega) | exact Int.emod_lt_of_pos _ (by omega)
  k_with "binaryOp RShift int int" => ((with_reducible refine rshPe (by assumption) (by omega) ?_))
  k_with "binaryOp BitAnd int int" => ((with_reducible refine andP (by assumption) ?_))
  k_with "binaryOp BitOr int int" => ((with_reducible refine orP (by assumption) (by omega) (by omega) (by omega) ?_))
  k_with "call ref" => (k_here; (with_reducible show wpAny _ _ (call (Value.ref 45) [Value.int _ _, Value.int _ _, Value.int _ _, Value.int _ _, Value.int _ _, Value.int _ _]) _ _ _); (with_unfolding_all refine' div3q _ _ _ _ _ _ _ _ _ _ _ _ _ _ _ _ _ _ ?k1 ?k2 ?k3 ?k4 ?k5 ?kK _ _ _ _ _ _ _ _ _ _ _ _ _ ?a1 ?a2 ?a3 ?a4 ?a5 ?a6 ?a7 ?a8 ?a9 ?b1 ?b2 ?b3 ?b4 ?kd ?ku ?_); (case k1 => k_asm); (case k2 => k_asm); (case k3 => k_asm); (case k4 => k_asm); (case k5 => k_asm); (case kK => first | exact rfl | assumption); (case a3 => assumption); (case a1 => omega); (case a2 => omega); (case a4 => omega); (case a5 => omega); (case a6 => omega); (case a7 => omega); (case a8 => omega); (case a9 => omega); (case b1 => omega); (case b2 => omega); (case b3 => k_extra "num"); (case b4 => k_extra "num"); (case kd => ktr_room); (case ku => ktr_units); intro q' r' D' t1' t2' h' tk' f1' f2' f3' f4' f5' F' N' l1; (try k_lt l1); (try dsimp only); (try k_fold); (try k_sweep))
  k_with "binaryOp Add ref ref" => (k_here; (with_reducible show wpAny _ _ (binaryOp _ (Value.ref _) (Value.ref _)) _ _ _); k_dflt (refine' kmk_add_ints ?F ?N ?a ?b ?i ?j ?_ ?z; (case F => k_asm); (case N => k_asm); (case a => exact News.isList (by assumption) (by (focus first | ((repeat (first | exact memH | ((fail_if_success (refine nilX ?_)); refine memT ?_))); done) | ((repeat (first | assumption | ((fail_if_success (refine nilX ?_)); refine memT ?_))); done)))); (case b => exact News.isList (by assumption) (by (focus first | ((repeat (first | exact memH | ((fail_if_success (refine nilX ?_)); refine memT ?_))); done) | ((repeat (first | assumption | ((fail_if_success (refine nilX ?_)); refine memT ?_))); done)))); (case i => (first | assumption | l_ints)); (case j => l_ints); (case z => (simp only [sizeLine_eq, List.length_cons, List.length_nil]; omega))); intro D' ws' h' F' N' l1 hI'; (try k_lt l1); (try k_sweep))
  k_with "exec For" => (k_here; (rename Fr _ _ _ _ => lF'); (with_unfolding_all refine' For_invVF lF' ?k1 ?k2 ?_; (case k1 => exact rfl); (case k2 => exact rfl); k_whole))
  k_with "binaryOp LShift int int" => (first | ((with_reducible refine lshP (by assumption) (by omega) (by omega) (by omega) ?_)) | ((with_reducible refine lshP2 (by assumption) (by omega) (by omega) ?_)))
  k_dflt (refine' code_defF ?k1 ?k2 ?k3 ?k4 ?k5 ?kA ?kZ ?kF ?kK ?k6 ?k7 ?k8 ?k9 ?kB ?_ ?c2 ?c3 ?c4 ?c5; (case kA => exact rfl); (case kZ => first | with_reducible assumption | exact ktrDepth); (case kF => exact rfl); (case kK => first | exact rfl | assumption); (case k1 => k_asm); (case k2 => k_asm); (case k3 => k_asm); (case k4 => k_asm); (case k5 => k_asm); (case k6 => k_is); (case k7 => k_is); (case k8 => ktr_room); (case k9 => (first | exact BindsTo.of_eq (binds := []) rfl | exact BindsTo.of_eq (binds := [(_, _)]) rfl | exact BindsTo.of_eq (binds := [(_, _), (_, _)]) rfl | exact BindsTo.of_eq (binds := [(_, _), (_, _), (_, _)]) rfl | exact BindsTo.of_eq (binds := [(_, _), (_, _), (_, _), (_, _)]) rfl | exact BindsTo.of_eq (binds := [(_, _), (_, _), (_, _), (_, _), (_, _)]) rfl | exact BindsTo.of_eq rfl)); (case c5 => decide); (case kB => exact locs rfl); (case c2 => exact rfl); (case c3 => exact rfl); (case c4 => exact rfl); k_whole; intro qr er g' L' h' tk' FG' mz F' N' B' X' T' az hzd hzu qz ez; (try dsimp only [ktrTop] at hzu); (try k_lift B'))
  k_steps
  exact ret _ _ _ _ _ (sm_fin (by assumption) (by assumption)) (by assumption) (cb_drop (by assumption) (by (refine subC (by (focus first | ((repeat (first | exact memH | ((fail_if_success (refine nilX ?_)); refine memT ?_))); done) | ((repeat (first | assumption | ((fail_if_success (refine nilX ?_)); refine memT ?_))); done))) ?_; (focus (intro p hp; (repeat (first | exact hp | refine memT ?_)); done))))) (by (first | assumption | exact ktn_ltOf (by assumption) | exact ktn_ltOf (And.right (by assumption)) | exact ktn_ltOf (And.right (And.right (by assumption))) | exact ktn_ltOf (And.right (And.right (And.right (by assumption)))) | exact ktn_ltOf (And.right (And.right (And.right (And.right (by assumption))))) | exact ktn_ltOf (And.right (And.right (And.right (And.right (And.right (by assumption)))))) | exact ktn_ltOf (And.right (And.right (And.right (And.right (And.right (And.right (by assumption)))))))))
end ZC3
section ZC4
open PySem PySem.W PySem.Spec PySem.Calls PyProof.Rows
set_option rowWalk.seconds 0
set_option compiler.extract_closed false
set_option maxRecDepth 100000
set_option maxHeartbeats 8000000
set_option pp.deepTerms false
set_option pp.deepTerms.threshold 10
set_option pp.maxSteps 20000
noncomputable def blf (a b c d x : Int) : Int := if c < x then (if d < x then 4 else 3) else if b < x then 2 else if a < x then 1 else 0
noncomputable def brf (a b c d x : Int) : Int := if x < c then (if x < b then (if x < a then 0 else 1) else 2) else if x < d then 3 else 4
noncomputable abbrev l4 (a b c d : Int) (ta tb tc td : Tok) (n : Nat) : Obj := listOf #[.int a ta, .int b tb, .int c tc, .int d td] n
theorem binds_K2 {K : Frag} {s : Shared} {fd : FuncData} {args : Args} {binds : List (Str × Value)} {T D : Addr} {o od : Obj} {items : Array Value} {n : Nat} {nm : Str} {k : Option (Array Value) → Sem (List (Str × Value))} {k2 : Obj → Sem (List (Str × Value))}
    (X : K.In s.heap) (hd : fd.defaults = .ref T) (ho : K.lookup T = some o) (hs : o.data = .seq items n) (h₁ : bindArgs fd args = seqItems? fd.defaults >>= k)
    (h₂ : k (some items) = (.load D (some (.str nm 0)) k2 : Sem _)) (hD : K.lookup D = some od) (h3 : k2 od = pure binds) : BindsTo s fd args binds := fun M A E Q hq => by
  rw [h₁, hd]
  refine wpAny_bind (wpAny_seqItems (X _ _ ho) hs ?_)
  rw [h₂]
  intro Γ p hΓ
  rw [Sem.wp_load]
  refine ⟨od, X _ _ hD, ?_⟩
  rw [h3, Sem.wp_pure']
  exact hq
theorem itemK {prog : Program} {w : World} {A : Around} {E : Value → Shared → Prop} {s : Shared} {value slice : Expr} {l : Addr} {vs : List Value} {k : Int} {u : Tok} {v : Value} {Q : Value → Shared → Prop}
    (hl : s.heap.IsList l vs.toArray) (h0 : 0 ≤ k) (hhi : k < 2 ^ 63) (hx : vs[k.toNat]? = some v) (h : Q v s)
    (hs : subscripted slice false (.ref l) (.int k u) = operate [.ref l, .int k u] (getItem (.ref l) (.int k u))) :
    wpAny (model prog w) A (subscriptTail value slice (.ref l) (.int k u)) Q E s :=
  tail_any hl.typeIs slot_list_getitem.lookup (wpAny_getItem_list hl h0 hhi (by simpa using hx) h) hs
theorem bfin {h₀ h : Heap} {L : Addr} {m : Str → Option Value} {news : List (Addr × Obj)} {s : Shared} {Q : Value → Shared → Prop} {x y : Int} {t : Tok} {tk : Nat}
   (ret : ∀ (t : Tok) (h : Heap) (tk : Nat), Fr h₀ L h m → News h₀ L h news → Q (.int y t) { s with heap := h, toks := tk }) (e : x = y) (F : Fr h₀ L h m) (N : News h₀ L h news) : Q (.int x t) { s with heap := h, toks := tk } := by
  subst e; exact ret t h tk F N
theorem bisl {w : World} {mean : ExcName → Option Value} {mg mb : Str → Option Value} (dp un : Nat) (gd : Option (List Code)) (cn : Str) (cs : Scope) (ca : Addr) (ccd : Value) (cl : List (Str × Addr)) (outer : List Env) (A₀ : Around) (base h₀ : Heap) (L : Addr) (m : Str → Option Value) (s : Shared) (Q E : Value → Shared → Prop) (news : List (Addr × Obj))
  (B : Below A₀ base outer h₀) (F : Fr h₀ L s.heap m) (X : (Mine.hp w.params).In h₀) (N : News h₀ L s.heap news) (T : Top topProg (looseW Mine.vw Mine.lo ++ (recsOf Mine.vw).map (·.name) ++ (litsOf Mine.vw).map (·.1) ++ (clssOf Mine.vw (looseW Mine.vw Mine.lo)).map (·.name)) mean mg mb h₀) (hk : cs.kind = .function)
  (l : Addr) (a b c d x : Int) (ta tb tc td tx : Tok) (nn : Nat) (hl : (l, l4 a b c d ta tb tc td nn) ∈ news)
  (hd : dp + 2 < recursionLimit) (hu : un + 16 < cLine)
  (ret : ∀ (t : Tok) (h : Heap) (tk : Nat), Fr h₀ L h m → News h₀ L h news → Q (.int (blf a b c d x) t) { s with heap := h, toks := tk }) :
  wpAny (model Mine.rw.prog w) (ktrTop dp un gd cn cs L ca ccd cl outer) (call (.ref 91) [.ref l, .int x tx]) Q E s := by
  k_with_none
  k_with "execs cons" => (k_here; first | k_gentoks | (k_made; walk_at "execs cons") | ((with_reducible refine execs_consF ?_); intro qz))
  k_with "storeName" => (k_here; (fail_if_success (k_extra "unfolded")); k_dflt (first | (refine' storeX_LF ?F ?N ?_ ?a ?b; (case F => k_asm); (case N => k_asm); (case a => rfl); (case b => rfl); k_whole; intro h' tk' mz F' N'; (try k_sweep)) | (refine' storeX_CF ?F ?N ?c ?U ?d ?_ ?a ?b; (case a => rfl); (case b => rfl); (case F => k_asm); (case N => k_asm); (case c => rfl); (case U => k_updF); (case d => k_asm); k_whole; intro h' o' F' N' d'; (try dsimp only at N'); (try k_sweep))))
  k_with "LeaveF" => (k_dflt (refine' leaveF_ ?k1 ?k2 ?_; (case k1 => k_asm); (case k2 => k_asm); k_whole); intro kF kN; (try ground_anew kF); (try have kX := kFor kF (by k_asm)))
  k_with "LeaveF" => (k_made; walk_at "LeaveF")
  k_with "zUR" => (have hcL9 := cLine_is; omega)
  k_with "zNE" => (refine neN ?_; (try dsimp only); first | with_reducible (first | (refine neA0 (by assumption) ?_; focus ((repeat (first | exact And.left | exact id | refine andR ?_)); done)) | (refine neB0 (by assumption) ?_; focus ((repeat (first | exact And.left | exact id | refine andR ?_)); done)) | (refine neC (by assumption) ?_; focus ((repeat (first | exact And.left | exact id | refine andR ?_)); done)) | (refine neCs (by assumption) ?_; focus ((repeat (first | exact And.left | exact id | refine andR ?_)); done)) | (refine neA1 (by assumption) ?_; focus ((repeat (first | exact And.left | exact id | refine andR ?_)); done)) | (refine neB1 (by assumption) ?_; focus ((repeat (first | exact And.left | exact id | refine andR ?_)); done)) | (refine neA2 (by assumption) ?_; focus ((repeat (first | exact And.left | exact id | refine andR ?_)); done)) | (refine neB2 (by assumption) ?_; focus ((repeat (first | exact And.left | exact id | refine andR ?_)); done)) | (refine neA3 (by assumption) ?_; focus ((repeat (first | exact And.left | exact id | refine andR ?_)); done)) | (refine neB3 (by assumption) ?_; focus ((repeat (first | exact And.left | exact id | refine andR ?_)); done))) | omega)
  k_with "zRM" => (with_reducible first | exact room1 (by assumption) (by assumption) (by decide) | exact room2 (by assumption) (by assumption) (by decide) | exact room3 (by assumption) (by assumption) (by decide) | exact room4 (by assumption) (by assumption) (by decide) | exact room5 (by assumption) (by assumption) (by decide) | exact room0 (by assumption))
  k_with "zALL" => first | assumption | with_reducible (first | (refine nwA0 (by assumption) ?_; focus ((refine andR ?_); (repeat (first | exact id | refine andR ?_)); done)) | (refine nwA1 (by assumption) ?_; focus ((refine andR ?_); (repeat (first | exact id | refine andR ?_)); done)) | (refine nwA2 (by assumption) ?_; focus ((refine andR ?_); (repeat (first | exact id | refine andR ?_)); done)) | (refine nwA3 (by assumption) ?_; focus ((refine andR ?_); (repeat (first | exact id | refine andR ?_)); done)))
  k_with "subscriptTail Name Name ref int" => ((with_unfolding_all refine' itemK (vs := [.int a ta, .int b tb, .int c tc, .int d td]) ?k1 ?k2 ?k3 ?k4 ?_ ?k6); (case k1 => exact News.isList (by assumption) hl); (case k2 => decide); (case k3 => decide); (case k4 => rfl); (case k6 => with_unfolding_all rfl); k_whole)
  k_dflt (refine' code_defF ?k1 ?k2 ?k3 ?k4 ?k5 ?kA ?kZ ?kF ?kK ?k6 ?k7 ?k8 ?k9 ?kB ?_ ?c2 ?c3 ?c4 ?c5; (case kA => exact rfl); (case kZ => first | with_reducible assumption | exact ktrDepth); (case kF => exact rfl); (case kK => assumption); (case k1 => k_asm); (case k2 => k_asm); (case k3 => k_asm); (case k4 => k_asm); (case k5 => k_asm); (case k6 => k_is); (case k7 => k_is); (case k8 => ktr_room); (case k9 => exact binds_K2 (by k_in) rfl (by k_is) rfl rfl rfl (by k_is) (by with_unfolding_all rfl)); (case c5 => decide); (case kB => exact locs rfl); (case c2 => exact rfl); (case c3 => exact rfl); (case c4 => exact rfl); k_whole; intro qr er g' L' h' tk' FG' mz F' N' B' X' T' az hzd hzu qz ez; (try dsimp only [ktrTop] at hzu); (try k_lift B'))
  k_steps
  all_goals (refine bfin ret ?_ (by assumption) (by assumption); simp only [blf]; (repeat' split) <;> first | decide | (exfalso; omega))
theorem bisr {w : World} {mean : ExcName → Option Value} {mg mb : Str → Option Value} (dp un : Nat) (gd : Option (List Code)) (cn : Str) (cs : Scope) (ca : Addr) (ccd : Value) (cl : List (Str × Addr)) (outer : List Env) (A₀ : Around) (base h₀ : Heap) (L : Addr) (m : Str → Option Value) (s : Shared) (Q E : Value → Shared → Prop) (news : List (Addr × Obj))
  (B : Below A₀ base outer h₀) (F : Fr h₀ L s.heap m) (X : (Mine.hp w.params).In h₀) (N : News h₀ L s.heap news) (T : Top topProg (looseW Mine.vw Mine.lo ++ (recsOf Mine.vw).map (·.name) ++ (litsOf Mine.vw).map (·.1) ++ (clssOf Mine.vw (looseW Mine.vw Mine.lo)).map (·.name)) mean mg mb h₀) (hk : cs.kind = .function)
  (l : Addr) (a b c d x : Int) (ta tb tc td tx : Tok) (nn : Nat) (hl : (l, l4 a b c d ta tb tc td nn) ∈ news)
  (hd : dp + 2 < recursionLimit) (hu : un + 16 < cLine)
  (ret : ∀ (t : Tok) (h : Heap) (tk : Nat), Fr h₀ L h m → News h₀ L h news → Q (.int (brf a b c d x) t) { s with heap := h, toks := tk }) :
  wpAny (model Mine.rw.prog w) (ktrTop dp un gd cn cs L ca ccd cl outer) (call (.ref 82) [.ref l, .int x tx]) Q E s := by
  k_with_none
  k_with "execs cons" => (k_here; first | k_gentoks | (k_made; walk_at "execs cons") | ((with_reducible refine execs_consF ?_); intro qz))
  k_with "storeName" => (k_here; (fail_if_success (k_extra "unfolded")); k_dflt (first | (refine' storeX_LF ?F ?N ?_ ?a ?b; (case F => k_asm); (case N => k_asm); (case a => rfl); (case b => rfl); k_whole; intro h' tk' mz F' N'; (try k_sweep)) | (refine' storeX_CF ?F ?N ?c ?U ?d ?_ ?a ?b; (case a => rfl); (case b => rfl); (case F => k_asm); (case N => k_asm); (case c => rfl); (case U => k_updF); (case d => k_asm); k_whole; intro h' o' F' N' d'; (try dsimp only at N'); (try k_sweep))))
  k_with "LeaveF" => (k_dflt (refine' leaveF_ ?k1 ?k2 ?_; (case k1 => k_asm); (case k2 => k_asm); k_whole); intro kF kN; (try ground_anew kF); (try have kX := kFor kF (by k_asm)))
  k_with "LeaveF" => (k_made; walk_at "LeaveF")
  k_with "zUR" => (have hcL9 := cLine_is; omega)
  k_with "zNE" => (refine neN ?_; (try dsimp only); first | with_reducible (first | (refine neA0 (by assumption) ?_; focus ((repeat (first | exact And.left | exact id | refine andR ?_)); done)) | (refine neB0 (by assumption) ?_; focus ((repeat (first | exact And.left | exact id | refine andR ?_)); done)) | (refine neC (by assumption) ?_; focus ((repeat (first | exact And.left | exact id | refine andR ?_)); done)) | (refine neCs (by assumption) ?_; focus ((repeat (first | exact And.left | exact id | refine andR ?_)); done)) | (refine neA1 (by assumption) ?_; focus ((repeat (first | exact And.left | exact id | refine andR ?_)); done)) | (refine neB1 (by assumption) ?_; focus ((repeat (first | exact And.left | exact id | refine andR ?_)); done)) | (refine neA2 (by assumption) ?_; focus ((repeat (first | exact And.left | exact id | refine andR ?_)); done)) | (refine neB2 (by assumption) ?_; focus ((repeat (first | exact And.left | exact id | refine andR ?_)); done)) | (refine neA3 (by assumption) ?_; focus ((repeat (first | exact And.left | exact id | refine andR ?_)); done)) | (refine neB3 (by assumption) ?_; focus ((repeat (first | exact And.left | exact id | refine andR ?_)); done))) | omega)
  k_with "zRM" => (with_reducible first | exact room1 (by assumption) (by assumption) (by decide) | exact room2 (by assumption) (by assumption) (by decide) | exact room3 (by assumption) (by assumption) (by decide) | exact room4 (by assumption) (by assumption) (by decide) | exact room5 (by assumption) (by assumption) (by decide) | exact room0 (by assumption))
  k_with "zALL" => first | assumption | with_reducible (first | (refine nwA0 (by assumption) ?_; focus ((refine andR ?_); (repeat (first | exact id | refine andR ?_)); done)) | (refine nwA1 (by assumption) ?_; focus ((refine andR ?_); (repeat (first | exact id | refine andR ?_)); done)) | (refine nwA2 (by assumption) ?_; focus ((refine andR ?_); (repeat (first | exact id | refine andR ?_)); done)) | (refine nwA3 (by assumption) ?_; focus ((refine andR ?_); (repeat (first | exact id | refine andR ?_)); done)))
  k_with "subscriptTail Name Name ref int" => ((with_unfolding_all refine' itemK (vs := [.int a ta, .int b tb, .int c tc, .int d td]) ?k1 ?k2 ?k3 ?k4 ?_ ?k6); (case k1 => exact News.isList (by assumption) hl); (case k2 => decide); (case k3 => decide); (case k4 => rfl); (case k6 => with_unfolding_all rfl); k_whole)
  k_dflt (refine' code_defF ?k1 ?k2 ?k3 ?k4 ?k5 ?kA ?kZ ?kF ?kK ?k6 ?k7 ?k8 ?k9 ?kB ?_ ?c2 ?c3 ?c4 ?c5; (case kA => exact rfl); (case kZ => first | with_reducible assumption | exact ktrDepth); (case kF => exact rfl); (case kK => assumption); (case k1 => k_asm); (case k2 => k_asm); (case k3 => k_asm); (case k4 => k_asm); (case k5 => k_asm); (case k6 => k_is); (case k7 => k_is); (case k8 => ktr_room); (case k9 => exact binds_K2 (by k_in) rfl (by k_is) rfl rfl rfl (by k_is) (by with_unfolding_all rfl)); (case c5 => decide); (case kB => exact locs rfl); (case c2 => exact rfl); (case c3 => exact rfl); (case c4 => exact rfl); k_whole; intro qr er g' L' h' tk' FG' mz F' N' B' X' T' az hzd hzu qz ez; (try dsimp only [ktrTop] at hzu); (try k_lift B'))
  k_steps
  all_goals (refine bfin ret ?_ (by assumption) (by assumption); simp only [brf]; (repeat' split) <;> first | decide | (exfalso; omega))
end ZC4
section ZY0
open PySem PySem.W PySem.Spec PySem.Calls PyProof.Rows
set_option rowWalk.seconds 0
set_option compiler.extract_closed false
set_option maxRecDepth 100000
set_option maxHeartbeats 8000000
set_option pp.deepTerms false
set_option pp.deepTerms.threshold 10
set_option pp.maxSteps 20000
noncomputable def signs48 : List (Str × Int) :=
  (Str.ofString "!", 54) ::
  (Str.ofString "!=", 28) ::
  (Str.ofString "%", 24) ::
  (Str.ofString "%=", 40) ::
  (Str.ofString "&", 19) ::
  (Str.ofString "&=", 41) ::
  (Str.ofString "(", 7) ::
  (Str.ofString ")", 8) ::
  (Str.ofString "*", 16) ::
  (Str.ofString "**", 35) ::
  (Str.ofString "**=", 46) ::
  (Str.ofString "*=", 38) ::
  (Str.ofString "+", 14) ::
  (Str.ofString "+=", 36) ::
  (Str.ofString ",", 12) ::
  (Str.ofString "-", 15) ::
  (Str.ofString "-=", 37) ::
  (Str.ofString "->", 51) ::
  (Str.ofString ".", 23) ::
  (Str.ofString "...", 52) ::
  (Str.ofString "/", 17) ::
  (Str.ofString "//", 47) ::
  (Str.ofString "//=", 48) ::
  (Str.ofString "/=", 39) ::
  (Str.ofString ":", 11) ::
  (Str.ofString ":=", 53) ::
  (Str.ofString ";", 13) ::
  (Str.ofString "<", 20) ::
  (Str.ofString "<<", 33) ::
  (Str.ofString "<<=", 44) ::
  (Str.ofString "<=", 29) ::
  (Str.ofString "=", 22) ::
  (Str.ofString "==", 27) ::
  (Str.ofString ">", 21) ::
  (Str.ofString ">=", 30) ::
  (Str.ofString ">>", 34) ::
  (Str.ofString ">>=", 45) ::
  (Str.ofString "@", 49) ::
  (Str.ofString "@=", 50) ::
  (Str.ofString "[", 9) ::
  (Str.ofString "]", 10) ::
  (Str.ofString "^", 32) ::
  (Str.ofString "^=", 43) ::
  (Str.ofString "{", 25) ::
  (Str.ofString "|", 18) ::
  (Str.ofString "|=", 42) ::
  (Str.ofString "}", 26) ::
  (Str.ofString "~", 31) :: []
noncomputable def exT : List (Str × PyData) := signs48.map fun p => (p.1, PyData.int p.2)
theorem exTab (w : World) {h : Heap} (x : (Mine.hp w.params).In h) : StrTab Mine.rw.prog w h 109 (exT.map fun p => (PyData.str p.1, p.2)) :=
  kt_tab_in Mine.rw.prog w x (by kernel_rfl) (by decide +kernel) (by kernel_rfl)
/-- the sign's number -/
noncomputable def assocS (s : Str) : List (Str × Int) → Option Int
  | [] => none
  | (k, n) :: r => if k = s then some n else assocS s r
noncomputable def signAt (s : Str) : Option Int := assocS s signs48
theorem lookup_ex (s : Str) : Spec.lookup (.str s) (exT.map fun p => (PyData.str p.1, p.2)) = (signAt s).map PyData.int := by
  have g : ∀ l : List (Str × Int), Spec.lookup (.str s) ((l.map fun p => (p.1, PyData.int p.2)).map fun p => (PyData.str p.1, p.2)) = (assocS s l).map PyData.int := by
    intro l
    induction l with
    | nil => rfl
    | cons p r ih =>
      obtain ⟨k, n⟩ := p
      show (if Spec.same (.str k) (.str s) then some (PyData.int n) else Spec.lookup (.str s) ((r.map fun p => (p.1, PyData.int p.2)).map fun p => (PyData.str p.1, p.2))) = (if k = s then some n else assocS s r).map PyData.int
      rw [PyProof.V.same_str, ih]
      by_cases h : k = s
      · rw [if_pos h, if_pos (by simpa using h)]; rfl
      · rw [if_neg h, if_neg (by simpa using h)]
  exact g signs48
section
variable {prog : Program} {w : World} {A : Around} {E : Value → Shared → Prop} {Q : Flow → Shared → Prop} {s : Shared} {env : Env} {h₀ : Heap} {L : Addr}
structure YS where
  f : Nat
  vs : List Value
  ns : List Int
  c : Nat
  p : Int
  tp : Tok
noncomputable def ledY (D : Addr) (news : List (Addr × Obj)) (c : YS) : List (Addr × Obj) := (D, listOf c.vs.toArray c.c) :: news
noncomputable def psY (D : Addr) (c : YS) : List (Str × Value) := [(Str.ofString "symbols", .ref D), (Str.ofString "place", .int c.p c.tp)]
noncomputable abbrev storedY : List Str := [Str.ofString "size"]
noncomputable def facY (c : YS) : Prop := IntsAre c.vs c.ns
noncomputable abbrev endY (h₀ : Heap) (L : Addr) (s : Shared) (D : Addr) (news : List (Addr × Obj)) (m₀ : Str → Option Value) (P : Nat → List Int → Int → Prop) (Q : Flow → Shared → Prop) (c : YS) : Flow → Shared → Prop :=
  KswPost h₀ L s (ledY D news) (psY D) facY storedY m₀ (fun c => P c.f c.ns c.p) (fun c => c.f) Q c
theorem whileY {test : Expr} {body : List Stmt} {pos : Pos} {m₀ : Str → Option Value} {D : Addr} {w0 : Array Value} {c0 : Nat} {news : List (Addr × Obj)} {t0 : Tok} (P : Nat → List Int → Int → Prop)
    (fu : Nat) (h0 : P fu [] 0) (F : Fr h₀ L s.heap m₀) (N : News h₀ L s.heap ((D, listOf w0 c0) :: news)) (hw : w0 = #[])
    (hm : m₀ (Str.ofString "symbols") = some (.ref D)) (hn : m₀ (Str.ofString "place") = some (.int 0 t0))
    (turn : ∀ (f : Nat) (vs : List Value) (ns : List Int) (c : Nat) (p : Int) (tp : Tok) (u : Str → Option Value) h tk, IntsAre vs ns → P f ns p →
      Fr h₀ L h (fun y => if y = Str.ofString "symbols" then some (.ref D) else if y = Str.ofString "place" then some (.int p tp) else if storedY.contains y then u y else m₀ y) →
      News h₀ L h ((D, listOf vs.toArray c) :: news) →
      wpAny (model prog w) A (isTrue test env (eval test env)) (fun b s₂ =>
        if b = true then wpAny (model prog w) A (execs body env) (endY h₀ L s D news m₀ P Q ⟨f, vs, ns, c, p, tp⟩) E s₂ else Q .next s₂) E { s with heap := h, toks := tk })
    (hE : PassesOwn (model prog w) A env E) :
    wpAny (model prog w) A (exec (.While test body [] pos) env) Q E s := by
  subst hw
  refine ksw_while (ledY D news) (psY D) facY storedY (fun c => P c.f c.ns c.p) (fun c => c.f) ⟨fu, [], [], c0, 0, t0⟩ F N .nil ?_ h0 ?_ hE
  · intro p hp
    simp only [psY, List.mem_cons, List.not_mem_nil, or_false] at hp
    rcases hp with rfl | rfl
    · exact hm
    · exact hn
  · rintro ⟨f, vs, ns, c, p, tp⟩ u h tk i hp F' N'
    exact turn f vs ns c p tp u h tk i hp F' N'
theorem endYw {h' : Heap} {D : Addr} {news : List (Addr × Obj)} {m₀ m' : Str → Option Value} {P : Nat → List Int → Int → Prop} {c : YS} {tk : Nat} {vs : List Value} {ns : List Int} {cc : Nat} {p : Int} {tp : Tok} (f' : Nat)
    (F : Fr h₀ L h' m') (N : News h₀ L h' ((D, listOf vs.toArray cc) :: news)) (i : IntsAre vs ns) (hm : m' (Str.ofString "symbols") = some (.ref D)) (hn : m' (Str.ofString "place") = some (.int p tp))
    (hr : ∀ z, z ≠ Str.ofString "symbols" → z ≠ Str.ofString "place" → storedY.contains z = false → m' z = m₀ z) (hp : P f' ns p) (hf : f' < c.f) :
    endY h₀ L s D news m₀ P Q c .next { s with heap := h', toks := tk } := by
  show KswEnd _ _ _ _ _ _ _ _ _ _ _ _
  refine ksw_end (YS.mk f' vs ns cc p tp) F N (fun _ h => h) i ?_ ?_ hp hf
  · intro p hp
    simp only [psY, List.mem_cons, List.not_mem_nil, or_false] at hp
    rcases hp with rfl | rfl
    · exact hm
    · exact hn
  · intro z h1 h2
    exact hr z (h1 _ (.head _)) (h1 _ (.tail _ (.head _))) h2
end
section
variable {prog : Program} {w : World} {A : Around} {E : Value → Shared → Prop} {Q : Flow → Shared → Prop} {s : Shared} {env : Env} {h₀ : Heap} {L : Addr}
noncomputable abbrev endZ (h₀ : Heap) (L : Addr) (s : Shared) (news : List (Addr × Obj)) (m₀ : Str → Option Value) (P : Int → Prop) (Q : Flow → Shared → Prop) (c : Int × Tok) : Flow → Shared → Prop :=
  KswPost h₀ L s (fun _ : Int × Tok => news) (fun c => [(Str.ofString "size", .int c.1 c.2)]) (fun _ => True) [] m₀ (fun c => 0 ≤ c.1 ∧ P c.1) (fun c => c.1.toNat) Q c
theorem whileZ {test : Expr} {body : List Stmt} {pos : Pos} {m₀ : Str → Option Value} {news : List (Addr × Obj)} {t0 : Tok} {z0 : Int} (P : Int → Prop)
    (hz : 0 ≤ z0) (h0 : P z0) (F : Fr h₀ L s.heap m₀) (N : News h₀ L s.heap news)
    (hn : m₀ (Str.ofString "size") = some (.int z0 t0))
    (turn : ∀ (z : Int) (t : Tok) h tk, 0 ≤ z → P z →
      Fr h₀ L h (fun y => if y = Str.ofString "size" then some (.int z t) else m₀ y) → News h₀ L h news →
      wpAny (model prog w) A (isTrue test env (eval test env)) (fun b s₂ =>
        if b = true then wpAny (model prog w) A (execs body env) (endZ h₀ L s news m₀ P Q ⟨z, t⟩) E s₂ else Q .next s₂) E { s with heap := h, toks := tk })
    (hE : PassesOwn (model prog w) A env E) :
    wpAny (model prog w) A (exec (.While test body [] pos) env) Q E s := by
  refine ksw_while (fun _ : Int × Tok => news) (fun c => [(Str.ofString "size", .int c.1 c.2)]) (fun _ => True) [] (fun c => 0 ≤ c.1 ∧ P c.1) (fun c => c.1.toNat) ⟨z0, t0⟩ F N trivial ?_ ⟨hz, h0⟩ ?_ hE
  · intro p hp
    rw [List.mem_singleton.mp hp]; exact hn
  · rintro ⟨z, t⟩ u h tk _ hp F' N'
    refine turn z t h tk hp.1 hp.2 ?_ N'
    exact F'
theorem endZw {h' : Heap} {news : List (Addr × Obj)} {m₀ m' : Str → Option Value} {P : Int → Prop} {c : Int × Tok} {tk : Nat} {z : Int} {t : Tok}
    (F : Fr h₀ L h' m') (N : News h₀ L h' news) (hn : m' (Str.ofString "size") = some (.int z t))
    (hr : ∀ y, y ≠ Str.ofString "size" → m' y = m₀ y) (hz : 0 ≤ z) (hp : P z) (hf : z < c.1) :
    endZ h₀ L s news m₀ P Q c .next { s with heap := h', toks := tk } := by
  show KswEnd _ _ _ _ _ _ _ _ _ _ _ _
  refine ksw_end (z, t) F N (fun _ h => h) trivial ?_ ?_ ⟨hz, hp⟩ (by show z.toNat < c.1.toNat; omega)
  · intro p hp
    rw [List.mem_singleton.mp hp]; exact hn
  · intro y h1 _
    exact hr y (h1 _ (.head _))
end
noncomputable def keyAt (x : Str) (p z : Int) : Bool := (signAt (Txt.slice x (some p) (some (p + z)))).isSome
noncomputable def fsz (x : Str) (p : Int) : Nat → Nat
  | 0 => 0
  | n + 1 => if keyAt x p ((n + 1 : Nat) : Int) = true then n + 1 else fsz x p n
/-- the numbers of the text's signs, from p on -/
noncomputable def lx (x : Str) : Nat → Int → List Int
  | 0, _ => []
  | f + 1, p => if p < (x.length : Int) then (if fsz x p 3 = 0 then 0 :: lx x f (p + 2) else (signAt (Txt.slice x (some p) (some (p + (fsz x p 3 : Nat))))).getD 0 :: lx x f (p + (fsz x p 3 : Nat))) else []
noncomputable def PZ (x : Str) (p z : Int) : Prop := fsz x p 3 = fsz x p z.toNat ∧ z ≤ 3
noncomputable def PY (x : Str) (f : Nat) (ns : List Int) (p : Int) : Prop := 0 ≤ p ∧ p ≤ (x.length : Int) + 3 ∧ ns ++ lx x f p = lx x (x.length + 5) 0 ∧ (x.length : Int) + 4 - p < (f : Int) ∧ (ns.length : Int) ≤ p
theorem pz_start (x : Str) (p : Int) : PZ x p 3 := ⟨rfl, Int.le_refl _⟩
theorem pz_step {x : Str} {p z : Int} (hz : 0 < z) (hk : keyAt x p z = false) (h : PZ x p z) : PZ x p (z - 1) := by
  obtain ⟨h1, h2⟩ := h
  refine ⟨?_, by omega⟩
  rw [h1]
  obtain ⟨n, hn⟩ : ∃ n : Nat, z.toNat = n + 1 := ⟨z.toNat - 1, by omega⟩
  rw [hn, show (z - 1).toNat = n by omega, fsz, if_neg]
  rw [show ((n + 1 : Nat) : Int) = z by omega, hk]; decide
theorem pz_hit {x : Str} {p z : Int} (hz : 0 < z) (hk : keyAt x p z = true) (h : PZ x p z) : ((fsz x p 3 : Nat) : Int) = z := by
  rw [h.1]
  obtain ⟨n, hn⟩ : ∃ n : Nat, z.toNat = n + 1 := ⟨z.toNat - 1, by omega⟩
  rw [hn, fsz, if_pos]
  · omega
  · rw [show ((n + 1 : Nat) : Int) = z by omega]; exact hk
theorem pz_none {x : Str} {p z : Int} (hz : z = 0) (h : PZ x p z) : fsz x p 3 = 0 := by
  subst hz; exact h.1
theorem py_start (x : Str) : PY x (x.length + 5) [] 0 := ⟨Int.le_refl _, by omega, rfl, by omega, Int.le_refl _⟩
theorem py_two {x : Str} {f : Nat} {ns : List Int} {p z : Int} (h : PY x f ns p) (hp : p < (x.length : Int)) (hz : z = 0) (hz3 : PZ x p z) : PY x (f - 1) (ns ++ [0]) (p + 2) ∧ f - 1 < f := by
  obtain ⟨a, b, c, d, e⟩ := h
  obtain ⟨g, rfl⟩ : ∃ g, f = g + 1 := ⟨f - 1, by omega⟩
  rw [lx, if_pos hp, if_pos (pz_none hz hz3)] at c
  refine ⟨⟨by omega, by omega, ?_, by omega, by simp; omega⟩, by omega⟩
  rw [List.append_assoc]; exact c
theorem py_hit {x : Str} {f : Nat} {ns : List Int} {p z n : Int} (h : PY x f ns p) (hp : p < (x.length : Int)) (hz : 0 < z) (hn : signAt (Txt.slice x (some p) (some (p + z))) = some n) (hz3 : PZ x p z) : PY x (f - 1) (ns ++ [n]) (p + z) ∧ f - 1 < f := by
  obtain ⟨a, b, c, d, e⟩ := h
  obtain ⟨g, rfl⟩ : ∃ g, f = g + 1 := ⟨f - 1, by omega⟩
  have hk : keyAt x p z = true := by unfold keyAt; rw [hn]; rfl
  have hf := pz_hit hz hk hz3
  rw [lx, if_pos hp, if_neg (by omega), hf, hn] at c
  have hz3' := hz3.2
  refine ⟨⟨by omega, by omega, ?_, by omega, by simp; omega⟩, by omega⟩
  rw [List.append_assoc]; exact c
theorem py_end {x : Str} {f : Nat} {ns : List Int} {p : Int} (h : PY x f ns p) (hp : ¬ p < (x.length : Int)) : ns = lx x (x.length + 5) 0 := by
  obtain ⟨a, b, c, d, e⟩ := h
  rw [← c]
  cases f with
  | zero => simp [lx]
  | succ g => rw [lx, if_neg hp, List.append_nil]
theorem ne_inY {l : List Str} {z a : Str} (h : l.contains z = false) (ha : l.contains a = true) : z ≠ a := by
  rintro rfl; rw [h] at ha; cases ha
theorem ints_snocY {x : Int} {t : Tok} : ∀ {vs : List Value} {l : List Int}, IntsAre vs l → IntsAre (vs ++ [.int x t]) (l ++ [x])
  | _, _, .nil => .cons x t .nil
  | _, _, .cons y u r => .cons y u (ints_snocY r)
theorem py_len {x : Str} {f : Nat} {ns : List Int} {p : Int} {vs : List Value} (h : PY x f ns p) (hx : x.length ≤ 1000) (i : IntsAre vs ns) : vs.length ≤ 2000 ∧ 0 ≤ p ∧ p ≤ 1003 := by
  obtain ⟨a, b, c, d, e⟩ := h
  have := i.length
  omega
end ZY0
section ZC5
open PySem PySem.W PySem.Spec PySem.Calls PyProof.Rows
set_option rowWalk.seconds 0
set_option compiler.extract_closed false
set_option maxRecDepth 100000
set_option maxHeartbeats 8000000
set_option pp.deepTerms false
set_option pp.deepTerms.threshold 10
set_option pp.maxSteps 20000
theorem off1_mem {D : Addr} : ∀ {l : List (Addr × Obj)}, LCg.Off1 D l → ∀ p ∈ l, p.1 ≠ D
  | [], _, _, h => nomatch h
  | _ :: _, x, p, h => by
    rcases List.mem_cons.mp h with rfl | h
    · exact x.1
    · exact off1_mem x.2 p h
theorem compEnd1 {h₀ : Heap} {L I C D : Addr} {m : Str → Option Value} {s₁ : Shared} {oI oC oD : Obj} {S : List (Addr × Obj) → Prop} {rest : Value → List (Addr × Obj) → Prop} {y : Value} {h' : Heap} {tk : Nat} {l : List (Addr × Obj)} {x : Addr} {o : Obj}
    (F : Fr h₀ L h' m) (N : News h₀ L h' ((x, o) :: (I, oI) :: (C, oC) :: (D, oD) :: l)) (hlt : I < x ∧ C < x ∧ D < x ∧ AllLt x l) (off : LCg.Off3 I C D l) (hS : S ((x, o) :: l)) (r : rest y ((x, o) :: l)) :
    LCg.CompEnd h₀ L m s₁ I oI C oC D oD S rest y { s₁ with heap := h', toks := tk } :=
  LCg.CompEnd.intro F N ((x, o) :: l) (by intro p hp; simp only [List.mem_cons] at hp ⊢; rcases hp with h | h | h | h | h <;> simp [h]) ⟨⟨Nat.ne_of_gt hlt.1, Nat.ne_of_gt hlt.2.1, Nat.ne_of_gt hlt.2.2.1⟩, off⟩ hS r
theorem compEnd0 {h₀ : Heap} {L I C D : Addr} {m : Str → Option Value} {s₁ : Shared} {oI oC oD : Obj} {S : List (Addr × Obj) → Prop} {rest : Value → List (Addr × Obj) → Prop} {y : Value} {h' : Heap} {tk : Nat} {l : List (Addr × Obj)}
    (F : Fr h₀ L h' m) (N : News h₀ L h' ((I, oI) :: (C, oC) :: (D, oD) :: l)) (off : LCg.Off3 I C D l) (hS : S l) (r : rest y l) :
    LCg.CompEnd h₀ L m s₁ I oI C oC D oD S rest y { s₁ with heap := h', toks := tk } :=
  LCg.CompEnd.intro F N l (fun _ h => h) off hS r
structure ST where
  row : List Int
  n0 : List Int
  n1 : List Int
  n2 : List Int
  n3 : List Int
  z0 : Int
  z1 : Int
  z2 : Int
  z3 : Int
noncomputable def stp (e0 e1 e2 e3 : Int) (sm : List Int) (r : ST) (k : Int) : ST :=
  if blf e0 e1 e2 e3 (k + 1) < brf e0 e1 e2 e3 (k + 1) then
    (if blf e0 e1 e2 e3 (k + 1) = 0 then { r with n0 := r.n0 ++ [sm.getD k.toNat 0] } else if blf e0 e1 e2 e3 (k + 1) = 1 then { r with n1 := r.n1 ++ [sm.getD k.toNat 0] }
     else if blf e0 e1 e2 e3 (k + 1) = 2 then { r with n2 := r.n2 ++ [sm.getD k.toNat 0] } else { r with n3 := r.n3 ++ [sm.getD k.toNat 0] })
  else { r with row := r.row ++ [sm.getD k.toNat 0] }
noncomputable def lower (r : ST) : ST := { r with z0 := max (r.z0 - 1) 0, z1 := max (r.z1 - 1) 0, z2 := max (r.z2 - 1) 0, z3 := max (r.z3 - 1) 0 }
noncomputable def dealt (r : ST) (pre : List Int) : ST :=
  pre.foldl (stp (r.z0 + 0) (r.z1 + (r.z0 + 0)) (r.z2 + (r.z1 + (r.z0 + 0))) (r.z3 + (r.z2 + (r.z1 + (r.z0 + 0)))) (prefS (r.row ++ [0]) 0).tail) { r with row := [] }
noncomputable def turnS (r : ST) : ST := lower (dealt r (rangeKs 0 (prefS (r.row ++ [0]) 0).tail.length))
noncomputable def okR (a k l m n : Nat) (z0 z1 z2 z3 : Int) : Bool := decide (a < 1000) && decide (0 ≤ z0) && decide (0 ≤ z1) && decide (0 ≤ z2) && decide (0 ≤ z3) && decide (z0 + z1 + z2 + z3 ≤ 200)
  && decide (k ≤ 2000) && decide (l ≤ 2000) && decide (m ≤ 2000) && decide (n ≤ 2000)
noncomputable def okB (M : Int) (r : ST) : Bool := (r.row.all (0 ≤ ·) && decide (r.row.sum < M)) && okR r.row.length r.n0.length r.n1.length r.n2.length r.n3.length r.z0 r.z1 r.z2 r.z3
noncomputable def okS (P : Int) (r : ST) : Bool := okB (P * P - 1) r
noncomputable def runS (P : Int) : Nat → ST → Option ST
  | 0, r => if r.row = [] then some r else none
  | f + 1, r => if r.row = [] then some r else if okS P r then runS P f (turnS r) else none
structure CS where
  f : Nat
  ra : Addr
  za : Addr
  rv : List Value
  v0 : List Value
  v1 : List Value
  v2 : List Value
  v3 : List Value
  r : ST
  t0 : Tok
  t1 : Tok
  t2 : Tok
  t3 : Tok
  rc : Nat
  zc : Nat
  c0 : Nat
  c1 : Nat
  c2 : Nat
  c3 : Nat
noncomputable def ledS (S s0 s1 s2 s3 : Addr) (so : Obj) (news : List (Addr × Obj)) (c : CS) : List (Addr × Obj) :=
  (c.ra, listOf c.rv.toArray c.rc) :: (c.za, l4 c.r.z0 c.r.z1 c.r.z2 c.r.z3 c.t0 c.t1 c.t2 c.t3 c.zc) :: (S, so) :: (s0, listOf c.v0.toArray c.c0) :: (s1, listOf c.v1.toArray c.c1) :: (s2, listOf c.v2.toArray c.c2) :: (s3, listOf c.v3.toArray c.c3) :: news
noncomputable def psS (c : CS) : List (Str × Value) := [(Str.ofString "row", .ref c.ra), (Str.ofString "sizes", .ref c.za)]
noncomputable def facS (S s0 s1 s2 s3 : Addr) (news : List (Addr × Obj)) (c : CS) : Prop :=
  IntsAre c.rv c.r.row ∧ IntsAre c.v0 c.r.n0 ∧ IntsAre c.v1 c.r.n1 ∧ IntsAre c.v2 c.r.n2 ∧ IntsAre c.v3 c.r.n3 ∧ S < c.ra ∧ s0 < c.ra ∧ s1 < c.ra ∧ s2 < c.ra ∧ s3 < c.ra ∧ S ≠ c.za ∧ s0 ≠ c.za ∧ s1 ≠ c.za ∧ s2 ≠ c.za ∧ s3 ≠ c.za
theorem rep1 {x : Int} {t : Tok} : ∀ n : Nat, IntsAre (List.replicate n [Value.int x t]).flatten (List.replicate n x)
  | 0 => .nil
  | n + 1 => .cons x t (rep1 n)
theorem allLt_mem {D : Addr} : ∀ {l : List (Addr × Obj)}, AllLt D l → ∀ p ∈ l, p.1 < D
  | [], _, _, h => nomatch h
  | _ :: _, x, p, h => by
    rcases List.mem_cons.mp h with rfl | h
    · exact x.1
    · exact allLt_mem x.2 p h
theorem unrEndD {h₀ h' : Heap} {L I x : Addr} {oI o : Obj} {s₁ : Shared} {tk : Nat} {m' : Str → Option Value} {l : List (Addr × Obj)} {rest : (Str → Option Value) → List (Addr × Obj) → Prop}
    (F : Fr h₀ L h' m') (N : News h₀ L h' ((x, o) :: (I, oI) :: l)) (hl : AllLt I l) (r : rest m' l) : UnrEndW h₀ L s₁ [(I, oI)] rest { s₁ with heap := h', toks := tk } :=
  ⟨h', tk, m', l, rfl, F, fun p hp => N p (.tail _ hp), fun p hp q hq => by rw [List.mem_singleton.mp hq]; exact Nat.ne_of_lt (allLt_mem hl p hp), r⟩
theorem tail_len (l : List Int) : (prefS (l ++ [0]) 0).tail.length = l.length := by simp [prefS_len]
theorem run_ok {P : Int} {f : Nat} {r fin : ST} (h : runS P f r = some fin) (hr : r.row ≠ []) :
    ∃ f', f = f' + 1 ∧ (r.row.length < 1000 ∧ (∀ x ∈ r.row, 0 ≤ x) ∧ r.row.sum < P * P - 1 ∧ 0 ≤ r.z0 ∧ 0 ≤ r.z1 ∧ 0 ≤ r.z2 ∧ 0 ≤ r.z3 ∧ r.z0 + r.z1 + r.z2 + r.z3 ≤ 200 ∧ r.n0.length ≤ 2000 ∧ r.n1.length ≤ 2000 ∧ r.n2.length ≤ 2000 ∧ r.n3.length ≤ 2000) ∧ runS P f' (turnS r) = some fin := by
  cases f with
  | zero => simp only [runS, if_neg hr] at h; exact absurd h (by simp)
  | succ f =>
    simp only [runS, if_neg hr] at h
    by_cases ho : okS P r = true
    · rw [if_pos ho] at h
      refine ⟨f, rfl, ?_, h⟩
      simp only [okS, okB, okR, Bool.and_eq_true, decide_eq_true_eq, List.all_eq_true] at ho
      obtain ⟨⟨b, c⟩, ⟨⟨⟨⟨⟨⟨⟨⟨a, d⟩, e⟩, f⟩, g⟩, h⟩, i⟩, j⟩, k⟩, l⟩ := ho
      exact ⟨a, b, c, d, e, f, g, h, i, j, k, l⟩
    · rw [if_neg ho] at h; exact absurd h (by simp)
theorem ints_cons {ws : List Value} {x : Int} {l : List Int} (h : IntsAre ws ([x] ++ l)) : IntsAre ws (x :: l) := h
section
variable {prog : Program} {w : World} {A : Around} {E : Value → Shared → Prop} {Q : Flow → Shared → Prop} {s : Shared} {env : Env} {h₀ : Heap} {L : Addr}
noncomputable abbrev storedS : List Str := [Str.ofString "sums", Str.ofString "ends", Str.ofString "size", Str.ofString "k", Str.ofString "group"]
noncomputable abbrev endS (h₀ : Heap) (L : Addr) (s : Shared) (S s0 s1 s2 s3 : Addr) (so : Obj) (news : List (Addr × Obj)) (m₀ : Str → Option Value) (P : Int) (fin : ST) (Q : Flow → Shared → Prop) (c : CS) : Flow → Shared → Prop :=
  KswPost h₀ L s (ledS S s0 s1 s2 s3 so news) psS (facS S s0 s1 s2 s3 news) storedS m₀ (fun c => runS P c.f c.r = some fin) (fun c => c.f) Q c
theorem whileS {test : Expr} {body : List Stmt} {pos : Pos} {m₀ : Str → Option Value} {ra za S s0 s1 s2 s3 : Addr} {rv : List Value} {rn : List Int} {za' w0 w1 w2 w3 : Array Value} {rc zc c0 c1 c2 c3 : Nat} {so : Obj} {x1 x2 x3 : Addr × Obj} {news : List (Addr × Obj)} {P : Int} {fin : ST} {g0 g1 g2 g3 : Int} {t0 t1 t2 t3 : Tok}
    (fu : Nat) (hfin : runS P fu ⟨rn, [], [], [], [], g0, g1, g2, g3⟩ = some fin)
    (F : Fr h₀ L s.heap m₀) (N : News h₀ L s.heap ((ra, listOf rv.toArray rc) :: x1 :: x2 :: x3 :: (za, listOf za' zc) :: (S, so) :: (s3, listOf w3 c3) :: (s2, listOf w2 c2) :: (s1, listOf w1 c1) :: (s0, listOf w0 c0) :: news))
    (hz : za' = #[.int g0 t0, .int g1 t1, .int g2 t2, .int g3 t3]) (hw : w0 = #[] ∧ w1 = #[] ∧ w2 = #[] ∧ w3 = #[]) (hi : IntsAre rv rn)
    (hl : S < ra ∧ s0 < ra ∧ s1 < ra ∧ s2 < ra ∧ s3 < ra ∧ S ≠ za ∧ s0 ≠ za ∧ s1 ≠ za ∧ s2 ≠ za ∧ s3 ≠ za)
    (hm : m₀ (Str.ofString "row") = some (.ref ra)) (hn : m₀ (Str.ofString "sizes") = some (.ref za))
    (turn : ∀ (f : Nat) (ra za : Addr) (rv v0 v1 v2 v3 : List Value) (rn n0 n1 n2 n3 : List Int) (z0 z1 z2 z3 : Int) (t0 t1 t2 t3 : Tok) (rc zc c0 c1 c2 c3 : Nat) (u : Str → Option Value) h tk,
      IntsAre rv rn → IntsAre v0 n0 → IntsAre v1 n1 → IntsAre v2 n2 → IntsAre v3 n3 → (S < ra ∧ s0 < ra ∧ s1 < ra ∧ s2 < ra ∧ s3 < ra) → (S ≠ za ∧ s0 ≠ za ∧ s1 ≠ za ∧ s2 ≠ za ∧ s3 ≠ za) →
      runS P f ⟨rn, n0, n1, n2, n3, z0, z1, z2, z3⟩ = some fin →
      Fr h₀ L h (fun y => if y = Str.ofString "row" then some (.ref ra) else if y = Str.ofString "sizes" then some (.ref za) else if storedS.contains y then u y else m₀ y) →
      News h₀ L h ((ra, listOf rv.toArray rc) :: (za, l4 z0 z1 z2 z3 t0 t1 t2 t3 zc) :: (S, so) :: (s0, listOf v0.toArray c0) :: (s1, listOf v1.toArray c1) :: (s2, listOf v2.toArray c2) :: (s3, listOf v3.toArray c3) :: news) →
      wpAny (model prog w) A (isTrue test env (eval test env)) (fun b s₂ =>
        if b = true then wpAny (model prog w) A (execs body env) (endS h₀ L s S s0 s1 s2 s3 so news m₀ P fin Q ⟨f, ra, za, rv, v0, v1, v2, v3, ⟨rn, n0, n1, n2, n3, z0, z1, z2, z3⟩, t0, t1, t2, t3, rc, zc, c0, c1, c2, c3⟩) E s₂ else Q .next s₂) E { s with heap := h, toks := tk })
    (hE : PassesOwn (model prog w) A env E) :
    wpAny (model prog w) A (exec (.While test body [] pos) env) Q E s := by
  subst hz
  obtain ⟨rfl, rfl, rfl, rfl⟩ := hw
  refine ksw_while (ledS S s0 s1 s2 s3 so news) psS (facS S s0 s1 s2 s3 news) storedS (fun c => runS P c.f c.r = some fin) (fun c => c.f)
    ⟨fu, ra, za, rv, [], [], [], [], ⟨rn, [], [], [], [], g0, g1, g2, g3⟩, t0, t1, t2, t3, rc, zc, c0, c1, c2, c3⟩ F ?_ ?_ ?_ hfin ?_ hE
  · refine news_sub N ?_
    unfold ledS
    dsimp only
    (repeat (refine subC (by (focus first | ((repeat (first | exact memH | ((fail_if_success (refine nilX ?_)); refine memT ?_))); done) | ((repeat (first | assumption | ((fail_if_success (refine nilX ?_)); refine memT ?_))); done))) ?_))
    (focus (intro p hp; (repeat (first | exact hp | refine memT ?_)); done))
  · exact ⟨hi, .nil, .nil, .nil, .nil, hl.1, hl.2.1, hl.2.2.1, hl.2.2.2.1, hl.2.2.2.2.1, hl.2.2.2.2.2.1, hl.2.2.2.2.2.2.1, hl.2.2.2.2.2.2.2.1, hl.2.2.2.2.2.2.2.2.1, hl.2.2.2.2.2.2.2.2.2⟩
  · intro p hp
    simp only [psS, List.mem_cons, List.not_mem_nil, or_false] at hp
    rcases hp with rfl | rfl
    · exact hm
    · exact hn
  · rintro ⟨f, ra, za, rv, v0, v1, v2, v3, ⟨rn, n0, n1, n2, n3, z0, z1, z2, z3⟩, t0, t1, t2, t3, rc, zc, c0, c1, c2, c3⟩ u h tk ⟨i, i0, i1, i2, i3, a0, a1, a2, a3, a4, b0, b1, b2, b3, b4⟩ hp F' N'
    exact turn f ra za rv v0 v1 v2 v3 rn n0 n1 n2 n3 z0 z1 z2 z3 t0 t1 t2 t3 rc zc c0 c1 c2 c3 u h tk i i0 i1 i2 i3 ⟨a0, a1, a2, a3, a4⟩ ⟨b0, b1, b2, b3, b4⟩ hp F' N'
end
structure IS where
  rv : List Value
  v0 : List Value
  v1 : List Value
  v2 : List Value
  v3 : List Value
  r : ST
  rc : Nat
  c0 : Nat
  c1 : Nat
  c2 : Nat
  c3 : Nat
noncomputable def ledI (ra s0 s1 s2 s3 : Addr) (rest : List (Addr × Obj)) (c : IS) : List (Addr × Obj) :=
  (ra, listOf c.rv.toArray c.rc) :: (s0, listOf c.v0.toArray c.c0) :: (s1, listOf c.v1.toArray c.c1) :: (s2, listOf c.v2.toArray c.c2) :: (s3, listOf c.v3.toArray c.c3) :: rest
noncomputable def facI (c : IS) : Prop := IntsAre c.rv c.r.row ∧ IntsAre c.v0 c.r.n0 ∧ IntsAre c.v1 c.r.n1 ∧ IntsAre c.v2 c.r.n2 ∧ IntsAre c.v3 c.r.n3
noncomputable abbrev postI (h₀ : Heap) (L : Addr) (ra s0 s1 s2 s3 : Addr) (rest : List (Addr × Obj)) (x : Str) (m₀ : Str → Option Value) (P : List Int → ST → Prop) (adr : List Addr) (pre : List Int) (own : List (Addr × Obj)) (s₁ : Shared) (Q : Flow → Shared → Prop) : Flow → Shared → Prop :=
  InvPostN h₀ L (KstS (ledI ra s0 s1 s2 s3 rest) (fun _ => []) facI x [Str.ofString "group"] m₀ (fun pre c => P pre c.r) pre) own adr s₁ Q
structure Dist (ra s0 s1 s2 s3 e1 e2 e5 e6 : Addr) (nw : List (Addr × Obj)) : Prop where
  r : s0 ≠ ra ∧ s1 ≠ ra ∧ s2 ≠ ra ∧ s3 ≠ ra ∧ e1 ≠ ra ∧ e2 ≠ ra ∧ e5 ≠ ra ∧ e6 ≠ ra
  d0 : s1 ≠ s0 ∧ s2 ≠ s0 ∧ s3 ≠ s0 ∧ e1 ≠ s0 ∧ e2 ≠ s0 ∧ e5 ≠ s0 ∧ e6 ≠ s0
  d1 : s2 ≠ s1 ∧ s3 ≠ s1 ∧ e1 ≠ s1 ∧ e2 ≠ s1 ∧ e5 ≠ s1 ∧ e6 ≠ s1
  d2 : s3 ≠ s2 ∧ e1 ≠ s2 ∧ e2 ≠ s2 ∧ e5 ≠ s2 ∧ e6 ≠ s2
  d3 : e1 ≠ s3 ∧ e2 ≠ s3 ∧ e5 ≠ s3 ∧ e6 ≠ s3
  nr : ∀ p ∈ nw, p.1 ≠ ra
  n0 : ∀ p ∈ nw, p.1 ≠ s0
  n1 : ∀ p ∈ nw, p.1 ≠ s1
  n2 : ∀ p ∈ nw, p.1 ≠ s2
  n3 : ∀ p ∈ nw, p.1 ≠ s3
theorem off_app {d : Addr} {a b : List (Addr × Obj)} (h1 : ∀ p ∈ a, p.1 ≠ d) (h2 : ∀ p ∈ b, p.1 ≠ d) : ∀ p ∈ a ++ b, p.1 ≠ d := fun p hp => by
  rcases List.mem_append.mp hp with h | h
  · exact h1 p h
  · exact h2 p h
section
variable {ra s0 s1 s2 s3 e1 e2 e5 e6 : Addr} {nw : List (Addr × Obj)} {o o' x0 x1 x2 x3 x4 y1 y2 y5 y6 : Obj}
theorem Dist.own {own : List (Addr × Obj)} {adr : List Addr} (d : Dist ra s0 s1 s2 s3 e1 e2 e5 e6 nw) (ho : OwnOff own (ra :: s0 :: s1 :: s2 :: s3 :: adr)) : Dist ra s0 s1 s2 s3 e1 e2 e5 e6 (nw ++ own) :=
  ⟨d.r, d.d0, d.d1, d.d2, d.d3, off_app d.nr (ho.ne (.head _)), off_app d.n0 (ho.ne (.tail _ (.head _))), off_app d.n1 (ho.ne (.tail _ (.tail _ (.head _)))), off_app d.n2 (ho.ne (.tail _ (.tail _ (.tail _ (.head _))))), off_app d.n3 (ho.ne (.tail _ (.tail _ (.tail _ (.tail _ (.head _))))))⟩
theorem off_cons {d : Addr} {p : Addr × Obj} {l : List (Addr × Obj)} (h : p.1 ≠ d) (hl : ∀ q ∈ l, q.1 ≠ d) : ∀ q ∈ p :: l, q.1 ≠ d := fun q hq => by
  rcases List.mem_cons.mp hq with rfl | hq
  · exact h
  · exact hl q hq
theorem Dist.ur (d : Dist ra s0 s1 s2 s3 e1 e2 e5 e6 nw) : Upd ra o o' ((ra, o) :: (s0, x0) :: (s1, x1) :: (s2, x2) :: (s3, x3) :: (e1, y1) :: (e2, y2) :: (e5, y5) :: (e6, y6) :: nw) ((ra, o') :: (s0, x0) :: (s1, x1) :: (s2, x2) :: (s3, x3) :: (e1, y1) :: (e2, y2) :: (e5, y5) :: (e6, y6) :: nw) :=
  let ⟨a, b, c, e, f, g, h, i⟩ := d.r
  .head (off_cons a (off_cons b (off_cons c (off_cons e (off_cons f (off_cons g (off_cons h (off_cons i d.nr))))))))
theorem Dist.u0 (d : Dist ra s0 s1 s2 s3 e1 e2 e5 e6 nw) : Upd s0 o o' ((ra, x0) :: (s0, o) :: (s1, x1) :: (s2, x2) :: (s3, x3) :: (e1, y1) :: (e2, y2) :: (e5, y5) :: (e6, y6) :: nw) ((ra, x0) :: (s0, o') :: (s1, x1) :: (s2, x2) :: (s3, x3) :: (e1, y1) :: (e2, y2) :: (e5, y5) :: (e6, y6) :: nw) :=
  let ⟨b, c, e, f, g, h, i⟩ := d.d0
  .tail (Ne.symm d.r.1) (.head (off_cons b (off_cons c (off_cons e (off_cons f (off_cons g (off_cons h (off_cons i d.n0))))))))
theorem Dist.u1 (d : Dist ra s0 s1 s2 s3 e1 e2 e5 e6 nw) : Upd s1 o o' ((ra, x0) :: (s0, x1) :: (s1, o) :: (s2, x2) :: (s3, x3) :: (e1, y1) :: (e2, y2) :: (e5, y5) :: (e6, y6) :: nw) ((ra, x0) :: (s0, x1) :: (s1, o') :: (s2, x2) :: (s3, x3) :: (e1, y1) :: (e2, y2) :: (e5, y5) :: (e6, y6) :: nw) :=
  let ⟨c, e, f, g, h, i⟩ := d.d1
  .tail (Ne.symm d.r.2.1) (.tail (Ne.symm d.d0.1) (.head (off_cons c (off_cons e (off_cons f (off_cons g (off_cons h (off_cons i d.n1))))))))
theorem Dist.u2 (d : Dist ra s0 s1 s2 s3 e1 e2 e5 e6 nw) : Upd s2 o o' ((ra, x0) :: (s0, x1) :: (s1, x2) :: (s2, o) :: (s3, x3) :: (e1, y1) :: (e2, y2) :: (e5, y5) :: (e6, y6) :: nw) ((ra, x0) :: (s0, x1) :: (s1, x2) :: (s2, o') :: (s3, x3) :: (e1, y1) :: (e2, y2) :: (e5, y5) :: (e6, y6) :: nw) :=
  let ⟨e, f, g, h, i⟩ := d.d2
  .tail (Ne.symm d.r.2.2.1) (.tail (Ne.symm d.d0.2.1) (.tail (Ne.symm d.d1.1) (.head (off_cons e (off_cons f (off_cons g (off_cons h (off_cons i d.n2))))))))
theorem Dist.u3 (d : Dist ra s0 s1 s2 s3 e1 e2 e5 e6 nw) : Upd s3 o o' ((ra, x0) :: (s0, x1) :: (s1, x2) :: (s2, x3) :: (s3, o) :: (e1, y1) :: (e2, y2) :: (e5, y5) :: (e6, y6) :: nw) ((ra, x0) :: (s0, x1) :: (s1, x2) :: (s2, x3) :: (s3, o') :: (e1, y1) :: (e2, y2) :: (e5, y5) :: (e6, y6) :: nw) :=
  let ⟨f, g, h, i⟩ := d.d3
  .tail (Ne.symm d.r.2.2.2.1) (.tail (Ne.symm d.d0.2.2.1) (.tail (Ne.symm d.d1.2.1) (.tail (Ne.symm d.d2.1) (.head (off_cons f (off_cons g (off_cons h (off_cons i d.n3))))))))
end
theorem ints_snoc {x : Int} {t : Tok} : ∀ {vs : List Value} {l : List Int}, IntsAre vs l → IntsAre (vs ++ [.int x t]) (l ++ [x])
  | _, _, .nil => .cons x t .nil
  | _, _, .cons y u r => .cons y u (ints_snoc r)
noncomputable def stI (rv v0 v1 v2 v3 : List Value) (q : ST) : Prop := IntsAre rv q.row ∧ IntsAre v0 q.n0 ∧ IntsAre v1 q.n1 ∧ IntsAre v2 q.n2 ∧ IntsAre v3 q.n3
theorem ne_in {l : List Str} {z a : Str} (h : l.contains z = false) (ha : l.contains a = true) : z ≠ a := by
  rintro rfl; rw [h] at ha; cases ha
theorem one_contains {z a : Str} (h : z ≠ a) : [a].contains z = false := by simp [h]
theorem stMk {rv v0 v1 v2 v3 : List Value} {q : ST} (j : IntsAre rv q.row) (j0 : IntsAre v0 q.n0) (j1 : IntsAre v1 q.n1) (j2 : IntsAre v2 q.n2) (j3 : IntsAre v3 q.n3) : stI rv v0 v1 v2 v3 q := ⟨j, j0, j1, j2, j3⟩
section
variable {a b c d k : Int} {sm : List Int} {rv v0 v1 v2 v3 : List Value} {q : ST} {t : Tok}
theorem stIr (h : ¬ blf a b c d (k + 1) < brf a b c d (k + 1)) (j : stI rv v0 v1 v2 v3 q) : stI (rv ++ [.int (sm.getD k.toNat 0) t]) v0 v1 v2 v3 (stp a b c d sm q k) := by
  unfold stp; rw [if_neg h]; exact ⟨ints_snoc j.1, j.2⟩
theorem stI0 (h : blf a b c d (k + 1) < brf a b c d (k + 1)) (hb : blf a b c d (k + 1) = 0) (j : stI rv v0 v1 v2 v3 q) : stI rv (v0 ++ [.int (sm.getD k.toNat 0) t]) v1 v2 v3 (stp a b c d sm q k) := by
  unfold stp; rw [if_pos h, if_pos hb]; exact ⟨j.1, ints_snoc j.2.1, j.2.2⟩
theorem stI1 (h : blf a b c d (k + 1) < brf a b c d (k + 1)) (hb : blf a b c d (k + 1) = 1) (j : stI rv v0 v1 v2 v3 q) : stI rv v0 (v1 ++ [.int (sm.getD k.toNat 0) t]) v2 v3 (stp a b c d sm q k) := by
  unfold stp; rw [if_pos h, if_neg (by rw [hb]; decide), if_pos hb]; exact ⟨j.1, j.2.1, ints_snoc j.2.2.1, j.2.2.2⟩
theorem stI2 (h : blf a b c d (k + 1) < brf a b c d (k + 1)) (hb : blf a b c d (k + 1) = 2) (j : stI rv v0 v1 v2 v3 q) : stI rv v0 v1 (v2 ++ [.int (sm.getD k.toNat 0) t]) v3 (stp a b c d sm q k) := by
  unfold stp; rw [if_pos h, if_neg (by rw [hb]; decide), if_neg (by rw [hb]; decide), if_pos hb]; exact ⟨j.1, j.2.1, j.2.2.1, ints_snoc j.2.2.2.1, j.2.2.2.2⟩
theorem stI3 (h : blf a b c d (k + 1) < brf a b c d (k + 1)) (hb : blf a b c d (k + 1) = 3) (j : stI rv v0 v1 v2 v3 q) : stI rv v0 v1 v2 (v3 ++ [.int (sm.getD k.toNat 0) t]) (stp a b c d sm q k) := by
  unfold stp; rw [if_pos h, if_neg (by rw [hb]; decide), if_neg (by rw [hb]; decide), if_neg (by rw [hb]; decide)]; exact ⟨j.1, j.2.1, j.2.2.1, j.2.2.2.1, ints_snoc j.2.2.2.2⟩
end
noncomputable def selA (g : Int) (s0 s1 s2 s3 : Addr) : Addr := if g = 0 then s0 else if g = 1 then s1 else if g = 2 then s2 else s3
noncomputable def selV (g : Int) (v0 v1 v2 v3 : List Value) : List Value := if g = 0 then v0 else if g = 1 then v1 else if g = 2 then v2 else v3
noncomputable def selN (g : Int) (c0 c1 c2 c3 : Nat) : Nat := if g = 0 then c0 else if g = 1 then c1 else if g = 2 then c2 else c3
noncomputable def apV (i g : Int) (v : List Value) (x : Value) : List Value := if g = i then v ++ [x] else v
noncomputable def apN (i g : Int) (c c' : Nat) : Nat := if g = i then c' else c
theorem g4 {g : Int} (h0 : 0 ≤ g) (h4 : g < 4) : g = 0 ∨ g = 1 ∨ g = 2 ∨ g = 3 := by omega
theorem sel_get {s0 s1 s2 s3 : Addr} {g : Int} (h0 : 0 ≤ g) (h4 : g < 4) : [Value.ref s0, .ref s1, .ref s2, .ref s3][g.toNat]? = some (.ref (selA g s0 s1 s2 s3)) := by
  rcases g4 h0 h4 with rfl | rfl | rfl | rfl <;> rfl
theorem selV_len {g : Int} {v0 v1 v2 v3 : List Value} {n : Nat} (h0 : v0.length ≤ n) (h1 : v1.length ≤ n) (h2 : v2.length ≤ n) (h3 : v3.length ≤ n) : (selV g v0 v1 v2 v3).length ≤ n := by
  unfold selV
  split
  · exact h0
  split
  · exact h1
  split
  · exact h2
  · exact h3
theorem news_tl {h₀ h : Heap} {L : Addr} {p : Addr × Obj} {l : List (Addr × Obj)} (N : News h₀ L h (p :: l)) : News h₀ L h l := fun q hq => N q (.tail _ hq)
theorem news_selv {h₀ h : Heap} {L s0 s1 s2 s3 : Addr} {v0 v1 v2 v3 : List Value} {c0 c1 c2 c3 : Nat} {nw : List (Addr × Obj)} {g : Int} (N : News h₀ L h nw) (m0 : (s0, listOf v0.toArray c0) ∈ nw) (m1 : (s1, listOf v1.toArray c1) ∈ nw) (m2 : (s2, listOf v2.toArray c2) ∈ nw) (m3 : (s3, listOf v3.toArray c3) ∈ nw) (h0 : 0 ≤ g) (h4 : g < 4) :
    News h₀ L h ((selA g s0 s1 s2 s3, listOf (selV g v0 v1 v2 v3).toArray (selN g c0 c1 c2 c3)) :: nw) := by
  rcases g4 h0 h4 with rfl | rfl | rfl | rfl
  · exact fun q hq => by rcases List.mem_cons.mp hq with rfl | hq; exact N _ m0; exact N q hq
  · exact fun q hq => by rcases List.mem_cons.mp hq with rfl | hq; exact N _ m1; exact N q hq
  · exact fun q hq => by rcases List.mem_cons.mp hq with rfl | hq; exact N _ m2; exact N q hq
  · exact fun q hq => by rcases List.mem_cons.mp hq with rfl | hq; exact N _ m3; exact N q hq
theorem Dist.uS {ra s0 s1 s2 s3 e1 e2 e5 e6 : Addr} {nw : List (Addr × Obj)} {X0 y1 y2 y5 y6 : Obj} {v0 v1 v2 v3 : List Value} {c0 c1 c2 c3 : Nat} {g : Int} {x : Value} (d : Dist ra s0 s1 s2 s3 e1 e2 e5 e6 nw) (h0 : 0 ≤ g) (h4 : g < 4) :
    Upd (selA g s0 s1 s2 s3) (listOf (selV g v0 v1 v2 v3).toArray (selN g c0 c1 c2 c3)) (listOf ((selV g v0 v1 v2 v3).toArray.push x) (selN g c0 c1 c2 c3 + 1))
      ((ra, X0) :: (s0, listOf v0.toArray c0) :: (s1, listOf v1.toArray c1) :: (s2, listOf v2.toArray c2) :: (s3, listOf v3.toArray c3) :: (e1, y1) :: (e2, y2) :: (e5, y5) :: (e6, y6) :: nw)
      ((ra, X0) :: (s0, listOf (apV 0 g v0 x).toArray (apN 0 g c0 (selN g c0 c1 c2 c3 + 1))) :: (s1, listOf (apV 1 g v1 x).toArray (apN 1 g c1 (selN g c0 c1 c2 c3 + 1))) :: (s2, listOf (apV 2 g v2 x).toArray (apN 2 g c2 (selN g c0 c1 c2 c3 + 1))) :: (s3, listOf (apV 3 g v3 x).toArray (apN 3 g c3 (selN g c0 c1 c2 c3 + 1))) :: (e1, y1) :: (e2, y2) :: (e5, y5) :: (e6, y6) :: nw) := by
  rw [List.push_toArray]
  rcases g4 h0 h4 with rfl | rfl | rfl | rfl
  · exact d.u0
  · exact d.u1
  · exact d.u2
  · exact d.u3
section
variable {a b c d k : Int} {sm : List Int} {rv v0 v1 v2 v3 : List Value} {q : ST} {t : Tok}
theorem stIG (h : blf a b c d (k + 1) < brf a b c d (k + 1)) (h0 : 0 ≤ blf a b c d (k + 1)) (h4 : blf a b c d (k + 1) < 4) (j : stI rv v0 v1 v2 v3 q) :
    stI rv (apV 0 (blf a b c d (k + 1)) v0 (.int (sm.getD k.toNat 0) t)) (apV 1 (blf a b c d (k + 1)) v1 (.int (sm.getD k.toNat 0) t)) (apV 2 (blf a b c d (k + 1)) v2 (.int (sm.getD k.toNat 0) t)) (apV 3 (blf a b c d (k + 1)) v3 (.int (sm.getD k.toNat 0) t)) (stp a b c d sm q k) := by
  rcases g4 h0 h4 with e | e | e | e
  · have r := stI0 (sm := sm) (t := t) h e j
    rw [e]; exact r
  · have r := stI1 (sm := sm) (t := t) h e j
    rw [e]; exact r
  · have r := stI2 (sm := sm) (t := t) h e j
    rw [e]; exact r
  · have r := stI3 (sm := sm) (t := t) h e j
    rw [e]; exact r
end
theorem blf_bd (a b c d x : Int) : 0 ≤ blf a b c d x := by
  rcases (by unfold blf; (repeat' split) <;> simp : blf a b c d x = 0 ∨ blf a b c d x = 1 ∨ blf a b c d x = 2 ∨ blf a b c d x = 3 ∨ blf a b c d x = 4) with h | h | h | h | h <;> rw [h] <;> decide
theorem lt4 {x y : Int} (h : x < y) (h4 : y ≤ 4) : x < 4 := Int.lt_of_lt_of_le h h4
theorem itemSel {prog : Program} {w : World} {A : Around} {E : Value → Shared → Prop} {s : Shared} {value slice : Expr} {S s0 s1 s2 s3 : Addr} {g : Int} {u : Tok} {Q : Value → Shared → Prop} {h₀ : Heap} {L : Addr} {v0 v1 v2 v3 : List Value} {c0 c1 c2 c3 : Nat} {nw : List (Addr × Obj)}
    (N : News h₀ L s.heap nw) (hS : (S, LCg.lst [.ref s0, .ref s1, .ref s2, .ref s3]) ∈ nw) (m0 : (s0, listOf v0.toArray c0) ∈ nw) (m1 : (s1, listOf v1.toArray c1) ∈ nw) (m2 : (s2, listOf v2.toArray c2) ∈ nw) (m3 : (s3, listOf v3.toArray c3) ∈ nw) (h0 : 0 ≤ g) (h4 : g < 4)
    (h : News h₀ L s.heap ((selA g s0 s1 s2 s3, listOf (selV g v0 v1 v2 v3).toArray (selN g c0 c1 c2 c3)) :: nw) → Q (.ref (selA g s0 s1 s2 s3)) s)
    (hs : subscripted slice false (.ref S) (.int g u) = operate [.ref S, .int g u] (getItem (.ref S) (.int g u))) :
    wpAny (model prog w) A (subscriptTail value slice (.ref S) (.int g u)) Q E s :=
  itemK (vs := [.ref s0, .ref s1, .ref s2, .ref s3]) (News.isList N hS) h0 (by omega) (sel_get h0 h4) (h (news_selv N m0 m1 m2 m3 h0 h4)) hs
theorem rangeEnd {h₀ : Heap} {L ra s0 s1 s2 s3 : Addr} {e1 e2 e5 e6 : Addr × Obj} {news own : List (Addr × Obj)} {x : Str} {m₀ m' : Str → Option Value} {P : List Int → ST → Prop} {pre : List Int} {adr : List Addr} {s₁ : Shared} {h' : Heap} {tk : Nat} {rv v0 v1 v2 v3 : List Value} {rc c0 c1 c2 c3 : Nat} {Q : Flow → Shared → Prop} (q : ST)
    (F : Fr h₀ L h' m') (N : News h₀ L h' ((ra, listOf rv.toArray rc) :: (s0, listOf v0.toArray c0) :: (s1, listOf v1.toArray c1) :: (s2, listOf v2.toArray c2) :: (s3, listOf v3.toArray c3) :: e1 :: e2 :: e5 :: e6 :: (news ++ own)))
    (i : stI rv v0 v1 v2 v3 q) (hr : ∀ z, z ≠ x → [Str.ofString "group"].contains z = false → m' z = m₀ z) (hp : P pre q) (ha : adr = ra :: s0 :: s1 :: s2 :: s3 :: e1.1 :: e2.1 :: e5.1 :: e6.1 :: news.map (·.1)) :
    InvPostN h₀ L (KstS (ledI ra s0 s1 s2 s3 (e1 :: e2 :: e5 :: e6 :: news)) (fun _ => []) facI x [Str.ofString "group"] m₀ (fun pre c => P pre c.r) pre) own adr s₁ Q .next { s₁ with heap := h', toks := tk } := by
  subst ha
  show InvEndN _ _ _ _ _ _ _
  refine kst_end (IS.mk rv v0 v1 v2 v3 q rc c0 c1 c2 c3) F N ?_ ?_ rfl i (fun _ h => nomatch h) (fun z h1 _ h3 => hr z h1 h3) hp
  · unfold ledI
    dsimp only
    (repeat (refine subC (by (focus first | ((repeat (first | exact memH | ((fail_if_success (refine nilX ?_)); refine memT ?_))); done) | ((repeat (first | assumption | ((fail_if_success (refine nilX ?_)); refine memT ?_))); done))) ?_))
    exact fun p hp => .tail _ (.tail _ (.tail _ (.tail _ (.tail _ (.tail _ (.tail _ (.tail _ (.tail _ (List.mem_append_left _ hp)))))))))
  · exact fun p hp => .tail _ (.tail _ (.tail _ (.tail _ (.tail _ (.tail _ (.tail _ (.tail _ (.tail _ (List.mem_append_right _ hp)))))))))
section
variable {prog : Program} {w : World} {A : Around} {E : Value → Shared → Prop} {Q : Flow → Shared → Prop} {s : Shared} {env : Env} {h₀ : Heap}
theorem rangeS {L : Addr} {x : Str} {body : List Stmt} {m₀ : Str → Option Value} {r ra s0 s1 s2 s3 : Addr} {n : Nat} {t₀ u₀ v₀' : Tok} {w' : Array Value} {v0 v1 v2 v3 : List Value} {rc c0 c1 c2 c3 : Nat} {e1 e2 e3 e4 e5 e6 : Addr × Obj} {news : List (Addr × Obj)} {r0 : ST} (P : List Int → ST → Prop)
    (eL : env.locals = L) (hh : A.handled = none) (hr : IsRange s.heap r 0 n 1 t₀ u₀ v₀') (hn : n ≤ 1000)
    (F : Fr h₀ L s.heap m₀) (N : News h₀ L s.heap ((ra, listOf w' rc) :: e1 :: e2 :: e3 :: e4 :: e5 :: e6 :: (s0, listOf v0.toArray c0) :: (s1, listOf v1.toArray c1) :: (s2, listOf v2.toArray c2) :: (s3, listOf v3.toArray c3) :: news))
    (hw : w' = #[]) (hD : Dist ra s0 s1 s2 s3 e1.1 e2.1 e5.1 e6.1 news) (h0 : P [] r0) (hr0 : r0.row = []) (i0 : IntsAre v0 r0.n0) (i1 : IntsAre v1 r0.n1) (i2 : IntsAre v2 r0.n2) (i3 : IntsAre v3 r0.n3)
    (turn : ∀ (pre : List Int) (k : Int) (t : Tok) (rv v0 v1 v2 v3 : List Value) (q : ST) (rc c0 c1 c2 c3 : Nat) (u : Str → Option Value) h tk own, k = (pre.length : Int) → pre.length < n → Dist ra s0 s1 s2 s3 e1.1 e2.1 e5.1 e6.1 (news ++ own) →
      IntsAre rv q.row → IntsAre v0 q.n0 → IntsAre v1 q.n1 → IntsAre v2 q.n2 → IntsAre v3 q.n3 → P pre q →
      Fr h₀ L h (fun y => if y = x then some (.int k t) else if [Str.ofString "group"].contains y then u y else m₀ y) →
      News h₀ L h ((ra, listOf rv.toArray rc) :: (s0, listOf v0.toArray c0) :: (s1, listOf v1.toArray c1) :: (s2, listOf v2.toArray c2) :: (s3, listOf v3.toArray c3) :: e1 :: e2 :: e5 :: e6 :: (news ++ own)) →
      wpAny (model prog w) A (execs body env) (postI h₀ L ra s0 s1 s2 s3 (e1 :: e2 :: e5 :: e6 :: news) x m₀ P (ra :: s0 :: s1 :: s2 :: s3 :: e1.1 :: e2.1 :: e5.1 :: e6.1 :: news.map (·.1)) (pre ++ [k]) own { s with heap := h, toks := tk } Q) E { s with heap := h, toks := tk })
    (done : ∀ (rv v0 v1 v2 v3 : List Value) (q : ST) (rc c0 c1 c2 c3 : Nat) (u : Str → Option Value) h tk,
      IntsAre rv q.row → IntsAre v0 q.n0 → IntsAre v1 q.n1 → IntsAre v2 q.n2 → IntsAre v3 q.n3 → P (rangeKs 0 n) q →
      Fr h₀ L h (fun y => if y = x then u y else if [Str.ofString "group"].contains y then u y else m₀ y) →
      News h₀ L h ((ra, listOf rv.toArray rc) :: (s0, listOf v0.toArray c0) :: (s1, listOf v1.toArray c1) :: (s2, listOf v2.toArray c2) :: (s3, listOf v3.toArray c3) :: e1 :: e2 :: e5 :: e6 :: news) → Q .next { s with heap := h, toks := tk }) :
    wpAny (model prog w) A (pyIter (.ref r)) (fun it s₂ => LoopAtV prog w A h₀ env x body Q E it s₂) E s := by
  subst hw
  subst eL
  refine kst_range (n := n) (ledI ra s0 s1 s2 s3 (e1 :: e2 :: e5 :: e6 :: news)) (fun _ => []) facI [Str.ofString "group"] (fun pre c => P pre c.r) ⟨[], v0, v1, v2, v3, r0, rc, c0, c1, c2, c3⟩ hh hr
    (small_one (by omega) (by omega) (by omega) (by omega)) (rangeSize_nat _ _) F ?_ ⟨by rw [hr0]; exact .nil, i0, i1, i2, i3⟩ (fun _ h => nomatch h) h0 ?_ ?_
  · refine news_sub N ?_
    unfold ledI
    dsimp only
    (repeat (refine subC (by (focus first | ((repeat (first | exact memH | ((fail_if_success (refine nilX ?_)); refine memT ?_))); done) | ((repeat (first | assumption | ((fail_if_success (refine nilX ?_)); refine memT ?_))); done))) ?_))
    (focus (intro p hp; (repeat (first | exact hp | refine memT ?_)); done))
  · rintro ⟨rv, v0, v1, v2, v3, q, rc, c0, c1, c2, c3⟩ pre k t u h tk own hk hl ho ⟨i, i0, i1, i2, i3⟩ hp F' N'
    exact turn pre k t rv v0 v1 v2 v3 q rc c0 c1 c2 c3 u h tk own (by rw [hk, Int.zero_add]) hl (hD.own ho) i i0 i1 i2 i3 hp F' N'
  · rintro ⟨rv, v0, v1, v2, v3, q, rc, c0, c1, c2, c3⟩ u h tk ⟨i, i0, i1, i2, i3⟩ hp F' N'
    exact done rv v0 v1 v2 v3 q rc c0 c1 c2 c3 u h tk i i0 i1 i2 i3 hp F' N'
end
theorem dealt_snoc (r : ST) (pre : List Int) (k : Int) : dealt r (pre ++ [k]) = stp (r.z0 + 0) (r.z1 + (r.z0 + 0)) (r.z2 + (r.z1 + (r.z0 + 0))) (r.z3 + (r.z2 + (r.z1 + (r.z0 + 0)))) (prefS (r.row ++ [0]) 0).tail (dealt r pre) k := by
  simp [dealt, List.foldl_append]
theorem brf_le (a b c d x : Int) : 0 ≤ brf a b c d x ∧ brf a b c d x ≤ 4 := by
  unfold brf; (repeat' split) <;> simp
theorem ints_get : ∀ {vs : List Value} {l : List Int}, IntsAre vs l → ∀ i : Nat, i < l.length → ∃ t, vs[i]? = some (.int (l.getD i 0) t)
  | _, _, .nil, i, h => absurd h (Nat.not_lt_zero _)
  | _, _, .cons x t r, 0, _ => ⟨t, rfl⟩
  | _, _, .cons x t r, i + 1, h => ints_get r i (Nat.lt_of_succ_lt_succ h)
theorem bislX {w : World} {mean : ExcName → Option Value} {mg mb : Str → Option Value} (dp un : Nat) (gd : Option (List Code)) (cn : Str) (cs : Scope) (ca : Addr) (ccd : Value) (cl : List (Str × Addr)) (outer : List Env) (A₀ : Around) (base h₀ : Heap) (L : Addr) (m : Str → Option Value) (s : Shared) (Q E : Value → Shared → Prop) (news : List (Addr × Obj))
  (B : Below A₀ base outer h₀) (F : Fr h₀ L s.heap m) (X : (Mine.hp w.params).In h₀) (N : News h₀ L s.heap news) (T : Top topProg (looseW Mine.vw Mine.lo ++ (recsOf Mine.vw).map (·.name) ++ (litsOf Mine.vw).map (·.1) ++ (clssOf Mine.vw (looseW Mine.vw Mine.lo)).map (·.name)) mean mg mb h₀) (hk : cs.kind = .function)
  {l : Addr} {xs : Array Value} {a b c d x : Int} {ta tb tc td tx : Tok} {nn : Nat} (hl : (l, listOf xs nn) ∈ news) (hx : xs = #[.int a ta, .int b tb, .int c tc, .int d td])
  (hd : dp + 2 < recursionLimit) (hu : un + 16 < cLine)
  (ret : ∀ (t : Tok) (h : Heap) (tk : Nat), Fr h₀ L h m → News h₀ L h news → Q (.int (blf a b c d x) t) { s with heap := h, toks := tk }) :
  wpAny (model Mine.rw.prog w) (ktrTop dp un gd cn cs L ca ccd cl outer) (call (.ref 91) [.ref l, .int x tx]) Q E s := by
  subst hx
  exact bisl _ _ _ _ _ _ _ _ _ _ _ _ _ _ _ _ _ _ B F X N T hk l a b c d x ta tb tc td tx nn hl hd hu ret
theorem bisrX {w : World} {mean : ExcName → Option Value} {mg mb : Str → Option Value} (dp un : Nat) (gd : Option (List Code)) (cn : Str) (cs : Scope) (ca : Addr) (ccd : Value) (cl : List (Str × Addr)) (outer : List Env) (A₀ : Around) (base h₀ : Heap) (L : Addr) (m : Str → Option Value) (s : Shared) (Q E : Value → Shared → Prop) (news : List (Addr × Obj))
  (B : Below A₀ base outer h₀) (F : Fr h₀ L s.heap m) (X : (Mine.hp w.params).In h₀) (N : News h₀ L s.heap news) (T : Top topProg (looseW Mine.vw Mine.lo ++ (recsOf Mine.vw).map (·.name) ++ (litsOf Mine.vw).map (·.1) ++ (clssOf Mine.vw (looseW Mine.vw Mine.lo)).map (·.name)) mean mg mb h₀) (hk : cs.kind = .function)
  {l : Addr} {xs : Array Value} {a b c d x : Int} {ta tb tc td tx : Tok} {nn : Nat} (hl : (l, listOf xs nn) ∈ news) (hx : xs = #[.int a ta, .int b tb, .int c tc, .int d td])
  (hd : dp + 2 < recursionLimit) (hu : un + 16 < cLine)
  (ret : ∀ (t : Tok) (h : Heap) (tk : Nat), Fr h₀ L h m → News h₀ L h news → Q (.int (brf a b c d x) t) { s with heap := h, toks := tk }) :
  wpAny (model Mine.rw.prog w) (ktrTop dp un gd cn cs L ca ccd cl outer) (call (.ref 82) [.ref l, .int x tx]) Q E s := by
  subst hx
  exact bisr _ _ _ _ _ _ _ _ _ _ _ _ _ _ _ _ _ _ B F X N T hk l a b c d x ta tb tc td tx nn hl hd hu ret
theorem dealt_z (r : ST) (pre : List Int) : (dealt r pre).z0 = r.z0 ∧ (dealt r pre).z1 = r.z1 ∧ (dealt r pre).z2 = r.z2 ∧ (dealt r pre).z3 = r.z3 := by
  have g : ∀ (e0 e1 e2 e3 : Int) (sm : List Int) (pre : List Int) (q : ST), (pre.foldl (stp e0 e1 e2 e3 sm) q).z0 = q.z0 ∧ (pre.foldl (stp e0 e1 e2 e3 sm) q).z1 = q.z1 ∧ (pre.foldl (stp e0 e1 e2 e3 sm) q).z2 = q.z2 ∧ (pre.foldl (stp e0 e1 e2 e3 sm) q).z3 = q.z3 := by
    intro e0 e1 e2 e3 sm pre
    induction pre with
    | nil => intro q; exact ⟨rfl, rfl, rfl, rfl⟩
    | cons k pre ih =>
      intro q
      simp only [List.foldl_cons]
      have a := ih (stp e0 e1 e2 e3 sm q k)
      have b : (stp e0 e1 e2 e3 sm q k).z0 = q.z0 ∧ (stp e0 e1 e2 e3 sm q k).z1 = q.z1 ∧ (stp e0 e1 e2 e3 sm q k).z2 = q.z2 ∧ (stp e0 e1 e2 e3 sm q k).z3 = q.z3 := by
        unfold stp; (repeat' split) <;> simp
      rw [a.1, a.2.1, a.2.2.1, a.2.2.2]; exact b
  exact g (r.z0 + 0) (r.z1 + (r.z0 + 0)) (r.z2 + (r.z1 + (r.z0 + 0))) (r.z3 + (r.z2 + (r.z1 + (r.z0 + 0)))) (prefS (r.row ++ [0]) 0).tail pre { r with row := [] }
theorem max_if (x : Int) : max (x - 1) 0 = if 0 > x - 1 then 0 else x - 1 := by split <;> omega
theorem turn_eq {rn n0 n1 n2 n3 : List Int} {z0 z1 z2 z3 : Int} {q : ST} (hq : q = dealt ⟨rn, n0, n1, n2, n3, z0, z1, z2, z3⟩ (rangeKs 0 rn.length)) :
    turnS ⟨rn, n0, n1, n2, n3, z0, z1, z2, z3⟩ = ⟨q.row, q.n0, q.n1, q.n2, q.n3, if 0 > z0 - 1 then 0 else z0 - 1, if 0 > z1 - 1 then 0 else z1 - 1, if 0 > z2 - 1 then 0 else z2 - 1, if 0 > z3 - 1 then 0 else z3 - 1⟩ := by
  have d := dealt_z ⟨rn, n0, n1, n2, n3, z0, z1, z2, z3⟩ (rangeKs 0 rn.length)
  simp only [turnS, tail_len, ← hq, lower] at d ⊢
  rw [d.1, d.2.1, d.2.2.1, d.2.2.2]
  simp only [max_if]
theorem run_nil {P : Int} {f : Nat} {r fin : ST} (h : runS P f r = some fin) (hr : r.row = []) : r = fin := by
  cases f <;> simpa [runS, hr] using h
theorem whileEnd {h₀ h' : Heap} {L S s0 s1 s2 s3 R Z : Addr} {e1 e2 e5 : Addr × Obj} {so zo : Obj} {news : List (Addr × Obj)} {m₀ m' : Str → Option Value} {P : Int} {fin : ST} {s : Shared} {Q : Flow → Shared → Prop} {c : CS} {tk : Nat} {rv v0 v1 v2 v3 : List Value} {rc c0 c1 c2 c3 zc : Nat} {q : ST} {w0 w1 w2 w3 : Int} {y0 y1 y2 y3 : Tok} (f' : Nat)
    (F : Fr h₀ L h' m') (N : News h₀ L h' ((Z, zo) :: (R, listOf rv.toArray rc) :: (s0, listOf v0.toArray c0) :: (s1, listOf v1.toArray c1) :: (s2, listOf v2.toArray c2) :: (s3, listOf v3.toArray c3) :: e1 :: e2 :: e5 :: (S, so) :: news))
    (hz : zo = l4 w0 w1 w2 w3 y0 y1 y2 y3 zc) (i : stI rv v0 v1 v2 v3 q) (hR : S < R ∧ s0 < R ∧ s1 < R ∧ s2 < R ∧ s3 < R) (hZ : S ≠ Z ∧ s0 ≠ Z ∧ s1 ≠ Z ∧ s2 ≠ Z ∧ s3 ≠ Z)
    (hm : m' (Str.ofString "row") = some (.ref R)) (hn : m' (Str.ofString "sizes") = some (.ref Z)) (hr : ∀ z, z ≠ Str.ofString "row" → z ≠ Str.ofString "sizes" → storedS.contains z = false → m' z = m₀ z)
    (hp : runS P f' ⟨q.row, q.n0, q.n1, q.n2, q.n3, w0, w1, w2, w3⟩ = some fin) (hf : f' < c.f) :
    endS h₀ L s S s0 s1 s2 s3 so news m₀ P fin Q c .next { s with heap := h', toks := tk } := by
  subst hz
  show KswEnd _ _ _ _ _ _ _ _ _ _ _ _
  refine ksw_end (CS.mk f' R Z rv v0 v1 v2 v3 ⟨q.row, q.n0, q.n1, q.n2, q.n3, w0, w1, w2, w3⟩ y0 y1 y2 y3 rc zc c0 c1 c2 c3) F N ?_ ?_ ?_ ?_ hp hf
  · unfold ledS
    dsimp only
    (repeat (refine subC (by (focus first | ((repeat (first | exact memH | ((fail_if_success (refine nilX ?_)); refine memT ?_))); done) | ((repeat (first | assumption | ((fail_if_success (refine nilX ?_)); refine memT ?_))); done))) ?_))
    (focus (intro p hp; (repeat (first | exact hp | refine memT ?_)); done))
  · exact ⟨i.1, i.2.1, i.2.2.1, i.2.2.2.1, i.2.2.2.2, hR.1, hR.2.1, hR.2.2.1, hR.2.2.2.1, hR.2.2.2.2, hZ⟩
  · intro p hp
    simp only [psS, List.mem_cons, List.not_mem_nil, or_false] at hp
    rcases hp with rfl | rfl
    · exact hm
    · exact hn
  · intro z h1 h2
    exact hr z (h1 _ (.head _)) (h1 _ (.tail _ (.head _))) h2
theorem exitNews {h₀ h : Heap} {L : Addr} {x1 x2 x3 x4 a b c d : Addr × Obj} {news : List (Addr × Obj)} (N : News h₀ L h (x1 :: x2 :: x3 :: x4 :: a :: b :: c :: d :: news)) : News h₀ L h (x4 :: a :: b :: c :: d :: news) :=
  kst_newsOf N fun _ hp => .tail _ (.tail _ (.tail _ hp))
theorem stLe {x y z n : Nat} (h : x ≤ y + n) (k : y ≤ z + 1) : x ≤ z + (n + 1) := by omega
theorem le3 {a b c n : Nat} (h : a ≤ b + c) (hb : b ≤ 2000) (hc : c < n) (hn : n < 1000) : a ≤ 3000 := by omega
theorem dealt_len (r : ST) (pre : List Int) : (dealt r pre).row.length ≤ pre.length ∧ (dealt r pre).n0.length ≤ r.n0.length + pre.length ∧ (dealt r pre).n1.length ≤ r.n1.length + pre.length ∧ (dealt r pre).n2.length ≤ r.n2.length + pre.length ∧ (dealt r pre).n3.length ≤ r.n3.length + pre.length := by
  have g : ∀ (e0 e1 e2 e3 : Int) (sm : List Int) (pre : List Int) (q : ST), (pre.foldl (stp e0 e1 e2 e3 sm) q).row.length ≤ q.row.length + pre.length ∧ (pre.foldl (stp e0 e1 e2 e3 sm) q).n0.length ≤ q.n0.length + pre.length ∧ (pre.foldl (stp e0 e1 e2 e3 sm) q).n1.length ≤ q.n1.length + pre.length ∧ (pre.foldl (stp e0 e1 e2 e3 sm) q).n2.length ≤ q.n2.length + pre.length ∧ (pre.foldl (stp e0 e1 e2 e3 sm) q).n3.length ≤ q.n3.length + pre.length := by
    intro e0 e1 e2 e3 sm pre
    induction pre with
    | nil => intro q; simp
    | cons k pre ih =>
      intro q
      simp only [List.foldl_cons, List.length_cons]
      have a := ih (stp e0 e1 e2 e3 sm q k)
      have b : (stp e0 e1 e2 e3 sm q k).row.length ≤ q.row.length + 1 ∧ (stp e0 e1 e2 e3 sm q k).n0.length ≤ q.n0.length + 1 ∧ (stp e0 e1 e2 e3 sm q k).n1.length ≤ q.n1.length + 1 ∧ (stp e0 e1 e2 e3 sm q k).n2.length ≤ q.n2.length + 1 ∧ (stp e0 e1 e2 e3 sm q k).n3.length ≤ q.n3.length + 1 := by
        unfold stp; (repeat' split) <;> simp
      exact ⟨stLe a.1 b.1, stLe a.2.1 b.2.1, stLe a.2.2.1 b.2.2.1, stLe a.2.2.2.1 b.2.2.2.1, stLe a.2.2.2.2 b.2.2.2.2⟩
  have h := g (r.z0 + 0) (r.z1 + (r.z0 + 0)) (r.z2 + (r.z1 + (r.z0 + 0))) (r.z3 + (r.z2 + (r.z1 + (r.z0 + 0)))) (prefS (r.row ++ [0]) 0).tail pre { r with row := [] }
  simpa [dealt] using h
theorem tnLens {r q : ST} {pre : List Int} {n : Nat} {rv v0 v1 v2 v3 : List Value} (hq : q = dealt r pre) (hl : pre.length < n) (hn : n < 1000) (h0 : r.n0.length ≤ 2000) (h1 : r.n1.length ≤ 2000) (h2 : r.n2.length ≤ 2000) (h3 : r.n3.length ≤ 2000)
    (j : IntsAre rv q.row) (j0 : IntsAre v0 q.n0) (j1 : IntsAre v1 q.n1) (j2 : IntsAre v2 q.n2) (j3 : IntsAre v3 q.n3) : rv.length ≤ 3000 ∧ v0.length ≤ 3000 ∧ v1.length ≤ 3000 ∧ v2.length ≤ 3000 ∧ v3.length ≤ 3000 := by
  subst hq
  have d := dealt_len r pre
  rw [j.length, j0.length, j1.length, j2.length, j3.length]
  exact ⟨Nat.le_trans d.1 (Nat.le_of_lt (Nat.lt_trans hl (Nat.lt_trans hn (by decide)))), le3 d.2.1 h0 hl hn, le3 d.2.2.1 h1 hl hn, le3 d.2.2.2.1 h2 hl hn, le3 d.2.2.2.2 h3 hl hn⟩
theorem struck {w : World} {mean : ExcName → Option Value} {mg mb : Str → Option Value} (dp un : Nat) (gd : Option (List Code)) (cn : Str) (cs : Scope) (ca : Addr) (ccd : Value) (cl : List (Str × Addr)) (outer : List Env) (A₀ : Around) (base h₀ : Heap) (L : Addr) (m : Str → Option Value) (s : Shared) (Q E : Value → Shared → Prop) (news : List (Addr × Obj))
  (B : Below A₀ base outer h₀) (F : Fr h₀ L s.heap m) (X : (Mine.hp w.params).In h₀) (N : News h₀ L s.heap news) (T : Top topProg (looseW Mine.vw Mine.lo ++ (recsOf Mine.vw).map (·.name) ++ (litsOf Mine.vw).map (·.1) ++ (clssOf Mine.vw (looseW Mine.vw Mine.lo)).map (·.name)) mean mg mb h₀) (hk : cs.kind = .function)
  (l : Addr) (step first half g0 g1 g2 g3 : Int) (t0 t1 t2 t3 t4 t5 t6 : Tok) (nn : Nat) (hl : (l, l4 g0 g1 g2 g3 t0 t1 t2 t3 nn) ∈ news) (P : Int) (hh1 : 2 ≤ half) (hh2 : half ≤ 12) (hP : (2 : Int) ^ half.toNat = P) (hP1 : 4 ≤ P) (hP2 : P ≤ 4096) (hbb : P * P - 1 ≤ 16777215) (fu : Nat) (fin : ST) (hfin : runS P fu ⟨first :: List.replicate (g0 + (g1 + (g2 + (g3 + 0))) - 1).toNat step, [], [], [], [], g0, g1, g2, g3⟩ = some fin) (hg0 : 0 ≤ g0) (hg1 : 0 ≤ g1) (hg2 : 0 ≤ g2) (hg3 : 0 ≤ g3) (hgs : g0 + g1 + g2 + g3 ≤ 200) (hgp : 1 ≤ g0 + g1 + g2 + g3)
  (hd : dp + 6 < recursionLimit) (hu : un + 120 < cLine)
  (ret : ∀ (S s0 s1 s2 s3 : Addr) (w0 w1 w2 w3 : List Value) (c0 c1 c2 c3 : Nat) (h : Heap) (tk : Nat), IntsAre w0 fin.n0 → IntsAre w1 fin.n1 → IntsAre w2 fin.n2 → IntsAre w3 fin.n3 → Fr h₀ L h m →
    News h₀ L h ((S, LCg.lst [.ref s0, .ref s1, .ref s2, .ref s3]) :: (s0, listOf w0.toArray c0) :: (s1, listOf w1.toArray c1) :: (s2, listOf w2.toArray c2) :: (s3, listOf w3.toArray c3) :: news) → Q (.ref S) { s with heap := h, toks := tk }) :
  wpAny (model Mine.rw.prog w) (ktrTop dp un gd cn cs L ca ccd cl outer) (call (.ref 149) [.int step t4, .int first t5, .ref l, .int half t6]) Q E s := by
  k_with_none
  k_with "execs cons" => (k_here; first | k_gentoks | (k_made; walk_at "execs cons") | ((with_reducible refine execs_consF ?_); intro qz))
  k_with "storeName" => (k_here; (fail_if_success (k_extra "unfolded")); k_dflt (first | (refine' storeX_LF ?F ?N ?_ ?a ?b; (case F => k_asm); (case N => k_asm); (case a => rfl); (case b => rfl); k_whole; intro h' tk' mz F' N'; (try k_sweep)) | (refine' storeX_CF ?F ?N ?c ?U ?d ?_ ?a ?b; (case a => rfl); (case b => rfl); (case F => k_asm); (case N => k_asm); (case c => rfl); (case U => k_updF); (case d => k_asm); k_whole; intro h' o' F' N' d'; (try dsimp only at N'); (try k_sweep))))
  k_with "LeaveF" => (k_dflt (refine' leaveF_ ?k1 ?k2 ?_; (case k1 => k_asm); (case k2 => k_asm); k_whole); intro kF kN; (try ground_anew kF); (try have kX := kFor kF (by k_asm)))
  k_with "LeaveF" => (k_made; walk_at "LeaveF")
  k_with "zUR" => (have hcL9 := cLine_is; omega)
  k_with "zNE" => (refine neN ?_; (try dsimp only); first | with_reducible (first | (refine neA0 (by assumption) ?_; focus ((repeat (first | exact And.left | exact id | refine andR ?_)); done)) | (refine neB0 (by assumption) ?_; focus ((repeat (first | exact And.left | exact id | refine andR ?_)); done)) | (refine neC (by assumption) ?_; focus ((repeat (first | exact And.left | exact id | refine andR ?_)); done)) | (refine neCs (by assumption) ?_; focus ((repeat (first | exact And.left | exact id | refine andR ?_)); done)) | (refine neA1 (by assumption) ?_; focus ((repeat (first | exact And.left | exact id | refine andR ?_)); done)) | (refine neB1 (by assumption) ?_; focus ((repeat (first | exact And.left | exact id | refine andR ?_)); done)) | (refine neA2 (by assumption) ?_; focus ((repeat (first | exact And.left | exact id | refine andR ?_)); done)) | (refine neB2 (by assumption) ?_; focus ((repeat (first | exact And.left | exact id | refine andR ?_)); done)) | (refine neA3 (by assumption) ?_; focus ((repeat (first | exact And.left | exact id | refine andR ?_)); done)) | (refine neB3 (by assumption) ?_; focus ((repeat (first | exact And.left | exact id | refine andR ?_)); done))) | omega)
  k_with "zRM" => (with_reducible first | exact room1 (by assumption) (by assumption) (by decide) | exact room2 (by assumption) (by assumption) (by decide) | exact room3 (by assumption) (by assumption) (by decide) | exact room4 (by assumption) (by assumption) (by decide) | exact room5 (by assumption) (by assumption) (by decide) | exact room0 (by assumption))
  k_with "zALL" => first | assumption | with_reducible (first | (refine nwA0 (by assumption) ?_; focus ((refine andR ?_); (repeat (first | exact id | refine andR ?_)); done)) | (refine nwA1 (by assumption) ?_; focus ((refine andR ?_); (repeat (first | exact id | refine andR ?_)); done)) | (refine nwA2 (by assumption) ?_; focus ((refine andR ?_); (repeat (first | exact id | refine andR ?_)); done)) | (refine nwA3 (by assumption) ?_; focus ((refine andR ?_); (repeat (first | exact id | refine andR ?_)); done)))
  k_with "CompEnd" => first | (refine compEnd0 (by assumption) (by assumption) (by first | assumption | exact ⟨⟨by omega, by omega, by omega⟩, by assumption⟩) (Or.inr ⟨_, by (focus first | ((repeat (first | exact memH | ((fail_if_success (refine nilX ?_)); refine memT ?_))); done) | ((repeat (first | assumption | ((fail_if_success (refine nilX ?_)); refine memT ?_))); done)), rfl, _, rfl⟩) ?_) | (refine compEnd1 (by assumption) (by assumption) (by first | assumption | (simp only [AllLt, and_true] at *; omega)) (by first | assumption | (simp only [LCg.Off3, and_true] at *; assumption)) (Or.inr ⟨_, by (focus first | ((repeat (first | exact memH | ((fail_if_success (refine nilX ?_)); refine memT ?_))); done) | ((repeat (first | assumption | ((fail_if_success (refine nilX ?_)); refine memT ?_))); done)), rfl, _, rfl⟩) ?_)
  k_with "call type:list cons nil" => (refine' kup_listOf (by assumption) (by assumption) ?b ?e ?_ ?z; (case b => (focus first | ((repeat (first | exact memH | ((fail_if_success (refine nilX ?_)); refine memT ?_))); done) | ((repeat (first | assumption | ((fail_if_success (refine nilX ?_)); refine memT ?_))); done))); (case e => exact rfl); (case z => exact Nat.le_of_ble_eq_true rfl); intro D' c' h' F' N' l1; (try k_lt l1); (try k_sweep))
  k_with "call builtin:sum cons nil" => (refine' sumK (by with_unfolding_all rfl) (by assumption) (by assumption) (News.isList (by assumption) (by (focus first | ((repeat (first | exact memH | ((fail_if_success (refine nilX ?_)); refine memT ?_))); done) | ((repeat (first | assumption | ((fail_if_success (refine nilX ?_)); refine memT ?_))); done)))) (.cons _ _ (.cons _ _ (.cons _ _ (.cons _ _ .nil)))) ?_; intro h' tk' t' F' N'; (simp only [List.sum_cons, List.sum_nil]))
  k_with "binaryOp Mult ref int" => (k_here; k_dflt (refine' KMa.mul ?F ?N ?l ?lo ?hi ?z ?e ?_; (case F => k_asm); (case N => k_asm); (case l => exact News.isList (by assumption) (by (focus first | ((repeat (first | exact memH | ((fail_if_success (refine nilX ?_)); refine memT ?_))); done) | ((repeat (first | assumption | ((fail_if_success (refine nilX ?_)); refine memT ?_))); done)))); (case lo => omega); (case hi => omega); (case z => (simp only [List.length_cons, List.length_nil]; omega)); (case e => exact rfl); k_whole); intro D' h' F' N' l1; (try k_lt l1); (try k_sweep))
  k_with "binaryOp Add ref ref" => (k_here; k_dflt (refine' kmk_add_ints ?F ?N ?a ?b ?i ?j ?_ ?z; (case F => k_asm); (case N => k_asm); (case a => exact News.isList (by assumption) (by (focus first | ((repeat (first | exact memH | ((fail_if_success (refine nilX ?_)); refine memT ?_))); done) | ((repeat (first | assumption | ((fail_if_success (refine nilX ?_)); refine memT ?_))); done)))); (case b => exact News.isList (by assumption) (by (focus first | ((repeat (first | exact memH | ((fail_if_success (refine nilX ?_)); refine memT ?_))); done) | ((repeat (first | assumption | ((fail_if_success (refine nilX ?_)); refine memT ?_))); done)))); (case i => exact (.cons _ _ .nil)); (case j => exact rep1 _); (case z => (simp only [sizeLine_eq, List.length_cons, List.length_nil, List.length_replicate]; omega))); intro D' ws' h' F' N' l1 hI'; (try k_lt l1); (try k_sweep))
  k_with "compareOp NotEq ref ref" => (with_unfolding_all refine' ne_intsK ?a ?i ?b ?j ?u ?_; (case a => exact News.isList (by assumption) (by (focus first | ((repeat (first | exact memH | ((fail_if_success (refine nilX ?_)); refine memT ?_))); done) | ((repeat (first | assumption | ((fail_if_success (refine nilX ?_)); refine memT ?_))); done)))); (case b => exact News.isList (by assumption) (by (focus first | ((repeat (first | exact memH | ((fail_if_success (refine nilX ?_)); refine memT ?_))); done) | ((repeat (first | assumption | ((fail_if_success (refine nilX ?_)); refine memT ?_))); done)))); (case i => assumption); (case j => exact .nil); (case u => units_room); k_whole)
  k_with "call ref" => (k_here; (with_reducible show wpAny _ _ (call (Value.ref 144) [Value.ref _, Value.int _ _]) _ _ _); ((obtain ⟨f', hf', ⟨ok1, ok2, ok3, ok4, ok5, ok6, ok7, ok8⟩, hrun'⟩ := run_ok hrun (of_decide_eq_false (by assumption))); (dsimp only at ok1 ok2 ok3 ok4 ok5 ok6 ok7 ok8); (with_unfolding_all refine' sums _ _ _ _ _ _ _ _ _ _ _ _ _ _ _ _ _ _ ?k1 ?k2 ?k3 ?k4 ?k5 ?kK ra rv rn rc half _ P ?a1 ?a2 ?a3 ?a4 ?a5 ?a6 ?b1 ?b2 ?b3 ?b4 ?b5 ?kd ?ku ?_); (case k1 => k_asm); (case k2 => k_asm); (case k3 => k_asm); (case k4 => k_asm); (case k5 => k_asm); (case kK => first | exact rfl | assumption); (case a1 => assumption); (case a2 => assumption); (case a3 => assumption); (case a4 => assumption); (case a5 => assumption); (case a6 => assumption); (case b1 => (focus first | ((repeat (first | exact memH | ((fail_if_success (refine nilX ?_)); refine memT ?_))); done) | ((repeat (first | assumption | ((fail_if_success (refine nilX ?_)); refine memT ?_))); done))); (case b2 => assumption); (case b3 => assumption); (case b4 => assumption); (case b5 => assumption); (case kd => ktr_room); (case ku => ktr_units); intro D' vs' nn' h' tk' sI F' N' l1; (try k_lt l1); (try dsimp only); (try k_fold); (try k_sweep)))
  k_with "exec For Name Name cons nil" => (k_here; (rename Fr _ _ _ _ => lF'); (with_unfolding_all refine' For_turns lF' ?_); k_whole)
  k_with "pyIter ref" => ((rename Fr _ _ _ _ => lF'); (rename News _ _ _ _ => lN'); (with_unfolding_all refine iter_listTurns (lo := l4 z0 z1 z2 z3 y0 y1 y2 y3 zc) (vs := [.int z0 y0, .int z1 y1, .int z2 y2, .int z3 y3]) (by rfl) lF' lN' (by (focus first | ((repeat (first | exact memH | ((fail_if_success (refine nilX ?_)); refine memT ?_))); done) | ((repeat (first | assumption | ((fail_if_success (refine nilX ?_)); refine memT ?_))); done))) (by rfl) (by rfl) ?_); clear lF' lN'; intro i' l1; (try k_lt l1))
  k_with "pyIter ref" => ((rename Fr _ _ _ _ => lF'); (rename News _ _ _ _ => lN'); (rename IsRange _ _ _ _ _ _ _ _ => rgX); (with_unfolding_all refine' rangeS (n := rn.length) (r0 := ⟨[], n0, n1, n2, n3, z0, z1, z2, z3⟩) (fun pre q => q = dealt ⟨rn, n0, n1, n2, n3, z0, z1, z2, z3⟩ pre) (by rfl) (by rfl) rgX (by omega) lF' lN' (by rfl) ?hD (by rfl) (by rfl) i0 i1 i2 i3 ?tn ?dn); (case hD => (constructor <;> first | k_all | (and_intros <;> first | assumption | exact Nat.ne_of_gt (by assumption) | exact Nat.ne_of_lt (by assumption) | exact Ne.symm (by assumption) | k_ne))); (case' tn => clear lF' lN'; intro pre k tq rv5 v50 v51 v52 v53 q rc5 d0 d1 d2 d3 u5 h5 tk5 own hk5 hl5 dd j j0 j1 j2 j3 hq5 F5 N5; obtain ⟨lz, lz0, lz1, lz2, lz3⟩ := tnLens hq5 hl5 ok1 ok8.2.1 ok8.2.2.1 ok8.2.2.2.1 ok8.2.2.2.2 j j0 j1 j2 j3); (case' dn => clear lF' lN'; intro rv5 v50 v51 v52 v53 q rc5 d0 d1 d2 d3 u5 h5 tk5 j j0 j1 j2 j3 hq5 F5 N5); (all_goals (try dsimp only)); (all_goals (try k_fold)))
  k_with "call ref" => (k_here; (with_reducible show wpAny _ _ (call (Value.ref 91) [Value.ref _, Value.int _ _]) _ _ _); ((with_unfolding_all refine' bislX _ _ _ _ _ _ _ _ _ _ _ _ _ _ _ _ _ _ ?k1 ?k2 ?k3 ?k4 ?k5 ?kK ?a1 ?a2 ?kd ?ku ?_); (case k1 => k_asm); (case k2 => k_asm); (case k3 => k_asm); (case k4 => k_asm); (case k5 => k_asm); (case kK => first | exact rfl | assumption); (case a1 => (focus first | ((repeat (first | exact memH | ((fail_if_success (refine nilX ?_)); refine memT ?_))); done) | ((repeat (first | assumption | ((fail_if_success (refine nilX ?_)); refine memT ?_))); done))); (case a2 => with_unfolding_all exact rfl); (case kd => ktr_room); (case ku => ktr_units); intro t8 h8 tk8 F8 N8; (try k_sweep); have hgb := blf_bd (z0 + 0) (z1 + (z0 + 0)) (z2 + (z1 + (z0 + 0))) (z3 + (z2 + (z1 + (z0 + 0)))) (k + 1)))
  k_with "call ref" => (k_here; (with_reducible show wpAny _ _ (call (Value.ref 82) [Value.ref _, Value.int _ _]) _ _ _); ((with_unfolding_all refine' bisrX _ _ _ _ _ _ _ _ _ _ _ _ _ _ _ _ _ _ ?k1 ?k2 ?k3 ?k4 ?k5 ?kK ?a1 ?a2 ?kd ?ku ?_); (case k1 => k_asm); (case k2 => k_asm); (case k3 => k_asm); (case k4 => k_asm); (case k5 => k_asm); (case kK => first | exact rfl | assumption); (case a1 => (focus first | ((repeat (first | exact memH | ((fail_if_success (refine nilX ?_)); refine memT ?_))); done) | ((repeat (first | assumption | ((fail_if_success (refine nilX ?_)); refine memT ?_))); done))); (case a2 => with_unfolding_all exact rfl); (case kd => ktr_room); (case ku => ktr_units); intro t9 h9 tk9 F9 N9; (try k_sweep); have hbr := brf_le (z0 + 0) (z1 + (z0 + 0)) (z2 + (z1 + (z0 + 0))) (z3 + (z2 + (z1 + (z0 + 0)))) (k + 1)))
  k_with "subscriptTail Name Name ref int" => (k_here; (with_reducible show wpAny _ _ (subscriptTail _ _ (Value.ref D') (Value.int k _)) _ _ _); ((obtain ⟨tg, hg⟩ := ints_get sI k.toNat (by rw [tail_len]; omega)); (with_unfolding_all refine' itemK (vs := vs') ?k1 ?k2 ?k3 hg ?_ ?k6); (case k1 => exact News.isList (by assumption) (by (focus first | ((repeat (first | exact memH | ((fail_if_success (refine nilX ?_)); refine memT ?_))); done) | ((repeat (first | assumption | ((fail_if_success (refine nilX ?_)); refine memT ?_))); done)))); (case k2 => omega); (case k3 => omega); (case k6 => with_unfolding_all rfl); k_whole))
  k_with "subscriptTail Name Name ref int" => (k_here; (with_reducible show wpAny _ _ (subscriptTail _ _ (Value.ref _) (Value.int (blf _ _ _ _ _) _)) _ _ _); ((have hg4 := lt4 (x := blf (z0 + 0) (z1 + (z0 + 0)) (z2 + (z1 + (z0 + 0))) (z3 + (z2 + (z1 + (z0 + 0)))) (k + 1)) (by omega) hbr.2); (rename News _ _ _ _ => lN'); (with_unfolding_all refine' itemSel lN' ?k1 ?k2 ?k3 ?k4 ?k5 hgb hg4 ?_ ?k6); (case k1 => (focus first | ((repeat (first | exact memH | ((fail_if_success (refine nilX ?_)); refine memT ?_))); done) | ((repeat (first | assumption | ((fail_if_success (refine nilX ?_)); refine memT ?_))); done))); (case k2 => (focus first | ((repeat (first | exact memH | ((fail_if_success (refine nilX ?_)); refine memT ?_))); done) | ((repeat (first | assumption | ((fail_if_success (refine nilX ?_)); refine memT ?_))); done))); (case k3 => (focus first | ((repeat (first | exact memH | ((fail_if_success (refine nilX ?_)); refine memT ?_))); done) | ((repeat (first | assumption | ((fail_if_success (refine nilX ?_)); refine memT ?_))); done))); (case k4 => (focus first | ((repeat (first | exact memH | ((fail_if_success (refine nilX ?_)); refine memT ?_))); done) | ((repeat (first | assumption | ((fail_if_success (refine nilX ?_)); refine memT ?_))); done))); (case k5 => (focus first | ((repeat (first | exact memH | ((fail_if_success (refine nilX ?_)); refine memT ?_))); done) | ((repeat (first | assumption | ((fail_if_success (refine nilX ?_)); refine memT ?_))); done))); (case k6 => with_unfolding_all rfl); clear lN'; intro lN'))
  k_with "call builtin:list.append cons nil" => (k_here; (rename Dist _ _ _ _ _ _ _ _ _ _ => dd); (first | (refine' append_K ?k1 ?k2 (Dist.ur dd) ?_ ?z) | (refine' append_K ?k1 (news_tl ?k2) (Dist.uS dd hgb hg4) ?_ ?z)); ((case k1 => k_asm); (case k2 => k_asm); (case z => (simp only [List.size_toArray, sizeLine_eq]; first | exact Nat.le_trans (selV_len lz0 lz1 lz2 lz3) (by decide) | omega)); intro h7 F7 N7; (simp only [List.push_toArray] at N7); (try k_sweep)))
  k_with "InvPostN" => (with_reducible rename Dist _ _ _ _ _ _ _ _ _ _ => dd; first | ((rename Fr _ _ _ _ => lF'); (rename News _ _ _ _ => lN'); ((refine rangeEnd (P := fun pre q => q = dealt ⟨rn, n0, n1, n2, n3, z0, z1, z2, z3⟩ pre) (stp (z0 + 0) (z1 + (z0 + 0)) (z2 + (z1 + (z0 + 0))) (z3 + (z2 + (z1 + (z0 + 0)))) (prefS (rn ++ [0]) 0).tail q k) lF' lN' ?i ?hr ?hp ?ha); (case i => first | exact stIr (by omega) (stMk j j0 j1 j2 j3) | exact stIG (by omega) hgb hg4 (stMk j j0 j1 j2 j3)); (case hr => (intro z h1 h2; (have h3 := ne_in (a := Str.ofString "group") h2 (by with_unfolding_all exact rfl)); simp +zetaDelta only [if_neg h3, if_neg h1, h2, Bool.false_eq_true, if_false])); (case hp => (rw [dealt_snoc, ← hq5])); (case ha => rfl))))
  k_with "KswPost cons next" => (first | ((rename Fr _ _ _ _ => lF'); (rename News _ _ _ _ => lN'); ((with_unfolding_all refine' whileEnd f' lF' lN' ?hz (stMk j j0 j1 j2 j3) ?hR ?hZ ?hm ?hn ?hr ?hp ?hf); (case hz => with_unfolding_all exact rfl); (case hR => (and_intros <;> first | assumption | (refine ltVia (by assumption) ?_; (focus ((repeat (first | exact And.left | exact id | refine andR ?_)); done))))); (case hZ => (and_intros <;> first | assumption | k_ne)); (case hm => with_unfolding_all exact rfl); (case hn => with_unfolding_all exact rfl); (case hr => (intro z h1 h2 h3; (have hk1 := ne_in (a := Str.ofString "k") h3 (by with_unfolding_all exact rfl)); (have hk2 := ne_in (a := Str.ofString "group") h3 (by with_unfolding_all exact rfl)); (have hk3 := ne_in (a := Str.ofString "size") h3 (by with_unfolding_all exact rfl)); (have hk4 := ne_in (a := Str.ofString "ends") h3 (by with_unfolding_all exact rfl)); (have hk5 := ne_in (a := Str.ofString "sums") h3 (by with_unfolding_all exact rfl)); (have hk6 := one_contains hk2); (simp +zetaDelta only [h1, h2, hk1, hk2, hk3, hk4, hk5, hk6, h3, if_false, Bool.false_eq_true]))); (case hp => (rw [← turn_eq hq5]; exact hrun')); (case hf => exact Nat.lt_of_lt_of_eq (Nat.lt_succ_self f') hf'.symm))))
  k_with "UnrEndW cons" => (refine unrEndD (by assumption) (by assumption) (by first | assumption | (simp only [AllLt, and_true] at *; omega)) ⟨by k_subL, ?_⟩)
  k_with "call builtin:len cons nil" => (refine kst_len (k := rn.length) (by assumption) (by (focus first | ((repeat (first | exact memH | ((fail_if_success (refine nilX ?_)); refine memT ?_))); done) | ((repeat (first | assumption | ((fail_if_success (refine nilX ?_)); refine memT ?_))); done))) ((IntsAre.length sI).trans (tail_len rn)) (by omega) ?_)
  k_with "exec While" => (k_here; (refine' whileS (so := LCg.lst _) fu hfin ?kF ?kN ?kz ?kw ?ki ?kl ?km ?kn ?_ ?ke; (case kF => assumption); (case kN => assumption); (case kz => exact rfl); (case kw => exact ⟨rfl, rfl, rfl, rfl⟩); (case ki => exact ints_cons (by assumption)); (case kl => (and_intros <;> first | assumption | (refine ltVia (by assumption) ?_; (focus ((repeat (first | exact And.left | exact id | refine andR ?_)); done))) | k_ne)); (case km => exact if_pos rfl); (case kn => with_unfolding_all exact rfl)); (case ke => passes_own); intro f ra za rv v0 v1 v2 v3 rn n0 n1 n2 n3 z0 z1 z2 z3 y0 y1 y2 y3 rc zc c0 c1 c2 c3 u h9 tk9 i i0 i1 i2 i3 a b hrun F9 N9; obtain ⟨a0, a1, a2, a3, a4⟩ := a; obtain ⟨b0, b1, b2, b3, b4⟩ := b; (try k_fold))
  k_dflt (refine' code_defF ?k1 ?k2 ?k3 ?k4 ?k5 ?kA ?kZ ?kF ?kK ?k6 ?k7 ?k8 ?k9 ?kB ?_ ?c2 ?c3 ?c4 ?c5; (case kA => exact rfl); (case kZ => first | with_reducible assumption | exact ktrDepth); (case kF => exact rfl); (case kK => first | exact rfl | assumption); (case k1 => k_asm); (case k2 => k_asm); (case k3 => k_asm); (case k4 => k_asm); (case k5 => k_asm); (case k6 => k_is); (case k7 => k_is); (case k8 => ktr_room); (case k9 => (first | exact BindsTo.of_eq (binds := []) rfl | exact BindsTo.of_eq (binds := [(_, _)]) rfl | exact BindsTo.of_eq (binds := [(_, _), (_, _)]) rfl | exact BindsTo.of_eq (binds := [(_, _), (_, _), (_, _)]) rfl | exact BindsTo.of_eq (binds := [(_, _), (_, _), (_, _), (_, _)]) rfl | exact BindsTo.of_eq (binds := [(_, _), (_, _), (_, _), (_, _), (_, _)]) rfl | exact BindsTo.of_eq rfl)); (case c5 => decide); (case kB => exact locs rfl); (case c2 => exact rfl); (case c3 => exact rfl); (case c4 => exact rfl); k_whole; intro qr er g' L' h' tk' FG' mz F' N' B' X' T' az hzd hzu qz ez; (try dsimp only [ktrTop] at hzu); (try k_lift B'))
  k_steps
  all_goals (try ((have hnil : rn = [] := by first | assumption | exact of_decide_eq_true (by assumption)); (obtain rfl := run_nil hrun hnil); (rename Fr _ _ _ _ => lF'); (rename News _ _ _ _ => lN'); (exact ret _ _ _ _ _ _ _ _ _ _ _ _ _ _ _ i0 i1 i2 i3 lF' (exitNews lN'))))
end ZC5
section ZQ1
open PySem PySem.W PySem.Spec PySem.Calls PyProof.Rows
set_option rowWalk.seconds 0
set_option compiler.extract_closed false
set_option maxRecDepth 100000
set_option maxHeartbeats 8000000
set_option pp.deepTerms false
set_option pp.deepTerms.threshold 10
set_option pp.maxSteps 20000
theorem prog1 (text : Array Nat) : ∀ s a b, look1 text s = some (a, b) → s ≤ a ∧ a < b ∧ b ≤ text.size := by
  have g : ∀ (f s a b : Nat), find1 text text.size f s = some (a, b) → s ≤ a ∧ a < b ∧ b ≤ text.size := by
    intro f
    induction f with
    | zero => intro s a b h; cases h
    | succ f ih =>
      intro s a b h
      unfold find1 at h
      by_cases h1 : s < text.size ∧ lineStart text s = true ∧ text.getD s 0 = 46
      · rw [if_pos h1] at h; cases h; omega
      · rw [if_neg h1] at h
        by_cases h2 : s < text.size
        · rw [if_pos h2] at h; have := ih _ _ _ h; omega
        · rw [if_neg h2] at h; cases h
  intro s a b h
  unfold look1 at h
  by_cases h2 : s < text.size
  · rw [if_pos h2] at h; exact g _ _ _ _ h
  · rw [if_neg h2] at h; cases h
theorem prog2 (text : Array Nat) : ∀ s a b, look2 text s = some (a, b) → s ≤ a ∧ a < b ∧ b ≤ text.size := by
  have g : ∀ (f s a b : Nat), find2 text text.size f s = some (a, b) → s ≤ a ∧ a < b ∧ b ≤ text.size := by
    intro f
    induction f with
    | zero => intro s a b h; cases h
    | succ f ih =>
      intro s a b h
      unfold find2 at h
      by_cases h2 : s < text.size
      · rw [if_pos h2] at h
        by_cases h3 : text.getD s 0 = 10
        · rw [if_pos h3] at h; cases h; omega
        · rw [if_neg h3] at h
          by_cases h4 : text.getD s 0 = 13
          · rw [if_pos h4] at h
            by_cases h5 : s + 1 < text.size ∧ text.getD (s + 1) 0 = 10
            · rw [if_pos h5] at h; cases h; omega
            · rw [if_neg h5] at h; cases h; omega
          · rw [if_neg h4] at h; have := ih _ _ _ h; omega
      · rw [if_neg h2] at h; cases h
  intro s a b h
  unfold look2 at h
  by_cases h2 : s < text.size
  · rw [if_pos h2] at h; exact g _ _ _ _ h
  · rw [if_neg h2] at h; cases h
theorem hlook1 {x : Str} (hx : x.cps.size ≤ 1000) : ∀ s, s ≤ x.cps.size → ∃ K, K ≤ 2 ^ 65 ∧ Ends K (Sre.forSearch code1 x.cps 0 s x.cps.size false) (look1 x.cps s) :=
  fun s h => ⟨_, by omega, found1 x.cps s h⟩
theorem hlook2 {x : Str} : ∀ s, s ≤ x.cps.size → ∃ K, K ≤ 2 ^ 65 ∧ Ends K (Sre.forSearch code2 x.cps 0 s x.cps.size false) (look2 x.cps s) :=
  fun s h => ⟨_, by decide, found2 x.cps s h⟩
noncomputable def crlfd (x : Str) : Str := cat (pieces look2 x.cps (Str.ofString "\r\n") (x.cps.size + 1) 0)
noncomputable def dotd (x : Str) : Str := cat (pieces look1 x.cps (Str.ofString "..") (x.cps.size + 1) 0)
theorem quote {w : World} {mean : ExcName → Option Value} {mg mb : Str → Option Value} (dp un : Nat) (gd : Option (List Code)) (cn : Str) (cs : Scope) (ca : Addr) (ccd : Value) (cl : List (Str × Addr)) (outer : List Env) (A₀ : Around) (base h₀ : Heap) (L : Addr) (m : Str → Option Value) (s : Shared) (Q E : Value → Shared → Prop) (news : List (Addr × Obj))
  (B : Below A₀ base outer h₀) (F : Fr h₀ L s.heap m) (X : (Mine.hp w.params).In h₀) (N : News h₀ L s.heap news) (T : Top topProg (looseW Mine.vw Mine.lo ++ (recsOf Mine.vw).map (·.name) ++ (litsOf Mine.vw).map (·.1) ++ (clssOf Mine.vw (looseW Mine.vw Mine.lo)).map (·.name)) mean mg mb h₀) (hk : cs.kind = .function)
  (x : Str) (tx : Tok) (hx : x.cps.size ≤ 1000) (hy : (crlfd x).cps.size ≤ 1000)
  (hd : dp + 4 < recursionLimit) (hu : un + 40 < cLine)
  (ret : ∀ (t : Tok) (h : Heap) (tk : Nat), Fr h₀ L h m → News h₀ L h news → Q (.str (dotd (crlfd x)) t) { s with heap := h, toks := tk }) :
  wpAny (model Mine.rw.prog w) (ktrTop dp un gd cn cs L ca ccd cl outer) (call (.ref 108) [.str x tx]) Q E s := by
  k_with_none
  k_with "execs cons" => (k_here; first | k_gentoks | (k_made; walk_at "execs cons") | ((with_reducible refine execs_consF ?_); intro qz))
  k_with "storeName" => (k_here; (fail_if_success (k_extra "unfolded")); k_dflt (first | (refine' storeX_LF ?F ?N ?_ ?a ?b; (case F => k_asm); (case N => k_asm); (case a => rfl); (case b => rfl); k_whole; intro h' tk' mz F' N'; (try k_sweep)) | (refine' storeX_CF ?F ?N ?c ?U ?d ?_ ?a ?b; (case a => rfl); (case b => rfl); (case F => k_asm); (case N => k_asm); (case c => rfl); (case U => k_updF); (case d => k_asm); k_whole; intro h' o' F' N' d'; (try dsimp only at N'); (try k_sweep))))
  k_with "LeaveF" => (k_dflt (refine' leaveF_ ?k1 ?k2 ?_; (case k1 => k_asm); (case k2 => k_asm); k_whole); intro kF kN; (try ground_anew kF); (try have kX := kFor kF (by k_asm)))
  k_with "LeaveF" => (k_made; walk_at "LeaveF")
  k_with "zUR" => (have hcL9 := cLine_is; omega)
  k_with "zNE" => (refine neN ?_; (try dsimp only); first | with_reducible (first | (refine neA0 (by assumption) ?_; focus ((repeat (first | exact And.left | exact id | refine andR ?_)); done)) | (refine neB0 (by assumption) ?_; focus ((repeat (first | exact And.left | exact id | refine andR ?_)); done)) | (refine neC (by assumption) ?_; focus ((repeat (first | exact And.left | exact id | refine andR ?_)); done)) | (refine neCs (by assumption) ?_; focus ((repeat (first | exact And.left | exact id | refine andR ?_)); done)) | (refine neA1 (by assumption) ?_; focus ((repeat (first | exact And.left | exact id | refine andR ?_)); done)) | (refine neB1 (by assumption) ?_; focus ((repeat (first | exact And.left | exact id | refine andR ?_)); done)) | (refine neA2 (by assumption) ?_; focus ((repeat (first | exact And.left | exact id | refine andR ?_)); done)) | (refine neB2 (by assumption) ?_; focus ((repeat (first | exact And.left | exact id | refine andR ?_)); done)) | (refine neA3 (by assumption) ?_; focus ((repeat (first | exact And.left | exact id | refine andR ?_)); done)) | (refine neB3 (by assumption) ?_; focus ((repeat (first | exact And.left | exact id | refine andR ?_)); done))) | omega)
  k_with "zRM" => (with_reducible first | exact room1 (by assumption) (by assumption) (by decide) | exact room2 (by assumption) (by assumption) (by decide) | exact room3 (by assumption) (by assumption) (by decide) | exact room4 (by assumption) (by assumption) (by decide) | exact room5 (by assumption) (by assumption) (by decide) | exact room0 (by assumption))
  k_with "zALL" => first | assumption | with_reducible (first | (refine nwA0 (by assumption) ?_; focus ((refine andR ?_); (repeat (first | exact id | refine andR ?_)); done)) | (refine nwA1 (by assumption) ?_; focus ((refine andR ?_); (repeat (first | exact id | refine andR ?_)); done)) | (refine nwA2 (by assumption) ?_; focus ((refine andR ?_); (repeat (first | exact id | refine andR ?_)); done)) | (refine nwA3 (by assumption) ?_; focus ((refine andR ?_); (repeat (first | exact id | refine andR ?_)); done)))
  k_with "getMethod ref" => ((rename Frag.In _ _ => xX); (rename Fr _ _ _ _ => lF'); (first | (refine getMethod_sub (l := 96) (lF'.keep _ _ (xX _ _ (by rfl))) (by rfl) (by rfl) ?_) | (refine getMethod_sub (l := 101) (lF'.keep _ _ (xX _ _ (by rfl))) (by rfl) (by rfl) ?_)))
  k_with "call builtin:re.Pattern.sub cons nil" => ((rename Frag.In _ _ => xX); (rename Fr _ _ _ _ => lF'); (rename News _ _ _ _ => lN'); (with_unfolding_all refine' subCall (P := 101) (code := code2) (look := look2) hlook2 (prog2 _) ⟨100, _, _, _, _, _, _, xX _ _ (by rfl), xX _ _ (by rfl), by rfl⟩ hx (by decide) (by decide) lF' lN' ?_); (clear lF' lN'); intro t7 h7 tk7 F7 N7)
  k_with "call builtin:re.Pattern.sub cons nil" => ((rename Frag.In _ _ => xX); (rename Fr _ _ _ _ => lF'); (rename News _ _ _ _ => lN'); (with_unfolding_all refine' subCall (P := 96) (code := code1) (look := look1) (hlook1 hy) (prog1 _) ⟨95, _, _, _, _, _, _, xX _ _ (by rfl), xX _ _ (by rfl), by rfl⟩ hy (by decide) (by decide) lF' lN' ?_); (clear lF' lN'); intro t8 h8 tk8 F8 N8)
  k_dflt (refine' code_defF ?k1 ?k2 ?k3 ?k4 ?k5 ?kA ?kZ ?kF ?kK ?k6 ?k7 ?k8 ?k9 ?kB ?_ ?c2 ?c3 ?c4 ?c5; (case kA => exact rfl); (case kZ => first | with_reducible assumption | exact ktrDepth); (case kF => exact rfl); (case kK => first | exact rfl | assumption); (case k1 => k_asm); (case k2 => k_asm); (case k3 => k_asm); (case k4 => k_asm); (case k5 => k_asm); (case k6 => k_is); (case k7 => k_is); (case k8 => ktr_room); (case k9 => (first | exact BindsTo.of_eq (binds := []) rfl | exact BindsTo.of_eq (binds := [(_, _)]) rfl | exact BindsTo.of_eq (binds := [(_, _), (_, _)]) rfl | exact BindsTo.of_eq (binds := [(_, _), (_, _), (_, _)]) rfl | exact BindsTo.of_eq (binds := [(_, _), (_, _), (_, _), (_, _)]) rfl | exact BindsTo.of_eq (binds := [(_, _), (_, _), (_, _), (_, _), (_, _)]) rfl | exact BindsTo.of_eq rfl)); (case c5 => decide); (case kB => exact locs rfl); (case c2 => exact rfl); (case c3 => exact rfl); (case c4 => exact rfl); k_whole; intro qr er g' L' h' tk' FG' mz F' N' B' X' T' az hzd hzu qz ez; (try dsimp only [ktrTop] at hzu); (try k_lift B'))
  k_steps
  all_goals exact ret _ _ _ (by assumption) (by assumption)
end ZQ1
section ZG1
open PySem PySem.W PySem.Spec PySem.Calls PyProof.Rows
set_option rowWalk.seconds 0
set_option compiler.extract_closed false
set_option maxRecDepth 100000
set_option maxHeartbeats 8000000
set_option pp.deepTerms false
set_option pp.deepTerms.threshold 10
set_option pp.maxSteps 20000
theorem iseof {w : World} {mean : ExcName → Option Value} {mg mb : Str → Option Value} (dp un : Nat) (gd : Option (List Code)) (cn : Str) (cs : Scope) (ca : Addr) (ccd : Value) (cl : List (Str × Addr)) (outer : List Env) (A₀ : Around) (base h₀ : Heap) (L : Addr) (m : Str → Option Value) (s : Shared) (Q E : Value → Shared → Prop) (news : List (Addr × Obj))
  (B : Below A₀ base outer h₀) (F : Fr h₀ L s.heap m) (X : (Mine.hp w.params).In h₀) (N : News h₀ L s.heap news) (T : Top topProg (looseW Mine.vw Mine.lo ++ (recsOf Mine.vw).map (·.name) ++ (litsOf Mine.vw).map (·.1) ++ (clssOf Mine.vw (looseW Mine.vw Mine.lo)).map (·.name)) mean mg mb h₀) (hk : cs.kind = .function)
  (x : Int) (tx : Tok)
  (hd : dp + 2 < recursionLimit) (hu : un + 16 < cLine)
  (ret : ∀ (h : Heap) (tk : Nat), Fr h₀ L h m → News h₀ L h news → Q (.bool (x == 0)) { s with heap := h, toks := tk }) :
  wpAny (model Mine.rw.prog w) (ktrTop dp un gd cn cs L ca ccd cl outer) (call (.ref 118) [.int x tx]) Q E s := by
  k_dflt (refine' code_defF ?k1 ?k2 ?k3 ?k4 ?k5 ?kA ?kZ ?kF ?kK ?k6 ?k7 ?k8 ?k9 ?kB ?_ ?c2 ?c3 ?c4 ?c5; (case kA => exact rfl); (case kZ => first | with_reducible assumption | exact ktrDepth); (case kF => exact rfl); (case kK => first | exact rfl | assumption); (case k1 => k_asm); (case k2 => k_asm); (case k3 => k_asm); (case k4 => k_asm); (case k5 => k_asm); (case k6 => k_is); (case k7 => k_is); (case k8 => ktr_room); (case k9 => (first | exact BindsTo.of_eq (binds := []) rfl | exact BindsTo.of_eq (binds := [(_, _)]) rfl | exact BindsTo.of_eq (binds := [(_, _), (_, _)]) rfl | exact BindsTo.of_eq (binds := [(_, _), (_, _), (_, _)]) rfl | exact BindsTo.of_eq (binds := [(_, _), (_, _), (_, _), (_, _)]) rfl | exact BindsTo.of_eq (binds := [(_, _), (_, _), (_, _), (_, _), (_, _)]) rfl | exact BindsTo.of_eq rfl)); (case c5 => decide); (case kB => exact locs rfl); (case c2 => exact rfl); (case c3 => exact rfl); (case c4 => exact rfl); k_whole; intro qr er g' L' h' tk' FG' mz F' N' B' X' T' az hzd hzu qz ez; (try dsimp only [ktrTop] at hzu); (try k_lift B'))
  k_with_none
  k_with "execs cons" => (k_here; first | k_gentoks | (k_made; walk_at "execs cons") | ((with_reducible refine execs_consF ?_); intro qz))
  k_with "storeName" => (k_here; (fail_if_success (k_extra "unfolded")); k_dflt (first | (refine' storeX_LF ?F ?N ?_ ?a ?b; (case F => k_asm); (case N => k_asm); (case a => rfl); (case b => rfl); k_whole; intro h' tk' mz F' N'; (try k_sweep)) | (refine' storeX_CF ?F ?N ?c ?U ?d ?_ ?a ?b; (case a => rfl); (case b => rfl); (case F => k_asm); (case N => k_asm); (case c => rfl); (case U => k_updF); (case d => k_asm); k_whole; intro h' o' F' N' d'; (try dsimp only at N'); (try k_sweep))))
  k_with "LeaveF" => (k_dflt (refine' leaveF_ ?k1 ?k2 ?_; (case k1 => k_asm); (case k2 => k_asm); k_whole); intro kF kN; (try ground_anew kF); (try have kX := kFor kF (by k_asm)))
  k_with "LeaveF" => (k_made; walk_at "LeaveF")
  k_with "zUR" => (have hcL9 := cLine_is; omega)
  k_with "zNE" => (refine neN ?_; (try dsimp only); first | with_reducible (first | (refine neA0 (by assumption) ?_; focus ((repeat (first | exact And.left | exact id | refine andR ?_)); done)) | (refine neB0 (by assumption) ?_; focus ((repeat (first | exact And.left | exact id | refine andR ?_)); done)) | (refine neC (by assumption) ?_; focus ((repeat (first | exact And.left | exact id | refine andR ?_)); done)) | (refine neCs (by assumption) ?_; focus ((repeat (first | exact And.left | exact id | refine andR ?_)); done)) | (refine neA1 (by assumption) ?_; focus ((repeat (first | exact And.left | exact id | refine andR ?_)); done)) | (refine neB1 (by assumption) ?_; focus ((repeat (first | exact And.left | exact id | refine andR ?_)); done)) | (refine neA2 (by assumption) ?_; focus ((repeat (first | exact And.left | exact id | refine andR ?_)); done)) | (refine neB2 (by assumption) ?_; focus ((repeat (first | exact And.left | exact id | refine andR ?_)); done)) | (refine neA3 (by assumption) ?_; focus ((repeat (first | exact And.left | exact id | refine andR ?_)); done)) | (refine neB3 (by assumption) ?_; focus ((repeat (first | exact And.left | exact id | refine andR ?_)); done))) | omega)
  k_with "zRM" => (with_reducible first | exact room1 (by assumption) (by assumption) (by decide) | exact room2 (by assumption) (by assumption) (by decide) | exact room3 (by assumption) (by assumption) (by decide) | exact room4 (by assumption) (by assumption) (by decide) | exact room5 (by assumption) (by assumption) (by decide) | exact room0 (by assumption))
  k_with "zALL" => first | assumption | with_reducible (first | (refine nwA0 (by assumption) ?_; focus ((refine andR ?_); (repeat (first | exact id | refine andR ?_)); done)) | (refine nwA1 (by assumption) ?_; focus ((refine andR ?_); (repeat (first | exact id | refine andR ?_)); done)) | (refine nwA2 (by assumption) ?_; focus ((refine andR ?_); (repeat (first | exact id | refine andR ?_)); done)) | (refine nwA3 (by assumption) ?_; focus ((refine andR ?_); (repeat (first | exact id | refine andR ?_)); done)))
  k_with "unfolded" => skip
  k_steps
  all_goals exact ret _ _ (by assumption) (by assumption)
noncomputable def grS (p : List Int × Int) (x : Int) : List Int × Int := if x = 0 then (p.1 ++ [p.2], 0) else (p.1, p.2 + 1)
noncomputable def grp (l : List Int) : List Int × Int := l.foldl grS ([], 0)
theorem grp_snoc (l : List Int) (x : Int) : grp (l ++ [x]) = grS (grp l) x := by simp [grp, List.foldl_append]
theorem gs_turn0 {pre g : List Int} {c x : Int} (h : x = 0) (h1 : g = (grp pre).1) (h2 : c = (grp pre).2) (h3 : g.length ≤ pre.length) :
    g ++ [c] = (grp (pre ++ [x])).1 ∧ 0 = (grp (pre ++ [x])).2 ∧ (g ++ [c]).length ≤ (pre ++ [x]).length ∧ (0 : Int) ≤ 0 ∧ (0 : Int) ≤ ((pre ++ [x]).length : Int) := by
  rw [grp_snoc, grS, if_pos h, ← h1, ← h2]
  refine ⟨rfl, rfl, ?_, Int.le_refl _, Int.natCast_nonneg _⟩
  simp; exact h3
theorem gs_turn1 {pre g : List Int} {c x : Int} (h : ¬ x = 0) (h1 : g = (grp pre).1) (h2 : c = (grp pre).2) (h3 : g.length ≤ pre.length) (h4 : 0 ≤ c) (h5 : c ≤ (pre.length : Int)) :
    g = (grp (pre ++ [x])).1 ∧ c + 1 = (grp (pre ++ [x])).2 ∧ g.length ≤ (pre ++ [x]).length ∧ 0 ≤ c + 1 ∧ c + 1 ≤ ((pre ++ [x]).length : Int) := by
  rw [grp_snoc, grS, if_neg h, ← h1, ← h2]
  refine ⟨rfl, rfl, ?_, by omega, ?_⟩
  · simp; omega
  · simp; omega
theorem gs_fin {us : List Value} {g ns : List Int} (h : IntsAre us g) (e : g = (grp ns).1) : IntsAre us (grp ns).1 := by rw [← e]; exact h
theorem gs_start {g : List Int} {c : Int} (h1 : g = []) (h2 : c = 0) : g = (grp []).1 ∧ c = (grp []).2 ∧ g.length ≤ ([] : List Int).length ∧ 0 ≤ c ∧ c ≤ (([] : List Int).length : Int) := by
  subst h1 h2; exact ⟨rfl, rfl, Nat.le_refl _, Int.le_refl _, Int.le_refl _⟩
theorem news_dup {h₀ h : Heap} {L : Addr} {news : List (Addr × Obj)} {p : Addr × Obj} (N : News h₀ L h news) (hp : p ∈ news) : News h₀ L h (p :: news) := fun q hq => by
  rcases List.mem_cons.mp hq with rfl | hq
  · exact N _ hp
  · exact N q hq
theorem groups {w : World} {mean : ExcName → Option Value} {mg mb : Str → Option Value} (dp un : Nat) (gd : Option (List Code)) (cn : Str) (cs : Scope) (ca : Addr) (ccd : Value) (cl : List (Str × Addr)) (outer : List Env) (A₀ : Around) (base h₀ : Heap) (L : Addr) (m : Str → Option Value) (s : Shared) (Q E : Value → Shared → Prop) (news : List (Addr × Obj))
  (B : Below A₀ base outer h₀) (F : Fr h₀ L s.heap m) (X : (Mine.hp w.params).In h₀) (N : News h₀ L s.heap news) (T : Top topProg (looseW Mine.vw Mine.lo ++ (recsOf Mine.vw).map (·.name) ++ (litsOf Mine.vw).map (·.1) ++ (clssOf Mine.vw (looseW Mine.vw Mine.lo)).map (·.name)) mean mg mb h₀) (hk : cs.kind = .function)
  (l : Addr) (vs : List Value) (ns : List Int) (nn : Nat) (hl : (l, listOf vs.toArray nn) ∈ news) (hi : IntsAre vs ns) (hlen : ns.length < 1000)
  (hd : dp + 5 < recursionLimit) (hu : un + 32 < cLine)
  (ret : ∀ (D : Addr) (vs' : List Value) (nn' : Nat) (h : Heap) (tk : Nat), IntsAre vs' (grp ns).1 → Fr h₀ L h m → News h₀ L h ((D, listOf vs'.toArray nn') :: news) → (∀ p ∈ news, p.1 < D) → Q (.ref D) { s with heap := h, toks := tk }) :
  wpAny (model Mine.rw.prog w) (ktrTop dp un gd cn cs L ca ccd cl outer) (call (.ref 132) [.ref l]) Q E s := by
  k_with_none
  k_with "execs cons" => (k_here; first | k_gentoks | (k_made; walk_at "execs cons") | ((with_reducible refine execs_consF ?_); intro qz))
  k_with "storeName" => (k_here; (fail_if_success (k_extra "unfolded")); k_dflt (first | (refine' storeX_LF ?F ?N ?_ ?a ?b; (case F => k_asm); (case N => k_asm); (case a => rfl); (case b => rfl); k_whole; intro h' tk' mz F' N'; (try k_sweep)) | (refine' storeX_CF ?F ?N ?c ?U ?d ?_ ?a ?b; (case a => rfl); (case b => rfl); (case F => k_asm); (case N => k_asm); (case c => rfl); (case U => k_updF); (case d => k_asm); k_whole; intro h' o' F' N' d'; (try dsimp only at N'); (try k_sweep))))
  k_with "LeaveF" => (k_dflt (refine' leaveF_ ?k1 ?k2 ?_; (case k1 => k_asm); (case k2 => k_asm); k_whole); intro kF kN; (try ground_anew kF); (try have kX := kFor kF (by k_asm)))
  k_with "LeaveF" => (k_made; walk_at "LeaveF")
  k_with "zUR" => (have hcL9 := cLine_is; omega)
  k_with "zNE" => (refine neN ?_; (try dsimp only); first | with_reducible (first | (refine neA0 (by assumption) ?_; focus ((repeat (first | exact And.left | exact id | refine andR ?_)); done)) | (refine neB0 (by assumption) ?_; focus ((repeat (first | exact And.left | exact id | refine andR ?_)); done)) | (refine neC (by assumption) ?_; focus ((repeat (first | exact And.left | exact id | refine andR ?_)); done)) | (refine neCs (by assumption) ?_; focus ((repeat (first | exact And.left | exact id | refine andR ?_)); done)) | (refine neA1 (by assumption) ?_; focus ((repeat (first | exact And.left | exact id | refine andR ?_)); done)) | (refine neB1 (by assumption) ?_; focus ((repeat (first | exact And.left | exact id | refine andR ?_)); done)) | (refine neA2 (by assumption) ?_; focus ((repeat (first | exact And.left | exact id | refine andR ?_)); done)) | (refine neB2 (by assumption) ?_; focus ((repeat (first | exact And.left | exact id | refine andR ?_)); done)) | (refine neA3 (by assumption) ?_; focus ((repeat (first | exact And.left | exact id | refine andR ?_)); done)) | (refine neB3 (by assumption) ?_; focus ((repeat (first | exact And.left | exact id | refine andR ?_)); done))) | omega)
  k_with "zRM" => (with_reducible first | exact room1 (by assumption) (by assumption) (by decide) | exact room2 (by assumption) (by assumption) (by decide) | exact room3 (by assumption) (by assumption) (by decide) | exact room4 (by assumption) (by assumption) (by decide) | exact room5 (by assumption) (by assumption) (by decide) | exact room0 (by assumption))
  k_with "zALL" => first | assumption | with_reducible (first | (refine nwA0 (by assumption) ?_; focus ((refine andR ?_); (repeat (first | exact id | refine andR ?_)); done)) | (refine nwA1 (by assumption) ?_; focus ((refine andR ?_); (repeat (first | exact id | refine andR ?_)); done)) | (refine nwA2 (by assumption) ?_; focus ((refine andR ?_); (repeat (first | exact id | refine andR ?_)); done)) | (refine nwA3 (by assumption) ?_; focus ((refine andR ?_); (repeat (first | exact id | refine andR ?_)); done)))
  k_with "unfolded" => skip
  k_with "pyIter ref" => k_state (fun pre groups count => groups = (grp pre).1 ∧ count = (grp pre).2 ∧ groups.length ≤ pre.length ∧ 0 ≤ count ∧ count ≤ (pre.length : Int)) "groups" "count"
  k_with "state" => first | exact gs_start rfl rfl | exact gs_turn0 (by assumption) (by assumption) (by assumption) (by assumption) | exact gs_turn1 (by assumption) (by assumption) (by assumption) (by assumption) (by assumption) (by assumption)
  k_with "exec For" => (k_here; (rename Fr _ _ _ _ => lF'); (with_unfolding_all refine' For_invVF lF' ?k1 ?k2 ?_; (case k1 => exact rfl); (case k2 => exact rfl); k_whole))
  k_with "call ref" => (k_here; (with_unfolding_all refine' iseof _ _ _ _ _ _ _ _ _ _ _ _ _ _ _ _ _ _ ?k1 ?k2 ?k3 ?k4 ?k5 ?kK _ _ ?kd ?ku ?_); (case k1 => k_asm); (case k2 => k_asm); (case k3 => k_asm); (case k4 => k_asm); (case k5 => k_asm); (case kK => first | exact rfl | assumption); (case kd => ktr_room); (case ku => ktr_units); intro h8 tk8 F8 N8; (try k_sweep))
  have N2 := news_dup N hl
  clear N hl
  k_dflt (refine' code_defF ?k1 ?k2 ?k3 ?k4 ?k5 ?kA ?kZ ?kF ?kK ?k6 ?k7 ?k8 ?k9 ?kB ?_ ?c2 ?c3 ?c4 ?c5; (case kA => exact rfl); (case kZ => first | with_reducible assumption | exact ktrDepth); (case kF => exact rfl); (case kK => first | exact rfl | assumption); (case k1 => k_asm); (case k2 => k_asm); (case k3 => k_asm); (case k4 => k_asm); (case k5 => k_asm); (case k6 => k_is); (case k7 => k_is); (case k8 => ktr_room); (case k9 => (first | exact BindsTo.of_eq (binds := []) rfl | exact BindsTo.of_eq (binds := [(_, _)]) rfl | exact BindsTo.of_eq (binds := [(_, _), (_, _)]) rfl | exact BindsTo.of_eq (binds := [(_, _), (_, _), (_, _)]) rfl | exact BindsTo.of_eq (binds := [(_, _), (_, _), (_, _), (_, _)]) rfl | exact BindsTo.of_eq (binds := [(_, _), (_, _), (_, _), (_, _), (_, _)]) rfl | exact BindsTo.of_eq rfl)); (case c5 => decide); (case kB => exact locs rfl); (case c2 => exact rfl); (case c3 => exact rfl); (case c4 => exact rfl); k_whole; intro qr er g' L' h' tk' FG' mz F' N' B' X' T' az hzd hzu qz ez; (try dsimp only [ktrTop] at hzu); (try k_lift B'))
  k_steps
  exact ret _ _ _ _ _ (gs_fin (by assumption) (by assumption)) (by assumption) (cb_drop (by assumption) (by (refine subC (by (focus first | ((repeat (first | exact memH | ((fail_if_success (refine nilX ?_)); refine memT ?_))); done) | ((repeat (first | assumption | ((fail_if_success (refine nilX ?_)); refine memT ?_))); done))) ?_; (focus (intro p hp; (repeat (first | exact hp | refine memT ?_)); done))))) (by (first | assumption | exact ktn_ltOf (by assumption) | exact ktn_ltOf (And.right (by assumption)) | exact ktn_ltOf (And.right (And.right (by assumption))) | exact ktn_ltOf (And.right (And.right (And.right (by assumption)))) | exact ktn_ltOf (And.right (And.right (And.right (And.right (by assumption))))) | exact ktn_ltOf (And.right (And.right (And.right (And.right (And.right (by assumption)))))) | exact ktn_ltOf (And.right (And.right (And.right (And.right (And.right (And.right (by assumption)))))))))
end ZG1
section ZY1
open PySem PySem.W PySem.Spec PySem.Calls PyProof.Rows
set_option rowWalk.seconds 0
set_option compiler.extract_closed false
set_option maxRecDepth 100000
set_option maxHeartbeats 8000000
set_option pp.deepTerms false
set_option pp.deepTerms.threshold 10
set_option pp.maxSteps 20000
theorem symbols {w : World} {mean : ExcName → Option Value} {mg mb : Str → Option Value} (dp un : Nat) (gd : Option (List Code)) (cn : Str) (cs : Scope) (ca : Addr) (ccd : Value) (cl : List (Str × Addr)) (outer : List Env) (A₀ : Around) (base h₀ : Heap) (L : Addr) (m : Str → Option Value) (s : Shared) (Q E : Value → Shared → Prop) (news : List (Addr × Obj))
  (B : Below A₀ base outer h₀) (F : Fr h₀ L s.heap m) (X : (Mine.hp w.params).In h₀) (N : News h₀ L s.heap news) (T : Top topProg (looseW Mine.vw Mine.lo ++ (recsOf Mine.vw).map (·.name) ++ (litsOf Mine.vw).map (·.1) ++ (clssOf Mine.vw (looseW Mine.vw Mine.lo)).map (·.name)) mean mg mb h₀) (hk : cs.kind = .function)
  (x : Str) (tx : Tok) (hx : x.length ≤ 1000)
  (hd : dp + 5 < recursionLimit) (hu : un + 40 < cLine)
  (ret : ∀ (D : Addr) (vs : List Value) (nn : Nat) (h : Heap) (tk : Nat), IntsAre vs (lx x (x.length + 5) 0) → Fr h₀ L h m → News h₀ L h ((D, listOf vs.toArray nn) :: news) → (∀ p ∈ news, p.1 < D) → Q (.ref D) { s with heap := h, toks := tk })
  : wpAny (model Mine.rw.prog w) (ktrTop dp un gd cn cs L ca ccd cl outer) (call (.ref 125) [.str x tx]) Q E s := by
  k_with_none
  k_with "execs cons" => (k_here; first | k_gentoks | (k_made; walk_at "execs cons") | ((with_reducible refine execs_consF ?_); intro qz))
  k_with "storeName" => (k_here; (fail_if_success (k_extra "unfolded")); k_dflt (first | (refine' storeX_LF ?F ?N ?_ ?a ?b; (case F => k_asm); (case N => k_asm); (case a => rfl); (case b => rfl); k_whole; intro h' tk' mz F' N'; (try k_sweep)) | (refine' storeX_CF ?F ?N ?c ?U ?d ?_ ?a ?b; (case a => rfl); (case b => rfl); (case F => k_asm); (case N => k_asm); (case c => rfl); (case U => k_updF); (case d => k_asm); k_whole; intro h' o' F' N' d'; (try dsimp only at N'); (try k_sweep))))
  k_with "LeaveF" => (k_dflt (refine' leaveF_ ?k1 ?k2 ?_; (case k1 => k_asm); (case k2 => k_asm); k_whole); intro kF kN; (try ground_anew kF); (try have kX := kFor kF (by k_asm)))
  k_with "LeaveF" => (k_made; walk_at "LeaveF")
  k_with "zUR" => (have hcL9 := cLine_is; omega)
  k_with "zNE" => (refine neN ?_; (try dsimp only); first | with_reducible (first | (refine neA0 (by assumption) ?_; focus ((repeat (first | exact And.left | exact id | refine andR ?_)); done)) | (refine neB0 (by assumption) ?_; focus ((repeat (first | exact And.left | exact id | refine andR ?_)); done)) | (refine neC (by assumption) ?_; focus ((repeat (first | exact And.left | exact id | refine andR ?_)); done)) | (refine neCs (by assumption) ?_; focus ((repeat (first | exact And.left | exact id | refine andR ?_)); done)) | (refine neA1 (by assumption) ?_; focus ((repeat (first | exact And.left | exact id | refine andR ?_)); done)) | (refine neB1 (by assumption) ?_; focus ((repeat (first | exact And.left | exact id | refine andR ?_)); done)) | (refine neA2 (by assumption) ?_; focus ((repeat (first | exact And.left | exact id | refine andR ?_)); done)) | (refine neB2 (by assumption) ?_; focus ((repeat (first | exact And.left | exact id | refine andR ?_)); done)) | (refine neA3 (by assumption) ?_; focus ((repeat (first | exact And.left | exact id | refine andR ?_)); done)) | (refine neB3 (by assumption) ?_; focus ((repeat (first | exact And.left | exact id | refine andR ?_)); done))) | omega)
  k_with "zRM" => (with_reducible first | exact room1 (by assumption) (by assumption) (by decide) | exact room2 (by assumption) (by assumption) (by decide) | exact room3 (by assumption) (by assumption) (by decide) | exact room4 (by assumption) (by assumption) (by decide) | exact room5 (by assumption) (by assumption) (by decide) | exact room0 (by assumption))
  k_with "zALL" => first | assumption | with_reducible (first | (refine nwA0 (by assumption) ?_; focus ((refine andR ?_); (repeat (first | exact id | refine andR ?_)); done)) | (refine nwA1 (by assumption) ?_; focus ((refine andR ?_); (repeat (first | exact id | refine andR ?_)); done)) | (refine nwA2 (by assumption) ?_; focus ((refine andR ?_); (repeat (first | exact id | refine andR ?_)); done)) | (refine nwA3 (by assumption) ?_; focus ((refine andR ?_); (repeat (first | exact id | refine andR ?_)); done)))
  k_with "exec While Compare cons nil" => (skip; (k_here; (refine' whileY (PY x) (x.length + 5) ?h0 ?kF ?kN ?kw ?km ?kn ?_ ?ke; (case h0 => exact py_start x); (case kF => assumption); (case kN => assumption); (case kw => exact rfl); (case km => with_unfolding_all exact rfl); (case kn => with_unfolding_all exact rfl)); (case ke => passes_own); intro f vs ns c p tp u h9 tk9 i hP F9 N9; (obtain ⟨hlv, hp0, hp1⟩ := py_len hP hx i); (try k_fold)))
  k_with "exec While BoolOp cons nil" => (skip; (k_here; (refine' whileZ (PZ x p) ?hz ?h0 ?kF ?kN ?kn ?_ ?ke; (case kF => assumption); (case kN => assumption); (case kn => with_unfolding_all exact rfl); (case hz => decide); (case h0 => exact pz_start x p)); (case ke => passes_own); intro z tz h8 tk8 hz8 hP8 F8 N8; (try k_fold)))
  k_with "call builtin:len cons nil" => (refine PySem.P.len_str (by omega) ?_)
  k_with "subscriptTail Name Subscript ref str" => ((rename Frag.In _ _ => xX); (rename Fr _ _ _ _ => lF'); first | (exfalso; omega) | ((obtain ⟨nv, hnv⟩ := Option.isSome_iff_exists.mp (show (signAt (Txt.slice x (some p) (some (p + z)))).isSome = true by assumption)); (with_unfolding_all refine PyProof.Rows.item_strTab (dv := PyData.int nv) (TabAt.ofFr (exTab _ xX) lF') (by rw [lookup_ex, hnv]; rfl) (fun v hv => ?_)); (obtain ⟨tv, hv'⟩ := PyProof.V.Flat.int_inv hv); subst hv'))
  k_with "KswPost nil next" => ((rename Fr _ _ _ _ => lF'); (rename News _ _ _ _ => lN'); ((with_unfolding_all refine' endZw lF' lN' ?hn ?hr ?hz ?hp ?hf); (case hn => with_unfolding_all exact rfl); (case hr => (intro y hy; simp +zetaDelta only [if_neg hy])); (case hz => omega); (case hp => exact pz_step (by omega) (by assumption) (by assumption)); (case hf => (with_unfolding_all exact Int.sub_lt_self _ (by decide)))))
  k_with "KswPost cons next" => ((rename Fr _ _ _ _ => lF'); (rename News _ _ _ _ => lN'); (simp only [List.push_toArray] at lN'); ((with_unfolding_all refine' endYw (f - 1) lF' lN' (ints_snocY (by assumption)) ?hm ?hn ?hr ?hp ?hf); (case hm => with_unfolding_all exact rfl); (case hn => with_unfolding_all exact rfl); (case hr => (intro y h1 h2 h3; (have h4 := ne_inY (a := Str.ofString "size") h3 (by with_unfolding_all exact rfl)); (simp +zetaDelta only [h1, h2, h3, h4, if_false, Bool.false_eq_true]))); (case hp => first | exact (py_two (by assumption) (by assumption) (by assumption) (by assumption)).1 | exact (py_hit (by assumption) (by assumption) (by omega) (by assumption) (by assumption)).1); (case hf => first | exact (py_two (by assumption) (by assumption) (by assumption) (by assumption)).2 | exact (py_hit (by assumption) (by assumption) (by omega) (by assumption) (by assumption)).2)))
  k_with "compareOp NotIn str ref" => ((rename Frag.In _ _ => xX); (rename Fr _ _ _ _ => lF'); (with_unfolding_all refine notin_strTab (TabAt.ofFr (exTab _ xX) lF') ?_); (simp only [lookup_ex, Option.isSome_map]))
  k_dflt (refine' code_defF ?k1 ?k2 ?k3 ?k4 ?k5 ?kA ?kZ ?kF ?kK ?k6 ?k7 ?k8 ?k9 ?kB ?_ ?c2 ?c3 ?c4 ?c5; (case kA => exact rfl); (case kZ => first | with_reducible assumption | exact ktrDepth); (case kF => exact rfl); (case kK => first | exact rfl | assumption); (case k1 => k_asm); (case k2 => k_asm); (case k3 => k_asm); (case k4 => k_asm); (case k5 => k_asm); (case k6 => k_is); (case k7 => k_is); (case k8 => ktr_room); (case k9 => (first | exact BindsTo.of_eq (binds := []) rfl | exact BindsTo.of_eq (binds := [(_, _)]) rfl | exact BindsTo.of_eq (binds := [(_, _), (_, _)]) rfl | exact BindsTo.of_eq (binds := [(_, _), (_, _), (_, _)]) rfl | exact BindsTo.of_eq (binds := [(_, _), (_, _), (_, _), (_, _)]) rfl | exact BindsTo.of_eq (binds := [(_, _), (_, _), (_, _), (_, _), (_, _)]) rfl | exact BindsTo.of_eq rfl)); (case c5 => decide); (case kB => exact locs rfl); (case c2 => exact rfl); (case c3 => exact rfl); (case c4 => exact rfl); k_whole; intro qr er g' L' h' tk' FG' mz F' N' B' X' T' az hzd hzu qz ez; (try dsimp only [ktrTop] at hzu); (try k_lift B'))
  k_steps
  all_goals (try (refine ret _ vs _ _ _ (by rw [← py_end hP (by assumption)]; assumption) (by assumption) (by assumption) (by (first | assumption | exact ktn_ltOf (by assumption) | exact ktn_ltOf (And.right (by assumption)) | exact ktn_ltOf (And.right (And.right (by assumption))) | exact ktn_ltOf (And.right (And.right (And.right (by assumption)))) | exact ktn_ltOf (And.right (And.right (And.right (And.right (by assumption))))) | exact ktn_ltOf (And.right (And.right (And.right (And.right (And.right (by assumption)))))) | exact ktn_ltOf (And.right (And.right (And.right (And.right (And.right (And.right (by assumption)))))))))))
end ZY1
section ZS6
open PySem PySem.W PySem.Spec PySem.Calls PyProof.Rows
set_option rowWalk.seconds 0
set_option compiler.extract_closed false
set_option maxRecDepth 100000
set_option maxHeartbeats 8000000
set_option pp.deepTerms false
set_option pp.deepTerms.threshold 10
set_option pp.maxSteps 20000
noncomputable def pz18 (a : Str) : Bool := decide (1 < a.length) && (Txt.item a (-1) == Str.ofString "=")
noncomputable def signs18 : List Str := (signs48.map (·.1)).filter pz18
theorem pz18_1 {a : Str} (h : (1 : Int) < (a.length : Int)) (h2 : (Txt.item a (-1) == Str.ofString "=") = true) : true = pz18 a := by
  simp only [pz18, h2, Bool.and_true]; exact (decide_eq_true (by omega)).symm
theorem pz18_2 {a : Str} (h2 : (Txt.item a (-1) == Str.ofString "=") = false) : false = pz18 a := by
  simp only [pz18, h2, Bool.and_false]
theorem pz18_3 {a : Str} (h : ¬ (1 : Int) < (a.length : Int)) : false = pz18 a := by
  have : ¬ 1 < a.length := by omega
  simp only [pz18, this, decide_false, Bool.false_and]
theorem signs_len : ∀ a, a ∈ signs48.map (·.1) → a.length ≤ 3 ∧ 1 ≤ a.length := by
  have h : (signs48.map (·.1)).all (fun a => decide (a.length ≤ 3) && decide (1 ≤ a.length)) = true := by decide +kernel
  intro a ha
  have := List.all_eq_true.mp h a ha
  simp only [Bool.and_eq_true, decide_eq_true_eq] at this
  exact this
theorem signs18_len : signs18.length = 18 := by decide +kernel
end ZS6
section ZCC
set_option maxRecDepth 100000
open PySem PySem.W PySem.Spec PySem.Calls PyProof.Rows PyProof.Rows.LCg
noncomputable abbrev cellO (v : Option Value) : Obj := { cls := .type "cell", data := .cell v }
section
variable {M : Model} {A : Around} {E : Value → Shared → Prop} {s : Shared}
theorem newEnv_cell {scope : Scope} {globals : Addr} {cl : List (Str × Addr)} {qual : Str} {env : Env} {x : Str} {Q : Env → Shared → Prop}
    (hc : ∀ k acc, cellsFrom k scope.names acc = (x, k) :: acc) (hp : ∀ h, pushCells h scope.names = h.push (cellO none))
    (hQ : Q { scope, locals := s.heap.objs.size, globals, cells := (x, s.heap.objs.size + 1) :: cl, qual, func := none, code := env.code, frame := env.frame, builtins := env.builtins }
        { s with heap := (s.heap.push { cls := .type "dict", data := .dict #[] }).push (cellO none) }) :
    wpAny M A (newFunctionEnv scope globals cl [] qual none .none (some env)) Q E s := by
  simp only [newFunctionEnv, Option.isSome_some, if_true]
  refine wpAny_bind (wpAny_alloc ?_)
  refine wpAny_bind (wpAny_layCells _ (fun name kind cells => by cases kind == NameKind.cell <;> simp) _ _ _ _ ?_)
  dsimp only
  rw [hc, hp, Heap.size_push]
  rw [List.forIn_nil]
  exact wpAny_bind (wpAny_pure (wpAny_pure hQ))
theorem store_cell {env : Env} {name : Str} {c : Addr} {v₀ : Option Value} {v : Value} {Q : Unit → Shared → Prop} (hk : env.scope.kind = .function) (hl : env.kindOf name = some .cell)
    (hc : env.cells.lookup name = some c) (hv : s.heap.get? c = some (cellO v₀))
    (h : ∀ h', h'.get? c = some (cellO (some v)) → Heap.SameBut c s.heap h' → Q () { s with heap := h' }) : wpAny M A (storeName env name v) Q E s := by
  unfold storeName
  simp only [hl, hk]
  refine wpAny_bind (wpAny_cellOf hc ?_)
  unfold cellSet
  refine wpAny_bind (wpAny_load hv ?_)
  exact wpAny_update hv (h _ (Heap.get?_update_self _ hv rfl) (Heap.SameBut.update ..))
end
/-- what an element of such a comprehension leaves -/
noncomputable def EndC (h₀ : Heap) (L : Addr) (m : Str → Option Value) (s₁ : Shared) (K : Addr) (oK : Obj) (I : Addr) (oI : Obj) (C : Addr) (oC : Obj) (D : Addr) (oD : Obj) (rest : Value → List (Addr × Obj) → Prop) (y : Value) (s₂ : Shared) : Prop :=
  ∃ h' tk nw, s₂ = { s₁ with heap := h', toks := tk } ∧ Fr h₀ L h' m ∧ News h₀ L h' ((K, oK) :: (I, oI) :: (C, oC) :: (D, oD) :: nw) ∧ Off3 I C D nw ∧ Off1 K nw ∧ rest y nw
noncomputable def TurnC (prog : Program) (w : World) (A : Around) (h₀ : Heap) (L : Addr) (m : Str → Option Value) (env : Env) (elt : Expr) (x : Str) (scope : Scope) (cl : List (Str × Addr)) (s : Shared) (J : Nat → List Value → List (Addr × Obj) → Prop) (a : Int) (n : Nat) : Prop :=
  ∀ i t I oI C oC D K ys nw h tk (E' : Value → Shared → Prop), i < n → ys.length = i → J i ys nw → Fr h₀ L h m → News h₀ L h ((K, cellO (some (.int (a + (i : Int)) t))) :: (I, oI) :: (C, oC) :: (D, lst ys) :: nw) → Off3 I C D nw → Off1 K nw →
    (((@Ne Nat I C) ∧ (@Ne Nat I D) ∧ (@Ne Nat C D)) ∧ ((@Ne Nat K I) ∧ (@Ne Nat K C) ∧ (@Ne Nat K D))) →
    wpAny (model prog w) A (eval elt (compEnvC scope ((x, K) :: cl) C env)) (EndC h₀ L m { s with heap := h, toks := tk } K (cellO (some (.int (a + (i : Int)) t))) I oI C oC D (lst ys) (fun y nw' => J (i + 1) (ys ++ [y]) nw')) E' { s with heap := h, toks := tk }
theorem news_consC {h₀ h : Heap} {L : Addr} {p : Addr × Obj} {l : List (Addr × Obj)} (x : h.get? p.1 = some p.2 ∧ p.1 ≠ L ∧ h₀.get? p.1 = none) (N : News h₀ L h l) : News h₀ L h (p :: l) := fun q hq => by
  rcases List.mem_cons.mp hq with rfl | hq
  · exact x
  · exact N q hq
section
variable {prog : Program} {w : World} {A : Around} {E : Value → Shared → Prop} {s : Shared} {h₀ : Heap} {L : Addr} {m : Str → Option Value} {env : Env}
theorem off1of {D : Addr} : ∀ {l : List (Addr × Obj)}, (∀ p ∈ l, p.1 ≠ D) → Off1 D l
  | [], _ => trivial
  | _ :: _, h => ⟨h _ List.mem_cons_self, off1of fun p hp => h p (List.mem_cons_of_mem _ hp)⟩
theorem off1m {D : Addr} : ∀ {l : List (Addr × Obj)}, Off1 D l → ∀ p ∈ l, p.1 ≠ D
  | [], _, _, h => nomatch h
  | _ :: _, x, p, h => by
    rcases List.mem_cons.mp h with rfl | h
    · exact x.1
    · exact off1m x.2 p h
theorem block_C {elt iter : Expr} {x : Str} {px : Pos} {scope : Scope} {cl : List (Str × Addr)} {pos : Pos} {s₂ : Shared} {I : Addr} {a : Int} {n : Nat} {J : Nat → List Value → List (Addr × Obj) → Prop} {news : List (Addr × Obj)}
    {RR : Value → Addr → Result → Shared → Prop} (hh : A.handled = none) (hsz : n ≤ sizeLine)
    (hc : ∀ k acc, cellsFrom k scope.names acc = (x, k) :: acc) (hp : ∀ h, pushCells h scope.names = h.push (cellO none)) (hkind : scope.kind = .function) (hx : (relabel scope env).names.lookup x = some .cell)
    (hst : IsRangeIter s₂.heap I (a + ((0 : Nat) : Int) * 1) ((n : Int) - ((0 : Nat) : Int)) 1) (hIlt : I < s₂.heap.objs.size)
    (F : Fr h₀ L s₂.heap m) (N : News h₀ L s₂.heap news) (hIL : L ≠ I) (hI₀ : h₀.get? I = none) (off : ∀ p ∈ news, p.1 ≠ I) (hJ : J 0 [] news)
    (R : TurnC prog w A h₀ L m env elt x scope cl s₂ J a n)
    (hRR : ∀ D C h tk m' ys news', Fr h₀ L h m → News h₀ L h ((D, lst ys) :: news') → (∀ p ∈ news, p.1 < D) → Off1 D news' → h.Ns C m' → h₀.get? C = none → C ≠ L → C ≠ D → (∀ p ∈ news', p.1 ≠ C) → ys.length = n → J n ys news' → RR (.ref D) C (.ok .next) { s₂ with heap := h, toks := tk }) :
    wpAny (model prog w) A (newList []) (fun acc s₃ => wpAny (model prog w) A (newFunctionEnv scope env.globals cl [] env.qual none .none (some env)) (fun cenv s₄ =>
      codeAny (model prog w) A (.compStart (.ListComp elt [⟨.Name x px, iter, [], 0⟩] scope pos) 0 (.ref I) acc { cenv with scope := relabel scope env }) (RR acc cenv.locals) s₄) E s₃) E s₂ := by
  refine wpAny_newObj_type (newEnv_cell hc hp ?_)
  dsimp only
  generalize hH2 : s₂.heap.push { cls := .type "list", dict := none, data := .seq ([] : List Value).toArray } = H2
  have hC : H2.objs.size = s₂.heap.objs.size + 1 := by rw [← hH2, Heap.size_push]
  have below : ∀ b, b < s₂.heap.objs.size → b ≠ H2.objs.size ∧ b ≠ s₂.heap.objs.size ∧ b ≠ H2.objs.size + 1 := fun b hb => ⟨by rw [hC]; exact Nat.ne_of_lt (Nat.lt_succ_of_lt hb), Nat.ne_of_lt hb, by rw [hC]; exact Nat.ne_of_lt (Nat.lt_succ_of_lt (Nat.lt_succ_of_lt hb))⟩
  have hDC : s₂.heap.objs.size ≠ H2.objs.size := by rw [hC]; exact Nat.ne_of_lt (Nat.lt_succ_self _)
  have hDK : s₂.heap.objs.size ≠ H2.objs.size + 1 := by rw [hC]; exact Nat.ne_of_lt (Nat.lt_succ_of_lt (Nat.lt_succ_self _))
  have hCK : H2.objs.size ≠ H2.objs.size + 1 := Nat.ne_of_lt (Nat.lt_succ_self _)
  generalize hH3 : H2.push { cls := .type "dict", data := .dict #[] } = H3
  have hK : H3.objs.size = H2.objs.size + 1 := by rw [← hH3, Heap.size_push]
  generalize hh₁ : H3.push (cellO none) = h₁
  have old : ∀ b o, s₂.heap.get? b = some o → h₁.get? b = some o := fun b o e => by
    rw [← hh₁, ← hH3, ← hH2]; exact Heap.get?_push_of_some _ (Heap.get?_push_of_some _ (Heap.get?_push_of_some _ e))
  have hacc : h₁.get? s₂.heap.objs.size = some (lst []) := by rw [← hh₁, ← hH3, ← hH2]; exact Heap.get?_push_of_some _ (Heap.get?_push_of_some _ (Heap.get?_push_size _ rfl))
  have hns₁ : h₁.Ns H2.objs.size (fun _ => none) := by rw [← hh₁, ← hH3]; exact (Heap.Ns.new H2 (.type "dict")).keeps fun b o e => Heap.get?_push_of_some _ e
  have hcK : h₁.get? (H2.objs.size + 1) = some (cellO none) := by rw [← hh₁, ← hK]; exact Heap.get?_push_size _ rfl
  have fresh : ∀ a, s₂.heap.objs.size ≤ a → s₂.heap.get? a = none := fun a ha => by
    cases e : s₂.heap.get? a with
    | none => rfl
    | some o' => exact absurd (Heap.lt_size e) (Nat.not_lt.mpr ha)
  have fresh₀ : ∀ a, s₂.heap.objs.size ≤ a → h₀.get? a = none := fun a ha => by
    cases e : h₀.get? a with
    | none => rfl
    | some o' => have := F.keep a o' e; rw [fresh a ha] at this; cases this
  have hD₀ : h₀.get? s₂.heap.objs.size = none := fresh₀ _ (Nat.le_refl _)
  have hC₀ : h₀.get? H2.objs.size = none := fresh₀ _ (by rw [hC]; exact Nat.le_succ _)
  have hK₀ : h₀.get? (H2.objs.size + 1) = none := fresh₀ _ (by rw [hC]; exact Nat.le_trans (Nat.le_succ _) (Nat.le_succ _))
  have hLlt : L < s₂.heap.objs.size := F.ns.lt
  have hDL : s₂.heap.objs.size ≠ L := Ne.symm (below L hLlt).2.1
  have hCL : H2.objs.size ≠ L := Ne.symm (below L hLlt).1
  have hKL : H2.objs.size + 1 ≠ L := Ne.symm (below L hLlt).2.2
  have hCI : I ≠ H2.objs.size := (below I hIlt).1
  have hDI : I ≠ s₂.heap.objs.size := (below I hIlt).2.1
  have hKI : I ≠ H2.objs.size + 1 := (below I hIlt).2.2
  have off₀ : Off3 I H2.objs.size s₂.heap.objs.size news := Off3.of fun p hp => ⟨off p hp, (below _ (Heap.lt_size (N p hp).1)).1, (below _ (Heap.lt_size (N p hp).1)).2.1⟩
  have offK₀ : Off1 (H2.objs.size + 1) news := off1of fun p hp => (below _ (Heap.lt_size (N p hp).1)).2.2
  have W := range_walks (prog := prog) (w := w) (I := I) hh a n
  have hst₁ : IsRangeIter h₁ I (a + ((0 : Nat) : Int) * 1) ((n : Int) - ((0 : Nat) : Int)) 1 := old _ _ hst
  have loop : ∀ s₃ : Shared, s₃ = { s₂ with heap := h₁ } →
      codeAny (model prog w) A (.compLoop (.ListComp elt [⟨.Name x px, iter, [], 0⟩] scope pos) 0 (.ref I) (.ref s₂.heap.objs.size) (compEnvC scope ((x, H2.objs.size + 1) :: cl) H2.objs.size env))
        (RR (.ref s₂.heap.objs.size) H2.objs.size) s₃ := by
    rintro s₃ rfl
    let P : Nat → Shared → Prop := fun k s' => ∃ h' tk i ys m' cv news', s' = { s₂ with heap := h', toks := tk } ∧ i ≤ n ∧ k = n + 1 - i ∧ ys.length = i ∧ IsRangeIter h' I (a + (i : Nat) * 1) ((n : Int) - (i : Nat)) 1 ∧ Fr h₀ L h' m ∧ h'.Ns H2.objs.size m' ∧ h'.get? (H2.objs.size + 1) = some (cellO cv) ∧
      News h₀ L h' ((s₂.heap.objs.size, lst ys) :: news') ∧ Off3 I H2.objs.size s₂.heap.objs.size news' ∧ Off1 (H2.objs.size + 1) news' ∧ J i ys news'
    refine codeAny_compLoop_tests P ?_ (n + 1)
      ⟨h₁, s₂.toks, 0, [], _, _, news, rfl, Nat.zero_le _, rfl, rfl, hst₁, F.keeps old, hns₁, hcK, fun p hp => ?_, off₀, offK₀, hJ⟩
    · rintro k s' ⟨h', tk, i, ys, m', cv, news', rfl, hi, rfl, hyl, hst', F', hn', hcv, N', off', offK', J'⟩
      by_cases hlt : i < n
      · refine W.item i _ _ _ hlt hst' fun v h₂ tk₂ hPv hst₂ hk₂ => ?_
        obtain ⟨t, rfl⟩ := hPv
        refine wpAny_assign_Name (store_cell (c := H2.objs.size + 1) (v₀ := cv) hkind hx (by simp [compEnvC]) (hk₂ _ _ (by simpa using Ne.symm hKI) hcv) (fun h₃ hc₃ hs₃ => ?_))
        refine wpAny_tests_nil ?_
        refine PySem.W.ite_pos rfl ?_
        have hst₃ : IsRangeIter h₃ I (a + ((i + 1 : Nat) : Int) * 1) ((n : Int) - ((i + 1 : Nat) : Int)) 1 := hs₃.extBut _ _ hKI hst₂
        have hn₂ : h₂.Ns H2.objs.size m' := hn'.at' fun o e => hk₂ _ o (by simpa using Ne.symm hCI) e
        have hn₃ : h₃.Ns H2.objs.size m' := hn₂.sameBut hs₃ hCK
        obtain ⟨oC, heC, hoC⟩ := ns_obj hn₃
        have F₃ : Fr h₀ L h₃ m := (fr_but F' hk₂ hIL hI₀).change hs₃ hKL hK₀
        have off3 := off'.mem
        have offk := off1m offK'
        have N₂ : News h₀ L h₂ ((s₂.heap.objs.size, lst ys) :: news') := news_but N' hk₂ fun p hp => by
          rcases List.mem_cons.mp hp with rfl | hp
          · exact Ne.symm hDI
          · exact (off3 p hp).1
        obtain ⟨oI, heI⟩ : ∃ oI, h₃.get? I = some oI := ⟨_, hst₃⟩
        have N₃ : News h₀ L h₃ ((H2.objs.size + 1, cellO (some (.int (a + (i : Int)) t))) :: (I, oI) :: (H2.objs.size, oC) :: (s₂.heap.objs.size, lst ys) :: news') :=
          news_consC ⟨hc₃, hKL, hK₀⟩ (news_consC ⟨heI, Ne.symm hIL, hI₀⟩ (news_consC ⟨heC, hCL, hC₀⟩ (news_consC ⟨hs₃.extBut _ _ hDK (N₂ _ (.head _)).1, (N₂ _ (.head _)).2⟩ fun p hp => ⟨hs₃.extBut _ _ (offk p hp) (N₂ p (.tail _ hp)).1, (N₂ p (.tail _ hp)).2⟩)))
        refine wpAny_mono (R i t I oI H2.objs.size oC s₂.heap.objs.size (H2.objs.size + 1) ys news' h₃ tk₂ _ hlt hyl J' F₃ N₃ off' offK' ⟨⟨hCI, hDI, Ne.symm hDC⟩, Ne.symm hKI, Ne.symm hCK, Ne.symm hDK⟩) (fun y s₄ h₄ => ?_) fun _ _ e => e
        obtain ⟨h₄, tk₄, news₄, rfl, F₄, N₄, off₄, offK₄, J₄⟩ := h₄
        have zK := (N₄ _ List.mem_cons_self).1
        have zI := (N₄ (I, oI) (List.mem_cons_of_mem _ List.mem_cons_self)).1
        have zC := (N₄ (H2.objs.size, oC) (List.mem_cons_of_mem _ (List.mem_cons_of_mem _ List.mem_cons_self))).1
        have zD := (N₄ (s₂.heap.objs.size, lst ys) (List.mem_cons_of_mem _ (List.mem_cons_of_mem _ (List.mem_cons_of_mem _ List.mem_cons_self)))).1
        have N₄' : News h₀ L h₄ news₄ := fun p hp => N₄ p (List.mem_cons_of_mem _ (List.mem_cons_of_mem _ (List.mem_cons_of_mem _ (List.mem_cons_of_mem _ hp))))
        have hst₄ : IsRangeIter h₄ I (a + ((i + 1 : Nat) : Int) * 1) ((n : Int) - ((i + 1 : Nat) : Int)) 1 := range_st (i + 1) h₃ h₄ oI news₄ hst₃ heI zI F₄.keep N₄' trivial
        refine append_at (hsz := by show ys.toArray.size ≤ sizeLine; rw [List.size_toArray, hyl]; exact Nat.le_trans hi hsz) zD fun h₅ hs₅ hD₅ => ?_
        have off4 := off₄.mem
        refine ⟨n + 1 - (i + 1), by omega, h₅, tk₄, i + 1, ys ++ [y], m', _, news₄, rfl, hlt, rfl, by rw [List.length_append, List.length_singleton, hyl], hs₅.extBut _ _ hDI hst₄, F₄.change hs₅ hDL hD₀,
          (hoC.ns zC).sameBut hs₅ (Ne.symm hDC), hs₅.extBut _ _ (Ne.symm hDK) zK, fun p hp => ?_, off₄, offK₄, J₄⟩
        rcases List.mem_cons.mp hp with rfl | hp
        · exact ⟨hD₅.trans (congrArg some (lst_snoc ys y)), hDL, hD₀⟩
        · exact ⟨hs₅.extBut _ _ (off4 p hp).2.2 (N₄' p hp).1, (N₄' p hp).2⟩
      · obtain rfl : i = n := Nat.le_antisymm hi (Nat.not_lt.mp hlt)
        refine W.done _ _ _ hst' fun h₂ tk₂ hk₂ => ?_
        have off3 := off'.mem
        exact hRR _ _ h₂ tk₂ _ ys news' (fr_but F' hk₂ hIL hI₀) (news_but N' hk₂ fun p hp => by
          rcases List.mem_cons.mp hp with rfl | hp
          · exact Ne.symm hDI
          · exact (off3 p hp).1) (fun p hp => Heap.lt_size (N p hp).1) off'.one (hn'.at' fun o e => hk₂ _ o (by simpa using Ne.symm hCI) e) hC₀ hCL (Ne.symm hDC) (fun p hp => (off3 p hp).2.1) hyl J'
    · rcases List.mem_cons.mp hp with rfl | hp
      · exact ⟨hacc, hDL, hD₀⟩
      · exact ⟨old _ _ (N p hp).1, (N p hp).2⟩
  exact codeAny_compStart_list (loop _ rfl) (W.self 0 _ _ _ hst₁ (loop _ rfl))
noncomputable def SrcC (prog : Program) (w : World) (A : Around) (h₀ : Heap) (L : Addr) (m : Str → Option Value) (env : Env) (elt : Expr) (x : Str) (scope : Scope) (cl : List (Str × Addr)) (J : Nat → List Value → List (Addr × Obj) → Prop) (Q : Value → Shared → Prop) (xv : Value) (s₁ : Shared) : Prop :=
  ∃ r a b t u v n news, xv = .ref r ∧ A.handled = none ∧ Fr h₀ L s₁.heap m ∧ News h₀ L s₁.heap news ∧ IsRange s₁.heap r a b 1 t u v ∧ Builtin.Range.small a b 1 = true ∧ Builtin.Range.rangeSize a b 1 = ((n : Nat) : Int) ∧ n ≤ sizeLine ∧ J 0 [] news ∧
    ∀ s₂ : Shared, (∃ h, s₂ = { s₁ with heap := h }) → TurnC prog w A h₀ L m env elt x scope cl s₂ J a n ∧ ∀ D h tk ys nw, Fr h₀ L h m → News h₀ L h ((D, lst ys) :: nw) → (∀ p ∈ news, p.1 < D) → Off1 D nw → ys.length = n → J n ys nw → Q (.ref D) { s₂ with heap := h, toks := tk }
/-- a comprehension over a range whose loop variable is a cell -/
theorem ListComp_C {elt iter : Expr} {x : Str} {px : Pos} {scope : Scope} {cl : List (Str × Addr)} {pos : Pos} {Q : Value → Shared → Prop} {J : Nat → List Value → List (Addr × Obj) → Prop}
    (hclos : closureFor scope env = pure cl) (hc : ∀ k acc, cellsFrom k scope.names acc = (x, k) :: acc) (hp : ∀ h, pushCells h scope.names = h.push (cellO none)) (hkind : scope.kind = .function)
    (hnames : ∀ y ∈ scope.names, y.2 = .local → scope.names.lookup y.1 = some .local) (hx : (relabel scope env).names.lookup x = some .cell)
    (h : wpAny (model prog w) A (eval iter env) (SrcC prog w A h₀ L m env elt x scope cl J Q) E s)
    (hs : ∀ x, foldedSetIterable iter env x = pure x) :
    wpAny (model prog w) A (eval (.ListComp elt [⟨.Name x px, iter, [], 0⟩] scope pos) env) Q E s := by
  rw [eval_ListComp]
  refine wpAny_comprehension_free (use := none) rfl hs hclos hkind hnames (wpAny_mono h (fun xv s₁ h₁ => ?_) fun _ _ e => e)
  obtain ⟨r, a, b, t, u, v, n, news, rfl, hh, F, N, hr, hsm, hn, hsz, hJ, R⟩ := h₁
  refine wpAny_pyIter_range hr hsm ?_
  obtain ⟨R1, R2⟩ := R { s₁ with heap := s₁.heap.push _ } ⟨_, rfl⟩
  refine block_C hh hsz hc hp hkind hx (by show IsRangeIter _ _ _ _ _; rw [hn]; simpa using Heap.get?_push_size _ rfl) (by
      show s₁.heap.objs.size < (s₁.heap.push _).objs.size
      rw [Heap.size_push]; exact Nat.lt_succ_self _)
    (F.keeps fun _ _ e => Heap.get?_push_of_some _ e) (N.grown fun _ _ e => Heap.get?_push_of_some _ e) (Nat.ne_of_lt F.ns.lt) (next_is_new F) (fun p hp => Nat.ne_of_lt (Heap.lt_size (N p hp).1)) hJ R1 ?_
  intro D C h tk m' ys news' F' N' hlt o1 hn' hC₀ hCL hCD offC hl hJn
  refine ⟨m', hn', fun h'' hs'' => R2 D h'' tk ys news' (F'.change hs'' hCL hC₀) (fun p hp => ?_) hlt o1 hl hJn⟩
  refine ⟨hs''.extBut _ _ ?_ (N' p hp).1, (N' p hp).2⟩
  rcases List.mem_cons.mp hp with rfl | hp
  · exact Ne.symm hCD
  · exact offC p hp
end
end ZCC
section ZCC2
set_option maxRecDepth 100000
open PySem PySem.W PySem.Spec PySem.Calls PyProof.Rows PyProof.Rows.LCg
theorem compTurn_two0 (elt t0 i0 t1 i1 : Expr) (scope : Scope) (pos : Pos) (it acc : Value) (env : Env) :
    compTurn (.ListComp elt [⟨t0, i0, [], 0⟩, ⟨t1, i1, [], 0⟩] scope pos) 0 it acc env = (standAt i0.pos >>= fun _ => pyNext it >>= fun r => match r with
      | none => pure (.done .next)
      | some v => letOwnedTupleGo t0 it v >>= fun _ => assign t0 env v >>= fun _ =>
        eval i1 env >>= fun x => standAt i1.pos >>= fun _ => foldedSetIterable i1 env x >>= fun x => holding [x] (pyIter x) >>= fun it1 =>
          runOwn (.compStart (.ListComp elt [⟨t0, i0, [], 0⟩, ⟨t1, i1, [], 0⟩] scope pos) 1 it1 acc env) env >>= fun _ =>
          again (.compLoop (.ListComp elt [⟨t0, i0, [], 0⟩, ⟨t1, i1, [], 0⟩] scope pos) 0 it acc env)) := by rfl
theorem compTurn_two1 (elt t0 i0 t1 i1 : Expr) (scope : Scope) (pos : Pos) (it acc : Value) (env : Env) :
    compTurn (.ListComp elt [⟨t0, i0, [], 0⟩, ⟨t1, i1, [], 0⟩] scope pos) 1 it acc env = (standAt i1.pos >>= fun _ => pyNext it >>= fun r => match r with
      | none => pure (.done .next)
      | some v => letOwnedTupleGo t1 it v >>= fun _ => assign t1 env v >>= fun _ =>
        (eval elt env >>= fun x => call (.builtin "list.append") [acc, x] >>= fun _ => pure ()) >>= fun _ =>
          again (.compLoop (.ListComp elt [⟨t0, i0, [], 0⟩, ⟨t1, i1, [], 0⟩] scope pos) 1 it acc env)) := by rfl
section
variable {prog : Program} {w : World} {A : Around} {E : Value → Shared → Prop} {s : Shared} {h₀ : Heap} {L : Addr} {m : Str → Option Value} {env : Env} {R : Result → Shared → Prop}
theorem compStart_two1 {elt t0 i0 t1 i1 : Expr} {scope : Scope} {pos : Pos} {it acc : Value}
    (h0 : codeAny (model prog w) A (.compLoop (.ListComp elt [⟨t0, i0, [], 0⟩, ⟨t1, i1, [], 0⟩] scope pos) 1 it acc env) R s)
    (h : wpAny (model prog w) A (pyIter it) (fun it' s' => codeAny (model prog w) A (.compLoop (.ListComp elt [⟨t0, i0, [], 0⟩, ⟨t1, i1, [], 0⟩] scope pos) 1 it' acc env) R s')
      (notedBy (model prog w) A env fun x s' => R (.error x) s') s) :
    codeAny (model prog w) A (.compStart (.ListComp elt [⟨t0, i0, [], 0⟩, ⟨t1, i1, [], 0⟩] scope pos) 1 it acc env) R s := by
  refine codeAny_of_tree ?_
  show wpAny _ _ ((compStart (.ListComp elt [⟨t0, i0, [], 0⟩, ⟨t1, i1, [], 0⟩] scope pos) 1 it acc env).onRaise (fun x => do noteFrame x env; standAt theWindowsPlace)) _ _ s
  refine wpAny_notedAt ?_
  unfold compStart
  show wpAny _ _ (ask >>= _) _ _ s
  refine wpAny_bind (wpAny_askSetting (wpAny_ite ?_))
  split
  · first
      | exact wpAny_bind (wpAny_pure (wpAny_pure (And.intro rfl h0)))
      | exact wpAny_pure (And.intro rfl h0)
  · first
      | exact wpAny_bind (wpAny_rule (wpAny_bind (wpAny_standAt (wpAny_bind (wpAny_mono h (fun it' s' h' => wpAny_pure (And.intro rfl h')) fun _ _ x => x)))))
      | (refine wpAny_bind (wpAny_rule ?_); show wpAny _ _ (standAt i1.pos >>= _) _ _ s; exact wpAny_bind (wpAny_standAt (wpAny_bind (wpAny_mono h (fun it' s' h' => wpAny_pure (And.intro rfl h')) fun _ _ x => x))))
theorem compLoop_two1 {elt t0 i0 t1 i1 : Expr} {scope : Scope} {pos : Pos} {it acc : Value} (I : Nat → Shared → Prop)
    (turn : ∀ n s, I n s → wpAny (model prog w) A (pyNext it) (fun r s₁ => match r with
      | none => R (.ok .next) s₁
      | some v => wpAny (model prog w) A (assign t1 env v) (fun _ s₂ => wpAny (model prog w) A (eval elt env) (fun x s₃ =>
          wpAny (model prog w) A (call (.builtin "list.append") [acc, x]) (fun _ s₄ => ∃ m, m < n ∧ I m s₄) (notedBy (model prog w) A env fun e s' => R (.error e) s') s₃)
          (notedBy (model prog w) A env fun e s' => R (.error e) s') s₂) (notedBy (model prog w) A env fun e s' => R (.error e) s') s₁) (notedBy (model prog w) A env fun e s' => R (.error e) s') s)
    (n : Nat) (h : I n s) (ht : ∀ v, letOwnedTupleGo t1 it v = pure ()) :
    codeAny (model prog w) A (.compLoop (.ListComp elt [⟨t0, i0, [], 0⟩, ⟨t1, i1, [], 0⟩] scope pos) 1 it acc env) R s := by
  refine codeAny_loop rfl I (fun n s hI => ?_) n h
  show wpAny _ _ ((compTurn (.ListComp elt [⟨t0, i0, [], 0⟩, ⟨t1, i1, [], 0⟩] scope pos) 1 it acc env).onRaise (fun x => do noteFrame x env; theTreesLotGoes x)) _ _ s
  refine wpAny_noted ?_
  rw [compTurn_two1]
  refine wpAny_bind (wpAny_standAt (wpAny_bind (wpAny_mono (turn n s hI) (fun r s₁ h₁ => ?_) fun _ _ h' => h')))
  cases r with
  | none => exact wpAny_pure h₁
  | some v =>
    refine wpAny_bind (wpAny_of_eq (ht v) ?_)
    exact wpAny_bind (wpAny_mono h₁ (fun _ s₂ h₂ => wpAny_bind (wpAny_bind (wpAny_mono h₂ (fun x s₃ h₃ => wpAny_bind (wpAny_mono h₃
      (fun _ s₄ h₄ => wpAny_pure (wpAny_pure ⟨rfl, h₄⟩)) fun _ _ h' => h')) fun _ _ h' => h'))) fun _ _ h' => h')
theorem compLoop_two0 {elt t0 i0 t1 i1 : Expr} {scope : Scope} {pos : Pos} {it acc : Value} (I : Nat → Shared → Prop)
    (hs1 : ∀ x, foldedSetIterable i1 env x = pure x)
    (turn : ∀ n s, I n s → wpAny (model prog w) A (pyNext it) (fun r s₁ => match r with
      | none => R (.ok .next) s₁
      | some v => wpAny (model prog w) A (assign t0 env v) (fun _ s₂ => wpAny (model prog w) A (eval i1 env) (fun x s₃ =>
          wpAny (model prog w) A (pyIter x) (fun it1 s₄ => codeAny (model prog w) A (.compStart (.ListComp elt [⟨t0, i0, [], 0⟩, ⟨t1, i1, [], 0⟩] scope pos) 1 it1 acc env) (fun r s₅ => match r with
            | .ok _ => ∃ m, m < n ∧ I m s₅
            | .error e => cameBackBy (model prog w) A env (notedBy (model prog w) A env fun e s' => R (.error e) s') e s₅) s₄)
          (notedBy (model prog w) A env fun e s' => R (.error e) s') s₃)
          (notedBy (model prog w) A env fun e s' => R (.error e) s') s₂) (notedBy (model prog w) A env fun e s' => R (.error e) s') s₁) (notedBy (model prog w) A env fun e s' => R (.error e) s') s)
    (n : Nat) (h : I n s) (ht : ∀ v, letOwnedTupleGo t0 it v = pure ()) :
    codeAny (model prog w) A (.compLoop (.ListComp elt [⟨t0, i0, [], 0⟩, ⟨t1, i1, [], 0⟩] scope pos) 0 it acc env) R s := by
  refine codeAny_loop rfl I (fun n s hI => ?_) n h
  show wpAny _ _ ((compTurn (.ListComp elt [⟨t0, i0, [], 0⟩, ⟨t1, i1, [], 0⟩] scope pos) 0 it acc env).onRaise (fun x => do noteFrame x env; theTreesLotGoes x)) _ _ s
  refine wpAny_noted ?_
  rw [compTurn_two0]
  refine wpAny_bind (wpAny_standAt (wpAny_bind (wpAny_mono (turn n s hI) (fun r s₁ h₁ => ?_) fun _ _ h' => h')))
  cases r with
  | none => exact wpAny_pure h₁
  | some v =>
    refine wpAny_bind (wpAny_of_eq (ht v) ?_)
    refine wpAny_bind (wpAny_mono h₁ (fun _ s₂ h₂ => ?_) fun _ _ h' => h')
    refine wpAny_bind (wpAny_mono h₂ (fun x s₃ h₃ => ?_) fun _ _ h' => h')
    refine wpAny_bind (wpAny_standAt (wpAny_bind (wpAny_of_eq (hs1 x) ?_)))
    refine wpAny_bind (wpAny_holding (wpAny_mono h₃ (fun it1 s₄ h₄ => ?_) fun _ _ h' => h'))
    refine wpAny_bind (wpAny_runOwn (codeAny_mono h₄ fun r s₅ h₅ => ?_))
    cases r with
    | ok f => exact wpAny_pure ⟨rfl, h₅⟩
    | error e => exact h₅
theorem inner2 {i0 i1 : Expr} {r x : Str} {ep px pr : Pos} {scope : Scope} {pos : Pos} {I a D : Addr} {ws ys : List Value} {m' : Str → Option Value} (hh : A.handled = none) (hk : env.scope.kind = .function) (hx : env.kindOf x = some .local)
    (hit : s.heap.IsListIter I a 0) (hl : s.heap.IsList a ws.toArray) (hD : s.heap.get? D = some (lst ys)) (hn : s.heap.Ns env.locals m')
    (hd : (x == ("__debug__" : Str)) = false) (haI : a ≠ I) (haD : a ≠ D) (haC : a ≠ env.locals) (hIC : I ≠ env.locals) (hID : I ≠ D) (hCD : env.locals ≠ D) (hsz : ys.length + ws.length ≤ sizeLine)
    (h : ∀ h' tk m'', h'.get? D = some (lst (ys ++ ws)) → h'.Ns env.locals m'' → (∀ b o, b ≠ I → b ≠ env.locals → b ≠ D → s.heap.get? b = some o → h'.get? b = some o) → R (.ok .next) { s with heap := h', toks := tk }) :
    codeAny (model prog w) A (.compStart (.ListComp (.Name x ep) [⟨.Name r pr, i0, [], 0⟩, ⟨.Name x px, i1, [], 0⟩] scope pos) 1 (.ref I) (.ref D) env) R s := by
  have W := Walks.list (prog := prog) (w := w) hh I a haI ws.toArray
  have loop : codeAny (model prog w) A (.compLoop (.ListComp (.Name x ep) [⟨.Name r pr, i0, [], 0⟩, ⟨.Name x px, i1, [], 0⟩] scope pos) 1 (.ref I) (.ref D) env) R s := by
    refine compLoop_two1 (fun k s' => ∃ h' tk i m'', s' = { s with heap := h', toks := tk } ∧ i ≤ ws.length ∧ k = ws.length + 1 - i ∧ (h'.IsListIter I a i ∧ h'.IsList a ws.toArray) ∧ h'.get? D = some (lst (ys ++ ws.take i)) ∧ h'.Ns env.locals m'' ∧
        ∀ b o, b ≠ I → b ≠ env.locals → b ≠ D → s.heap.get? b = some o → h'.get? b = some o) ?_ (ws.length + 1)
      ⟨s.heap, s.toks, 0, m', rfl, Nat.zero_le _, rfl, ⟨hit, hl⟩, by simpa using hD, hn, fun _ _ _ _ _ e => e⟩ (fun _ => rfl)
    rintro k s' ⟨h', tk, i, m'', rfl, hi, rfl, hst, hD', hn', hk'⟩
    by_cases hlt : i < ws.length
    · refine W.item i _ _ _ (by simpa using hlt) hst fun v h₂ tk₂ hv hst₂ hk₂ => ?_
      refine wpAny_assign_Name (wpAny_storeName_local hx (hn'.at' fun o e => hk₂ _ o (by simpa using Ne.symm hIC) e) (fun h₃ hn₃ hs₃ => ?_) (by rw [hk]; rfl))
      rw [eval_Name _ _ _ hd]
      refine wpAny_bind (wpAny_standAt (wpAny_loadName_local hk hx hn₃ (v := v) (by simp) ?_))
      have hD₃ : h₃.get? D = some (lst (ys ++ ws.take i)) := hs₃.extBut _ _ (Ne.symm hCD) (hk₂ _ _ (by simpa using Ne.symm hID) hD')
      refine append_at (hsz := by show (ys ++ ws.take i).toArray.size ≤ sizeLine; rw [List.size_toArray, List.length_append, List.length_take]; omega) hD₃ fun h₅ hs₅ hD₅ => ?_
      have hv' : ws[i]? = some v := by simpa using hv
      refine ⟨ws.length + 1 - (i + 1), by omega, h₅, _, i + 1, _, rfl, hlt, rfl, ⟨?_, ?_⟩, ?_, hn₃.sameBut hs₅ hCD, ?_⟩
      · exact (hst₂.1.extBut hs₃.extBut hIC).extBut hs₅.extBut hID
      · exact (hst₂.2.extBut hs₃.extBut haC).extBut hs₅.extBut haD
      · rw [hD₅, lst_snoc, List.append_assoc, List.take_add_one, hv']
        rfl
      · intro b o h1 h2 h3 e
        exact hs₅.extBut _ _ h3 (hs₃.extBut _ _ h2 (hk₂ _ _ (by simpa using h1) (hk' b o h1 h2 h3 e)))
    · obtain rfl : i = ws.length := Nat.le_antisymm hi (Nat.not_lt.mp hlt)
      refine W.done _ _ _ (by simpa using hst) fun h₂ tk₂ hk₂ => ?_
      refine h h₂ tk₂ m'' ?_ (hn'.at' fun o e => hk₂ _ o (by simpa using Ne.symm hIC) e) fun b o h1 h2 h3 e => hk₂ _ _ (by simpa using h1) (hk' b o h1 h2 h3 e)
      have := hk₂ _ _ (by simpa using Ne.symm hID) hD'
      simpa using this
  exact compStart_two1 loop (W.self 0 _ _ _ ⟨hit, hl⟩ loop)
/-- what the inner iterable of such a comprehension leaves -/
noncomputable def EndT (h₀ : Heap) (L : Addr) (m : Str → Option Value) (s₁ : Shared) (I : Addr) (oI : Obj) (C : Addr) (oC : Obj) (D : Addr) (oD : Obj) (rest : List Value → List (Addr × Obj) → Prop) (y : Value) (s₂ : Shared) : Prop :=
  ∃ h' tk a ws kk nw, y = .ref a ∧ s₂ = { s₁ with heap := h', toks := tk } ∧ Fr h₀ L h' m ∧ News h₀ L h' ((a, listOf ws.toArray kk) :: (I, oI) :: (C, oC) :: (D, oD) :: nw) ∧ Off3 I C D ((a, listOf ws.toArray kk) :: nw) ∧ rest ws nw
noncomputable def TurnT (prog : Program) (w : World) (A : Around) (h₀ : Heap) (L : Addr) (m : Str → Option Value) (env : Env) (i1 : Expr) (r : Str) (scope : Scope) (cl : List (Str × Addr)) (s : Shared) (J : Nat → List Value → List (Addr × Obj) → Prop) (its : Array Value) : Prop :=
  ∀ i v I oI C oC D m₂ ys nw h tk (E' : Value → Shared → Prop), its[i]? = some v → NsObj oC m₂ → m₂ r = some v → J i ys nw → Fr h₀ L h m → News h₀ L h ((I, oI) :: (C, oC) :: (D, lst ys) :: nw) → Off3 I C D nw → ((@Ne Nat I C) ∧ (@Ne Nat I D) ∧ (@Ne Nat C D)) →
    wpAny (model prog w) A (eval i1 (compEnvC scope cl C env)) (EndT h₀ L m { s with heap := h, toks := tk } I oI C oC D (lst ys) (fun ws nw' => ys.length + ws.length ≤ sizeLine ∧ J (i + 1) (ys ++ ws) nw')) E' { s with heap := h, toks := tk }
theorem block_T {i0 i1 : Expr} {r x : Str} {ep px pr : Pos} {scope : Scope} {cl : List (Str × Addr)} {pos : Pos} {s₂ : Shared} {I Ra : Addr} {its : Array Value} {J : Nat → List Value → List (Addr × Obj) → Prop} {news : List (Addr × Obj)}
    {RR : Value → Addr → Result → Shared → Prop} (hh : A.handled = none) (hsz : its.size ≤ sizeLine)
    (hcell : ∀ y ∈ scope.names, y.2 ≠ .cell) (hkind : scope.kind = .function) (hr : scope.names.lookup r = some .local) (hx : scope.names.lookup x = some .local) (hd : (x == ("__debug__" : Str)) = false)
    (hs1 : ∀ C x, foldedSetIterable i1 (compEnvC scope cl C env) x = pure x)
    (hst : s₂.heap.IsListIter I Ra 0 ∧ s₂.heap.IsList Ra its) (hRI : Ra ≠ I) (hJS : ∀ i ys nw, J i ys nw → ∃ o, (Ra, o) ∈ nw ∧ o.cls = .type "list" ∧ ∃ n, o.data = .seq its n)
    (F : Fr h₀ L s₂.heap m) (N : News h₀ L s₂.heap news) (hIL : L ≠ I) (hI₀ : h₀.get? I = none) (off : ∀ p ∈ news, p.1 ≠ I) (hJ : J 0 [] news)
    (T : TurnT prog w A h₀ L m env i1 r scope cl s₂ J its)
    (hRR : ∀ D C h tk m' ys news', Fr h₀ L h m → News h₀ L h ((D, lst ys) :: news') → Off1 D news' → h.Ns C m' → h₀.get? C = none → C ≠ L → C ≠ D → (∀ p ∈ news', p.1 ≠ C) → J its.size ys news' → RR (.ref D) C (.ok .next) { s₂ with heap := h, toks := tk }) :
    wpAny (model prog w) A (newList []) (fun acc s₃ => wpAny (model prog w) A (newFunctionEnv scope env.globals cl [] env.qual none .none (some env)) (fun cenv s₄ =>
      codeAny (model prog w) A (.compStart (.ListComp (.Name x ep) [⟨.Name r pr, i0, [], 0⟩, ⟨.Name x px, i1, [], 0⟩] scope pos) 0 (.ref I) acc { cenv with scope := relabel scope env }) (RR acc cenv.locals) s₄) E s₃) E s₂ := by
  refine wpAny_newObj_type (wpAny_newFunctionEnv hcell (by intro y hy; simp at hy) (fun h₁ hns₁ hsb₁ => ?_) hkind)
  dsimp only at hns₁ hsb₁ ⊢
  generalize hH2 : s₂.heap.push { cls := .type "list", dict := none, data := .seq ([] : List Value).toArray } = H2 at hns₁ hsb₁ ⊢
  have hC : H2.objs.size = s₂.heap.objs.size + 1 := by rw [← hH2, Heap.size_push]
  have hDC : s₂.heap.objs.size ≠ H2.objs.size := by rw [hC]; exact Nat.ne_of_lt (Nat.lt_succ_self _)
  have below : ∀ b, b < s₂.heap.objs.size → b ≠ H2.objs.size ∧ b ≠ s₂.heap.objs.size := fun b hb => ⟨by rw [hC]; exact Nat.ne_of_lt (Nat.lt_succ_of_lt hb), Nat.ne_of_lt hb⟩
  have hIlt : I < s₂.heap.objs.size := by obtain ⟨o, e, _⟩ := hst.1; exact Heap.lt_size e
  have hRlt : Ra < s₂.heap.objs.size := by obtain ⟨o, e, _⟩ := hst.2; exact Heap.lt_size e
  have old : ∀ b o, s₂.heap.get? b = some o → h₁.get? b = some o := fun b o e => hsb₁.extBut b o (below b (Heap.lt_size e)).1 (Heap.get?_push_of_some _ (hH2 ▸ Heap.get?_push_of_some _ e))
  have hacc : h₁.get? s₂.heap.objs.size = some (lst []) := hsb₁.extBut _ _ hDC (Heap.get?_push_of_some _ (hH2 ▸ Heap.get?_push_size _ rfl))
  have hst₁ : h₁.IsListIter I Ra 0 ∧ h₁.IsList Ra its := ⟨hst.1.at (old _), hst.2.at (old _)⟩
  have fresh : ∀ a, s₂.heap.objs.size ≤ a → s₂.heap.get? a = none := fun a ha => by
    cases e : s₂.heap.get? a with
    | none => rfl
    | some o' => exact absurd (Heap.lt_size e) (Nat.not_lt.mpr ha)
  have fresh₀ : ∀ a, s₂.heap.objs.size ≤ a → h₀.get? a = none := fun a ha => by
    cases e : h₀.get? a with
    | none => rfl
    | some o' => have := F.keep a o' e; rw [fresh a ha] at this; cases this
  have hD₀ : h₀.get? s₂.heap.objs.size = none := fresh₀ _ (Nat.le_refl _)
  have hC₀ : h₀.get? H2.objs.size = none := fresh₀ _ (by rw [hC]; exact Nat.le_succ _)
  have hLlt : L < s₂.heap.objs.size := F.ns.lt
  have hDL : s₂.heap.objs.size ≠ L := Ne.symm (below L hLlt).2
  have hCL : H2.objs.size ≠ L := Ne.symm (below L hLlt).1
  have hCI : I ≠ H2.objs.size := (below I hIlt).1
  have hDI : I ≠ s₂.heap.objs.size := (below I hIlt).2
  have hRC : Ra ≠ H2.objs.size := (below Ra hRlt).1
  have hRD : Ra ≠ s₂.heap.objs.size := (below Ra hRlt).2
  have off₀ : Off3 I H2.objs.size s₂.heap.objs.size news := Off3.of fun p hp => ⟨off p hp, (below _ (Heap.lt_size (N p hp).1)).1, (below _ (Heap.lt_size (N p hp).1)).2⟩
  have W := Walks.list (prog := prog) (w := w) hh I Ra hRI its
  have loop : ∀ s₃ : Shared, s₃ = { s₂ with heap := h₁, toks := s₂.toks + ([] : List (Str × Value)).length } →
      codeAny (model prog w) A (.compLoop (.ListComp (.Name x ep) [⟨.Name r pr, i0, [], 0⟩, ⟨.Name x px, i1, [], 0⟩] scope pos) 0 (.ref I) (.ref s₂.heap.objs.size) (compEnvC scope cl H2.objs.size env))
        (RR (.ref s₂.heap.objs.size) H2.objs.size) s₃ := by
    rintro s₃ rfl
    let P : Nat → Shared → Prop := fun k s' => ∃ h' tk i ys m' news', s' = { s₂ with heap := h', toks := tk } ∧ i ≤ its.size ∧ k = its.size + 1 - i ∧ (h'.IsListIter I Ra i ∧ h'.IsList Ra its) ∧ Fr h₀ L h' m ∧ h'.Ns H2.objs.size m' ∧ News h₀ L h' ((s₂.heap.objs.size, lst ys) :: news') ∧
      Off3 I H2.objs.size s₂.heap.objs.size news' ∧ J i ys news'
    refine compLoop_two0 P (hs1 _) ?_ (its.size + 1)
      ⟨h₁, _, 0, [], _, news, rfl, Nat.zero_le _, rfl, hst₁, F.keeps old, hns₁, fun p hp => ?_, off₀, hJ⟩ (fun _ => rfl)
    · rintro k s' ⟨h', tk, i, ys, m', news', rfl, hi, rfl, hst', F', hn', N', off', J'⟩
      by_cases hlt : i < its.size
      · refine W.item i _ _ _ hlt hst' fun v h₂ tk₂ hPv hst₂ hk₂ => ?_
        refine wpAny_assign_Name (wpAny_storeName_local (lookup_relabel_local hr) (hn'.at' fun o e => hk₂ _ o (by simpa using Ne.symm hCI) e) (fun h₃ hn₃ hs₃ => ?_) (by simp [compEnvC, relabel, hkind]))
        have hst₃ : h₃.IsListIter I Ra (i + 1) ∧ h₃.IsList Ra its := ⟨hst₂.1.extBut hs₃.extBut hCI, hst₂.2.extBut hs₃.extBut hRC⟩
        obtain ⟨oI, heI, hoI⟩ := hst₃.1
        obtain ⟨oC, heC, hoC⟩ := ns_obj hn₃
        have F₃ : Fr h₀ L h₃ m := (fr_but F' hk₂ hIL hI₀).change hs₃ hCL hC₀
        have off3 := off'.mem
        have N₂ : News h₀ L h₂ ((s₂.heap.objs.size, lst ys) :: news') := news_but N' hk₂ fun p hp => by
          rcases List.mem_cons.mp hp with rfl | hp
          · exact Ne.symm hDI
          · exact (off3 p hp).1
        have N₃ : News h₀ L h₃ ((I, oI) :: (H2.objs.size, oC) :: (s₂.heap.objs.size, lst ys) :: news') :=
          news_consC ⟨heI, Ne.symm hIL, hI₀⟩ (news_consC ⟨heC, hCL, hC₀⟩ (news_consC ⟨hs₃.extBut _ _ hDC (N₂ _ (.head _)).1, (N₂ _ (.head _)).2⟩ fun p hp => ⟨hs₃.extBut _ _ (off3 p hp).2.1 (N₂ p (.tail _ hp)).1, (N₂ p (.tail _ hp)).2⟩))
        refine wpAny_mono (T i v I oI H2.objs.size oC s₂.heap.objs.size _ ys news' h₃ _ _ hPv hoC (by simp) J' F₃ N₃ off' ⟨hCI, hDI, Ne.symm hDC⟩) (fun y s₄ h₄ => ?_) fun _ _ e => e
        obtain ⟨h₄, tk₄, a, ws, kk, news₄, rfl, rfl, F₄, N₄, off₄, hsz₄, J₄⟩ := h₄
        have za := (N₄ (a, listOf ws.toArray kk) List.mem_cons_self).1
        have zI := (N₄ (I, oI) (List.mem_cons_of_mem _ List.mem_cons_self)).1
        have zC := (N₄ (H2.objs.size, oC) (List.mem_cons_of_mem _ (List.mem_cons_of_mem _ List.mem_cons_self))).1
        have zD := (N₄ (s₂.heap.objs.size, lst ys) (List.mem_cons_of_mem _ (List.mem_cons_of_mem _ (List.mem_cons_of_mem _ List.mem_cons_self)))).1
        have N₄' : News h₀ L h₄ news₄ := fun p hp => N₄ p (List.mem_cons_of_mem _ (List.mem_cons_of_mem _ (List.mem_cons_of_mem _ (List.mem_cons_of_mem _ hp))))
        obtain ⟨⟨oaI, oaC, oaD⟩, off₄'⟩ := off₄
        have off4 := off₄'.mem
        obtain ⟨oR, hmR, hcR, nR, hdR⟩ := hJS _ _ _ J₄
        have hl : h₄.IsList a ws.toArray := ⟨_, za, rfl, _, rfl⟩
        refine wpAny_pyIter_list hl ?_
        have up : ∀ b o, h₄.get? b = some o → (h₄.push { cls := .type "list_iterator", data := .fields #[.ref a, .int 0 0] }).get? b = some o := fun b o e => Heap.get?_push_of_some _ e
        have halt : a < h₄.objs.size := Heap.lt_size za
        have hClt : H2.objs.size < h₄.objs.size := Heap.lt_size zC
        have hDlt : s₂.heap.objs.size < h₄.objs.size := Heap.lt_size zD
        have ltn : ∀ b o, h₄.get? b = some o → b ≠ h₄.objs.size := fun b o e => Nat.ne_of_lt (Heap.lt_size e)
        refine inner2 (D := s₂.heap.objs.size) (a := a) (ws := ws) (ys := ys) hh (by simp [compEnvC, relabel, hkind]) (lookup_relabel_local hx) ⟨_, Heap.get?_push_size _ rfl, rfl, rfl⟩ (hl.at (up _)) (up _ _ zD) ((hoC.ns zC).keeps up) hd (Nat.ne_of_lt halt) oaD oaC (Nat.ne_of_gt hClt) (Nat.ne_of_gt hDlt) (Ne.symm hDC) hsz₄ ?_
        intro h₅ tk₅ m₅ hD₅ hn₅ hk₅
        have kp : ∀ b o, b ≠ H2.objs.size → b ≠ s₂.heap.objs.size → h₄.get? b = some o → h₅.get? b = some o := fun b o h1 h2 e => hk₅ b o (ltn b o e) h1 h2 (up b o e)
        refine ⟨its.size + 1 - (i + 1), by omega, h₅, tk₅, i + 1, ys ++ ws, m₅, news₄, rfl, hlt, rfl, ⟨⟨oI, kp _ _ hCI hDI zI, hoI⟩, ⟨oR, kp _ _ hRC hRD (N₄' _ hmR).1, hcR, nR, hdR⟩⟩, ?_, hn₅, ?_, off₄', J₄⟩
        · refine ⟨F₄.ns.at' fun o e => kp _ o (Ne.symm hCL) (Ne.symm hDL) e, fun b o e => kp b o (fun q => ?_) (fun q => ?_) (F₄.keep b o e), F₄.above⟩
          · rw [q, hC₀] at e; cases e
          · rw [q, hD₀] at e; cases e
        · intro p hp
          rcases List.mem_cons.mp hp with rfl | hp
          · exact ⟨hD₅, hDL, hD₀⟩
          · exact ⟨kp _ _ (off4 p hp).2.1 (off4 p hp).2.2 (N₄' p hp).1, (N₄' p hp).2⟩
      · obtain rfl : i = its.size := Nat.le_antisymm hi (Nat.not_lt.mp hlt)
        refine W.done _ _ _ hst' fun h₂ tk₂ hk₂ => ?_
        have off3 := off'.mem
        exact hRR _ _ h₂ tk₂ _ ys news' (fr_but F' hk₂ hIL hI₀) (news_but N' hk₂ fun p hp => by
          rcases List.mem_cons.mp hp with rfl | hp
          · exact Ne.symm hDI
          · exact (off3 p hp).1) off'.one (hn'.at' fun o e => hk₂ _ o (by simpa using Ne.symm hCI) e) hC₀ hCL (Ne.symm hDC) (fun p hp => (off3 p hp).2.1) J'
    · rcases List.mem_cons.mp hp with rfl | hp
      · exact ⟨hacc, hDL, hD₀⟩
      · exact ⟨old _ _ (N p hp).1, (N p hp).2⟩
  exact codeAny_compStart_list (loop _ rfl) (W.self 0 _ _ _ hst₁ (loop _ rfl))
noncomputable def SrcT (prog : Program) (w : World) (A : Around) (h₀ : Heap) (L : Addr) (m : Str → Option Value) (env : Env) (i1 : Expr) (r : Str) (scope : Scope) (cl : List (Str × Addr)) (J : Nat → List Value → List (Addr × Obj) → Prop) (Q : Value → Shared → Prop) (xv : Value) (s₁ : Shared) : Prop :=
  ∃ Ra its k news, xv = .ref Ra ∧ A.handled = none ∧ Fr h₀ L s₁.heap m ∧ News h₀ L s₁.heap news ∧ (Ra, ({ cls := .type "list", data := .seq its k } : Obj)) ∈ news ∧ its.size ≤ sizeLine ∧ J 0 [] news ∧ (∀ i ys nw, J i ys nw → ∃ o, (Ra, o) ∈ nw ∧ o.cls = .type "list" ∧ ∃ n, o.data = .seq its n) ∧
    ∀ s₂ : Shared, (∃ h, s₂ = { s₁ with heap := h }) → TurnT prog w A h₀ L m env i1 r scope cl s₂ J its ∧ ∀ D h tk ys nw, Fr h₀ L h m → News h₀ L h ((D, lst ys) :: nw) → Off1 D nw → J its.size ys nw → Q (.ref D) { s₂ with heap := h, toks := tk }
/-- a comprehension of two clauses: the outer over a list, the inner over a list built anew, the element the inner name -/
theorem ListComp_T {i0 i1 : Expr} {r x : Str} {ep px pr : Pos} {scope : Scope} {cl : List (Str × Addr)} {pos : Pos} {Q : Value → Shared → Prop} {J : Nat → List Value → List (Addr × Obj) → Prop}
    (hclos : closureFor scope env = pure cl) (hcell : ∀ y ∈ scope.names, y.2 ≠ .cell) (hkind : scope.kind = .function) (hr : scope.names.lookup r = some .local) (hx : scope.names.lookup x = some .local) (hd : (x == ("__debug__" : Str)) = false)
    (hnames : ∀ y ∈ scope.names, y.2 = .local → scope.names.lookup y.1 = some .local)
    (hs1 : ∀ C x, foldedSetIterable i1 (compEnvC scope cl C env) x = pure x)
    (h : wpAny (model prog w) A (eval i0 env) (SrcT prog w A h₀ L m env i1 r scope cl J Q) E s)
    (hs : ∀ x, foldedSetIterable i0 env x = pure x) :
    wpAny (model prog w) A (eval (.ListComp (.Name x ep) [⟨.Name r pr, i0, [], 0⟩, ⟨.Name x px, i1, [], 0⟩] scope pos) env) Q E s := by
  rw [eval_ListComp]
  refine wpAny_comprehension_free (use := none) rfl hs hclos hkind hnames (wpAny_mono h (fun xv s₁ h₁ => ?_) fun _ _ e => e)
  obtain ⟨Ra, its, k, news, rfl, hh, F, N, hm, hsz, hJ, hJS, T⟩ := h₁
  have hl : s₁.heap.IsList Ra its := ⟨_, (N _ hm).1, rfl, _, rfl⟩
  have hlt : Ra < s₁.heap.objs.size := Heap.lt_size (N _ hm).1
  refine wpAny_pyIter_list hl ?_
  have up : ∀ b o, s₁.heap.get? b = some o → (s₁.heap.push { cls := .type "list_iterator", data := .fields #[.ref Ra, .int 0 0] }).get? b = some o := fun b o e => Heap.get?_push_of_some _ e
  obtain ⟨T1, T2⟩ := T { s₁ with heap := s₁.heap.push { cls := .type "list_iterator", data := .fields #[.ref Ra, .int 0 0] } } ⟨_, rfl⟩
  refine block_T hh hsz hcell hkind hr hx hd hs1 ⟨⟨_, Heap.get?_push_size _ rfl, rfl, rfl⟩, hl.push _⟩ (Nat.ne_of_lt hlt) hJS
    (F.keeps up) (N.grown up) (Nat.ne_of_lt F.ns.lt) (next_is_new F) (fun p hp => Nat.ne_of_lt (Heap.lt_size (N p hp).1)) hJ T1 ?_
  intro D C h tk m' ys news' F' N' o1 hn' hC₀ hCL hCD offC hJn
  refine ⟨m', hn', fun h'' hs'' => T2 D h'' tk ys news' (F'.change hs'' hCL hC₀) (fun p hp => ?_) o1 hJn⟩
  refine ⟨hs''.extBut _ _ ?_ (N' p hp).1, (N' p hp).2⟩
  rcases List.mem_cons.mp hp with rfl | hp
  · exact Ne.symm hCD
  · exact offC p hp
end
end ZCC2
section ZCL
set_option maxRecDepth 100000
open PySem PySem.W PySem.Spec PySem.Calls PyProof.Rows PyProof.Rows.LCg
noncomputable def TurnL (prog : Program) (w : World) (A : Around) (h₀ : Heap) (L : Addr) (m : Str → Option Value) (env : Env) (elt : Expr) (x : Str) (scope : Scope) (cl : List (Str × Addr)) (s : Shared) (a : Int) (n : Nat) (g : Nat → Str) (base : List (Addr × Obj)) : Prop :=
  ∀ (i : Nat) t I oI C oC D m₂ ys h tk (E' : Value → Shared → Prop), i < n → NsObj oC m₂ → m₂ x = some (.int (a + (i : Int)) t) → Fr h₀ L h m → News h₀ L h ((I, oI) :: (C, oC) :: (D, lst ys) :: base) → Off3 I C D base → ((@Ne Nat I C) ∧ (@Ne Nat I D) ∧ (@Ne Nat C D)) →
    wpAny (model prog w) A (eval elt (compEnvC scope cl C env)) (CompEnd h₀ L m { s with heap := h, toks := tk } I oI C oC D (lst ys) (fun _ => True) (fun y nw' => nw' = base ∧ ∃ t : Tok, y = .str (g i) t)) E' { s with heap := h, toks := tk }
section
variable {prog : Program} {w : World} {A : Around} {E : Value → Shared → Prop} {s : Shared} {h₀ : Heap} {L : Addr} {m : Str → Option Value} {env : Env}
theorem block_L {elt iter : Expr} {x : Str} {px : Pos} {scope : Scope} {cl : List (Str × Addr)} {pos : Pos} {s₂ : Shared} {I : Addr} {a : Int} {n : Nat} {g : Nat → Str} {base : List (Addr × Obj)}
    {RR : Value → Addr → Result → Shared → Prop} (hh : A.handled = none) (hsz : n ≤ sizeLine)
    (hcell : ∀ y ∈ scope.names, y.2 ≠ .cell) (hkind : scope.kind = .function) (hx : scope.names.lookup x = some .local)
    (hst : IsRangeIter s₂.heap I (a + ((0 : Nat) : Int) * 1) ((n : Int) - ((0 : Nat) : Int)) 1) (hIlt : I < s₂.heap.objs.size)
    (F : Fr h₀ L s₂.heap m) (N : News h₀ L s₂.heap base) (hIL : L ≠ I) (hI₀ : h₀.get? I = none) (off : ∀ p ∈ base, p.1 ≠ I)
    (R : TurnL prog w A h₀ L m env elt x scope cl s₂ a n g base)
    (hRR : ∀ D C h tk m' ys, Fr h₀ L h m → News h₀ L h ((D, lst ys) :: base) → (∀ p ∈ base, p.1 < D) → h.Ns C m' → h₀.get? C = none → C ≠ L → C ≠ D → (∀ p ∈ base, p.1 ≠ C) → StrsAre ys ((List.range n).map g) → RR (.ref D) C (.ok .next) { s₂ with heap := h, toks := tk }) :
    wpAny (model prog w) A (newList []) (fun acc s₃ => wpAny (model prog w) A (newFunctionEnv scope env.globals cl [] env.qual none .none (some env)) (fun cenv s₄ =>
      codeAny (model prog w) A (.compStart (.ListComp elt [⟨.Name x px, iter, [], 0⟩] scope pos) 0 (.ref I) acc { cenv with scope := relabel scope env }) (RR acc cenv.locals) s₄) E s₃) E s₂ := by
  refine wpAny_newObj_type (wpAny_newFunctionEnv hcell (by intro y hy; simp at hy) (fun h₁ hns₁ hsb₁ => ?_) hkind)
  dsimp only at hns₁ hsb₁ ⊢
  generalize hH2 : s₂.heap.push { cls := .type "list", dict := none, data := .seq ([] : List Value).toArray } = H2 at hns₁ hsb₁ ⊢
  have hC : H2.objs.size = s₂.heap.objs.size + 1 := by rw [← hH2, Heap.size_push]
  have hDC : s₂.heap.objs.size ≠ H2.objs.size := by rw [hC]; exact Nat.ne_of_lt (Nat.lt_succ_self _)
  have below : ∀ b, b < s₂.heap.objs.size → b ≠ H2.objs.size ∧ b ≠ s₂.heap.objs.size := fun b hb => ⟨by rw [hC]; exact Nat.ne_of_lt (Nat.lt_succ_of_lt hb), Nat.ne_of_lt hb⟩
  have old : ∀ b o, s₂.heap.get? b = some o → h₁.get? b = some o := fun b o e => hsb₁.extBut b o (below b (Heap.lt_size e)).1 (Heap.get?_push_of_some _ (hH2 ▸ Heap.get?_push_of_some _ e))
  have hacc : h₁.get? s₂.heap.objs.size = some (lst []) := hsb₁.extBut _ _ hDC (Heap.get?_push_of_some _ (hH2 ▸ Heap.get?_push_size _ rfl))
  have hst₁ : IsRangeIter h₁ I (a + ((0 : Nat) : Int) * 1) ((n : Int) - ((0 : Nat) : Int)) 1 := old _ _ hst
  have fresh : ∀ a, s₂.heap.objs.size ≤ a → s₂.heap.get? a = none := fun a ha => by
    cases e : s₂.heap.get? a with
    | none => rfl
    | some o' => exact absurd (Heap.lt_size e) (Nat.not_lt.mpr ha)
  have fresh₀ : ∀ a, s₂.heap.objs.size ≤ a → h₀.get? a = none := fun a ha => by
    cases e : h₀.get? a with
    | none => rfl
    | some o' => have := F.keep a o' e; rw [fresh a ha] at this; cases this
  have hD₀ : h₀.get? s₂.heap.objs.size = none := fresh₀ _ (Nat.le_refl _)
  have hC₀ : h₀.get? H2.objs.size = none := fresh₀ _ (by rw [hC]; exact Nat.le_succ _)
  have hLlt : L < s₂.heap.objs.size := F.ns.lt
  have hDL : s₂.heap.objs.size ≠ L := Ne.symm (below L hLlt).2
  have hCL : H2.objs.size ≠ L := Ne.symm (below L hLlt).1
  have hCI : I ≠ H2.objs.size := (below I hIlt).1
  have hDI : I ≠ s₂.heap.objs.size := (below I hIlt).2
  have bC : ∀ p ∈ base, p.1 ≠ H2.objs.size := fun p hp => (below _ (Heap.lt_size (N p hp).1)).1
  have bD : ∀ p ∈ base, p.1 < s₂.heap.objs.size := fun p hp => Heap.lt_size (N p hp).1
  have off₀ : Off3 I H2.objs.size s₂.heap.objs.size base := Off3.of fun p hp => ⟨off p hp, bC p hp, Nat.ne_of_lt (bD p hp)⟩
  have W := range_walks (prog := prog) (w := w) (I := I) hh a n
  have loop : ∀ s₃ : Shared, s₃ = { s₂ with heap := h₁, toks := s₂.toks + ([] : List (Str × Value)).length } →
      codeAny (model prog w) A (.compLoop (.ListComp elt [⟨.Name x px, iter, [], 0⟩] scope pos) 0 (.ref I) (.ref s₂.heap.objs.size) (compEnvC scope cl H2.objs.size env))
        (RR (.ref s₂.heap.objs.size) H2.objs.size) s₃ := by
    rintro s₃ rfl
    let P : Nat → Shared → Prop := fun k s' => ∃ h' tk i ys m', s' = { s₂ with heap := h', toks := tk } ∧ i ≤ n ∧ k = n + 1 - i ∧ StrsAre ys ((List.range i).map g) ∧ IsRangeIter h' I (a + (i : Nat) * 1) ((n : Int) - (i : Nat)) 1 ∧ Fr h₀ L h' m ∧ h'.Ns H2.objs.size m' ∧
      News h₀ L h' ((s₂.heap.objs.size, lst ys) :: base)
    refine codeAny_compLoop_tests P ?_ (n + 1)
      ⟨h₁, _, 0, [], _, rfl, Nat.zero_le _, rfl, .nil, hst₁, F.keeps old, hns₁, fun p hp => ?_⟩
    · rintro k s' ⟨h', tk, i, ys, m', rfl, hi, rfl, hys, hst', F', hn', N'⟩
      have hyl : ys.length = i := by rw [hys.length]; simp
      by_cases hlt : i < n
      · refine W.item i _ _ _ hlt hst' fun v h₂ tk₂ hPv hst₂ hk₂ => ?_
        obtain ⟨t, rfl⟩ := hPv
        refine wpAny_assign_Name (wpAny_storeName_local (lookup_relabel_local hx) (hn'.at' fun o e => hk₂ _ o (by simpa using Ne.symm hCI) e) (fun h₃ hn₃ hs₃ => ?_) (by simp [compEnvC, relabel, hkind]))
        refine wpAny_tests_nil ?_
        refine PySem.W.ite_pos rfl ?_
        have hst₃ : IsRangeIter h₃ I (a + ((i + 1 : Nat) : Int) * 1) ((n : Int) - ((i + 1 : Nat) : Int)) 1 := hs₃.extBut _ _ hCI hst₂
        obtain ⟨oC, heC, hoC⟩ := ns_obj hn₃
        have F₃ : Fr h₀ L h₃ m := (fr_but F' hk₂ hIL hI₀).change hs₃ hCL hC₀
        have N₂ : News h₀ L h₂ ((s₂.heap.objs.size, lst ys) :: base) := news_but N' hk₂ fun p hp => by
          rcases List.mem_cons.mp hp with rfl | hp
          · exact Ne.symm hDI
          · exact off p hp
        obtain ⟨oI, heI⟩ : ∃ oI, h₃.get? I = some oI := ⟨_, hst₃⟩
        have N₃ : News h₀ L h₃ ((I, oI) :: (H2.objs.size, oC) :: (s₂.heap.objs.size, lst ys) :: base) :=
          news_consC ⟨heI, Ne.symm hIL, hI₀⟩ (news_consC ⟨heC, hCL, hC₀⟩ (news_consC ⟨hs₃.extBut _ _ hDC (N₂ _ (.head _)).1, (N₂ _ (.head _)).2⟩ fun p hp => ⟨hs₃.extBut _ _ (bC p hp) (N₂ p (.tail _ hp)).1, (N₂ p (.tail _ hp)).2⟩))
        refine wpAny_mono (R i t I oI H2.objs.size oC s₂.heap.objs.size _ ys h₃ _ _ hlt hoC (by simp) F₃ N₃ off₀ ⟨hCI, hDI, Ne.symm hDC⟩) (fun y s₄ h₄ => ?_) fun _ _ e => e
        obtain ⟨h₄, tk₄, news₄, rfl, F₄, N₄, _, _, rfl, t', rfl⟩ := h₄
        have zI := (N₄ (I, oI) List.mem_cons_self).1
        have zC := (N₄ (H2.objs.size, oC) (List.mem_cons_of_mem _ List.mem_cons_self)).1
        have zD := (N₄ (s₂.heap.objs.size, lst ys) (List.mem_cons_of_mem _ (List.mem_cons_of_mem _ List.mem_cons_self))).1
        have N₄' : News h₀ L h₄ news₄ := fun p hp => N₄ p (List.mem_cons_of_mem _ (List.mem_cons_of_mem _ (List.mem_cons_of_mem _ hp)))
        have hst₄ : IsRangeIter h₄ I (a + ((i + 1 : Nat) : Int) * 1) ((n : Int) - ((i + 1 : Nat) : Int)) 1 := range_st (i + 1) h₃ h₄ oI news₄ hst₃ heI zI F₄.keep N₄' trivial
        refine append_at (hsz := by show ys.toArray.size ≤ sizeLine; rw [List.size_toArray, hyl]; exact Nat.le_trans hi hsz) zD fun h₅ hs₅ hD₅ => ?_
        refine ⟨n + 1 - (i + 1), by omega, h₅, tk₄, i + 1, ys ++ [.str (g i) t'], _, rfl, hlt, rfl, ?_, hs₅.extBut _ _ hDI hst₄, F₄.change hs₅ hDL hD₀, (hoC.ns zC).sameBut hs₅ (Ne.symm hDC), fun p hp => ?_⟩
        · rw [List.range_succ, List.map_append]
          exact kct_snoc hys
        rcases List.mem_cons.mp hp with rfl | hp
        · exact ⟨hD₅.trans (congrArg some (lst_snoc ys _)), hDL, hD₀⟩
        · exact ⟨hs₅.extBut _ _ (Nat.ne_of_lt (bD p hp)) (N₄' p hp).1, (N₄' p hp).2⟩
      · obtain rfl : i = n := Nat.le_antisymm hi (Nat.not_lt.mp hlt)
        refine W.done _ _ _ hst' fun h₂ tk₂ hk₂ => ?_
        exact hRR _ _ h₂ tk₂ _ ys (fr_but F' hk₂ hIL hI₀) (news_but N' hk₂ fun p hp => by
          rcases List.mem_cons.mp hp with rfl | hp
          · exact Ne.symm hDI
          · exact off p hp) bD (hn'.at' fun o e => hk₂ _ o (by simpa using Ne.symm hCI) e) hC₀ hCL (Ne.symm hDC) bC hys
    · rcases List.mem_cons.mp hp with rfl | hp
      · exact ⟨hacc, hDL, hD₀⟩
      · exact ⟨old _ _ (N p hp).1, (N p hp).2⟩
  exact codeAny_compStart_list (loop _ rfl) (W.self 0 _ _ _ hst₁ (loop _ rfl))
noncomputable def SrcLr (prog : Program) (w : World) (A : Around) (h₀ : Heap) (L : Addr) (m : Str → Option Value) (env : Env) (elt : Expr) (x : Str) (scope : Scope) (cl : List (Str × Addr)) (Q : Value → Shared → Prop) (xv : Value) (s₁ : Shared) : Prop :=
  ∃ r a b t u v n g base, xv = .ref r ∧ A.handled = none ∧ Fr h₀ L s₁.heap m ∧ News h₀ L s₁.heap base ∧ IsRange s₁.heap r a b 1 t u v ∧ Builtin.Range.small a b 1 = true ∧ Builtin.Range.rangeSize a b 1 = ((n : Nat) : Int) ∧ n ≤ sizeLine ∧
    ∀ s₂ : Shared, (∃ h, s₂ = { s₁ with heap := h }) → TurnL prog w A h₀ L m env elt x scope cl s₂ a n g base ∧ ∀ D h tk ys, Fr h₀ L h m → News h₀ L h ((D, lst ys) :: base) → (∀ p ∈ base, p.1 < D) → StrsAre ys ((List.range n).map g) → Q (.ref D) { s₂ with heap := h, toks := tk }
theorem SrcLr.intro {elt : Expr} {x : Str} {scope : Scope} {cl : List (Str × Addr)} {Q : Value → Shared → Prop} {s₁ : Shared} {r : Addr} {a b : Int} {t u v : Tok} {n : Nat} {base : List (Addr × Obj)} (g : Nat → Str)
    (hh : A.handled = none) (F : Fr h₀ L s₁.heap m) (N : News h₀ L s₁.heap base) (hr : IsRange s₁.heap r a b 1 t u v) (hsm : Builtin.Range.small a b 1 = true) (hn : Builtin.Range.rangeSize a b 1 = ((n : Nat) : Int)) (hsz : n ≤ sizeLine)
    (h : ∀ gH : Heap, TurnL prog w A h₀ L m env elt x scope cl { s₁ with heap := gH } a n g base ∧ ∀ D h tk ys, Fr h₀ L h m → News h₀ L h ((D, lst ys) :: base) → (∀ p ∈ base, p.1 < D) → StrsAre ys ((List.range n).map g) → Q (.ref D) { s₁ with heap := h, toks := tk }) :
    SrcLr prog w A h₀ L m env elt x scope cl Q (.ref r) s₁ := ⟨r, a, b, t, u, v, n, g, base, rfl, hh, F, N, hr, hsm, hn, hsz, fun _ ⟨gH, e⟩ => e ▸ h gH⟩
theorem ListComp_L {elt iter : Expr} {x : Str} {px : Pos} {scope : Scope} {cl : List (Str × Addr)} {pos : Pos} {Q : Value → Shared → Prop} (_F : Fr h₀ L s.heap m)
    (hclos : closureFor scope env = pure cl) (hcell : ∀ y ∈ scope.names, y.2 ≠ .cell) (hkind : scope.kind = .function)
    (hnames : ∀ y ∈ scope.names, y.2 = .local → scope.names.lookup y.1 = some .local) (hx : scope.names.lookup x = some .local)
    (h : wpAny (model prog w) A (eval iter env) (SrcLr prog w A h₀ L m env elt x scope cl Q) E s)
    (hs : ∀ x, foldedSetIterable iter env x = pure x) :
    wpAny (model prog w) A (eval (.ListComp elt [⟨.Name x px, iter, [], 0⟩] scope pos) env) Q E s := by
  rw [eval_ListComp]
  refine wpAny_comprehension_free (use := none) rfl hs hclos hkind hnames (wpAny_mono h (fun xv s₁ h₁ => ?_) fun _ _ e => e)
  obtain ⟨r, a, b, t, u, v, n, g, base, rfl, hh, F, N, hr, hsm, hn, hsz, R⟩ := h₁
  refine wpAny_pyIter_range hr hsm ?_
  obtain ⟨R1, R2⟩ := R { s₁ with heap := s₁.heap.push _ } ⟨_, rfl⟩
  refine block_L hh hsz hcell hkind hx (by show IsRangeIter _ _ _ _ _; rw [hn]; simpa using Heap.get?_push_size _ rfl) (by
      show s₁.heap.objs.size < (s₁.heap.push _).objs.size
      rw [Heap.size_push]; exact Nat.lt_succ_self _)
    (F.keeps fun _ _ e => Heap.get?_push_of_some _ e) (N.grown fun _ _ e => Heap.get?_push_of_some _ e) (Nat.ne_of_lt F.ns.lt) (next_is_new F) (fun p hp => Nat.ne_of_lt (Heap.lt_size (N p hp).1)) R1 ?_
  intro D C h tk m' ys F' N' hlt hn' hC₀ hCL hCD offC hys
  refine ⟨m', hn', fun h'' hs'' => R2 D h'' tk ys (F'.change hs'' hCL hC₀) (fun p hp => ?_) hlt hys⟩
  refine ⟨hs''.extBut _ _ ?_ (N' p hp).1, (N' p hp).2⟩
  rcases List.mem_cons.mp hp with rfl | hp
  · exact Ne.symm hCD
  · exact offC p hp
end
end ZCL
section ZP1
open PySem PySem.W PySem.Spec PySem.Calls PyProof.Rows
set_option rowWalk.seconds 0
set_option compiler.extract_closed false
set_option maxRecDepth 100000
set_option maxHeartbeats 8000000
set_option pp.deepTerms false
set_option pp.deepTerms.threshold 10
set_option pp.maxSteps 20000
/-- what the rows' comprehension has built after its first i turns -/
noncomputable def JR (R : Nat → List Str) (base : List (Addr × Obj)) : Nat → List Value → List (Addr × Obj) → Prop
  | 0, ys, nw => ys = [] ∧ nw = base
  | i + 1, ys, nw => ∃ ys' nw' a vs, ys = ys' ++ [.ref a] ∧ nw = (a, LCg.lst vs) :: nw' ∧ StrsAre vs (R i) ∧ (∀ p ∈ nw', p.1 < a) ∧ JR R base i ys' nw'
noncomputable def rowS (x7 : Int) (c : Int) (k : Nat) : List Str := (List.range c.toNat).map fun (j : Nat) => signs18.getD ((x7 + 5 * ((0 : Int) + (k : Int)) + 7 * ((0 : Int) + (j : Int))).fmod 18).toNat PySem.Str.empty
theorem strs_rest {prog : Program} {w : World} {A : Around} {h₀ : Heap} {L : Addr} {m : Str → Option Value} {env : Env} {elt : Expr} {x : Str} {scope : Scope} {cl : List (Str × Addr)} {s : Shared} {Fin : List Value → List (Addr × Obj) → Prop} {news : List (Addr × Obj)} {n : Nat} {a : Int} (g : Nat → Str)
    (turn : ∀ i t I oI C oC D m₂ ys h tk (E' : Value → Shared → Prop), i < n → LCg.NsObj oC m₂ → m₂ x = some (.int (a + (i : Int)) t) → Fr h₀ L h m → News h₀ L h ((I, oI) :: (C, oC) :: (D, LCg.lst ys) :: news) → LCg.Off3 I C D news → ((@Ne Nat I C) ∧ (@Ne Nat I D) ∧ (@Ne Nat C D)) →
      wpAny (model prog w) A (eval elt (compEnvC scope cl C env)) (LCg.CompEnd h₀ L m { s with heap := h, toks := tk } I oI C oC D (LCg.lst ys) (fun _ => True) (fun y news' => news' = news ∧ ∃ t : Tok, y = .str (g i) t)) E' { s with heap := h, toks := tk })
    (fin : ∀ ys, StrsAre ys ((List.range n).map g) → Fin ys news) : LCg.CompRest prog w A h₀ L m env elt x scope cl s (fun _ => True) (fun i v => ∃ t, v = .int (a + (i : Int)) t) Fin n 0 [] news := by
  have key : ∀ (j i : Nat) (ys : List Value), i + j = n → StrsAre ys ((List.range i).map g) → LCg.CompRest prog w A h₀ L m env elt x scope cl s (fun _ => True) (fun i v => ∃ t, v = .int (a + (i : Int)) t) Fin j i ys news := by
    intro j
    induction j with
    | zero =>
      intro i ys hi hy
      obtain rfl : i = n := by omega
      exact LCg.CompRest.zero (fin ys hy)
    | succ j ih =>
      intro i ys hi hy
      refine LCg.CompRest.succ ?_
      rintro v I oI C oC D m₂ h tk E' ⟨t, rfl⟩ hC hx F N off ne
      refine wpAny_mono (turn i t I oI C oC D m₂ ys h tk E' (by omega) hC hx F N off ne) (fun y s₂ hq => ?_) fun _ _ e => e
      obtain ⟨h', tk', nw, e, F', N', off', hS, hn, t', rfl⟩ := hq
      subst hn
      refine ⟨h', tk', nw, e, F', N', off', hS, ih (i + 1) _ (by omega) ?_⟩
      rw [List.range_succ, List.map_append]
      exact kct_snoc hy
  exact key n 0 [] (by omega) .nil
theorem JR.sub {R : Nat → List Str} {base : List (Addr × Obj)} : ∀ {i : Nat} {ys : List Value} {nw : List (Addr × Obj)}, JR R base i ys nw → ∀ p ∈ base, p ∈ nw
  | 0, _, _, h, p, hp => h.2 ▸ hp
  | i + 1, _, _, h, p, hp => by
    obtain ⟨ys', nw', a, vs, _, rfl, _, _, hj⟩ := h
    exact List.mem_cons_of_mem _ (JR.sub hj p hp)
theorem jr_turn {R : Nat → List Str} {base nw : List (Addr × Obj)} {i : Nat} {ys vs : List Value} {h₀ h : Heap} {L K I C D D' : Addr} {oK oI oC oD : Obj} {e1 e2 e3 e4 e5 e6 : Addr × Obj} {m : Str → Option Value} {s₁ : Shared} {tk : Nat} {l : List Str}
    (F : Fr h₀ L h m) (N : News h₀ L h ((D', LCg.lst vs) :: (K, oK) :: (I, oI) :: (C, oC) :: (D, oD) :: e1 :: e2 :: e3 :: e4 :: e5 :: e6 :: nw)) (o : ∀ p ∈ (K, oK) :: (I, oI) :: (C, oC) :: (D, oD) :: e1 :: e2 :: e3 :: e4 :: e5 :: e6 :: nw, p.1 < D')
    (o3 : LCg.Off3 I C D nw) (o1 : LCg.Off1 K nw) (hv : StrsAre vs l) (hR : R i = l) (hJ : JR R base i ys nw) : EndC h₀ L m s₁ K oK I oI C oC D oD (fun y nw' => JR R base (i + 1) (ys ++ [y]) nw') (.ref D') { s₁ with heap := h, toks := tk } := by
  have hK := o (K, oK) (by simp)
  have hI := o (I, oI) (by simp)
  have hC := o (C, oC) (by simp)
  have hD := o (D, oD) (by simp)
  refine ⟨h, tk, (D', LCg.lst vs) :: nw, rfl, F, fun p hp => N p ?_, ⟨⟨Nat.ne_of_gt hI, Nat.ne_of_gt hC, Nat.ne_of_gt hD⟩, o3⟩, ⟨Nat.ne_of_gt hK, o1⟩, ys, nw, D', vs, rfl, rfl, hR ▸ hv, fun p hp => o p (by simp [hp]), hJ⟩
  simp only [List.mem_cons] at hp ⊢
  rcases hp with hp | hp | hp | hp | hp | hp <;> simp [hp]
theorem news_ins6 {h₀ h : Heap} {L : Addr} {a b c d e1 e2 e3 e4 e5 e6 : Addr × Obj} {nw : List (Addr × Obj)} (N : News h₀ L h (a :: b :: c :: d :: nw)) (h1 : e1 ∈ nw) (h2 : e2 ∈ nw) (h3 : e3 ∈ nw) (h4 : e4 ∈ nw) (h5 : e5 ∈ nw) (h6 : e6 ∈ nw) :
    News h₀ L h (a :: b :: c :: d :: e1 :: e2 :: e3 :: e4 :: e5 :: e6 :: nw) := fun p hp => N p (by
  simp only [List.mem_cons] at hp ⊢
  rcases hp with rfl | rfl | rfl | rfl | rfl | rfl | rfl | rfl | rfl | rfl | hp <;> simp [*])
theorem cnt_at {c0 c1 c2 c3 : Int} {u0 u1 u2 u3 : Tok} {i : Nat} (hi : i < 4) : ∃ ui, [Value.int c0 u0, .int c1 u1, .int c2 u2, .int c3 u3][((0 : Int) + (i : Int)).toNat]? = some (.int ([c0, c1, c2, c3].getD i 0) ui) := by
  have e : ((0 : Int) + (i : Int)).toNat = i := by omega
  rw [e]
  have : i = 0 ∨ i = 1 ∨ i = 2 ∨ i = 3 := by omega
  rcases this with rfl | rfl | rfl | rfl <;> exact ⟨_, rfl⟩
theorem cnt_bd {c0 c1 c2 c3 : Int} {i : Nat} (hi : i < 4) (hc0 : 0 ≤ c0 ∧ c0 ≤ 10) (hc1 : 0 ≤ c1 ∧ c1 ≤ 10) (hc2 : 0 ≤ c2 ∧ c2 ≤ 10) (hc3 : 0 ≤ c3 ∧ c3 ≤ 10) : 0 ≤ [c0, c1, c2, c3].getD i 0 ∧ [c0, c1, c2, c3].getD i 0 ≤ 10 := by
  have : i = 0 ∨ i = 1 ∨ i = 2 ∨ i = 3 := by omega
  rcases this with rfl | rfl | rfl | rfl <;> assumption
theorem mod18 (x : Int) : 0 ≤ x.fmod 18 ∧ x.fmod 18 < (signs18.length : Int) ∧ x.fmod 18 < 2 ^ 63 := by
  rw [signs18_len]
  rw [Int.fmod_eq_emod_of_nonneg x (by decide : (0 : Int) ≤ 18)]
  exact ⟨by omega, by omega, by omega⟩
noncomputable def offAt (c : Addr) (nw : List (Addr × Obj)) : List (Addr × Obj) := nw.filter fun p => !decide (p.1 = c)
theorem offAt_mem {c : Addr} {nw : List (Addr × Obj)} {p : Addr × Obj} (h : p ∈ nw) (hc : p.1 ≠ c) : p ∈ offAt c nw := List.mem_filter.mpr ⟨h, by simpa using hc⟩
theorem offAt_sub {c : Addr} {nw : List (Addr × Obj)} {p : Addr × Obj} (h : p ∈ offAt c nw) : p ∈ nw ∧ p.1 ≠ c := by
  have := List.mem_filter.mp h
  exact ⟨this.1, by simpa using this.2⟩
theorem cell_store {M : Model} {A : Around} {E : Value → Shared → Prop} {s₁ : Shared} {h₀ : Heap} {L D c : Addr} {m : Str → Option Value} {oD oc : Obj} {nw : List (Addr × Obj)} {env : Env} {x : Str} {v : Value} {v0 : Option Value} {Q : Unit → Shared → Prop}
    (F : Fr h₀ L s₁.heap m) (N : News h₀ L s₁.heap ((D, oD) :: nw)) (o1 : LCg.Off1 D nw) (hm : (c, oc) ∈ nw) (e4 : oc.data = .cell v0) (hk : env.scope.kind = .function) (hl : env.kindOf x = some .cell) (hc : env.cells.lookup x = some c)
    (cont : ∀ oc' h', Fr h₀ L h' m → oc'.data = .cell (some v) → News h₀ L h' ((D, oD) :: (c, oc') :: offAt c nw) → LCg.Off1 D (offAt c nw) → LCg.Off1 c (offAt c nw) → (@Ne Nat c D) → Q () { s₁ with heap := h' }) :
    wpAny M A (storeName env x v) Q E s₁ := by
  have z := N _ (List.mem_cons_of_mem _ hm)
  have hcD : c ≠ D := off1m o1 _ hm
  refine wpAny_storeName_cell hk hl hc ⟨oc, z.1, e4⟩ fun h' hc' hs' => ?_
  obtain ⟨oc', ho', hd'⟩ := hc'
  refine cont oc' h' (F.change hs' z.2.1 z.2.2) hd' (fun p hp => ?_) (off1of fun p hp => off1m o1 _ (offAt_sub hp).1) (off1of fun p hp => (offAt_sub hp).2) hcD
  rcases List.mem_cons.mp hp with rfl | hp
  · exact ⟨hs'.extBut _ _ (Ne.symm hcD) (N _ List.mem_cons_self).1, (N _ List.mem_cons_self).2⟩
  rcases List.mem_cons.mp hp with rfl | hp
  · exact ⟨ho', z.2⟩
  · have y := N _ (List.mem_cons_of_mem _ (offAt_sub hp).1)
    exact ⟨hs'.extBut _ _ (offAt_sub hp).2 y.1, y.2⟩
theorem part_rows {w : World} {mean : ExcName → Option Value} {mg mb : Str → Option Value} {base h₀ : Heap} {L fa : Addr} {cd : Value} {m : Str → Option Value} {s : Shared} {Q : Flow → Shared → Prop} {E : Value → Shared → Prop} {news : List (Addr × Obj)}
  {oc1 oc2 oc3 oc4 oc5 oc6 oc7 oc8 : Obj} {dA cA sA : Addr} {x0 x1 x2 x3 x4 x5 x6 x7 c0 c1 c2 c3 : Int} {t0 t1 t2 t3 t4 t5 t6 t7 u0 u1 u2 u3 : Tok} {kd kc ks : Nat} {ss : List Value} {rest : List Stmt}
  (B : Below callerA base [] h₀) (X : (Mine.hp w.params).In h₀) (T : Top topProg (looseW Mine.vw Mine.lo ++ (recsOf Mine.vw).map (·.name) ++ (litsOf Mine.vw).map (·.1) ++ (clssOf Mine.vw (looseW Mine.vw Mine.lo)).map (·.name)) mean mg mb h₀) (F : Fr h₀ L s.heap m)
  (N : News h₀ L s.heap ((sA, W.listOf ss.toArray ks) :: (cA, W.listOf #[.int c0 u0, .int c1 u1, .int c2 u2, .int c3 u3] kc) :: (dA, W.listOf #[.int x0 t0, .int x1 t1, .int x2 t2, .int x3 t3, .int x4 t4, .int x5 t5, .int x6 t6, .int x7 t7] kd) :: (L + 1 + 1 + 1 + 1 + 1 + 1 + 1 + 1, oc8) :: (L + 1 + 1 + 1 + 1 + 1 + 1 + 1, oc7) :: (L + 1 + 1 + 1 + 1 + 1 + 1, oc6) :: (L + 1 + 1 + 1 + 1 + 1, oc5) :: (L + 1 + 1 + 1 + 1, oc4) :: (L + 1 + 1 + 1, oc3) :: (L + 1 + 1, oc2) :: (L + 1, oc1) :: news))
  (e1 : oc1.data = .cell (some (.ref dA))) (e2 : oc2.data = .cell (some (.ref cA))) (e3 : oc3.data = .cell (some (.ref sA))) {v4 : Option Value} (e4 : oc4.data = .cell v4)
  (hss : StrsAre ss signs18) (hsl : ss.length = 18) (hc0 : 0 ≤ c0 ∧ c0 ≤ 10) (hc1 : 0 ≤ c1 ∧ c1 ≤ 10) (hc2 : 0 ≤ c2 ∧ c2 ≤ 10) (hc3 : 0 ≤ c3 ∧ c3 ≤ 10) 
  (cont : ∀ (RA : Addr) (ys : List Value) (nw : List (Addr × Obj)) (oc : Obj) (h : Heap) (tk : Nat), Fr h₀ L h m → oc.data = .cell (some (.ref RA)) → News h₀ L h ((RA, LCg.lst ys) :: (L + 1 + 1 + 1 + 1, oc) :: nw) → (∀ p ∈ (sA, W.listOf ss.toArray ks) :: (cA, W.listOf #[.int c0 u0, .int c1 u1, .int c2 u2, .int c3 u3] kc) :: (dA, W.listOf #[.int x0 t0, .int x1 t1, .int x2 t2, .int x3 t3, .int x4 t4, .int x5 t5, .int x6 t6, .int x7 t7] kd) :: (L + 1 + 1 + 1 + 1 + 1 + 1 + 1 + 1, oc8) :: (L + 1 + 1 + 1 + 1 + 1 + 1 + 1, oc7) :: (L + 1 + 1 + 1 + 1 + 1 + 1, oc6) :: (L + 1 + 1 + 1 + 1 + 1, oc5) :: (L + 1 + 1 + 1 + 1, oc4) :: (L + 1 + 1 + 1, oc3) :: (L + 1 + 1, oc2) :: (L + 1, oc1) :: news, p.1 < RA) → LCg.Off1 RA nw → LCg.Off1 (L + 1 + 1 + 1 + 1) nw →
    (∃ nw0, JR (fun k => rowS x7 ([c0, c1, c2, c3].getD k 0) k) ((sA, W.listOf ss.toArray ks) :: (cA, W.listOf #[.int c0 u0, .int c1 u1, .int c2 u2, .int c3 u3] kc) :: (dA, W.listOf #[.int x0 t0, .int x1 t1, .int x2 t2, .int x3 t3, .int x4 t4, .int x5 t5, .int x6 t6, .int x7 t7] kd) :: (L + 1 + 1 + 1 + 1 + 1 + 1 + 1 + 1, oc8) :: (L + 1 + 1 + 1 + 1 + 1 + 1 + 1, oc7) :: (L + 1 + 1 + 1 + 1 + 1 + 1, oc6) :: (L + 1 + 1 + 1 + 1 + 1, oc5) :: (L + 1 + 1 + 1 + 1, oc4) :: (L + 1 + 1 + 1, oc3) :: (L + 1 + 1, oc2) :: (L + 1, oc1) :: news) 4 ys nw0 ∧ ∀ p ∈ nw0, p.1 ≠ L + 1 + 1 + 1 + 1 → p ∈ nw) → wpAny (model Mine.rw.prog w) (callerA.deeper (envOfC drec.name drec.scope L fa cd)) (execs rest (envOfC drec.name drec.scope L fa cd)) Q E { s with heap := h, toks := tk }) :
  wpAny (model Mine.rw.prog w) (callerA.deeper (envOfC drec.name drec.scope L fa cd)) (execs ((drec.body.drop 4).take 1 ++ rest) (envOfC drec.name drec.scope L fa cd)) Q E s := by
  unfold drec
  dsimp only [List.drop, List.take, List.cons_append, List.nil_append]
  k_with_none
  k_with "execs cons" => (k_here; first | k_gentoks | (k_made; walk_at "execs cons") | ((with_reducible refine execs_consF ?_); intro qz))
  k_with "storeName" => (k_here; (fail_if_success (k_extra "unfolded")); k_dflt (first | (refine' storeX_LF ?F ?N ?_ ?a ?b; (case F => k_asm); (case N => k_asm); (case a => rfl); (case b => rfl); k_whole; intro h' tk' mz F' N'; (try k_sweep)) | (refine' storeX_CF ?F ?N ?c ?U ?d ?_ ?a ?b; (case a => rfl); (case b => rfl); (case F => k_asm); (case N => k_asm); (case c => rfl); (case U => k_updF); (case d => k_asm); k_whole; intro h' o' F' N' d'; (try dsimp only at N'); (try k_sweep))))
  k_with "LeaveF" => (k_dflt (refine' leaveF_ ?k1 ?k2 ?_; (case k1 => k_asm); (case k2 => k_asm); k_whole); intro kF kN; (try ground_anew kF); (try have kX := kFor kF (by k_asm)))
  k_with "LeaveF" => (k_made; walk_at "LeaveF")
  k_with "zUR" => (have hcL9 := cLine_is; omega)
  k_with "zNE" => (refine neN ?_; (try dsimp only); first | with_reducible (first | (refine neA0 (by assumption) ?_; focus ((repeat (first | exact And.left | exact id | refine andR ?_)); done)) | (refine neB0 (by assumption) ?_; focus ((repeat (first | exact And.left | exact id | refine andR ?_)); done)) | (refine neC (by assumption) ?_; focus ((repeat (first | exact And.left | exact id | refine andR ?_)); done)) | (refine neCs (by assumption) ?_; focus ((repeat (first | exact And.left | exact id | refine andR ?_)); done)) | (refine neA1 (by assumption) ?_; focus ((repeat (first | exact And.left | exact id | refine andR ?_)); done)) | (refine neB1 (by assumption) ?_; focus ((repeat (first | exact And.left | exact id | refine andR ?_)); done)) | (refine neA2 (by assumption) ?_; focus ((repeat (first | exact And.left | exact id | refine andR ?_)); done)) | (refine neB2 (by assumption) ?_; focus ((repeat (first | exact And.left | exact id | refine andR ?_)); done)) | (refine neA3 (by assumption) ?_; focus ((repeat (first | exact And.left | exact id | refine andR ?_)); done)) | (refine neB3 (by assumption) ?_; focus ((repeat (first | exact And.left | exact id | refine andR ?_)); done))) | omega)
  k_with "zRM" => (with_reducible first | exact room1 (by assumption) (by assumption) (by decide) | exact room2 (by assumption) (by assumption) (by decide) | exact room3 (by assumption) (by assumption) (by decide) | exact room4 (by assumption) (by assumption) (by decide) | exact room5 (by assumption) (by assumption) (by decide) | exact room0 (by assumption))
  k_with "zALL" => first | assumption | with_reducible (first | (refine nwA0 (by assumption) ?_; focus ((refine andR ?_); (repeat (first | exact id | refine andR ?_)); done)) | (refine nwA1 (by assumption) ?_; focus ((refine andR ?_); (repeat (first | exact id | refine andR ?_)); done)) | (refine nwA2 (by assumption) ?_; focus ((refine andR ?_); (repeat (first | exact id | refine andR ?_)); done)) | (refine nwA3 (by assumption) ?_; focus ((refine andR ?_); (repeat (first | exact id | refine andR ?_)); done)))
  k_with "eval ListComp ListComp cons" => (refine' ListComp_C (h₀ := h₀) (L := L) (m := m) (J := JR (fun k => rowS x7 ([c0, c1, c2, c3].getD k 0) k) ((sA, W.listOf ss.toArray ks) :: (cA, W.listOf #[.int c0 u0, .int c1 u1, .int c2 u2, .int c3 u3] kc) :: (dA, W.listOf #[.int x0 t0, .int x1 t1, .int x2 t2, .int x3 t3, .int x4 t4, .int x5 t5, .int x6 t6, .int x7 t7] kd) :: (L + 1 + 1 + 1 + 1 + 1 + 1 + 1 + 1, oc8) :: (L + 1 + 1 + 1 + 1 + 1 + 1 + 1, oc7) :: (L + 1 + 1 + 1 + 1 + 1 + 1, oc6) :: (L + 1 + 1 + 1 + 1 + 1, oc5) :: (L + 1 + 1 + 1 + 1, oc4) :: (L + 1 + 1 + 1, oc3) :: (L + 1 + 1, oc2) :: (L + 1, oc1) :: news)) ?zq1 ?zq2 ?zq3 ?zq4 ?zq5 ?zq6 ?_ ?zq7; (case zq1 => with_unfolding_all exact rfl); (case zq2 => with_unfolding_all exact fun k acc => rfl); (case zq3 => with_unfolding_all exact fun h => rfl); (case zq4 => with_unfolding_all exact rfl); (case zq5 => decide); (case zq6 => with_unfolding_all exact rfl); (case zq7 => with_unfolding_all exact fun x => rfl))
  k_with "eval ListComp Subscript cons" => ((rename Fr _ _ _ _ => lF'); (refine' ListComp_L lF' ?zq1 ?zq2 ?zq3 ?zq4 ?zq5 ?_ ?zq6); (case zq1 => with_unfolding_all exact rfl); (case zq2 => decide); (case zq3 => with_unfolding_all exact rfl); (case zq4 => decide); (case zq5 => with_unfolding_all exact rfl); (case zq6 => with_unfolding_all exact fun x => rfl))
  k_with "subscriptTail Name Name ref int" => ((with_reducible show wpAny _ _ (subscriptTail _ _ (Value.ref cA) (Value.int _ _)) _ _ _); with_unfolding_all ((refine' itemK ?zqk1 ?zqk2 ?zqk3 hgi ?_ ?zqk6); (case zqk1 => exact News.isList (by assumption) (by (focus first | ((repeat (first | exact memH | ((fail_if_success (refine nilX ?_)); refine memT ?_))); done) | ((repeat (first | assumption | ((fail_if_success (refine nilX ?_)); refine memT ?_))); done)))); (case zqk2 => omega); (case zqk3 => omega); (case zqk6 => with_unfolding_all rfl); k_whole))
  k_with "subscriptTail Name Constant ref int" => (with_unfolding_all ((refine' itemK ?zqk1 ?zqk2 ?zqk3 ?zqk4 ?_ ?zqk6); (case zqk1 => exact News.isList (by assumption) (by (focus first | ((repeat (first | exact memH | ((fail_if_success (refine nilX ?_)); refine memT ?_))); done) | ((repeat (first | assumption | ((fail_if_success (refine nilX ?_)); refine memT ?_))); done)))); (case zqk2 => decide); (case zqk3 => decide); (case zqk4 => with_unfolding_all exact rfl); (case zqk6 => with_unfolding_all rfl); k_whole))
  k_with "call builtin:len cons nil" => (with_unfolding_all refine kst_len (k := 18) (by assumption) (by (focus first | ((repeat (first | exact memH | ((fail_if_success (refine nilX ?_)); refine memT ?_))); done) | ((repeat (first | assumption | ((fail_if_success (refine nilX ?_)); refine memT ?_))); done))) hsl (by decide) ?_)
  k_with "subscriptTail Name BinOp ref int" => ((with_unfolding_all refine KTb.item_list (ws := signs18) (News.isList (by assumption) (by (focus first | ((repeat (first | exact memH | ((fail_if_success (refine nilX ?_)); refine memT ?_))); done) | ((repeat (first | assumption | ((fail_if_success (refine nilX ?_)); refine memT ?_))); done)))) hss (mod18 _).1 (mod18 _).2.1 (mod18 _).2.2 ?_); intro tq hq)
  k_with "CompEnd" => (with_unfolding_all refine compEnd0 (by assumption) (by assumption) (by first | assumption | exact ⟨⟨by omega, by omega, by omega⟩, by assumption⟩) True.intro ?_)
  k_with "SrcLr" => ((rename Fr _ _ _ _ => lF'); (rename News _ _ _ _ => lN2); (rename IsRange _ _ _ _ _ _ _ _ => rgX); (with_unfolding_all refine SrcLr.intro (fun (j : Nat) => signs18.getD ((x7 + 5 * ((0 : Int) + (i : Int)) + 7 * ((0 : Int) + (j : Int))).fmod 18).toNat PySem.Str.empty) rfl lF' lN2 rgX (small_one (by omega) (by omega) (by omega) (by omega)) (rangeSize_nat _ _) (by rw [sizeLine_eq]; omega) ?_); clear lF' rgX; intro gH; refine ⟨?zsA, ?zsB⟩; (case' zsA => (with_unfolding_all (intro j tj I' oI' C' oC' D2 m₂ ys' h' tk' E2 hj hC' hx' F' N' off' ne'); clear lN2; (try (simp only [LCg.Off3, and_true] at off')))); (case' zsB => (intro D2 h2 tk2 ys' F2 N2 hlt2 hys'; clear lN2; (have hys2 : StrsAre ys' (rowS x7 ci i) := by (rw [Int.sub_zero] at hys'; with_unfolding_all exact hys')); with_unfolding_all exact jr_turn F2 N2 hlt2 o3 o1 hys2 eR hJ)))
  k_with "SrcC" => ((rename Fr _ _ _ _ => lF'); (rename News _ _ _ _ => lN'); (rename IsRange _ _ _ _ _ _ _ _ => rgX); (refine ⟨_, 0, 4, _, _, _, 4, _, rfl, rfl, lF', lN', rgX, by decide, rfl, by decide, ⟨rfl, rfl⟩, ?_⟩); clear lF' lN' rgX; rintro s₂ ⟨gH, rfl⟩; refine ⟨?zsT, ?zsF⟩; (case' zsT => (intro i t I oI C oC D K ys nw h tk E' hi hl hJ lF' lN' o3 o1 ne; (have hsub := JR.sub hJ); (have bd := cnt_bd hi hc0 hc1 hc2 hc3); (obtain ⟨ui, hgi⟩ := cnt_at (c0 := c0) (c1 := c1) (c2 := c2) (c3 := c3) (u0 := u0) (u1 := u1) (u2 := u2) (u3 := u3) hi); (have eR : (fun k => rowS x7 ([c0, c1, c2, c3].getD k 0) k) i = rowS x7 ([c0, c1, c2, c3].getD i 0) i := rfl); (generalize [c0, c1, c2, c3].getD i 0 = ci at bd hgi eR); (generalize hoK : cellO (some (.int ((0 : Int) + (i : Int)) t)) = oK at lN' ⊢); (have dK : oK.data = .cell (some (.int ((0 : Int) + (i : Int)) t)) := by rw [← hoK]);     (have lN2 := news_ins6 (e1 := (sA, W.listOf ss.toArray ks)) (e2 := (cA, W.listOf #[.int c0 u0, .int c1 u1, .int c2 u2, .int c3 u3] kc)) (e3 := (dA, W.listOf #[.int x0 t0, .int x1 t1, .int x2 t2, .int x3 t3, .int x4 t4, .int x5 t5, .int x6 t6, .int x7 t7] kd)) (e4 := (L + 1 + 1 + 1, oc3)) (e5 := (L + 1 + 1, oc2)) (e6 := (L + 1, oc1)) lN' (hsub _ (by simp)) (hsub _ (by simp)) (hsub _ (by simp)) (hsub _ (by simp)) (hsub _ (by simp)) (hsub _ (by simp))); clear hsub lN')); (case' zsF => (intro D h tk ys nw lF' lN' hltD o1 hl hJ; (have h4 := JR.sub hJ (L + 1 + 1 + 1 + 1, oc4) (by simp)); (with_unfolding_all refine' cell_store lF' lN' o1 h4 e4 ?zw1 ?zw2 ?zw3 ?_); (case zw1 => with_unfolding_all exact rfl); (case zw2 => with_unfolding_all exact rfl); (case zw3 => with_unfolding_all exact rfl); intro oc h' F' d' N' o2 o3 hne; exact cont D ys (offAt _ nw) oc h' tk F' d' N' hltD o2 o3 ⟨nw, hJ, fun p hp hc => offAt_mem hp hc⟩)))
  k_steps
end ZP1
section ZP2
open PySem PySem.W PySem.Spec PySem.Calls PyProof.Rows
set_option rowWalk.seconds 0
set_option compiler.extract_closed false
set_option maxRecDepth 100000
set_option maxHeartbeats 8000000
set_option pp.deepTerms false
set_option pp.deepTerms.threshold 10
set_option pp.maxSteps 20000
noncomputable def lineS (R0 R1 R2 R3 : List Str) (i : Nat) : Str := Str.ofString "." ++ Txt.join (Str.ofString "") ([R0, R1, R2, R3].getD i []) ++ [Str.ofString "\n", Str.ofString "\r", Str.ofString "\r\n", Str.ofString "\r"].getD i Str.empty
noncomputable def textOf (R0 R1 R2 R3 : List Str) : Str := Txt.join (Str.ofString "") ((List.range 4).map (lineS R0 R1 R2 R3))
theorem join0_len : ∀ R : List Str, (Txt.join (Str.ofString "") R).length = (R.map (·.length)).sum
  | [] => rfl
  | [x] => by
    show (Builtin.Str.glued (Str.ofString "") [x]).length = _
    rw [StrLaws.glued_eq_join]; simp [Str.join]
  | x :: y :: r => by
    have ih := join0_len (y :: r)
    have e : ∀ l, Txt.join (Str.ofString "") l = Str.join (Str.ofString "") l := fun l => StrLaws.glued_eq_join _ _
    rw [e] at ih ⊢
    show (x ++ Str.ofString "" ++ Str.join (Str.ofString "") (y :: r)).length = _
    rw [Str.length_append, Str.length_append, ih]
    simp [show (Str.ofString "").length = 0 from rfl]
theorem line_len {R0 R1 R2 R3 : List Str} (z0 : (R0.map (·.length)).sum + R0.length ≤ 100) (z1 : (R1.map (·.length)).sum + R1.length ≤ 100) (z2 : (R2.map (·.length)).sum + R2.length ≤ 100) (z3 : (R3.map (·.length)).sum + R3.length ≤ 100) {i : Nat} (hi : i < 4) : (lineS R0 R1 R2 R3 i).length ≤ 103 := by
  have : i = 0 ∨ i = 1 ∨ i = 2 ∨ i = 3 := by omega
  unfold lineS
  rw [Str.length_append, Str.length_append, join0_len]
  rcases this with rfl | rfl | rfl | rfl
  · show 1 + (R0.map (·.length)).sum + 1 ≤ 103; omega
  · show 1 + (R1.map (·.length)).sum + 1 ≤ 103; omega
  · show 1 + (R2.map (·.length)).sum + 2 ≤ 103; omega
  · show 1 + (R3.map (·.length)).sum + 1 ≤ 103; omega
theorem lines_wt {R0 R1 R2 R3 : List Str} (z0 : (R0.map (·.length)).sum + R0.length ≤ 100) (z1 : (R1.map (·.length)).sum + R1.length ≤ 100) (z2 : (R2.map (·.length)).sum + R2.length ≤ 100) (z3 : (R3.map (·.length)).sum + R3.length ≤ 100) :
    (((List.range 4).map (lineS R0 R1 R2 R3)).map (·.length)).sum + ((List.range 4).map (lineS R0 R1 R2 R3)).length ≤ 1048576 := by
  have h0 := line_len z0 z1 z2 z3 (i := 0) (by decide)
  have h1 := line_len z0 z1 z2 z3 (i := 1) (by decide)
  have h2 := line_len z0 z1 z2 z3 (i := 2) (by decide)
  have h3 := line_len z0 z1 z2 z3 (i := 3) (by decide)
  show ((lineS R0 R1 R2 R3 0).length + ((lineS R0 R1 R2 R3 1).length + ((lineS R0 R1 R2 R3 2).length + ((lineS R0 R1 R2 R3 3).length + 0)))) + 4 ≤ 1048576
  omega
theorem compEndD {h₀ : Heap} {L I C D : Addr} {m : Str → Option Value} {s₁ : Shared} {oI oC oD : Obj} {S : List (Addr × Obj) → Prop} {rest : Value → List (Addr × Obj) → Prop} {y : Value} {h' : Heap} {tk : Nat} {l : List (Addr × Obj)} {x : Addr} {o : Obj}
    (F : Fr h₀ L h' m) (N : News h₀ L h' ((x, o) :: (I, oI) :: (C, oC) :: (D, oD) :: l)) (off : LCg.Off3 I C D l) (hS : S l) (r : rest y l) :
    LCg.CompEnd h₀ L m s₁ I oI C oC D oD S rest y { s₁ with heap := h', toks := tk } :=
  LCg.CompEnd.intro F N l (fun _ h => List.mem_cons_of_mem _ h) off hS r
theorem part_text {w : World} {mean : ExcName → Option Value} {mg mb : Str → Option Value} {base h₀ : Heap} {L fa : Addr} {cd : Value} {m : Str → Option Value} {s : Shared} {Q : Flow → Shared → Prop} {E : Value → Shared → Prop} {news : List (Addr × Obj)}
  {oc4 : Obj} {RA a0 a1 a2 a3 : Addr} {v0 v1 v2 v3 : List Value} {R0 R1 R2 R3 : List Str} {rest : List Stmt}
  (B : Below callerA base [] h₀) (X : (Mine.hp w.params).In h₀) (T : Top topProg (looseW Mine.vw Mine.lo ++ (recsOf Mine.vw).map (·.name) ++ (litsOf Mine.vw).map (·.1) ++ (clssOf Mine.vw (looseW Mine.vw Mine.lo)).map (·.name)) mean mg mb h₀) (F : Fr h₀ L s.heap m)
  (N : News h₀ L s.heap ((RA, LCg.lst [.ref a0, .ref a1, .ref a2, .ref a3]) :: (a0, LCg.lst v0) :: (a1, LCg.lst v1) :: (a2, LCg.lst v2) :: (a3, LCg.lst v3) :: (L + 1 + 1 + 1 + 1, oc4) :: news))
  (e4 : oc4.data = .cell (some (.ref RA))) (s0 : StrsAre v0 R0) (s1 : StrsAre v1 R1) (s2 : StrsAre v2 R2) (s3 : StrsAre v3 R3)
  (z0 : (R0.map (·.length)).sum + R0.length ≤ 100) (z1 : (R1.map (·.length)).sum + R1.length ≤ 100) (z2 : (R2.map (·.length)).sum + R2.length ≤ 100) (z3 : (R3.map (·.length)).sum + R3.length ≤ 100)
  (cont : ∀ (h : Heap) (tk : Nat) (t : Tok), Fr h₀ L h (fun y => if y = Str.ofString "text" then some (.str (textOf R0 R1 R2 R3) t) else m y) → 
    News h₀ L h ((RA, LCg.lst [.ref a0, .ref a1, .ref a2, .ref a3]) :: (a0, LCg.lst v0) :: (a1, LCg.lst v1) :: (a2, LCg.lst v2) :: (a3, LCg.lst v3) :: (L + 1 + 1 + 1 + 1, oc4) :: news) → wpAny (model Mine.rw.prog w) (callerA.deeper (envOfC drec.name drec.scope L fa cd)) (execs rest (envOfC drec.name drec.scope L fa cd)) Q E { s with heap := h, toks := tk }) :
  wpAny (model Mine.rw.prog w) (callerA.deeper (envOfC drec.name drec.scope L fa cd)) (execs ((drec.body.drop 5).take 1 ++ rest) (envOfC drec.name drec.scope L fa cd)) Q E s := by
  unfold drec
  dsimp only [List.drop, List.take, List.cons_append, List.nil_append]
  k_with_none
  k_with "execs cons" => (k_here; first | k_gentoks | (k_made; walk_at "execs cons") | ((with_reducible refine execs_consF ?_); intro qz))
  k_with "storeName" => (k_here; (fail_if_success (k_extra "unfolded")); k_dflt (first | (refine' storeX_LF ?F ?N ?_ ?a ?b; (case F => k_asm); (case N => k_asm); (case a => rfl); (case b => rfl); k_whole; intro h' tk' mz F' N'; (try k_sweep)) | (refine' storeX_CF ?F ?N ?c ?U ?d ?_ ?a ?b; (case a => rfl); (case b => rfl); (case F => k_asm); (case N => k_asm); (case c => rfl); (case U => k_updF); (case d => k_asm); k_whole; intro h' o' F' N' d'; (try dsimp only at N'); (try k_sweep))))
  k_with "LeaveF" => (k_dflt (refine' leaveF_ ?k1 ?k2 ?_; (case k1 => k_asm); (case k2 => k_asm); k_whole); intro kF kN; (try ground_anew kF); (try have kX := kFor kF (by k_asm)))
  k_with "LeaveF" => (k_made; walk_at "LeaveF")
  k_with "zUR" => (have hcL9 := cLine_is; omega)
  k_with "zNE" => (refine neN ?_; (try dsimp only); first | with_reducible (first | (refine neA0 (by assumption) ?_; focus ((repeat (first | exact And.left | exact id | refine andR ?_)); done)) | (refine neB0 (by assumption) ?_; focus ((repeat (first | exact And.left | exact id | refine andR ?_)); done)) | (refine neC (by assumption) ?_; focus ((repeat (first | exact And.left | exact id | refine andR ?_)); done)) | (refine neCs (by assumption) ?_; focus ((repeat (first | exact And.left | exact id | refine andR ?_)); done)) | (refine neA1 (by assumption) ?_; focus ((repeat (first | exact And.left | exact id | refine andR ?_)); done)) | (refine neB1 (by assumption) ?_; focus ((repeat (first | exact And.left | exact id | refine andR ?_)); done)) | (refine neA2 (by assumption) ?_; focus ((repeat (first | exact And.left | exact id | refine andR ?_)); done)) | (refine neB2 (by assumption) ?_; focus ((repeat (first | exact And.left | exact id | refine andR ?_)); done)) | (refine neA3 (by assumption) ?_; focus ((repeat (first | exact And.left | exact id | refine andR ?_)); done)) | (refine neB3 (by assumption) ?_; focus ((repeat (first | exact And.left | exact id | refine andR ?_)); done))) | omega)
  k_with "zRM" => (with_reducible first | exact room1 (by assumption) (by assumption) (by decide) | exact room2 (by assumption) (by assumption) (by decide) | exact room3 (by assumption) (by assumption) (by decide) | exact room4 (by assumption) (by assumption) (by decide) | exact room5 (by assumption) (by assumption) (by decide) | exact room0 (by assumption))
  k_with "zALL" => first | assumption | with_reducible (first | (refine nwA0 (by assumption) ?_; focus ((refine andR ?_); (repeat (first | exact id | refine andR ?_)); done)) | (refine nwA1 (by assumption) ?_; focus ((refine andR ?_); (repeat (first | exact id | refine andR ?_)); done)) | (refine nwA2 (by assumption) ?_; focus ((refine andR ?_); (repeat (first | exact id | refine andR ?_)); done)) | (refine nwA3 (by assumption) ?_; focus ((refine andR ?_); (repeat (first | exact id | refine andR ?_)); done)))
  k_with "subscriptTail Name Name ref int" => (with_unfolding_all ((refine' itemK ?zqk1 ?zqk2 ?zqk3 ?zqk4 ?_ ?zqk6); (case zqk1 => exact News.isList (by assumption) (by (focus first | ((repeat (first | exact memH | ((fail_if_success (refine nilX ?_)); refine memT ?_))); done) | ((repeat (first | assumption | ((fail_if_success (refine nilX ?_)); refine memT ?_))); done)))); (case zqk2 => decide); (case zqk3 => decide); (case zqk4 => exact rfl); (case zqk6 => with_unfolding_all rfl); k_whole))
  k_with "call builtin:str.join" => ((first | (with_unfolding_all refine join_listW (News.isList (by assumption) (by (focus first | ((repeat (first | exact memH | ((fail_if_success (refine nilX ?_)); refine memT ?_))); done) | ((repeat (first | assumption | ((fail_if_success (refine nilX ?_)); refine memT ?_))); done)))) (by first | exact s0 | exact s1 | exact s2 | exact s3) (by decide) (by omega) ?_) | (with_unfolding_all refine join_listW (News.isList (by assumption) (by (focus first | ((repeat (first | exact memH | ((fail_if_success (refine nilX ?_)); refine memT ?_))); done) | ((repeat (first | assumption | ((fail_if_success (refine nilX ?_)); refine memT ?_))); done)))) (by exact hys') (by decide) (lines_wt z0 z1 z2 z3) ?_)); intro tj4 kj4)
  k_with "binaryOp Add str str" => ((first | (with_unfolding_all refine KXadd.add (K := 1) (L := 100) (by decide) (by rw [join0_len]; omega) (by decide) ?_) | (with_unfolding_all refine KXadd.add (K := 101) (L := 2) (by rw [Str.length_append, join0_len]; have h1 : (Str.ofString ".").length = 1 := rfl; omega) (by decide) (by decide) ?_)); intro tj5 kj5 hj5)
  k_with "CompEnd" => (with_unfolding_all refine compEndD (by assumption) (by assumption) (by first | assumption | exact ⟨⟨by omega, by omega, by omega⟩, by assumption⟩) True.intro ?_)
  k_with "CompSrc" => ((rename Fr _ _ _ _ => lF'); (rename News _ _ _ _ => lN2); (rename IsRange _ _ _ _ _ _ _ _ => rgX); (with_unfolding_all refine LCg.CompSrc.range (n := 4) rfl lF' lN2 rgX (by decide) rfl (by decide) ?_); clear lF' rgX; intro gH; (refine strs_rest (lineS R0 R1 R2 R3) ?zsA ?zsB); (case' zsA => (intro j tj I' oI' C' oC' D2 m₂ ys' h' tk' E2 hj hC' hx' F' N' off' ne'; clear lN2; (try (simp only [LCg.Off3, and_true] at off')); (have hj4 : j = 0 ∨ j = 1 ∨ j = 2 ∨ j = 3 := by omega); (rcases hj4 with rfl | rfl | rfl | rfl))); (case' zsB => (intro ys' hys'; clear lN2)))
  k_steps
  rename Fr _ _ _ _ => lF'
  rename News _ _ _ _ => lN'
  first
    | exact cont _ _ _ lF' lN'
    | exact cont _ _ _ lF' (fun p hp => lN' p (.tail _ hp))
    | exact cont _ _ _ lF' (fun p hp => lN' p (.tail _ (.tail _ hp)))
end ZP2
section ZP3
open PySem PySem.W PySem.Spec PySem.Calls PyProof.Rows
set_option rowWalk.seconds 0
set_option compiler.extract_closed false
set_option maxRecDepth 100000
set_option maxHeartbeats 8000000
set_option pp.deepTerms false
set_option pp.deepTerms.threshold 10
set_option pp.maxSteps 20000
noncomputable def qn : Nat → Str → Str
  | 0, x => x
  | n + 1, x => dotd (crlfd (qn n x))
theorem fr_put {h₀ h : Heap} {L : Addr} {m : Str → Option Value} {a : Str} {v : Value} (F : Fr h₀ L h m) (hm : m a = some v) : Fr h₀ L h (fun y => if y = a then some v else m y) := by
  have e : (fun y => if y = a then some v else m y) = m := by
    funext y
    by_cases hy : y = a
    · rw [if_pos hy, hy, hm]
    · rw [if_neg hy]
  rw [e]; exact F
theorem frAs {h₀ h h' : Heap} {L L' : Addr} {m m' : Str → Option Value} (_F : Fr h₀ L h m) (e : L = L') (G : Fr h₀ L' h' m') : Fr h₀ L h' m' := e ▸ G
theorem newsAs {h₀ h h' : Heap} {L L' : Addr} {m : Str → Option Value} {nw : List (Addr × Obj)} (_F : Fr h₀ L h m) (e : L = L') (G : News h₀ L' h' nw) : News h₀ L h' nw := e ▸ G
theorem unrEndE {h₀ h' : Heap} {L I : Addr} {oI : Obj} {s₁ : Shared} {tk : Nat} {m' : Str → Option Value} {l : List (Addr × Obj)} {rest : (Str → Option Value) → List (Addr × Obj) → Prop}
    (F : Fr h₀ L h' m') (N : News h₀ L h' ((I, oI) :: l)) (hl : AllLt I l) (r : rest m' l) : UnrEnd h₀ L s₁ I oI rest { s₁ with heap := h', toks := tk } :=
  UnrEnd.intro F N l (fun _ h => h) (fun p hp => Nat.ne_of_lt (allLt_mem hl p hp)) r
section
variable {prog : Program} {w : World} {A : Around} {E : Value → Shared → Prop} {Q : Flow → Shared → Prop} {s : Shared} {env : Env} {h₀ : Heap}
noncomputable abbrev postQ (h₀ : Heap) (L : Addr) (led : List (Addr × Obj)) (x : Str) (m₀ : Str → Option Value) (T0 : Str) (pre : List Int) (own : List (Addr × Obj)) (s₁ : Shared) (Q : Flow → Shared → Prop) : Flow → Shared → Prop :=
  InvPostN h₀ L (KstS (σ := Str × Tok) (fun _ => led) (fun c => [(Str.ofString "text", .str c.1 c.2)]) (fun _ => True) x [] m₀ (fun pre c => c.1 = qn pre.length T0) pre) own (led.map (·.1)) s₁ Q
theorem rangeQ {L : Addr} {x : Str} {body : List Stmt} {m₀ : Str → Option Value} {r : Addr} {n : Nat} {b₀ : Int} {t₀ u₀ v₀ : Tok} {led : List (Addr × Obj)} {T0 : Str} {tT : Tok} (hb : (n : Int) = b₀)
    (eL : env.locals = L) (hh : A.handled = none) (hr : IsRange s.heap r 0 b₀ 1 t₀ u₀ v₀) (hn : n ≤ 4) (F : Fr h₀ L s.heap m₀) (N : News h₀ L s.heap led) (ht : m₀ (Str.ofString "text") = some (.str T0 tT))
    (turn : ∀ (pre : List Int) (k : Int) (t tx : Tok) h tk own, pre.length < n → Fr h₀ L h (fun y => if y = x then some (.int k t) else if y = Str.ofString "text" then some (.str (qn pre.length T0) tx) else m₀ y) → News h₀ L h (led ++ own) →
      wpAny (model prog w) A (execs body env) (postQ h₀ L led x m₀ T0 (pre ++ [k]) own { s with heap := h, toks := tk } Q) E { s with heap := h, toks := tk })
    (done : ∀ (tx : Tok) (u : Str → Option Value) h tk, Fr h₀ L h (fun y => if y = x then u y else if y = Str.ofString "text" then some (.str (qn n T0) tx) else m₀ y) → News h₀ L h led → Q .next { s with heap := h, toks := tk }) :
    wpAny (model prog w) A (pyIter (.ref r)) (fun it s₂ => LoopAtV prog w A h₀ env x body Q E it s₂) E s := by
  subst hb
  subst eL
  refine kst_range (σ := Str × Tok) (n := n) (fun _ => led) (fun c => [(Str.ofString "text", .str c.1 c.2)]) (fun _ => True) [] (fun pre c => c.1 = qn pre.length T0) (T0, tT) hh hr
    (small_one (by omega) (by omega) (by omega) (by omega)) (rangeSize_nat _ _) F N True.intro ?_ rfl ?_ ?_
  · intro p hp
    rcases List.mem_singleton.mp hp with rfl
    exact ht
  · rintro ⟨x1, tx⟩ pre k t u h tk own hk hl ho _ hp F' N'
    have hp : x1 = qn pre.length T0 := hp
    subst hp
    exact turn pre k t tx h tk own hl F' N'
  · rintro ⟨x1, tx⟩ u h tk _ hp F' N'
    have hp : x1 = qn (rangeKs 0 n).length T0 := hp
    rw [rangeKs_length] at hp
    subst hp
    exact done tx u h tk F' N'
theorem endQ {L : Addr} {x : Str} {m₀ m' : Str → Option Value} {led own : List (Addr × Obj)} {T0 T1 : Str} {tx : Tok} {pre : List Int} {k : Int} {s₁ : Shared} {h' : Heap} {tk : Nat} {Q : Flow → Shared → Prop}
    (F : Fr h₀ L h' m') (N : News h₀ L h' (led ++ own)) (ht : m' (Str.ofString "text") = some (.str T1 tx)) (e : T1 = qn (pre.length + 1) T0) (hr : ∀ z, z ≠ x → z ≠ Str.ofString "text" → m' z = m₀ z) :
    postQ h₀ L led x m₀ T0 (pre ++ [k]) own s₁ Q .next { s₁ with heap := h', toks := tk } := by
  show InvEndN _ _ _ _ _ _ _
  refine kst_end (σ := Str × Tok) (T1, tx) F N (fun p hp => List.mem_append_left _ hp) (fun p hp => List.mem_append_right _ hp) rfl True.intro ?_ (fun z h1 h2 _ => hr z h1 (h2 _ (.head _))) ?_
  · intro p hp
    rcases List.mem_singleton.mp hp with rfl
    exact ht
  · show T1 = qn (pre ++ [k]).length T0
    rw [List.length_append]
    exact e
end
theorem sentQ (x : Int) : (1 + x.fmod 4).toNat ≤ 4 ∧ (((1 + x.fmod 4).toNat : Nat) : Int) = 1 + x.fmod 4 := by
  have h0 : 0 ≤ x.fmod 4 := by rw [Int.fmod_eq_emod_of_nonneg x (by decide : (0 : Int) ≤ 4)]; omega
  have h1 : x.fmod 4 < 4 := by rw [Int.fmod_eq_emod_of_nonneg x (by decide : (0 : Int) ≤ 4)]; omega
  generalize x.fmod 4 = z at h0 h1
  omega
theorem part_quote {w : World} {mean : ExcName → Option Value} {mg mb : Str → Option Value} {base h₀ : Heap} {L fa : Addr} {cd : Value} {m : Str → Option Value} {s : Shared} {Q : Flow → Shared → Prop} {E : Value → Shared → Prop} {news : List (Addr × Obj)}
  {oc1 : Obj} {dA : Addr} {x0 x1 x2 x3 x4 x5 x6 x7 : Int} {t0 t1 t2 t3 t4 t5 t6 t7 tT : Tok} {kd : Nat} {T0 : Str} {rest : List Stmt}
  (B : Below callerA base [] h₀) (X : (Mine.hp w.params).In h₀) (T : Top topProg (looseW Mine.vw Mine.lo ++ (recsOf Mine.vw).map (·.name) ++ (litsOf Mine.vw).map (·.1) ++ (clssOf Mine.vw (looseW Mine.vw Mine.lo)).map (·.name)) mean mg mb h₀) (F : Fr h₀ L s.heap (fun y => if y = Str.ofString "text" then some (.str T0 tT) else m y))
  (N : News h₀ L s.heap ((dA, W.listOf #[.int x0 t0, .int x1 t1, .int x2 t2, .int x3 t3, .int x4 t4, .int x5 t5, .int x6 t6, .int x7 t7] kd) :: (L + 1, oc1) :: news))
  (e1 : oc1.data = .cell (some (.ref dA))) (hE : PassesOwn (model Mine.rw.prog w) (callerA.deeper (envOfC drec.name drec.scope L fa cd)) (envOfC drec.name drec.scope L fa cd) E) (hsz : ∀ i, i ≤ 4 → (qn i T0).cps.size ≤ 1000 ∧ (crlfd (qn i T0)).cps.size ≤ 1000 ∧ (qn i T0).length ≤ 1000)
  (cont : ∀ (yA : Addr) (vs : List Value) (nn : Nat) (m1 : Str → Option Value) (h : Heap) (tk : Nat) (tS : Tok), IntsAre vs (lx (qn (1 + x4.fmod 4).toNat T0) ((qn (1 + x4.fmod 4).toNat T0).length + 5) 0) → Fr h₀ L h (fun y => if y = Str.ofString "symbols" then some (.ref yA) else if y = Str.ofString "sent" then some (.int (1 + x4.fmod 4) tS) else m1 y) → 
    News h₀ L h ((yA, W.listOf vs.toArray nn) :: (dA, W.listOf #[.int x0 t0, .int x1 t1, .int x2 t2, .int x3 t3, .int x4 t4, .int x5 t5, .int x6 t6, .int x7 t7] kd) :: (L + 1, oc1) :: news) → (∀ p ∈ ((dA, W.listOf #[.int x0 t0, .int x1 t1, .int x2 t2, .int x3 t3, .int x4 t4, .int x5 t5, .int x6 t6, .int x7 t7] kd) :: (L + 1, oc1) :: news), p.1 < yA) → wpAny (model Mine.rw.prog w) (callerA.deeper (envOfC drec.name drec.scope L fa cd)) (execs rest (envOfC drec.name drec.scope L fa cd)) Q E { s with heap := h, toks := tk }) :
  wpAny (model Mine.rw.prog w) (callerA.deeper (envOfC drec.name drec.scope L fa cd)) (execs ((drec.body.drop 6).take 3 ++ rest) (envOfC drec.name drec.scope L fa cd)) Q E s := by
  unfold drec at hE ⊢
  dsimp only at hE
  dsimp only [List.drop, List.take, List.cons_append, List.nil_append]
  have hS := sentQ x4
  k_with_none
  k_with "execs cons" => (k_here; first | k_gentoks | (k_made; walk_at "execs cons") | ((with_reducible refine execs_consF ?_); intro qz))
  k_with "storeName" => (k_here; (fail_if_success (k_extra "unfolded")); k_dflt (first | (refine' storeX_LF ?F ?N ?_ ?a ?b; (case F => k_asm); (case N => k_asm); (case a => rfl); (case b => rfl); k_whole; intro h' tk' mz F' N'; (try k_sweep)) | (refine' storeX_CF ?F ?N ?c ?U ?d ?_ ?a ?b; (case a => rfl); (case b => rfl); (case F => k_asm); (case N => k_asm); (case c => rfl); (case U => k_updF); (case d => k_asm); k_whole; intro h' o' F' N' d'; (try dsimp only at N'); (try k_sweep))))
  k_with "LeaveF" => (k_dflt (refine' leaveF_ ?k1 ?k2 ?_; (case k1 => k_asm); (case k2 => k_asm); k_whole); intro kF kN; (try ground_anew kF); (try have kX := kFor kF (by k_asm)))
  k_with "LeaveF" => (k_made; walk_at "LeaveF")
  k_with "zUR" => (have hcL9 := cLine_is; omega)
  k_with "zNE" => (refine neN ?_; (try dsimp only); first | with_reducible (first | (refine neA0 (by assumption) ?_; focus ((repeat (first | exact And.left | exact id | refine andR ?_)); done)) | (refine neB0 (by assumption) ?_; focus ((repeat (first | exact And.left | exact id | refine andR ?_)); done)) | (refine neC (by assumption) ?_; focus ((repeat (first | exact And.left | exact id | refine andR ?_)); done)) | (refine neCs (by assumption) ?_; focus ((repeat (first | exact And.left | exact id | refine andR ?_)); done)) | (refine neA1 (by assumption) ?_; focus ((repeat (first | exact And.left | exact id | refine andR ?_)); done)) | (refine neB1 (by assumption) ?_; focus ((repeat (first | exact And.left | exact id | refine andR ?_)); done)) | (refine neA2 (by assumption) ?_; focus ((repeat (first | exact And.left | exact id | refine andR ?_)); done)) | (refine neB2 (by assumption) ?_; focus ((repeat (first | exact And.left | exact id | refine andR ?_)); done)) | (refine neA3 (by assumption) ?_; focus ((repeat (first | exact And.left | exact id | refine andR ?_)); done)) | (refine neB3 (by assumption) ?_; focus ((repeat (first | exact And.left | exact id | refine andR ?_)); done))) | omega)
  k_with "zRM" => (with_reducible first | exact room1 (by assumption) (by assumption) (by decide) | exact room2 (by assumption) (by assumption) (by decide) | exact room3 (by assumption) (by assumption) (by decide) | exact room4 (by assumption) (by assumption) (by decide) | exact room5 (by assumption) (by assumption) (by decide) | exact room0 (by assumption))
  k_with "zALL" => first | assumption | with_reducible (first | (refine nwA0 (by assumption) ?_; focus ((refine andR ?_); (repeat (first | exact id | refine andR ?_)); done)) | (refine nwA1 (by assumption) ?_; focus ((refine andR ?_); (repeat (first | exact id | refine andR ?_)); done)) | (refine nwA2 (by assumption) ?_; focus ((refine andR ?_); (repeat (first | exact id | refine andR ?_)); done)) | (refine nwA3 (by assumption) ?_; focus ((refine andR ?_); (repeat (first | exact id | refine andR ?_)); done)))
  k_with "subscriptTail Name Constant ref int" => (with_unfolding_all ((refine' itemK ?zqk1 ?zqk2 ?zqk3 ?zqk4 ?_ ?zqk6); (case zqk1 => exact News.isList (by assumption) (by (focus first | ((repeat (first | exact memH | ((fail_if_success (refine nilX ?_)); refine memT ?_))); done) | ((repeat (first | assumption | ((fail_if_success (refine nilX ?_)); refine memT ?_))); done)))); (case zqk2 => decide); (case zqk3 => decide); (case zqk4 => with_unfolding_all exact rfl); (case zqk6 => with_unfolding_all rfl); k_whole))
  k_with "UnrEnd" => ((rename Fr _ _ _ _ => lF'); (rename News _ _ _ _ => lN'); (with_unfolding_all refine unrEndE lF' lN' ?zqa ?_); (case zqa => with_unfolding_all assumption); clear lF' lN')
  k_with "pyIter ref" => ((rename Fr _ _ _ _ => lF'); (rename News _ _ _ _ => lN'); (rename IsRange _ _ _ _ _ _ _ _ => rgX); (with_unfolding_all refine' rangeQ (T0 := T0) (tT := tT) (n := (1 + x4.fmod 4).toNat) hS.2 ?zqe ?zqh rgX hS.1 lF' lN' ?zqt ?zqT ?zqD); (case zqe => with_unfolding_all exact rfl); (case zqh => with_unfolding_all exact rfl); (case zqt => with_unfolding_all exact rfl); (case' zqT => (clear lF' lN'; intro pre k t9 tx h9 tk9 own hlt F9 N9; have hsz9 := hsz pre.length (Nat.le_of_lt (Nat.lt_of_lt_of_le hlt hS.1)))); (case' zqD => (clear lF' lN'; intro tx u9 h9 tk9 F9 N9; have hsz9 := hsz _ hS.1)))
  k_with "InvPostN" => ((rename Fr _ _ _ _ => lF'); (rename News _ _ _ _ => lN'); (with_unfolding_all refine' endQ lF' lN' ?zqt ?zqe ?zqr); (case zqt => with_unfolding_all exact rfl); (case zqe => with_unfolding_all exact rfl); (case zqr => (intro z h1 h2; simp +zetaDelta only [if_neg h1, if_neg h2])))
  k_with "call ref" => (k_here; (with_reducible show wpAny _ _ (call (Value.ref 108) [Value.str _ _]) _ _ _); ((rename Fr _ _ _ _ => lF'); (with_unfolding_all refine' quote _ _ _ _ _ _ _ _ _ _ _ _ _ _ _ _ _ _ ?k1 ?k2 ?k3 ?k4 ?k5 ?kK _ _ ?a1 ?a2 ?kd ?ku ?_); (case k1 => with_unfolding_all assumption); (case k2 => with_unfolding_all assumption); (case k3 => with_unfolding_all assumption); (case k4 => with_unfolding_all assumption); (case k5 => with_unfolding_all assumption); (case kK => first | exact rfl | assumption); (case a1 => exact hsz9.1); (case a2 => exact hsz9.2.1); (case kd => ktr_room); (case ku => ktr_units); intro t8 h8 tk8 F8 N8; (replace F8 := frAs lF' (by with_unfolding_all exact rfl) F8); (replace N8 := newsAs lF' (by with_unfolding_all exact rfl) N8); clear lF'; (try dsimp only); (try k_fold); (try k_sweep)))
  k_with "call ref" => (k_here; (with_reducible show wpAny _ _ (call (Value.ref 125) [Value.str _ _]) _ _ _); ((rename Fr _ _ _ _ => lF'); (with_unfolding_all refine' symbols _ _ _ _ _ _ _ _ _ _ _ _ _ _ _ _ _ _ ?k1 ?k2 ?k3 ?k4 ?k5 ?kK _ _ ?a1 ?kd ?ku ?_); (case k1 => with_unfolding_all assumption); (case k2 => with_unfolding_all assumption); (case k3 => with_unfolding_all assumption); (case k4 => with_unfolding_all assumption); (case k5 => with_unfolding_all assumption); (case kK => first | exact rfl | assumption); (case a1 => exact hsz9.2.2); (case kd => ktr_room); (case ku => ktr_units); intro yA vs nn h8 tk8 hI8 F8 N8 hl8; (replace F8 := frAs lF' (by with_unfolding_all exact rfl) F8); (replace N8 := newsAs lF' (by with_unfolding_all exact rfl) N8); clear lF'; (try dsimp only); (try k_fold); (try k_sweep)))
  k_steps
  all_goals (
    rename Fr _ _ _ _ => lF'
    rename News _ _ _ _ => lN'
    rename IntsAre _ _ => hI8
    have F9 := fr_put (a := Str.ofString "symbols") (fr_put (a := Str.ofString "sent") lF' (by with_unfolding_all exact rfl)) (by with_unfolding_all exact rfl)
    exact cont _ _ _ _ _ _ _ hI8 F9 lN' hl8)
end ZP3
section ZD1
open PySem PySem.W PySem.Spec PySem.Calls PyProof.Rows
set_option rowWalk.seconds 0
set_option compiler.extract_closed false
set_option maxRecDepth 100000
set_option maxHeartbeats 8000000
set_option pp.deepTerms false
set_option pp.deepTerms.threshold 10
set_option pp.maxSteps 20000
theorem bits0 {v : Int} (h : v = 0) : ((Builtin.Int.intBits v : Nat) : Int) = 0 := by subst h; decide
theorem bits1 {v : Int} (h : v = 1) : ((Builtin.Int.intBits v : Nat) : Int) = 1 := by subst h; decide
theorem bits2 {v : Int} (h : v = 2 ∨ v = 3) : ((Builtin.Int.intBits v : Nat) : Int) = 2 := by rcases h with rfl | rfl <;> decide
theorem bits3 {v : Int} (h : v = 4 ∨ v = 5 ∨ v = 6 ∨ v = 7) : ((Builtin.Int.intBits v : Nat) : Int) = 3 := by rcases h with rfl | rfl | rfl | rfl <;> decide
theorem offI_of {I : Addr} {it : Obj} : ∀ {l : List (Addr × Obj)}, AllLt I l → OffI I it l
  | [], _ => trivial
  | _ :: _, h => ⟨.inl (Nat.ne_of_lt h.1), offI_of h.2⟩
section
variable {prog : Program} {w : World} {A : Around} {E : Value → Shared → Prop} {s : Shared} {env : Env} {h₀ : Heap} {x : Str} {body : List Stmt} {Q : Flow → Shared → Prop}
theorem iter_rev1 {ax I : Addr} {lo : Obj} {x1 : Value} {n : Nat} {m₀ : Str → Option Value} {news : List (Addr × Obj)}
    (hh : A.handled = none) (F : Fr h₀ env.locals s.heap m₀) (N : News h₀ env.locals s.heap ((I, revObj ax ((([x1] : List Value).length : Int) - 1)) :: news)) (hl : AllLt I news) (hm : (ax, lo) ∈ news) (hc : lo.cls = .type "list") (hd : lo.data = .seq [x1].toArray n)
    (rest : RevRest prog w A E h₀ env x body Q s I (ax, lo) [x1] m₀ news) :
    wpAny (model prog w) A (pyIter (.ref I)) (fun it s₂ => LoopAtV prog w A h₀ env x body Q E it s₂) E s := iter_revUnr hh F N (offI_of hl) hm hc hd rest
theorem iter_rev2 {ax I : Addr} {lo : Obj} {x1 x2 : Value} {n : Nat} {m₀ : Str → Option Value} {news : List (Addr × Obj)}
    (hh : A.handled = none) (F : Fr h₀ env.locals s.heap m₀) (N : News h₀ env.locals s.heap ((I, revObj ax ((([x1, x2] : List Value).length : Int) - 1)) :: news)) (hl : AllLt I news) (hm : (ax, lo) ∈ news) (hc : lo.cls = .type "list") (hd : lo.data = .seq [x1, x2].toArray n)
    (rest : RevRest prog w A E h₀ env x body Q s I (ax, lo) [x2, x1] m₀ news) :
    wpAny (model prog w) A (pyIter (.ref I)) (fun it s₂ => LoopAtV prog w A h₀ env x body Q E it s₂) E s := iter_revUnr hh F N (offI_of hl) hm hc hd rest
end
theorem news_end {h₀ h : Heap} {L D : Addr} {o p1 p2 : Obj} {nw all : List (Addr × Obj)} (N : News h₀ L h all) (h0 : (D, o) ∈ all) (h1 : (54, p1) ∈ all) (h2 : (47, p2) ∈ all) (h3 : ∀ p ∈ nw, p ∈ all) : News h₀ L h ((D, o) :: (54, p1) :: (47, p2) :: nw) := fun p hp => N p (by
  rcases List.mem_cons.mp hp with rfl | hp
  · exact h0
  rcases List.mem_cons.mp hp with rfl | hp
  · exact h1
  rcases List.mem_cons.mp hp with rfl | hp
  · exact h2
  · exact h3 p hp)
theorem ord_end {D x : Nat} {R : Prop} {o1 o2 : Obj} {nw : List (Addr × Obj)} (h : x < D ∧ R) (k : (x < D ∧ R) → @LT.lt Nat _ 54 D ∧ @LT.lt Nat _ 47 D ∧ AllLt D nw) : ∀ p ∈ ((54, o1) :: (47, o2) :: nw : List (Addr × Obj)), p.1 < D := fun p hp => by
  have q := k h
  rcases List.mem_cons.mp hp with rfl | hp
  · exact q.1
  rcases List.mem_cons.mp hp with rfl | hp
  · exact q.2.1
  · exact nwLt q.2.2 p hp
theorem unrR0 {h₀ h' : Heap} {L I : Addr} {oI : Obj} {s₁ : Shared} {tk : Nat} {m' : Str → Option Value} {l : List (Addr × Obj)} {rest : (Str → Option Value) → List (Addr × Obj) → Prop}
    (F : Fr h₀ L h' m') (N : News h₀ L h' ((I, oI) :: l)) (hl : AllLt I l) (r : rest m' l) : UnrEnd h₀ L s₁ I oI rest { s₁ with heap := h', toks := tk } :=
  UnrEnd.intro F N l (fun _ h => h) (fun p hp => Nat.ne_of_lt (nwLt hl p hp)) r
theorem unrR1 {h₀ h' : Heap} {L I : Addr} {oI : Obj} {x1 : Addr × Obj} {s₁ : Shared} {tk : Nat} {m' : Str → Option Value} {l : List (Addr × Obj)} {rest : (Str → Option Value) → List (Addr × Obj) → Prop}
    (F : Fr h₀ L h' m') (N : News h₀ L h' (x1 :: (I, oI) :: l)) (hl : AllLt I l) (r : rest m' l) : UnrEnd h₀ L s₁ I oI rest { s₁ with heap := h', toks := tk } :=
  unrR0 F (fun p hp => N p (.tail _ hp)) hl r
theorem unrR2 {h₀ h' : Heap} {L I : Addr} {oI : Obj} {x1 x2 : Addr × Obj} {s₁ : Shared} {tk : Nat} {m' : Str → Option Value} {l : List (Addr × Obj)} {rest : (Str → Option Value) → List (Addr × Obj) → Prop}
    (F : Fr h₀ L h' m') (N : News h₀ L h' (x1 :: x2 :: (I, oI) :: l)) (hl : AllLt I l) (r : rest m' l) : UnrEnd h₀ L s₁ I oI rest { s₁ with heap := h', toks := tk } :=
  unrR1 F (fun p hp => N p (.tail _ hp)) hl r
theorem divA {w : World} {mean : ExcName → Option Value} {mg mb : Str → Option Value} (dp un : Nat) (gd : Option (List Code)) (cn : Str) (cs : Scope) (ca : Addr) (ccd : Value) (cl : List (Str × Addr)) (outer : List Env) (A₀ : Around) (base h₀ : Heap) (L : Addr) (m : Str → Option Value) (s : Shared) (Q E : Value → Shared → Prop) (nw : List (Addr × Obj))
  (B : Below A₀ base outer h₀) (F : Fr h₀ L s.heap m) (X : (Mine.hp w.params).In h₀) (N : News h₀ L s.heap ((54, tabObj #[]) :: (47, tabObj #[]) :: nw)) (T : Top topProg (looseW Mine.vw Mine.lo ++ (recsOf Mine.vw).map (·.name) ++ (litsOf Mine.vw).map (·.1) ++ (clssOf Mine.vw (looseW Mine.vw Mine.lo)).map (·.name)) mean mg mb h₀) (hk : cs.kind = .function)
  (C1 : CodeHd base 58 54) (C2 : CodeHd base 51 47) (n54 : ∀ p ∈ nw, p.1 ≠ 54) (n47 : ∀ p ∈ nw, p.1 ≠ 47)
  (a : Int) (ta tb : Tok) (ha : a = 2 ∨ a = 3) (hd : dp + 20 < recursionLimit) (hu : un + 120 < cLine)
  (ret : ∀ (D : Addr) (t1 t2 : Tok) (ps1 ps2 : Array Value) (h : Heap) (tk : Nat), Fr h₀ L h m → News h₀ L h ((D, tup2 (a.fdiv 3) (a.fmod 3) t1 t2 0) :: (54, tabObj ps1) :: (47, tabObj ps2) :: nw) → (∀ p ∈ ((54, tabObj ps1) :: (47, tabObj ps2) :: nw : List (Addr × Obj)), p.1 < D) → Q (.ref D) { s with heap := h, toks := tk }) :
  wpAny (model Mine.rw.prog w) (ktrTop dp un gd cn cs L ca ccd cl outer) (call (.ref 73) [.int a ta, .int 3 tb]) Q E s := by
  have hz1 : ¬ (a = 0) := by omega
  have hz2 : a ≠ 0 := hz1
  have hz3 : 0 < a := by omega
  have hz4 : (a != 0) = true := by rcases ha with rfl | rfl <;> rfl
  have hz5 : decide (a ≠ 0) = true := by rcases ha with rfl | rfl <;> rfl
  k_with_none
  k_with "execs cons" => (k_here; first | k_gentoks | (k_made; walk_at "execs cons") | ((with_reducible refine execs_consF ?_); intro qz))
  k_with "storeName" => (k_here; (fail_if_success (k_extra "unfolded")); k_dflt (first | (refine' storeX_LF ?F ?N ?_ ?a ?b; (case F => k_asm); (case N => k_asm); (case a => rfl); (case b => rfl); k_whole; intro h' tk' mz F' N'; (try k_sweep)) | (refine' storeX_CF ?F ?N ?c ?U ?d ?_ ?a ?b; (case a => rfl); (case b => rfl); (case F => k_asm); (case N => k_asm); (case c => rfl); (case U => k_updF); (case d => k_asm); k_whole; intro h' o' F' N' d'; (try dsimp only at N'); (try k_sweep))))
  k_with "LeaveF" => (k_dflt (refine' leaveF_ ?k1 ?k2 ?_; (case k1 => k_asm); (case k2 => k_asm); k_whole); intro kF kN; (try ground_anew kF); (try have kX := kFor kF (by k_asm)))
  k_with "LeaveF" => (k_made; walk_at "LeaveF")
  k_with "zUR" => (have hcL9 := cLine_is; omega)
  k_with "zNE" => (refine neN ?_; (try dsimp only); first | with_reducible (first | (refine neA0 (by assumption) ?_; focus ((repeat (first | exact And.left | exact id | refine andR ?_)); done)) | (refine neB0 (by assumption) ?_; focus ((repeat (first | exact And.left | exact id | refine andR ?_)); done)) | (refine neC (by assumption) ?_; focus ((repeat (first | exact And.left | exact id | refine andR ?_)); done)) | (refine neCs (by assumption) ?_; focus ((repeat (first | exact And.left | exact id | refine andR ?_)); done)) | (refine neA1 (by assumption) ?_; focus ((repeat (first | exact And.left | exact id | refine andR ?_)); done)) | (refine neB1 (by assumption) ?_; focus ((repeat (first | exact And.left | exact id | refine andR ?_)); done)) | (refine neA2 (by assumption) ?_; focus ((repeat (first | exact And.left | exact id | refine andR ?_)); done)) | (refine neB2 (by assumption) ?_; focus ((repeat (first | exact And.left | exact id | refine andR ?_)); done)) | (refine neA3 (by assumption) ?_; focus ((repeat (first | exact And.left | exact id | refine andR ?_)); done)) | (refine neB3 (by assumption) ?_; focus ((repeat (first | exact And.left | exact id | refine andR ?_)); done))) | omega)
  k_with "zRM" => (with_reducible first | exact room1 (by assumption) (by assumption) (by decide) | exact room2 (by assumption) (by assumption) (by decide) | exact room3 (by assumption) (by assumption) (by decide) | exact room4 (by assumption) (by assumption) (by decide) | exact room5 (by assumption) (by assumption) (by decide) | exact room0 (by assumption))
  k_with "zALL" => first | assumption | with_reducible (first | (refine nwA0 (by assumption) ?_; focus ((refine andR ?_); (repeat (first | exact id | refine andR ?_)); done)) | (refine nwA1 (by assumption) ?_; focus ((refine andR ?_); (repeat (first | exact id | refine andR ?_)); done)) | (refine nwA2 (by assumption) ?_; focus ((refine andR ?_); (repeat (first | exact id | refine andR ?_)); done)) | (refine nwA3 (by assumption) ?_; focus ((refine andR ?_); (repeat (first | exact id | refine andR ?_)); done)))
  k_with "call builtin:int.bit_length cons nil" => (first | (refine bitlenK (bits2 ?hb) ?_; (case hb => omega)) | (refine bitlenK (bits3 ?hb) ?_; (case hb => omega)) | (refine bitlenK (bits1 ?hb) ?_; (case hb => omega)) | (refine bitlenK (bits0 ?hb) ?_; (case hb => omega)))
  k_with "binaryOp Mult ref int" => (first | (with_unfolding_all ((first | (refine' KMa.mul (ws := []) ?F ?N ?l ?lo ?hi ?z ?e ?_; (case F => k_asm); (case N => k_asm); (case l => exact News.isList (by assumption) (by (focus first | ((repeat (first | exact memH | ((fail_if_success (refine nilX ?_)); refine memT ?_))); done) | ((repeat (first | assumption | ((fail_if_success (refine nilX ?_)); refine memT ?_))); done)))); (case lo => decide); (case hi => decide); (case z => (simp only [List.length_cons, List.length_nil]; decide)); (case e => with_unfolding_all exact rfl); k_whole) | (refine' KMa.mul (ws := [Value.int _ _]) ?F ?N ?l ?lo ?hi ?z ?e ?_; (case F => k_asm); (case N => k_asm); (case l => exact News.isList (by assumption) (by (focus first | ((repeat (first | exact memH | ((fail_if_success (refine nilX ?_)); refine memT ?_))); done) | ((repeat (first | assumption | ((fail_if_success (refine nilX ?_)); refine memT ?_))); done)))); (case lo => decide); (case hi => decide); (case z => (simp only [List.length_cons, List.length_nil]; decide)); (case e => with_unfolding_all exact rfl); k_whole) | (refine' KMa.mul (ws := [Value.int _ _, Value.int _ _]) ?F ?N ?l ?lo ?hi ?z ?e ?_; (case F => k_asm); (case N => k_asm); (case l => exact News.isList (by assumption) (by (focus first | ((repeat (first | exact memH | ((fail_if_success (refine nilX ?_)); refine memT ?_))); done) | ((repeat (first | assumption | ((fail_if_success (refine nilX ?_)); refine memT ?_))); done)))); (case lo => decide); (case hi => decide); (case z => (simp only [List.length_cons, List.length_nil]; decide)); (case e => with_unfolding_all exact rfl); k_whole)); intro D' h' F' N' l1; (try k_lt l1); (try k_sweep))))
  k_with "call builtin:divmod cons nil" => (k_here; with_unfolding_all (refine' divmodK ?k1 ?k2 ?k3 ?k4 ?_; (case k1 => k_asm); (case k2 => k_asm); (case k3 => decide); (case k4 => decide); k_whole); intro D' t1' t2' h' tk' F' N' l1; (try k_lt l1); (try k_sweep))
  k_with "call builtin:list.append cons nil" => (k_dflt (refine' append_K ?zqk1 ?zqk2 ?zqk3 ?_ ?zqz; (case zqk1 => k_asm); (case zqk2 => k_asm); (case zqk3 => k_upd); (case zqz => size_fits)); intro h' F' N'; (try k_sweep))
  k_with "exec FunctionDef" => (k_here; (refine' nestDef_K ?d0 ?k0 ?a0 ?_; (case d0 => with_unfolding_all exact rfl); (case k0 => with_unfolding_all exact rfl); (case a0 => with_unfolding_all exact rfl)); (with_unfolding_all refine' nest_K ?F ?N ?T ?C ?cd ?U ?t ?n ?cl ?_); (case F => k_asm); (case N => k_asm); (case T => k_asm); (case cd => with_unfolding_all exact rfl);  (case C => kn_code);  (case U => k_updF);  (case t => kn_triples);  (case n => kn_among);  (case cl => with_unfolding_all exact rfl); k_whole; intro f' c' oc' vs' t' ct' dc' h' tk' F' N' d1' d2' l1 l2; (try dsimp only at N'); (try k_lt l1); (try k_lt2 l2))
  k_with "call ref" => (first | k_dflt (refine' code_defF ?k1 ?k2 ?k3 ?k4 ?k5 ?kA ?kZ ?kF ?kK ?k6 ?k7 ?k8 ?k9 ?kB ?_ ?c2 ?c3 ?c4 ?c5; (case kA => exact rfl); (case kZ => first | with_reducible assumption | exact ktrDepth); (case kF => exact rfl); (case kK => first | exact rfl | assumption); (case k1 => k_asm); (case k2 => k_asm); (case k3 => k_asm); (case k4 => k_asm); (case k5 => k_asm); (case k6 => k_is); (case k7 => k_is); (case k8 => ktr_room); (case k9 => (first | exact BindsTo.of_eq (binds := []) rfl | exact BindsTo.of_eq (binds := [(_, _)]) rfl | exact BindsTo.of_eq (binds := [(_, _), (_, _)]) rfl | exact BindsTo.of_eq (binds := [(_, _), (_, _), (_, _)]) rfl | exact BindsTo.of_eq (binds := [(_, _), (_, _), (_, _), (_, _)]) rfl | exact BindsTo.of_eq (binds := [(_, _), (_, _), (_, _), (_, _), (_, _)]) rfl | exact BindsTo.of_eq rfl)); (case c5 => decide); (case kB => exact locs rfl); (case c2 => exact rfl); (case c3 => exact rfl); (case c4 => exact rfl); k_whole; intro qr er g' L' h' tk' FG' mz F' N' B' X' T' az hzd hzu qz ez; (try dsimp only [ktrTop] at hzu); (try k_lift B')) | (k_dflt (refine' code_defCF ?k1 ?k2 ?k3 ?k4 ?k5 ?kA ?kZ ?kF ?kK ?k6 ?k7 ?k8 ?k9 ?kB ?kD ?_ ?c2 ?c3 ?c4; (case kA => exact rfl); (case kZ => first | with_reducible assumption | exact ktrDepth); (case kF => exact rfl); (case kK => first | exact rfl | assumption); (case k1 => k_asm); (case k2 => k_asm); (case k3 => k_asm); (case k4 => k_asm); (case k5 => k_asm); (case k6 => k_is); (case k7 => k_is); (case k8 => ktr_room); (case k9 => (first | exact BindsTo.of_eq (binds := []) rfl | exact BindsTo.of_eq (binds := [(_, _)]) rfl | exact BindsTo.of_eq (binds := [(_, _), (_, _)]) rfl | exact BindsTo.of_eq (binds := [(_, _), (_, _), (_, _)]) rfl | exact BindsTo.of_eq (binds := [(_, _), (_, _), (_, _), (_, _)]) rfl | exact BindsTo.of_eq (binds := [(_, _), (_, _), (_, _), (_, _), (_, _)]) rfl | exact BindsTo.of_eq rfl)); (case kB => exact rfl); (case kD => decide +kernel); (case c2 => exact rfl); (case c3 => exact rfl); (case c4 => exact rfl); k_whole; intro qr er g' L' h' tk' cells' FG' F' N' Y' B' X' T' l1 az hzd hzu qz ez; (try dsimp only [ktrTop] at hzu); (try k_lt l1); k_cells Y'; (try simp only [List.cons_append, List.nil_append] at N'); (try k_lift B'))) | (k_dflt (refine' code_nestF ?k1 ?k2 ?k3 ?k4 ?k5 ?kA ?kZ ?kF ?kK ?k6 ?k7 ?k8 ?k9 ?kB ?_ ?c2 ?c3 ?c4 ?c5; (case kA => exact rfl); (case kZ => first | with_reducible assumption | exact ktrDepth); (case kF => exact rfl); (case kK => exact rfl); (case k1 => k_asm); (case k2 => k_asm); (case k3 => k_asm); (case k4 => k_asm); (case k5 => k_asm); (case k6 => k_mem); (case k7 => exact codeRec_news (by k_asm) (by k_mem) (by assumption) (by assumption)); (case k8 => ktr_room); (case k9 => (first | exact BindsTo.of_eq (binds := []) rfl | exact BindsTo.of_eq (binds := [(_, _)]) rfl | exact BindsTo.of_eq (binds := [(_, _), (_, _)]) rfl | exact BindsTo.of_eq (binds := [(_, _), (_, _), (_, _)]) rfl | exact BindsTo.of_eq (binds := [(_, _), (_, _), (_, _), (_, _)]) rfl | exact BindsTo.of_eq (binds := [(_, _), (_, _), (_, _), (_, _), (_, _)]) rfl | exact BindsTo.of_eq rfl)); (case c5 => decide); (case kB => exact locs rfl); (case c2 => exact rfl); (case c3 => exact rfl); (case c4 => exact rfl); k_whole; intro qr er g' L' h' tk' FG' mz F' N' B' X' T' az hzd hzu qz ez; (try dsimp only [ktrTop] at hzu); (try k_lift B'))))
  k_with "pyIter ref" => ((rename Fr _ _ _ _ => lF'); (rename News _ _ _ _ => lN'); (first | (with_unfolding_all refine iter_rev1 (lo := W.listOf #[Value.int a ta] 0) (x1 := Value.int a ta) ?zqh lF' lN' ?zqa ?zqm ?zqc ?zqd ?_) | ((with_unfolding_all refine' iter_rev1 (x1 := Value.int a ta) ?zqh lF' lN' ?zqa ?zqm ?zqc ?zqd ?_))); (case zqh => with_unfolding_all exact rfl); (case zqm => (focus first | ((repeat (first | exact memH | ((fail_if_success (refine nilX ?_)); refine memT ?_))); done) | ((repeat (first | assumption | ((fail_if_success (refine nilX ?_)); refine memT ?_))); done))); (case zqa => with_unfolding_all assumption); (case zqc => with_unfolding_all exact rfl); (case zqd => with_unfolding_all exact rfl); clear lF' lN')
  k_with "UnrEnd" => ((rename Fr _ _ _ _ => lF'); (rename News _ _ _ _ => lN'); (first | (with_unfolding_all refine unrR0 lF' lN' ?zqa ⟨?zqm, ?_⟩) | (with_unfolding_all refine unrR1 lF' lN' ?zqa ⟨?zqm, ?_⟩) | (with_unfolding_all refine unrR2 lF' lN' ?zqa ⟨?zqm, ?_⟩)); (case zqm => (focus first | ((repeat (first | exact memH | ((fail_if_success (refine nilX ?_)); refine memT ?_))); done) | ((repeat (first | assumption | ((fail_if_success (refine nilX ?_)); refine memT ?_))); done))); (case zqa => with_unfolding_all assumption); clear lF' lN')
  have ret2 : ∀ (D : Addr) (t1 t2 : Tok) (ps1 ps2 : Array Value) (h : Heap) (tk : Nat) (v1 v2 : Int), v1 = a.fdiv 3 → v2 = a.fmod 3 → Fr h₀ L h m → News h₀ L h ((D, tup2 v1 v2 t1 t2 0) :: (54, tabObj ps1) :: (47, tabObj ps2) :: nw) → (∀ p ∈ ((54, tabObj ps1) :: (47, tabObj ps2) :: nw : List (Addr × Obj)), p.1 < D) → Q (.ref D) { s with heap := h, toks := tk } := by
    intro D t1 t2 ps1 ps2 h tk v1 v2 e1 e2
    subst e1
    subst e2
    exact ret D t1 t2 ps1 ps2 h tk
  clear ret
  k_dflt (refine' code_defF ?k1 ?k2 ?k3 ?k4 ?k5 ?kA ?kZ ?kF ?kK ?k6 ?k7 ?k8 ?k9 ?kB ?_ ?c2 ?c3 ?c4 ?c5; (case kA => exact rfl); (case kZ => first | with_reducible assumption | exact ktrDepth); (case kF => exact rfl); (case kK => first | exact rfl | assumption); (case k1 => k_asm); (case k2 => k_asm); (case k3 => k_asm); (case k4 => k_asm); (case k5 => k_asm); (case k6 => k_is); (case k7 => k_is); (case k8 => ktr_room); (case k9 => (first | exact BindsTo.of_eq (binds := []) rfl | exact BindsTo.of_eq (binds := [(_, _)]) rfl | exact BindsTo.of_eq (binds := [(_, _), (_, _)]) rfl | exact BindsTo.of_eq (binds := [(_, _), (_, _), (_, _)]) rfl | exact BindsTo.of_eq (binds := [(_, _), (_, _), (_, _), (_, _)]) rfl | exact BindsTo.of_eq (binds := [(_, _), (_, _), (_, _), (_, _), (_, _)]) rfl | exact BindsTo.of_eq rfl)); (case c5 => decide); (case kB => exact locs rfl); (case c2 => exact rfl); (case c3 => exact rfl); (case c4 => exact rfl); k_whole; intro qr er g' L' h' tk' FG' mz F' N' B' X' T' az hzd hzu qz ez; (try dsimp only [ktrTop] at hzu); (try k_lift B'))
  k_steps
  all_goals (rename Fr _ _ _ _ => lF'; rename News _ _ _ _ => lN'; refine ret2 _ _ _ _ _ _ _ _ _ ?ze1 ?ze2 lF' (news_end lN' (.head _) (by (focus first | ((repeat (first | exact memH | ((fail_if_success (refine nilX ?_)); refine memT ?_))); done) | ((repeat (first | assumption | ((fail_if_success (refine nilX ?_)); refine memT ?_))); done))) (by (focus first | ((repeat (first | exact memH | ((fail_if_success (refine nilX ?_)); refine memT ?_))); done) | ((repeat (first | assumption | ((fail_if_success (refine nilX ?_)); refine memT ?_))); done))) (by (focus (intro p hp; (repeat (first | exact hp | refine memT ?_)); done)))) ?zeo)
  case ze1 => (rcases ha with h | h <;> (rw [h]; try decide))
  case ze2 => (rcases ha with h | h <;> (rw [h]; try decide))
  case zeo => (refine ord_end (by assumption) ?_; (focus ((refine andR ?_); (repeat (first | exact id | refine andR ?_)); done)))
end ZD1
section ZD2
open PySem PySem.W PySem.Spec PySem.Calls PyProof.Rows
set_option rowWalk.seconds 0
set_option compiler.extract_closed false
set_option maxRecDepth 100000
set_option maxHeartbeats 8000000
set_option pp.deepTerms false
set_option pp.deepTerms.threshold 10
set_option pp.maxSteps 20000
section
variable {prog : Program} {w : World} {A : Around} {E : Value → Shared → Prop} {s : Shared} {Q : Value → Shared → Prop}
theorem rsh1 {a n : Int} {t u : Tok} (ha : a = 4 ∨ a = 5) (hn : n = 2) (h : Q (.int 1 s.toks) { s with toks := s.toks + 1 }) : wpAny (model prog w) A (binaryOp .RShift (.int a t) (.int n u)) Q E s := by
  subst hn
  rcases ha with rfl | rfl
  · exact rshift_int (by decide) h
  · exact rshift_int (by decide) h
theorem xor4 {a n : Int} {t u : Tok} (ha : a = 4 ∨ a = 5) (hn : n = 4) (h : Q (.int (a - 4) s.toks) { s with toks := s.toks + 1 }) : wpAny (model prog w) A (binaryOp .BitXor (.int a t) (.int n u)) Q E s := by
  subst hn
  have e : Builtin.bitXor a 4 = a - 4 := by rcases ha with rfl | rfl <;> decide
  exact xor_int (by rw [e]; exact h)
theorem divmodV {a b : Int} {t u : Tok} {h₀ : Heap} {L : Addr} {m : Str → Option Value} {news : List (Addr × Obj)} (q r : Int) (hv : a.fdiv b = q ∧ a.fmod b = r)
    (F : Fr h₀ L s.heap m) (N : News h₀ L s.heap news) (hb : b ≠ 0) (hs : b.natAbs < 1073741824)
    (h : ∀ (D : Addr) (t1 t2 : Tok) (h' : Heap) (tk' : Nat), Fr h₀ L h' m → News h₀ L h' ((D, tup2 q r t1 t2 0) :: news) → (∀ p ∈ news, p.1 < D) → Q (.ref D) { s with toks := tk', heap := h' }) :
    wpAny (model prog w) A (call (.builtin "divmod") [.int a t, .int b u]) Q E s := by
  obtain ⟨rfl, rfl⟩ := hv
  exact divmodK F N hb hs h
end
theorem divB {w : World} {mean : ExcName → Option Value} {mg mb : Str → Option Value} (dp un : Nat) (gd : Option (List Code)) (cn : Str) (cs : Scope) (ca : Addr) (ccd : Value) (cl : List (Str × Addr)) (outer : List Env) (A₀ : Around) (base h₀ : Heap) (L : Addr) (m : Str → Option Value) (s : Shared) (Q E : Value → Shared → Prop) (nw : List (Addr × Obj))
  (B : Below A₀ base outer h₀) (F : Fr h₀ L s.heap m) (X : (Mine.hp w.params).In h₀) (N : News h₀ L s.heap ((54, tabObj #[]) :: (47, tabObj #[]) :: nw)) (T : Top topProg (looseW Mine.vw Mine.lo ++ (recsOf Mine.vw).map (·.name) ++ (litsOf Mine.vw).map (·.1) ++ (clssOf Mine.vw (looseW Mine.vw Mine.lo)).map (·.name)) mean mg mb h₀) (hk : cs.kind = .function)
  (C1 : CodeHd base 58 54) (C2 : CodeHd base 51 47) (n54 : ∀ p ∈ nw, p.1 ≠ 54) (n47 : ∀ p ∈ nw, p.1 ≠ 47)
  (a : Int) (ta tb : Tok) (ha : a = 4 ∨ a = 5) (hd : dp + 20 < recursionLimit) (hu : un + 120 < cLine)
  (ret : ∀ (D : Addr) (t1 t2 : Tok) (ps1 ps2 : Array Value) (h : Heap) (tk : Nat), Fr h₀ L h m → News h₀ L h ((D, tup2 (a.fdiv 3) (a.fmod 3) t1 t2 0) :: (54, tabObj ps1) :: (47, tabObj ps2) :: nw) → (∀ p ∈ ((54, tabObj ps1) :: (47, tabObj ps2) :: nw : List (Addr × Obj)), p.1 < D) → Q (.ref D) { s with heap := h, toks := tk }) :
  wpAny (model Mine.rw.prog w) (ktrTop dp un gd cn cs L ca ccd cl outer) (call (.ref 73) [.int a ta, .int 3 tb]) Q E s := by
  have ha4 : a = 4 ∨ a = 5 ∨ a = 6 ∨ a = 7 := ha.elim .inl (fun h => .inr (.inl h))
  have hz1 : ¬ (a = 0) := by omega
  have hz2 : a ≠ 0 := hz1
  have hz3 : 0 < a := by omega
  have hz4 : (a != 0) = true := by rcases ha with rfl | rfl <;> rfl
  have hz5 : decide (a ≠ 0) = true := by rcases ha with rfl | rfl <;> rfl
  k_with_none
  k_with "execs cons" => (k_here; first | k_gentoks | (k_made; walk_at "execs cons") | ((with_reducible refine execs_consF ?_); intro qz))
  k_with "storeName" => (k_here; (fail_if_success (k_extra "unfolded")); k_dflt (first | (refine' storeX_LF ?F ?N ?_ ?a ?b; (case F => k_asm); (case N => k_asm); (case a => rfl); (case b => rfl); k_whole; intro h' tk' mz F' N'; (try k_sweep)) | (refine' storeX_CF ?F ?N ?c ?U ?d ?_ ?a ?b; (case a => rfl); (case b => rfl); (case F => k_asm); (case N => k_asm); (case c => rfl); (case U => k_updF); (case d => k_asm); k_whole; intro h' o' F' N' d'; (try dsimp only at N'); (try k_sweep))))
  k_with "LeaveF" => (k_dflt (refine' leaveF_ ?k1 ?k2 ?_; (case k1 => k_asm); (case k2 => k_asm); k_whole); intro kF kN; (try ground_anew kF); (try have kX := kFor kF (by k_asm)))
  k_with "LeaveF" => (k_made; walk_at "LeaveF")
  k_with "zUR" => (have hcL9 := cLine_is; omega)
  k_with "zNE" => (refine neN ?_; (try dsimp only); first | with_reducible (first | (refine neA0 (by assumption) ?_; focus ((repeat (first | exact And.left | exact id | refine andR ?_)); done)) | (refine neB0 (by assumption) ?_; focus ((repeat (first | exact And.left | exact id | refine andR ?_)); done)) | (refine neC (by assumption) ?_; focus ((repeat (first | exact And.left | exact id | refine andR ?_)); done)) | (refine neCs (by assumption) ?_; focus ((repeat (first | exact And.left | exact id | refine andR ?_)); done)) | (refine neA1 (by assumption) ?_; focus ((repeat (first | exact And.left | exact id | refine andR ?_)); done)) | (refine neB1 (by assumption) ?_; focus ((repeat (first | exact And.left | exact id | refine andR ?_)); done)) | (refine neA2 (by assumption) ?_; focus ((repeat (first | exact And.left | exact id | refine andR ?_)); done)) | (refine neB2 (by assumption) ?_; focus ((repeat (first | exact And.left | exact id | refine andR ?_)); done)) | (refine neA3 (by assumption) ?_; focus ((repeat (first | exact And.left | exact id | refine andR ?_)); done)) | (refine neB3 (by assumption) ?_; focus ((repeat (first | exact And.left | exact id | refine andR ?_)); done))) | omega)
  k_with "zRM" => (with_reducible first | exact room1 (by assumption) (by assumption) (by decide) | exact room2 (by assumption) (by assumption) (by decide) | exact room3 (by assumption) (by assumption) (by decide) | exact room4 (by assumption) (by assumption) (by decide) | exact room5 (by assumption) (by assumption) (by decide) | exact room0 (by assumption))
  k_with "zALL" => first | assumption | with_reducible (first | (refine nwA0 (by assumption) ?_; focus ((refine andR ?_); (repeat (first | exact id | refine andR ?_)); done)) | (refine nwA1 (by assumption) ?_; focus ((refine andR ?_); (repeat (first | exact id | refine andR ?_)); done)) | (refine nwA2 (by assumption) ?_; focus ((refine andR ?_); (repeat (first | exact id | refine andR ?_)); done)) | (refine nwA3 (by assumption) ?_; focus ((refine andR ?_); (repeat (first | exact id | refine andR ?_)); done)))
  k_with "binaryOp RShift int int" => (k_here; (with_reducible show wpAny _ _ (binaryOp _ (Value.int a _) _) _ _ _); ((refine rsh1 ha ?zqn ?_); (case zqn => decide)))
  k_with "binaryOp BitXor int int" => (k_here; ((refine xor4 ha ?zqn ?_); (case zqn => decide)))
  k_with "call builtin:int.bit_length cons nil" => (first | (refine bitlenK (bits2 ?hb) ?_; (case hb => first | exact ha4 | decide | omega | (rcases ha with h | h <;> (rw [h]; try decide)))) | (refine bitlenK (bits3 ?hb) ?_; (case hb => first | exact ha4 | decide | omega | (rcases ha with h | h <;> (rw [h]; try decide)))) | (refine bitlenK (bits1 ?hb) ?_; (case hb => first | exact ha4 | decide | omega | (rcases ha with h | h <;> (rw [h]; try decide)))) | (refine bitlenK (bits0 ?hb) ?_; (case hb => first | exact ha4 | decide | omega | (rcases ha with h | h <;> (rw [h]; try decide)))))
  k_with "binaryOp Mult ref int" => (first | (with_unfolding_all ((first | (refine' KMa.mul (ws := []) ?F ?N ?l ?lo ?hi ?z ?e ?_; (case F => k_asm); (case N => k_asm); (case l => exact News.isList (by assumption) (by (focus first | ((repeat (first | exact memH | ((fail_if_success (refine nilX ?_)); refine memT ?_))); done) | ((repeat (first | assumption | ((fail_if_success (refine nilX ?_)); refine memT ?_))); done)))); (case lo => decide); (case hi => decide); (case z => (simp only [List.length_cons, List.length_nil]; decide)); (case e => with_unfolding_all exact rfl); k_whole) | (refine' KMa.mul (ws := [Value.int _ _]) ?F ?N ?l ?lo ?hi ?z ?e ?_; (case F => k_asm); (case N => k_asm); (case l => exact News.isList (by assumption) (by (focus first | ((repeat (first | exact memH | ((fail_if_success (refine nilX ?_)); refine memT ?_))); done) | ((repeat (first | assumption | ((fail_if_success (refine nilX ?_)); refine memT ?_))); done)))); (case lo => decide); (case hi => decide); (case z => (simp only [List.length_cons, List.length_nil]; decide)); (case e => with_unfolding_all exact rfl); k_whole) | (refine' KMa.mul (ws := [Value.int _ _, Value.int _ _]) ?F ?N ?l ?lo ?hi ?z ?e ?_; (case F => k_asm); (case N => k_asm); (case l => exact News.isList (by assumption) (by (focus first | ((repeat (first | exact memH | ((fail_if_success (refine nilX ?_)); refine memT ?_))); done) | ((repeat (first | assumption | ((fail_if_success (refine nilX ?_)); refine memT ?_))); done)))); (case lo => decide); (case hi => decide); (case z => (simp only [List.length_cons, List.length_nil]; decide)); (case e => with_unfolding_all exact rfl); k_whole)); intro D' h' F' N' l1; (try k_lt l1); (try k_sweep))))
  k_with "call builtin:divmod cons nil" => (k_here; (first | (with_unfolding_all refine' divmodV 0 1 ?k0 ?k1 ?k2 ?k3 ?k4 ?_; (case k0 => decide)) | (with_unfolding_all refine' divmodV 1 (a - 3) ?k0 ?k1 ?k2 ?k3 ?k4 ?_; (case k0 => ((rcases ha with h | h <;> (rw [h]; try decide)))))); (case k1 => k_asm); (case k2 => k_asm); (case k3 => decide); (case k4 => decide); k_whole; intro D' t1' t2' h' tk' F' N' l1; (try k_lt l1); (try k_sweep))
  k_with "call builtin:list.append cons nil" => (k_dflt (refine' append_K ?zqk1 ?zqk2 ?zqk3 ?_ ?zqz; (case zqk1 => k_asm); (case zqk2 => k_asm); (case zqk3 => k_upd); (case zqz => size_fits)); intro h' F' N'; (try k_sweep))
  k_with "exec FunctionDef" => (k_here; (refine' nestDef_K ?d0 ?k0 ?a0 ?_; (case d0 => with_unfolding_all exact rfl); (case k0 => with_unfolding_all exact rfl); (case a0 => with_unfolding_all exact rfl)); (with_unfolding_all refine' nest_K ?F ?N ?T ?C ?cd ?U ?t ?n ?cl ?_); (case F => k_asm); (case N => k_asm); (case T => k_asm); (case cd => with_unfolding_all exact rfl);  (case C => kn_code);  (case U => k_updF);  (case t => kn_triples);  (case n => kn_among);  (case cl => with_unfolding_all exact rfl); k_whole; intro f' c' oc' vs' t' ct' dc' h' tk' F' N' d1' d2' l1 l2; (try dsimp only at N'); (try k_lt l1); (try k_lt2 l2))
  k_with "call ref" => (first | k_dflt (refine' code_defF ?k1 ?k2 ?k3 ?k4 ?k5 ?kA ?kZ ?kF ?kK ?k6 ?k7 ?k8 ?k9 ?kB ?_ ?c2 ?c3 ?c4 ?c5; (case kA => exact rfl); (case kZ => first | with_reducible assumption | exact ktrDepth); (case kF => exact rfl); (case kK => first | exact rfl | assumption); (case k1 => k_asm); (case k2 => k_asm); (case k3 => k_asm); (case k4 => k_asm); (case k5 => k_asm); (case k6 => k_is); (case k7 => k_is); (case k8 => ktr_room); (case k9 => (first | exact BindsTo.of_eq (binds := []) rfl | exact BindsTo.of_eq (binds := [(_, _)]) rfl | exact BindsTo.of_eq (binds := [(_, _), (_, _)]) rfl | exact BindsTo.of_eq (binds := [(_, _), (_, _), (_, _)]) rfl | exact BindsTo.of_eq (binds := [(_, _), (_, _), (_, _), (_, _)]) rfl | exact BindsTo.of_eq (binds := [(_, _), (_, _), (_, _), (_, _), (_, _)]) rfl | exact BindsTo.of_eq rfl)); (case c5 => decide); (case kB => exact locs rfl); (case c2 => exact rfl); (case c3 => exact rfl); (case c4 => exact rfl); k_whole; intro qr er g' L' h' tk' FG' mz F' N' B' X' T' az hzd hzu qz ez; (try dsimp only [ktrTop] at hzu); (try k_lift B')) | (k_dflt (refine' code_defCF ?k1 ?k2 ?k3 ?k4 ?k5 ?kA ?kZ ?kF ?kK ?k6 ?k7 ?k8 ?k9 ?kB ?kD ?_ ?c2 ?c3 ?c4; (case kA => exact rfl); (case kZ => first | with_reducible assumption | exact ktrDepth); (case kF => exact rfl); (case kK => first | exact rfl | assumption); (case k1 => k_asm); (case k2 => k_asm); (case k3 => k_asm); (case k4 => k_asm); (case k5 => k_asm); (case k6 => k_is); (case k7 => k_is); (case k8 => ktr_room); (case k9 => (first | exact BindsTo.of_eq (binds := []) rfl | exact BindsTo.of_eq (binds := [(_, _)]) rfl | exact BindsTo.of_eq (binds := [(_, _), (_, _)]) rfl | exact BindsTo.of_eq (binds := [(_, _), (_, _), (_, _)]) rfl | exact BindsTo.of_eq (binds := [(_, _), (_, _), (_, _), (_, _)]) rfl | exact BindsTo.of_eq (binds := [(_, _), (_, _), (_, _), (_, _), (_, _)]) rfl | exact BindsTo.of_eq rfl)); (case kB => exact rfl); (case kD => decide +kernel); (case c2 => exact rfl); (case c3 => exact rfl); (case c4 => exact rfl); k_whole; intro qr er g' L' h' tk' cells' FG' F' N' Y' B' X' T' l1 az hzd hzu qz ez; (try dsimp only [ktrTop] at hzu); (try k_lt l1); k_cells Y'; (try simp only [List.cons_append, List.nil_append] at N'); (try k_lift B'))) | (k_dflt (refine' code_nestF ?k1 ?k2 ?k3 ?k4 ?k5 ?kA ?kZ ?kF ?kK ?k6 ?k7 ?k8 ?k9 ?kB ?_ ?c2 ?c3 ?c4 ?c5; (case kA => exact rfl); (case kZ => first | with_reducible assumption | exact ktrDepth); (case kF => exact rfl); (case kK => exact rfl); (case k1 => k_asm); (case k2 => k_asm); (case k3 => k_asm); (case k4 => k_asm); (case k5 => k_asm); (case k6 => k_mem); (case k7 => exact codeRec_news (by k_asm) (by k_mem) (by assumption) (by assumption)); (case k8 => ktr_room); (case k9 => (first | exact BindsTo.of_eq (binds := []) rfl | exact BindsTo.of_eq (binds := [(_, _)]) rfl | exact BindsTo.of_eq (binds := [(_, _), (_, _)]) rfl | exact BindsTo.of_eq (binds := [(_, _), (_, _), (_, _)]) rfl | exact BindsTo.of_eq (binds := [(_, _), (_, _), (_, _), (_, _)]) rfl | exact BindsTo.of_eq (binds := [(_, _), (_, _), (_, _), (_, _), (_, _)]) rfl | exact BindsTo.of_eq rfl)); (case c5 => decide); (case kB => exact locs rfl); (case c2 => exact rfl); (case c3 => exact rfl); (case c4 => exact rfl); k_whole; intro qr er g' L' h' tk' FG' mz F' N' B' X' T' az hzd hzu qz ez; (try dsimp only [ktrTop] at hzu); (try k_lift B'))))
  k_with "pyIter ref" => ((rename Fr _ _ _ _ => lF'); (rename News _ _ _ _ => lN'); (first | (with_unfolding_all refine' iter_rev2 ?zqh lF' lN' ?zqa ?zqm ?zqc ?zqd ?_) | (fail)); (case zqh => with_unfolding_all exact rfl); (case zqm => (focus first | ((repeat (first | exact memH | ((fail_if_success (refine nilX ?_)); refine memT ?_))); done) | ((repeat (first | assumption | ((fail_if_success (refine nilX ?_)); refine memT ?_))); done))); (case zqa => with_unfolding_all assumption); (case zqc => with_unfolding_all exact rfl); (case zqd => with_unfolding_all exact rfl); clear lF' lN')
  k_with "UnrEnd" => ((rename Fr _ _ _ _ => lF'); (rename News _ _ _ _ => lN'); (first | (with_unfolding_all refine unrR0 lF' lN' ?zqa ⟨?zqm, ?_⟩) | (with_unfolding_all refine unrR1 lF' lN' ?zqa ⟨?zqm, ?_⟩) | (with_unfolding_all refine unrR2 lF' lN' ?zqa ⟨?zqm, ?_⟩)); (case zqm => (focus first | ((repeat (first | exact memH | ((fail_if_success (refine nilX ?_)); refine memT ?_))); done) | ((repeat (first | assumption | ((fail_if_success (refine nilX ?_)); refine memT ?_))); done))); (case zqa => with_unfolding_all assumption); clear lF' lN')
  have ret2 : ∀ (D : Addr) (t1 t2 : Tok) (ps1 ps2 : Array Value) (h : Heap) (tk : Nat) (v1 v2 : Int), v1 = a.fdiv 3 → v2 = a.fmod 3 → Fr h₀ L h m → News h₀ L h ((D, tup2 v1 v2 t1 t2 0) :: (54, tabObj ps1) :: (47, tabObj ps2) :: nw) → (∀ p ∈ ((54, tabObj ps1) :: (47, tabObj ps2) :: nw : List (Addr × Obj)), p.1 < D) → Q (.ref D) { s with heap := h, toks := tk } := by
    intro D t1 t2 ps1 ps2 h tk v1 v2 e1 e2
    subst e1
    subst e2
    exact ret D t1 t2 ps1 ps2 h tk
  clear ret
  k_dflt (refine' code_defF ?k1 ?k2 ?k3 ?k4 ?k5 ?kA ?kZ ?kF ?kK ?k6 ?k7 ?k8 ?k9 ?kB ?_ ?c2 ?c3 ?c4 ?c5; (case kA => exact rfl); (case kZ => first | with_reducible assumption | exact ktrDepth); (case kF => exact rfl); (case kK => first | exact rfl | assumption); (case k1 => k_asm); (case k2 => k_asm); (case k3 => k_asm); (case k4 => k_asm); (case k5 => k_asm); (case k6 => k_is); (case k7 => k_is); (case k8 => ktr_room); (case k9 => (first | exact BindsTo.of_eq (binds := []) rfl | exact BindsTo.of_eq (binds := [(_, _)]) rfl | exact BindsTo.of_eq (binds := [(_, _), (_, _)]) rfl | exact BindsTo.of_eq (binds := [(_, _), (_, _), (_, _)]) rfl | exact BindsTo.of_eq (binds := [(_, _), (_, _), (_, _), (_, _)]) rfl | exact BindsTo.of_eq (binds := [(_, _), (_, _), (_, _), (_, _), (_, _)]) rfl | exact BindsTo.of_eq rfl)); (case c5 => decide); (case kB => exact locs rfl); (case c2 => exact rfl); (case c3 => exact rfl); (case c4 => exact rfl); k_whole; intro qr er g' L' h' tk' FG' mz F' N' B' X' T' az hzd hzu qz ez; (try dsimp only [ktrTop] at hzu); (try k_lift B'))
  k_steps
  all_goals (rename Fr _ _ _ _ => lF'; rename News _ _ _ _ => lN'; refine ret2 _ _ _ _ _ _ _ _ _ ?ze1 ?ze2 lF' (news_end lN' (.head _) (by (focus first | ((repeat (first | exact memH | ((fail_if_success (refine nilX ?_)); refine memT ?_))); done) | ((repeat (first | assumption | ((fail_if_success (refine nilX ?_)); refine memT ?_))); done))) (by (focus first | ((repeat (first | exact memH | ((fail_if_success (refine nilX ?_)); refine memT ?_))); done) | ((repeat (first | assumption | ((fail_if_success (refine nilX ?_)); refine memT ?_))); done))) (by (focus (intro p hp; (repeat (first | exact hp | refine memT ?_)); done)))) ?zeo)
  case ze1 => (rcases ha with h | h <;> (rw [h]; try decide))
  case ze2 => (rcases ha with h | h <;> (rw [h]; try decide))
  case zeo => (refine ord_end (by assumption) ?_; (focus ((refine andR ?_); (repeat (first | exact id | refine andR ?_)); done)))
end ZD2
section ZP4
open PySem PySem.W PySem.Spec PySem.Calls PyProof.Rows
set_option rowWalk.seconds 0
set_option compiler.extract_closed false
set_option maxRecDepth 100000
set_option maxHeartbeats 8000000
set_option pp.deepTerms false
set_option pp.deepTerms.threshold 10
set_option pp.maxSteps 20000
noncomputable def frontL (n : Int) : List Int := if n = 1 then [23, 23] else if n = 2 then [52] else if n = 3 then [52, 23] else [52, 23, 23]
noncomputable def FrontQ (a q r : Int) : Prop := (a = 2 ∧ q = 0 ∧ r = 2) ∨ (a = 3 ∧ q = 1 ∧ r = 0) ∨ (a = 4 ∧ q = 1 ∧ r = 1) ∨ (a = 5 ∧ q = 1 ∧ r = 2)
theorem fq_bd {a q r : Int} (h : FrontQ a q r) : 0 ≤ q ∧ q ≤ 1 ∧ 0 ≤ r ∧ r ≤ 2 := by
  rcases h with ⟨_, rfl, rfl⟩ | ⟨_, rfl, rfl⟩ | ⟨_, rfl, rfl⟩ | ⟨_, rfl, rfl⟩ <;> decide
theorem fq_eq {n q r : Int} (h : FrontQ (1 + n) q r) : frontL n = List.replicate q.toNat 52 ++ List.replicate r.toNat 23 := by
  have hn : ∀ k : Int, 1 + n = k → n = k - 1 := by intro k h; omega
  rcases h with ⟨e, rfl, rfl⟩ | ⟨e, rfl, rfl⟩ | ⟨e, rfl, rfl⟩ | ⟨e, rfl, rfl⟩ <;> (rw [hn _ e]; rfl)
theorem divAB {w : World} {mean : ExcName → Option Value} {mg mb : Str → Option Value} (dp un : Nat) (gd : Option (List Code)) (cn : Str) (cs : Scope) (ca : Addr) (ccd : Value) (cl : List (Str × Addr)) (outer : List Env) (A₀ : Around) (base h₀ : Heap) (L : Addr) (m : Str → Option Value) (s : Shared) (Q E : Value → Shared → Prop) (nw : List (Addr × Obj))
  (B : Below A₀ base outer h₀) (F : Fr h₀ L s.heap m) (X : (Mine.hp w.params).In h₀) (N : News h₀ L s.heap ((54, tabObj #[]) :: (47, tabObj #[]) :: nw)) (T : Top topProg (looseW Mine.vw Mine.lo ++ (recsOf Mine.vw).map (·.name) ++ (litsOf Mine.vw).map (·.1) ++ (clssOf Mine.vw (looseW Mine.vw Mine.lo)).map (·.name)) mean mg mb h₀) (hk : cs.kind = .function)
  (C1 : CodeHd base 58 54) (C2 : CodeHd base 51 47) (n54 : ∀ p ∈ nw, p.1 ≠ 54) (n47 : ∀ p ∈ nw, p.1 ≠ 47)
  (a : Int) (ta tb : Tok) (ha : a = 2 ∨ a = 3 ∨ a = 4 ∨ a = 5) (hd : dp + 20 < recursionLimit) (hu : un + 120 < cLine)
  (ret : ∀ (q r : Int) (D : Addr) (t1 t2 : Tok) (ps1 ps2 : Array Value) (h : Heap) (tk : Nat), FrontQ a q r → Fr h₀ L h m → News h₀ L h ((D, tup2 q r t1 t2 0) :: (54, tabObj ps1) :: (47, tabObj ps2) :: nw) → (∀ p ∈ ((54, tabObj ps1) :: (47, tabObj ps2) :: nw : List (Addr × Obj)), p.1 < D) → Q (.ref D) { s with heap := h, toks := tk }) :
  wpAny (model Mine.rw.prog w) (ktrTop dp un gd cn cs L ca ccd cl outer) (call (.ref 73) [.int a ta, .int 3 tb]) Q E s := by
  rcases ha with ha | ha | ha | ha
  · exact divA _ _ _ _ _ _ _ _ _ _ _ _ _ _ _ _ _ _ B F X N T hk C1 C2 n54 n47 a ta tb (.inl ha) hd hu (fun D t1 t2 ps1 ps2 h tk => ret _ _ D t1 t2 ps1 ps2 h tk (by subst ha; exact .inl ⟨rfl, rfl, rfl⟩))
  · exact divA _ _ _ _ _ _ _ _ _ _ _ _ _ _ _ _ _ _ B F X N T hk C1 C2 n54 n47 a ta tb (.inr ha) hd hu (fun D t1 t2 ps1 ps2 h tk => ret _ _ D t1 t2 ps1 ps2 h tk (by subst ha; exact .inr (.inl ⟨rfl, rfl, rfl⟩)))
  · exact divB _ _ _ _ _ _ _ _ _ _ _ _ _ _ _ _ _ _ B F X N T hk C1 C2 n54 n47 a ta tb (.inl ha) hd hu (fun D t1 t2 ps1 ps2 h tk => ret _ _ D t1 t2 ps1 ps2 h tk (by subst ha; exact .inr (.inr (.inl ⟨rfl, rfl, rfl⟩))))
  · exact divB _ _ _ _ _ _ _ _ _ _ _ _ _ _ _ _ _ _ B F X N T hk C1 C2 n54 n47 a ta tb (.inr ha) hd hu (fun D t1 t2 ps1 ps2 h tk => ret _ _ D t1 t2 ps1 ps2 h tk (by subst ha; exact .inr (.inr (.inr ⟨rfl, rfl, rfl⟩))))
noncomputable def AllGt (d : Nat) : List (Addr × Obj) → Prop
  | [] => True
  | p :: r => @LT.lt Nat _ d p.1 ∧ AllGt d r
theorem gtAll {d : Nat} {l : List (Addr × Obj)} (h : AllGt d l) : ∀ p ∈ l, @LT.lt Nat _ d p.1 := by
  induction l with
  | nil => intro p hp; cases hp
  | cons q r ih => intro p hp; rcases List.mem_cons.mp hp with rfl | hp; exact h.1; exact ih h.2 p hp
theorem g8 {L a : Nat} (h : L + 8 < a) : L < a := by omega
theorem neG {L b : Nat} {l : List (Addr × Obj)} (h : AllGt L l) (hb : b < L) : ∀ p ∈ l, p.1 ≠ b := fun p hp => Nat.ne_of_gt (Nat.lt_trans hb (gtAll h p hp))
theorem sent4 {x : Int} (hx : x = 0 ∨ x = 1 ∨ x = 2 ∨ x = 3) : 1 + (1 + x) = 2 ∨ 1 + (1 + x) = 3 ∨ 1 + (1 + x) = 4 ∨ 1 + (1 + x) = 5 := by rcases hx with rfl | rfl | rfl | rfl <;> decide
theorem fmod4 (x : Int) : x.fmod 4 = 0 ∨ x.fmod 4 = 1 ∨ x.fmod 4 = 2 ∨ x.fmod 4 = 3 := by
  rw [Int.fmod_eq_emod_of_nonneg x (by decide : (0 : Int) ≤ 4)]; omega
theorem part_front {w : World} {mean : ExcName → Option Value} {mg mb : Str → Option Value} {base h₀ : Heap} {L fa : Addr} {cd : Value} {m : Str → Option Value} {s : Shared} {Q : Flow → Shared → Prop} {E : Value → Shared → Prop}
  {oc1 oc4 oc5 oc6 oc7 oc8 : Obj} {dA RA a0 a1 a2 a3 yA : Addr} {od oR o0 o1 o2 o3 oy : Obj} {x4 : Int} {tS : Tok} {v5 : Option Value} {rest : List Stmt}
  (B : Below callerA h₀ [] h₀) (X : (Mine.hp w.params).In h₀) (T : Top topProg (looseW Mine.vw Mine.lo ++ (recsOf Mine.vw).map (·.name) ++ (litsOf Mine.vw).map (·.1) ++ (clssOf Mine.vw (looseW Mine.vw Mine.lo)).map (·.name)) mean mg mb h₀) (F : Fr h₀ L s.heap (fun y => if y = Str.ofString "symbols" then some (.ref yA) else if y = Str.ofString "sent" then some (.int (1 + x4.fmod 4) tS) else m y))
  (N : News h₀ L s.heap [(yA, oy), (RA, oR), (a0, o0), (a1, o1), (a2, o2), (a3, o3), (dA, od), (L + 1 + 1 + 1 + 1 + 1 + 1 + 1 + 1, oc8), (L + 1 + 1 + 1 + 1 + 1 + 1 + 1, oc7), (L + 1 + 1 + 1 + 1 + 1 + 1, oc6), (L + 1 + 1 + 1 + 1 + 1, oc5), (L + 1 + 1 + 1 + 1, oc4), (L + 1, oc1), (54, tabObj #[]), (47, tabObj #[])])
  (C1 : CodeHd h₀ 58 54) (C2 : CodeHd h₀ 51 47) (hlt : @LT.lt Nat _ (@HAdd.hAdd Nat Nat Nat _ L 8) yA ∧ @LT.lt Nat _ (@HAdd.hAdd Nat Nat Nat _ L 8) RA ∧ @LT.lt Nat _ (@HAdd.hAdd Nat Nat Nat _ L 8) a0 ∧ @LT.lt Nat _ (@HAdd.hAdd Nat Nat Nat _ L 8) a1 ∧ @LT.lt Nat _ (@HAdd.hAdd Nat Nat Nat _ L 8) a2 ∧ @LT.lt Nat _ (@HAdd.hAdd Nat Nat Nat _ L 8) a3 ∧ @LT.lt Nat _ (@HAdd.hAdd Nat Nat Nat _ L 8) dA) (h54 : @LT.lt Nat _ 54 L ∧ @LT.lt Nat _ 47 L)
  (e5 : oc5.data = .cell v5)
  (hE : PassesOwn (model Mine.rw.prog w) (callerA.deeper (envOfC drec.name drec.scope L fa cd)) (envOfC drec.name drec.scope L fa cd) E)
  (cont : ∀ (fA : Addr) (fv : List Value) (kf : Nat) (oc : Obj) (m1 : Str → Option Value) (ps1 ps2 : Array Value) (h : Heap) (tk : Nat), IntsAre fv (frontL (1 + x4.fmod 4)) → oc.data = .cell (some (.ref fA)) → Fr h₀ L h (fun y => if y = Str.ofString "symbols" then some (.ref yA) else m1 y) → 
    News h₀ L h [(fA, W.listOf fv.toArray kf), (yA, oy), (RA, oR), (a0, o0), (a1, o1), (a2, o2), (a3, o3), (dA, od), (L + 1 + 1 + 1 + 1 + 1 + 1 + 1 + 1, oc8), (L + 1 + 1 + 1 + 1 + 1 + 1 + 1, oc7), (L + 1 + 1 + 1 + 1 + 1 + 1, oc6), (L + 1 + 1 + 1 + 1 + 1, oc), (L + 1 + 1 + 1 + 1, oc4), (L + 1, oc1), (54, tabObj ps1), (47, tabObj ps2)] → @LT.lt Nat _ (@HAdd.hAdd Nat Nat Nat _ L 8) fA → wpAny (model Mine.rw.prog w) (callerA.deeper (envOfC drec.name drec.scope L fa cd)) (execs rest (envOfC drec.name drec.scope L fa cd)) Q E { s with heap := h, toks := tk }) :
  wpAny (model Mine.rw.prog w) (callerA.deeper (envOfC drec.name drec.scope L fa cd)) (execs ((drec.body.drop 9).take 2 ++ rest) (envOfC drec.name drec.scope L fa cd)) Q E s := by
  unfold drec at hE ⊢
  dsimp only at hE
  dsimp only [List.drop, List.take, List.cons_append, List.nil_append]
  have N2 : News h₀ L s.heap ((54, tabObj #[]) :: (47, tabObj #[]) :: [(yA, oy), (RA, oR), (a0, o0), (a1, o1), (a2, o2), (a3, o3), (dA, od), (L + 1 + 1 + 1 + 1 + 1 + 1 + 1 + 1, oc8), (L + 1 + 1 + 1 + 1 + 1 + 1 + 1, oc7), (L + 1 + 1 + 1 + 1 + 1 + 1, oc6), (L + 1 + 1 + 1 + 1 + 1, oc5), (L + 1 + 1 + 1 + 1, oc4), (L + 1, oc1)]) := fun p hp => N p (SubL.mem (by k_subL) p hp)
  have hG : AllGt L [(yA, oy), (RA, oR), (a0, o0), (a1, o1), (a2, o2), (a3, o3), (dA, od), (L + 1 + 1 + 1 + 1 + 1 + 1 + 1 + 1, oc8), (L + 1 + 1 + 1 + 1 + 1 + 1 + 1, oc7), (L + 1 + 1 + 1 + 1 + 1 + 1, oc6), (L + 1 + 1 + 1 + 1 + 1, oc5), (L + 1 + 1 + 1 + 1, oc4), (L + 1, oc1)] := ⟨g8 hlt.1, g8 hlt.2.1, g8 hlt.2.2.1, g8 hlt.2.2.2.1, g8 hlt.2.2.2.2.1, g8 hlt.2.2.2.2.2.1, g8 hlt.2.2.2.2.2.2, Nat.lt_add_of_pos_right (k := 8) (by decide), Nat.lt_add_of_pos_right (k := 7) (by decide), Nat.lt_add_of_pos_right (k := 6) (by decide), Nat.lt_add_of_pos_right (k := 5) (by decide), Nat.lt_add_of_pos_right (k := 4) (by decide), Nat.lt_add_of_pos_right (k := 1) (by decide), True.intro⟩
  have h54' := neG hG h54.1
  have h47' := neG hG h54.2
  have hs4 := sent4 (fmod4 x4)
  clear N hG
  k_with_none
  k_with "execs cons" => (k_here; first | k_gentoks | (k_made; walk_at "execs cons") | ((with_reducible refine execs_consF ?_); intro qz))
  k_with "storeName" => (k_here; (fail_if_success (k_extra "unfolded")); k_dflt (first | (refine' storeX_LF ?F ?N ?_ ?a ?b; (case F => k_asm); (case N => k_asm); (case a => rfl); (case b => rfl); k_whole; intro h' tk' mz F' N'; (try k_sweep)) | (refine' storeX_CF ?F ?N ?c ?U ?d ?_ ?a ?b; (case a => rfl); (case b => rfl); (case F => k_asm); (case N => k_asm); (case c => rfl); (case U => k_updF); (case d => k_asm); k_whole; intro h' o' F' N' d'; (try dsimp only at N'); (try k_sweep))))
  k_with "LeaveF" => (k_dflt (refine' leaveF_ ?k1 ?k2 ?_; (case k1 => k_asm); (case k2 => k_asm); k_whole); intro kF kN; (try ground_anew kF); (try have kX := kFor kF (by k_asm)))
  k_with "LeaveF" => (k_made; walk_at "LeaveF")
  k_with "zUR" => (have hcL9 := cLine_is; omega)
  k_with "zNE" => (refine neN ?_; (try dsimp only); first | with_reducible (first | (refine neA0 (by assumption) ?_; focus ((repeat (first | exact And.left | exact id | refine andR ?_)); done)) | (refine neB0 (by assumption) ?_; focus ((repeat (first | exact And.left | exact id | refine andR ?_)); done)) | (refine neC (by assumption) ?_; focus ((repeat (first | exact And.left | exact id | refine andR ?_)); done)) | (refine neCs (by assumption) ?_; focus ((repeat (first | exact And.left | exact id | refine andR ?_)); done)) | (refine neA1 (by assumption) ?_; focus ((repeat (first | exact And.left | exact id | refine andR ?_)); done)) | (refine neB1 (by assumption) ?_; focus ((repeat (first | exact And.left | exact id | refine andR ?_)); done)) | (refine neA2 (by assumption) ?_; focus ((repeat (first | exact And.left | exact id | refine andR ?_)); done)) | (refine neB2 (by assumption) ?_; focus ((repeat (first | exact And.left | exact id | refine andR ?_)); done)) | (refine neA3 (by assumption) ?_; focus ((repeat (first | exact And.left | exact id | refine andR ?_)); done)) | (refine neB3 (by assumption) ?_; focus ((repeat (first | exact And.left | exact id | refine andR ?_)); done))) | omega)
  k_with "zRM" => (with_reducible first | exact room1 (by assumption) (by assumption) (by decide) | exact room2 (by assumption) (by assumption) (by decide) | exact room3 (by assumption) (by assumption) (by decide) | exact room4 (by assumption) (by assumption) (by decide) | exact room5 (by assumption) (by assumption) (by decide) | exact room0 (by assumption))
  k_with "zALL" => first | assumption | with_reducible (first | (refine nwA0 (by assumption) ?_; focus ((refine andR ?_); (repeat (first | exact id | refine andR ?_)); done)) | (refine nwA1 (by assumption) ?_; focus ((refine andR ?_); (repeat (first | exact id | refine andR ?_)); done)) | (refine nwA2 (by assumption) ?_; focus ((refine andR ?_); (repeat (first | exact id | refine andR ?_)); done)) | (refine nwA3 (by assumption) ?_; focus ((refine andR ?_); (repeat (first | exact id | refine andR ?_)); done)))
  k_with "call ref" => (k_here; (with_reducible show wpAny _ _ (call (Value.ref 73) [Value.int _ _, Value.int _ _]) _ _ _); ((rename Fr _ _ _ _ => lF'); (with_unfolding_all refine' divAB _ _ _ _ _ _ _ _ _ _ _ _ _ _ _ _ _ _ ?k1 ?k2 ?k3 ?k4 ?k5 ?kK C1 C2 h54' h47' _ _ _ hs4 ?kd ?ku ?_); (case k1 => with_unfolding_all assumption); (case k2 => with_unfolding_all assumption); (case k3 => with_unfolding_all assumption); (case k4 => with_unfolding_all assumption); (case k5 => with_unfolding_all assumption); (case kK => first | exact rfl | assumption); (case kd => ktr_room); (case ku => ktr_units); intro fq fr fD t8 u8 ps1 ps2 h8 tk8 hfq F8 N8 hl8; (have hbd := fq_bd hfq); (replace F8 := frAs lF' (by with_unfolding_all exact rfl) F8); (replace N8 := newsAs lF' (by with_unfolding_all exact rfl) N8); clear lF' N2; (try k_lt hl8); (try dsimp only); (try k_sweep)))
  k_with "binaryOp Mult ref int" => (k_here; k_dflt (refine' KMa.mul ?F ?N ?l ?lo ?hi ?z ?e ?_; (case F => k_asm); (case N => k_asm); (case l => exact News.isList (by assumption) (by (focus first | ((repeat (first | exact memH | ((fail_if_success (refine nilX ?_)); refine memT ?_))); done) | ((repeat (first | assumption | ((fail_if_success (refine nilX ?_)); refine memT ?_))); done)))); (case lo => omega); (case hi => omega); (case z => (simp only [List.length_cons, List.length_nil]; omega)); (case e => exact rfl); k_whole); intro D' h' F' N' l1; (try k_lt l1); (try k_sweep))
  k_with "binaryOp Add ref ref" => (k_here; k_dflt (refine' kmk_add_ints ?F ?N ?a ?b ?i ?j ?_ ?z; (case F => k_asm); (case N => k_asm); (case a => exact News.isList (by assumption) (by (focus first | ((repeat (first | exact memH | ((fail_if_success (refine nilX ?_)); refine memT ?_))); done) | ((repeat (first | assumption | ((fail_if_success (refine nilX ?_)); refine memT ?_))); done)))); (case b => exact News.isList (by assumption) (by (focus first | ((repeat (first | exact memH | ((fail_if_success (refine nilX ?_)); refine memT ?_))); done) | ((repeat (first | assumption | ((fail_if_success (refine nilX ?_)); refine memT ?_))); done)))); (case i => exact rep1 _); (case j => exact rep1 _); (case z => (simp only [sizeLine_eq, List.length_replicate]; omega))); intro fA ws' h' F' N' l1 hI'; (try k_lt l1); (try k_sweep))
  k_steps
  rename Fr _ _ _ _ => lF'
  rename News _ _ _ _ => lN'
  have F9 := fr_put (a := Str.ofString "symbols") lF' (by with_unfolding_all exact rfl)
  refine cont fA ws' 0 ?xzo0 _ ps1 ps2 _ _ ?zhI0 ?zhd0 F9 ?zhN0 ?zhl0
  case zhd0 => assumption
  case zhN0 => exact fun p hp => lN' p (SubL.mem (by k_subL) p hp)
  case zhl0 => omega
  case zhI0 => (rw [fq_eq hfq]; exact hI')
end ZP4
section ZP5
open PySem PySem.W PySem.Spec PySem.Calls PyProof.Rows
set_option rowWalk.seconds 0
set_option compiler.extract_closed false
set_option maxRecDepth 100000
set_option maxHeartbeats 8000000
set_option pp.deepTerms false
set_option pp.deepTerms.threshold 10
set_option pp.maxSteps 20000
noncomputable def sg (a : Str) : Int := (signAt a).getD 0
noncomputable def symsL (F : List Int) (Rs : List (List Str)) : List Int := (Rs.map fun R => F ++ R.map sg ++ [0]).flatten
theorem symsL_snoc (F : List Int) (Rs : List (List Str)) (R : List Str) : symsL F (Rs ++ [R]) = symsL F Rs ++ (F ++ R.map sg ++ [0]) := by simp [symsL]
noncomputable def JT (base : List (Addr × Obj)) (F : List Int) (Rs : List (List Str)) (i : Nat) (ys : List Value) (nw : List (Addr × Obj)) : Prop := nw = base ∧ IntsAre ys (symsL F (Rs.take i)) ∧ ys.length ≤ i * 50 ∧ i ≤ 4
theorem map_rest {prog : Program} {w : World} {A : Around} {h₀ : Heap} {L : Addr} {m : Str → Option Value} {env : Env} {elt : Expr} {x : Str} {scope : Scope} {cl : List (Str × Addr)} {s : Shared} {S : List (Addr × Obj) → Prop} {Fin : List Value → List (Addr × Obj) → Prop} {news : List (Addr × Obj)} {vs : List Value} {as : List Str} (g : Str → Int) (hs : StrsAre vs as) (hS : S news)
    (turn : ∀ a t I oI C oC D m₂ ys h tk (E' : Value → Shared → Prop), a ∈ as → LCg.NsObj oC m₂ → m₂ x = some (.str a t) → Fr h₀ L h m → News h₀ L h ((I, oI) :: (C, oC) :: (D, LCg.lst ys) :: news) → LCg.Off3 I C D news → ((@Ne Nat I C) ∧ (@Ne Nat I D) ∧ (@Ne Nat C D)) →
      wpAny (model prog w) A (eval elt (compEnvC scope cl C env)) (LCg.CompEnd h₀ L m { s with heap := h, toks := tk } I oI C oC D (LCg.lst ys) (fun _ => True) (fun y news' => news' = news ∧ ∃ t : Tok, y = .int (g a) t)) E' { s with heap := h, toks := tk })
    (fin : ∀ ys, IntsAre ys (as.map g) → Fin ys news) : LCg.CompRest prog w A h₀ L m env elt x scope cl s S (fun i v => vs.toArray[i]? = some v) Fin vs.toArray.size 0 [] news := by
  have hlen : vs.toArray.size = as.length := by rw [List.size_toArray]; exact hs.length
  rw [hlen]
  have key : ∀ (j i : Nat) (ys : List Value), i + j = as.length → IntsAre ys ((as.take i).map g) → LCg.CompRest prog w A h₀ L m env elt x scope cl s S (fun i v => vs.toArray[i]? = some v) Fin j i ys news := by
    intro j
    induction j with
    | zero =>
      intro i ys hi hy
      obtain rfl : i = as.length := by omega
      rw [List.take_length] at hy
      exact LCg.CompRest.zero (fin ys hy)
    | succ j ih =>
      intro i ys hi hy
      refine LCg.CompRest.succ ?_
      intro v I oI C oC D m₂ h tk E' hv hC hx F N off ne
      have hlt : i < as.length := by omega
      obtain ⟨t, e⟩ := hs.get i as[i] (List.getElem?_eq_getElem hlt)
      have hv' : vs[i]? = some v := by simpa using hv
      rw [e] at hv'
      injection hv' with hv'
      subst hv'
      refine wpAny_mono (turn as[i] t I oI C oC D m₂ ys h tk E' (List.getElem_mem hlt) hC hx F N off ne) (fun y s₂ hq => ?_) fun _ _ e => e
      obtain ⟨h', tk', nw, e, F', N', off', _, hn, t', rfl⟩ := hq
      subst hn
      refine ⟨h', tk', nw, e, F', N', off', hS, ih (i + 1) _ (by omega) ?_⟩
      rw [List.take_add_one, List.getElem?_eq_getElem hlt, List.map_append]
      exact ints_snoc hy
  exact key as.length 0 [] (by omega) .nil
theorem row_at {a0 a1 a2 a3 : Addr} {v0 v1 v2 v3 : List Value} {R0 R1 R2 R3 : List Str} {l : List (Addr × Obj)} {i : Nat} {v : Value} (hv : #[Value.ref a0, .ref a1, .ref a2, .ref a3][i]? = some v)
    (m0 : (a0, LCg.lst v0) ∈ l) (m1 : (a1, LCg.lst v1) ∈ l) (m2 : (a2, LCg.lst v2) ∈ l) (m3 : (a3, LCg.lst v3) ∈ l) (s0 : StrsAre v0 R0) (s1 : StrsAre v1 R1) (s2 : StrsAre v2 R2) (s3 : StrsAre v3 R3) :
    ∃ ax vx Rx, v = .ref ax ∧ (ax, LCg.lst vx) ∈ l ∧ StrsAre vx Rx ∧ [R0, R1, R2, R3].take (i + 1) = [R0, R1, R2, R3].take i ++ [Rx] ∧ Rx ∈ [R0, R1, R2, R3] ∧ i < 4 := by
  match i, hv with
  | 0, hv => exact ⟨a0, v0, R0, by simpa using hv.symm, m0, s0, rfl, by simp, by decide⟩
  | 1, hv => exact ⟨a1, v1, R1, by simpa using hv.symm, m1, s1, rfl, by simp, by decide⟩
  | 2, hv => exact ⟨a2, v2, R2, by simpa using hv.symm, m2, s2, rfl, by simp, by decide⟩
  | 3, hv => exact ⟨a3, v3, R3, by simpa using hv.symm, m3, s3, rfl, by simp, by decide⟩
theorem ListComp_TF {prog : Program} {w : World} {A : Around} {E : Value → Shared → Prop} {s : Shared} {h₀ : Heap} {L : Addr} {m : Str → Option Value} {env : Env} {i0 i1 : Expr} {r x : Str} {ep px pr : Pos} {scope : Scope} {cl : List (Str × Addr)} {pos : Pos} {Q : Value → Shared → Prop} (_F : Fr h₀ L s.heap m) (J : Nat → List Value → List (Addr × Obj) → Prop)
    (hclos : closureFor scope env = pure cl) (hcell : ∀ y ∈ scope.names, y.2 ≠ .cell) (hkind : scope.kind = .function) (hr : scope.names.lookup r = some .local) (hx : scope.names.lookup x = some .local) (hd : (x == ("__debug__" : Str)) = false)
    (hnames : ∀ y ∈ scope.names, y.2 = .local → scope.names.lookup y.1 = some .local)
    (hs1 : ∀ C x, foldedSetIterable i1 (compEnvC scope cl C env) x = pure x)
    (h : wpAny (model prog w) A (eval i0 env) (SrcT prog w A h₀ L m env i1 r scope cl J Q) E s)
    (hs : ∀ x, foldedSetIterable i0 env x = pure x) :
    wpAny (model prog w) A (eval (.ListComp (.Name x ep) [⟨.Name r pr, i0, [], 0⟩, ⟨.Name x px, i1, [], 0⟩] scope pos) env) Q E s := ListComp_T hclos hcell hkind hr hx hd hnames hs1 h hs
theorem srcT_at {prog : Program} {w : World} {A : Around} {s₁ : Shared} {h₀ : Heap} {L : Addr} {m : Str → Option Value} {env : Env} {i1 : Expr} {r : Str} {scope : Scope} {cl : List (Str × Addr)} {Q : Value → Shared → Prop} {base : List (Addr × Obj)} {F0 : List Int} {Rs : List (List Str)} {Ra : Addr} {vs : List Value}
    (hh : A.handled = none) (F : Fr h₀ L s₁.heap m) (N : News h₀ L s₁.heap base) (hm : (Ra, LCg.lst vs) ∈ base) (hsz : vs.length ≤ 4)
    (h : ∀ g : Heap, TurnT prog w A h₀ L m env i1 r scope cl { s₁ with heap := g } (JT base F0 Rs) vs.toArray ∧ ∀ D h tk ys nw, Fr h₀ L h m → News h₀ L h ((D, LCg.lst ys) :: nw) → LCg.Off1 D nw → JT base F0 Rs vs.toArray.size ys nw → Q (.ref D) { s₁ with heap := h, toks := tk }) :
    SrcT prog w A h₀ L m env i1 r scope cl (JT base F0 Rs) Q (.ref Ra) s₁ :=
  ⟨Ra, vs.toArray, vs.length, base, rfl, hh, F, N, hm, by rw [List.size_toArray, sizeLine_eq]; omega, ⟨rfl, .nil, Nat.le_refl _, Nat.zero_le _⟩, fun i ys nw hj => ⟨_, hj.1 ▸ hm, rfl, _, rfl⟩, fun s₂ ⟨g, e⟩ => e ▸ h g⟩
theorem endT {h₀ h' : Heap} {L I C D a : Addr} {m : Str → Option Value} {s₁ : Shared} {oI oC oD : Obj} {rest : List Value → List (Addr × Obj) → Prop} {tk kk : Nat} {ws : List Value} {x1 x2 x3 x4 : Addr × Obj} {base : List (Addr × Obj)}
    (F : Fr h₀ L h' m) (N : News h₀ L h' ((a, listOf ws.toArray kk) :: x1 :: x2 :: x3 :: x4 :: (I, oI) :: (C, oC) :: (D, oD) :: base)) (lt : @LT.lt Nat _ I a ∧ @LT.lt Nat _ C a ∧ @LT.lt Nat _ D a) (off : LCg.Off3 I C D base) (r : rest ws base) :
    EndT h₀ L m s₁ I oI C oC D oD rest (.ref a) { s₁ with heap := h', toks := tk } := by
  refine ⟨h', tk, a, ws, kk, base, rfl, rfl, F, fun p hp => N p ?_, ⟨⟨Nat.ne_of_gt lt.1, Nat.ne_of_gt lt.2.1, Nat.ne_of_gt lt.2.2⟩, off⟩, r⟩
  simp only [List.mem_cons] at hp ⊢
  rcases hp with hp | hp | hp | hp | hp <;> simp [hp]
theorem jt_next {base : List (Addr × Obj)} {F0 : List Int} {Rs : List (List Str)} {i : Nat} {ys us : List Value} {Rx : List Str} (hJ : IntsAre ys (symsL F0 (Rs.take i))) (hl : ys.length ≤ i * 50) (hi : i < 4) (htk : Rs.take (i + 1) = Rs.take i ++ [Rx]) (hu : IntsAre us (F0 ++ Rx.map sg ++ [0])) (hf : F0.length ≤ 10) (hx : Rx.length ≤ 30) :
    ys.length + us.length ≤ sizeLine ∧ JT base F0 Rs (i + 1) (ys ++ us) base := by
  have hul : us.length = F0.length + Rx.length + 1 := by rw [hu.length]; simp; omega
  refine ⟨by rw [sizeLine_eq]; omega, rfl, ?_, by rw [List.length_append]; omega, by omega⟩
  rw [htk, symsL_snoc]
  exact hJ.append hu
theorem part_compare {w : World} {mean : ExcName → Option Value} {mg mb : Str → Option Value} {base h₀ : Heap} {L fa : Addr} {cd : Value} {m : Str → Option Value} {s : Shared} {Q : Flow → Shared → Prop} {E : Value → Shared → Prop} {news : List (Addr × Obj)}
  {oc4 oc5 : Obj} {fA yA RA a0 a1 a2 a3 : Addr} {fv vs v0 v1 v2 v3 : List Value} {kf nn : Nat} {F0 YS : List Int} {R0 R1 R2 R3 : List Str} {rest : List Stmt}
  (B : Below callerA base [] h₀) (X : (Mine.hp w.params).In h₀) (T : Top topProg (looseW Mine.vw Mine.lo ++ (recsOf Mine.vw).map (·.name) ++ (litsOf Mine.vw).map (·.1) ++ (clssOf Mine.vw (looseW Mine.vw Mine.lo)).map (·.name)) mean mg mb h₀) (F : Fr h₀ L s.heap (fun y => if y = Str.ofString "symbols" then some (.ref yA) else m y))
  (N : News h₀ L s.heap ((fA, W.listOf fv.toArray kf) :: (yA, W.listOf vs.toArray nn) :: (RA, LCg.lst [.ref a0, .ref a1, .ref a2, .ref a3]) :: (a0, LCg.lst v0) :: (a1, LCg.lst v1) :: (a2, LCg.lst v2) :: (a3, LCg.lst v3) :: (L + 1 + 1 + 1 + 1 + 1, oc5) :: (L + 1 + 1 + 1 + 1, oc4) :: news))
  (e4 : oc4.data = .cell (some (.ref RA))) (e5 : oc5.data = .cell (some (.ref fA))) (s0 : StrsAre v0 R0) (s1 : StrsAre v1 R1) (s2 : StrsAre v2 R2) (s3 : StrsAre v3 R3) (hF : IntsAre fv F0) (hY : IntsAre vs YS)
  (hf : F0.length ≤ 10) (hR : ∀ R ∈ [R0, R1, R2, R3], R.length ≤ 30 ∧ ∀ a ∈ R, (signAt a).isSome = true) (heq : YS = symsL F0 [R0, R1, R2, R3])
  (cont : ∀ (h : Heap) (tk : Nat), Fr h₀ L h (fun y => if y = Str.ofString "symbols" then some (.ref yA) else m y) → 
    News h₀ L h ((fA, W.listOf fv.toArray kf) :: (yA, W.listOf vs.toArray nn) :: (RA, LCg.lst [.ref a0, .ref a1, .ref a2, .ref a3]) :: (a0, LCg.lst v0) :: (a1, LCg.lst v1) :: (a2, LCg.lst v2) :: (a3, LCg.lst v3) :: (L + 1 + 1 + 1 + 1 + 1, oc5) :: (L + 1 + 1 + 1 + 1, oc4) :: news) → wpAny (model Mine.rw.prog w) (callerA.deeper (envOfC drec.name drec.scope L fa cd)) (execs rest (envOfC drec.name drec.scope L fa cd)) Q E { s with heap := h, toks := tk }) :
  wpAny (model Mine.rw.prog w) (callerA.deeper (envOfC drec.name drec.scope L fa cd)) (execs ((drec.body.drop 11).take 1 ++ rest) (envOfC drec.name drec.scope L fa cd)) Q E s := by
  subst heq
  unfold drec
  dsimp only [List.drop, List.take, List.cons_append, List.nil_append]
  k_with_none
  k_with "execs cons" => (k_here; first | k_gentoks | (k_made; walk_at "execs cons") | ((with_reducible refine execs_consF ?_); intro qz))
  k_with "storeName" => (k_here; (fail_if_success (k_extra "unfolded")); k_dflt (first | (refine' storeX_LF ?F ?N ?_ ?a ?b; (case F => k_asm); (case N => k_asm); (case a => rfl); (case b => rfl); k_whole; intro h' tk' mz F' N'; (try k_sweep)) | (refine' storeX_CF ?F ?N ?c ?U ?d ?_ ?a ?b; (case a => rfl); (case b => rfl); (case F => k_asm); (case N => k_asm); (case c => rfl); (case U => k_updF); (case d => k_asm); k_whole; intro h' o' F' N' d'; (try dsimp only at N'); (try k_sweep))))
  k_with "LeaveF" => (k_dflt (refine' leaveF_ ?k1 ?k2 ?_; (case k1 => k_asm); (case k2 => k_asm); k_whole); intro kF kN; (try ground_anew kF); (try have kX := kFor kF (by k_asm)))
  k_with "LeaveF" => (k_made; walk_at "LeaveF")
  k_with "zUR" => (have hcL9 := cLine_is; omega)
  k_with "zNE" => (refine neN ?_; (try dsimp only); first | with_reducible (first | (refine neA0 (by assumption) ?_; focus ((repeat (first | exact And.left | exact id | refine andR ?_)); done)) | (refine neB0 (by assumption) ?_; focus ((repeat (first | exact And.left | exact id | refine andR ?_)); done)) | (refine neC (by assumption) ?_; focus ((repeat (first | exact And.left | exact id | refine andR ?_)); done)) | (refine neCs (by assumption) ?_; focus ((repeat (first | exact And.left | exact id | refine andR ?_)); done)) | (refine neA1 (by assumption) ?_; focus ((repeat (first | exact And.left | exact id | refine andR ?_)); done)) | (refine neB1 (by assumption) ?_; focus ((repeat (first | exact And.left | exact id | refine andR ?_)); done)) | (refine neA2 (by assumption) ?_; focus ((repeat (first | exact And.left | exact id | refine andR ?_)); done)) | (refine neB2 (by assumption) ?_; focus ((repeat (first | exact And.left | exact id | refine andR ?_)); done)) | (refine neA3 (by assumption) ?_; focus ((repeat (first | exact And.left | exact id | refine andR ?_)); done)) | (refine neB3 (by assumption) ?_; focus ((repeat (first | exact And.left | exact id | refine andR ?_)); done))) | omega)
  k_with "zRM" => (with_reducible first | exact room1 (by assumption) (by assumption) (by decide) | exact room2 (by assumption) (by assumption) (by decide) | exact room3 (by assumption) (by assumption) (by decide) | exact room4 (by assumption) (by assumption) (by decide) | exact room5 (by assumption) (by assumption) (by decide) | exact room0 (by assumption))
  k_with "zALL" => first | assumption | with_reducible (first | (refine nwA0 (by assumption) ?_; focus ((refine andR ?_); (repeat (first | exact id | refine andR ?_)); done)) | (refine nwA1 (by assumption) ?_; focus ((refine andR ?_); (repeat (first | exact id | refine andR ?_)); done)) | (refine nwA2 (by assumption) ?_; focus ((refine andR ?_); (repeat (first | exact id | refine andR ?_)); done)) | (refine nwA3 (by assumption) ?_; focus ((refine andR ?_); (repeat (first | exact id | refine andR ?_)); done)))
  k_with "eval ListComp Name" => ((rename Fr _ _ _ _ => lF'); (refine' ListComp_TF lF' (JT ((fA, W.listOf fv.toArray kf) :: (yA, W.listOf vs.toArray nn) :: (RA, LCg.lst [.ref a0, .ref a1, .ref a2, .ref a3]) :: (a0, LCg.lst v0) :: (a1, LCg.lst v1) :: (a2, LCg.lst v2) :: (a3, LCg.lst v3) :: (L + 1 + 1 + 1 + 1 + 1, oc5) :: (L + 1 + 1 + 1 + 1, oc4) :: news) F0 [R0, R1, R2, R3]) ?zq1 ?zq2 ?zq3 ?zq4 ?zq5 ?zq6 ?zq7 ?zq8 ?_ ?zq9); (case zq1 => with_unfolding_all exact rfl); (case zq2 => decide); (case zq3 => with_unfolding_all exact rfl); (case zq4 => with_unfolding_all exact rfl); (case zq5 => with_unfolding_all exact rfl); (case zq6 => with_unfolding_all exact rfl); (case zq7 => decide); (case zq8 => with_unfolding_all exact fun C x => rfl); (case zq9 => with_unfolding_all exact fun x => rfl))
  k_with "SrcT" => ((rename Fr _ _ _ _ => lF'); (rename News _ _ _ _ => lN'); (with_unfolding_all refine srcT_at rfl lF' lN' (by (focus first | ((repeat (first | exact memH | ((fail_if_success (refine nilX ?_)); refine memT ?_))); done) | ((repeat (first | assumption | ((fail_if_success (refine nilX ?_)); refine memT ?_))); done))) (Nat.le_of_ble_eq_true rfl) ?_); clear lF' lN'; intro gH; refine ⟨?zsT, ?zsF⟩; (case' zsT => (intro i v I oI C oC D m₂ ys nw h tk E' hv hC hx hJ lF' lN' o3 ne; (obtain ⟨rfl, hI, hl, hi4⟩ := hJ); (obtain ⟨ax, vx, Rx, rfl, hm, hsx, htk, hmem, hi⟩ := row_at (l := ((fA, W.listOf fv.toArray kf) :: (yA, W.listOf vs.toArray nn) :: (RA, LCg.lst [.ref a0, .ref a1, .ref a2, .ref a3]) :: (a0, LCg.lst v0) :: (a1, LCg.lst v1) :: (a2, LCg.lst v2) :: (a3, LCg.lst v3) :: (L + 1 + 1 + 1 + 1 + 1, oc5) :: (L + 1 + 1 + 1 + 1, oc4) :: news)) hv (by (focus first | ((repeat (first | exact memH | ((fail_if_success (refine nilX ?_)); refine memT ?_))); done) | ((repeat (first | assumption | ((fail_if_success (refine nilX ?_)); refine memT ?_))); done))) (by (focus first | ((repeat (first | exact memH | ((fail_if_success (refine nilX ?_)); refine memT ?_))); done) | ((repeat (first | assumption | ((fail_if_success (refine nilX ?_)); refine memT ?_))); done))) (by (focus first | ((repeat (first | exact memH | ((fail_if_success (refine nilX ?_)); refine memT ?_))); done) | ((repeat (first | assumption | ((fail_if_success (refine nilX ?_)); refine memT ?_))); done))) (by (focus first | ((repeat (first | exact memH | ((fail_if_success (refine nilX ?_)); refine memT ?_))); done) | ((repeat (first | assumption | ((fail_if_success (refine nilX ?_)); refine memT ?_))); done))) s0 s1 s2 s3); (have hRx := hR Rx hmem); (have lN2 := news_dup lN' (.tail _ (.tail _ (.tail _ hm)))); clear lN')); (case' zsF => (intro D h tk ys nw lF' lN' o1 hJ; (obtain ⟨rfl, hI, hl, hi4⟩ := hJ); (replace hI : IntsAre ys (symsL F0 [R0, R1, R2, R3]) := by with_unfolding_all exact hI))))
  k_with "eval ListComp Subscript cons" => ((rename Fr _ _ _ _ => lF'); (refine' LCg.ListComp_U lF' ?zq1 ?zq2 ?zq3 ?zq4 ?zq5 ?_ ?zq6); (case zq1 => with_unfolding_all exact rfl); (case zq2 => decide); (case zq3 => with_unfolding_all exact rfl); (case zq4 => decide); (case zq5 => with_unfolding_all exact rfl); (case zq6 => with_unfolding_all exact fun x => rfl))
  k_with "CompSrc" => ((rename Fr _ _ _ _ => lF'); (rename News _ _ _ _ => lN'); (with_unfolding_all refine LCg.CompSrc.ledger rfl lF' lN' (k := vx.length) (its := vx.toArray) (by (focus first | ((repeat (first | exact memH | ((fail_if_success (refine nilX ?_)); refine memT ?_))); done) | ((repeat (first | assumption | ((fail_if_success (refine nilX ?_)); refine memT ?_))); done))) (by rw [List.size_toArray, hsx.length, sizeLine_eq]; omega) ?_); clear lF'; intro gH; (refine map_rest sg hsx (Or.inr ⟨_, by (focus first | ((repeat (first | exact memH | ((fail_if_success (refine nilX ?_)); refine memT ?_))); done) | ((repeat (first | assumption | ((fail_if_success (refine nilX ?_)); refine memT ?_))); done)), rfl, _, rfl⟩) ?zsA ?zsB); clear lN'; (case' zsA => (intro a ta I' oI' C' oC' D2 m₂ ys' h' tk' E2 ha hC' hx' F' N' off' ne'; (try (simp only [LCg.Off3, and_true] at off')))); (case' zsB => (intro ys' hys'; with_unfolding_all (intro D2 h2 tk2 F2 N2 o2))))
  k_with "subscriptTail Name Name ref str" => ((rename Frag.In _ _ => xX); (rename Fr _ _ _ _ => lF'); ((obtain ⟨nv, hnv⟩ := Option.isSome_iff_exists.mp (hRx.2 a ha)); (with_unfolding_all refine PyProof.Rows.item_strTab (dv := PyData.int (sg a)) (TabAt.ofFr (exTab _ xX) lF') (by rw [lookup_ex, sg, hnv]; rfl) (fun v hv => ?_)); (obtain ⟨tv, hv'⟩ := PyProof.V.Flat.int_inv hv); subst hv'))
  k_with "CompEnd" => (with_unfolding_all refine compEnd0 (by assumption) (by assumption) (by first | assumption | exact ⟨⟨by omega, by omega, by omega⟩, by assumption⟩) True.intro ?_)
  k_with "binaryOp Add ref ref" => (with_unfolding_all ((refine' kmk_add_ints ?zqF ?zqN ?zqa ?zqb ?zqi ?zqj ?_ ?zqz; (case zqF => k_asm); (case zqN => k_asm); (case zqa => exact News.isList (by assumption) (by (focus first | ((repeat (first | exact memH | ((fail_if_success (refine nilX ?_)); refine memT ?_))); done) | ((repeat (first | assumption | ((fail_if_success (refine nilX ?_)); refine memT ?_))); done)))); (case zqb => exact News.isList (by assumption) (by (focus first | ((repeat (first | exact memH | ((fail_if_success (refine nilX ?_)); refine memT ?_))); done) | ((repeat (first | assumption | ((fail_if_success (refine nilX ?_)); refine memT ?_))); done)))); (case zqi => assumption); (case zqj => first | assumption | exact .cons _ _ .nil); (case zqz => (simp only [sizeLine_eq, List.length_append, List.length_map, List.length_cons, List.length_nil]; omega)))); intro D' ws' h' F' N' l1 hI'; (try k_lt l1); (try k_sweep))
  k_with "EndT" => ((rename Fr _ _ _ _ => lF'); (rename News _ _ _ _ => lN'); (with_unfolding_all refine endT lF' lN' ⟨by omega, by omega, by omega⟩ o3 ?_); exact jt_next hI hl hi htk (by assumption) hf hRx.1)
  k_with "compareOp NotEq ref ref" => (with_unfolding_all refine' ne_intsK ?a ?i ?b ?j ?u ?_; (case a => exact News.isList (by assumption) (by (focus first | ((repeat (first | exact memH | ((fail_if_success (refine nilX ?_)); refine memT ?_))); done) | ((repeat (first | assumption | ((fail_if_success (refine nilX ?_)); refine memT ?_))); done)))); (case b => exact News.isList (by assumption) (by (focus first | ((repeat (first | exact memH | ((fail_if_success (refine nilX ?_)); refine memT ?_))); done) | ((repeat (first | assumption | ((fail_if_success (refine nilX ?_)); refine memT ?_))); done)))); (case i => assumption); (case j => assumption); (case u => units_room); (rw [show (!decide (symsL F0 [R0, R1, R2, R3] = symsL F0 [R0, R1, R2, R3])) = false from by simp]); k_whole)
  k_steps
  rename Fr _ _ _ _ => lF'
  rename News _ _ _ _ => lN'
  first
    | exact cont _ _ lF' lN'
    | exact cont _ _ lF' (fun p hp => lN' p (.tail _ hp))
end ZP5
section ZZC
set_option maxRecDepth 100000
open PySem PySem.W PySem.Spec PySem.Calls PyProof.Rows PyProof.Rows.LCg
/-- the objects of a zip over two lists -/
structure ZObj where
  z : Addr
  TI : Addr
  TO : Addr
  i1 : Addr
  i2 : Addr
  l1 : Addr
  l2 : Addr
noncomputable def ZSt (o : ZObj) (xs ys : Array Value) (i : Nat) (h : Heap) : Prop := IsZip h o.z o.TI o.TO .none ∧ IsPair h o.TI (.ref o.i1) (.ref o.i2) ∧ (∃ a b, IsPair h o.TO a b) ∧ h.IsListIter o.i1 o.l1 i ∧ h.IsListIter o.i2 o.l2 i ∧ h.IsList o.l1 xs ∧ h.IsList o.l2 ys
noncomputable def TurnZ (prog : Program) (w : World) (A : Around) (h₀ : Heap) (L : Addr) (m : Str → Option Value) (env : Env) (elt : Expr) (a b : Str) (scope : Scope) (cl : List (Str × Addr)) (s : Shared) (xs ys : List Value) (G : List Int) (base : List (Addr × Obj)) : Prop :=
  ∀ (i : Nat) (x y : Value) (n : Int) I oI C oC D m₂ us h tk (nw : List (Addr × Obj)) (E' : Value → Shared → Prop), xs[i]? = some x → ys[i]? = some y → G[i]? = some n → NsObj oC m₂ → m₂ a = some x → m₂ b = some y → Fr h₀ L h m → (∀ p ∈ base, p ∈ nw) → News h₀ L h ((I, oI) :: (C, oC) :: (D, lst us) :: nw) → Off3 I C D nw →
    wpAny (model prog w) A (eval elt (compEnvC scope cl C env)) (CompEnd h₀ L m { s with heap := h, toks := tk } I oI C oC D (lst us) (fun _ => True) (fun r nw' => nw' = nw ∧ ∃ t : Tok, r = .int n t)) E' { s with heap := h, toks := tk }
theorem allC {P : Addr → Prop} {a : Addr} {l : List Addr} (h : P a) (t : ∀ c ∈ l, P c) : ∀ c ∈ a :: l, P c := fun c hc => by
  rcases List.mem_cons.mp hc with rfl | hc
  · exact h
  · exact t c hc
theorem allN {P : Addr → Prop} : ∀ c ∈ ([] : List Addr), P c := fun c hc => nomatch hc
theorem wr4 {z TI TO i1 i2 : Addr} : ∀ c ∈ [z, TO, i1, i2], c ∈ [z, TI, TO, i1, i2] :=
  allC (.head _) (allC (.tail _ (.tail _ (.head _))) (allC (.tail _ (.tail _ (.tail _ (.head _)))) (allC (.tail _ (.tail _ (.tail _ (.tail _ (.head _))))) allN)))
theorem wr5 {z TI TO i1 i2 l1 l2 : Addr} : ∀ c ∈ [z, TI, TO, i1, i2], c ∈ [z, TI, TO, i1, i2, l1, l2] :=
  allC (.head _) (allC (.tail _ (.head _)) (allC (.tail _ (.tail _ (.head _))) (allC (.tail _ (.tail _ (.tail _ (.head _)))) (allC (.tail _ (.tail _ (.tail _ (.tail _ (.head _))))) allN))))
theorem zst_lt {z TI TO i1 i2 l1 l2 : Addr} {xs ys : Array Value} {i : Nat} {h : Heap} (hst : ZSt ⟨z, TI, TO, i1, i2, l1, l2⟩ xs ys i h) : ∀ c ∈ [z, TI, TO, i1, i2, l1, l2], c < h.objs.size := by
  obtain ⟨a1, a2, ⟨_, _, a3⟩, ⟨_, a4, _⟩, ⟨_, a5, _⟩, ⟨_, a6, _⟩, ⟨_, a7, _⟩⟩ := hst
  exact allC (Heap.lt_size a1) (allC (Heap.lt_size a2) (allC (Heap.lt_size a3) (allC (Heap.lt_size a4) (allC (Heap.lt_size a5) (allC (Heap.lt_size a6) (allC (Heap.lt_size a7) allN))))))
theorem news_consZ {h₀ h : Heap} {L : Addr} {p : Addr × Obj} {l : List (Addr × Obj)} (x : h.get? p.1 = some p.2 ∧ p.1 ≠ L ∧ h₀.get? p.1 = none) (N : News h₀ L h l) : News h₀ L h (p :: l) := fun q hq => by
  rcases List.mem_cons.mp hq with rfl | hq
  · exact x
  · exact N q hq
theorem same_at {h₀ h₄ h₅ : Heap} {L c : Addr} {oc : Obj} {l : List (Addr × Obj)} (N₄ : News h₀ L h₄ l) (N₅ : News h₀ L h₅ l) (hm : (c, oc) ∈ l) : ∀ o', h₄.get? c = some o' → h₅.get? c = some o' := fun o' e => by
  have e1 := (N₄ _ hm).1
  have e2 := (N₅ _ hm).1
  rw [e2, ← e, e1]
section
variable {prog : Program} {w : World} {A : Around} {E : Value → Shared → Prop} {s : Shared} {h₀ : Heap} {L : Addr} {m : Str → Option Value} {env : Env}
theorem block_Z {elt iter : Expr} {a b : Str} {pa pb tp : Pos} {kk : Nat} {scope : Scope} {cl : List (Str × Addr)} {pos : Pos} {s₂ : Shared} {o : ZObj} {xs ys : List Value} {G : List Int} {base : List (Addr × Obj)}
    {RR : Value → Addr → Result → Shared → Prop} (hh : A.handled = none) (Dz : ZipApart o.z o.TI o.TO o.i1 o.i2 o.l1 o.l2) (hxs : xs.length = G.length) (hys : ys.length = G.length) (hsz : G.length ≤ sizeLine)
    (hcell : ∀ y ∈ scope.names, y.2 ≠ .cell) (hkind : scope.kind = .function) (hxa : scope.names.lookup a = some .local) (hxb : scope.names.lookup b = some .local) (hab : ¬ a = b)
    (hst : ZSt o xs.toArray ys.toArray 0 s₂.heap) (F : Fr h₀ L s₂.heap m) (N : News h₀ L s₂.heap base)
    (hl1 : ∃ ob, (o.l1, ob) ∈ base) (hl2 : ∃ ob, (o.l2, ob) ∈ base)
    (hz0 : ∀ c ∈ [o.z, o.TI, o.TO, o.i1, o.i2], h₀.get? c = none ∧ c ≠ L) (hzb : ∀ p ∈ base, p.1 ∉ [o.z, o.TI, o.TO, o.i1, o.i2])
    (R : TurnZ prog w A h₀ L m env elt a b scope cl s₂ xs ys G base)
    (hRR : ∀ D C h tk m' us, Fr h₀ L h m → News h₀ L h ((D, lst us) :: base) → (∀ p ∈ base, p.1 < D) → h.Ns C m' → h₀.get? C = none → C ≠ L → C ≠ D → (∀ p ∈ base, p.1 ≠ C) → IntsAre us G → RR (.ref D) C (.ok .next) { s₂ with heap := h, toks := tk }) :
    wpAny (model prog w) A (newList []) (fun acc s₃ => wpAny (model prog w) A (newFunctionEnv scope env.globals cl [] env.qual none .none (some env)) (fun cenv s₄ =>
      codeAny (model prog w) A (.compStart (.ListComp elt [⟨.Tuple [.Name a pa, .Name b pb] kk tp, iter, [], 0⟩] scope pos) 0 (.ref o.z) acc { cenv with scope := relabel scope env }) (RR acc cenv.locals) s₄) E s₃) E s₂ := by
  obtain ⟨z, TI, TO, i1, i2, l1, l2⟩ := o
  dsimp only at Dz hl1 hl2 hz0 hzb ⊢
  refine wpAny_newObj_type (wpAny_newFunctionEnv hcell (by intro y hy; simp at hy) (fun h₁ hns₁ hsb₁ => ?_) hkind)
  dsimp only at hns₁ hsb₁ ⊢
  generalize hH2 : s₂.heap.push { cls := .type "list", dict := none, data := .seq ([] : List Value).toArray } = H2 at hns₁ hsb₁ ⊢
  have hC : H2.objs.size = s₂.heap.objs.size + 1 := by rw [← hH2, Heap.size_push]
  have hDC : s₂.heap.objs.size ≠ H2.objs.size := by rw [hC]; exact Nat.ne_of_lt (Nat.lt_succ_self _)
  have below : ∀ b, b < s₂.heap.objs.size → b ≠ H2.objs.size ∧ b ≠ s₂.heap.objs.size := fun b hb => ⟨by rw [hC]; exact Nat.ne_of_lt (Nat.lt_succ_of_lt hb), Nat.ne_of_lt hb⟩
  have old : ∀ b o, s₂.heap.get? b = some o → h₁.get? b = some o := fun b o e => hsb₁.extBut b o (below b (Heap.lt_size e)).1 (Heap.get?_push_of_some _ (hH2 ▸ Heap.get?_push_of_some _ e))
  have hacc : h₁.get? s₂.heap.objs.size = some (lst []) := hsb₁.extBut _ _ hDC (Heap.get?_push_of_some _ (hH2 ▸ Heap.get?_push_size _ rfl))
  have W := WalksT.zip2 (prog := prog) (w := w) hh z TI TO i1 i2 l1 l2 Dz xs.toArray ys.toArray
  have hmin : min xs.toArray.size ys.toArray.size = G.length := by rw [List.size_toArray, List.size_toArray, hxs, hys]; exact Nat.min_self _
  rw [hmin] at W
  have ltz : ∀ c ∈ [z, TI, TO, i1, i2, l1, l2], c < s₂.heap.objs.size := zst_lt hst
  have hst₁ := W.frame 0 _ h₁ hst fun c hc o e => old c o e
  have fresh : ∀ a, s₂.heap.objs.size ≤ a → s₂.heap.get? a = none := fun a ha => by
    cases e : s₂.heap.get? a with
    | none => rfl
    | some o' => exact absurd (Heap.lt_size e) (Nat.not_lt.mpr ha)
  have fresh₀ : ∀ a, s₂.heap.objs.size ≤ a → h₀.get? a = none := fun a ha => by
    cases e : h₀.get? a with
    | none => rfl
    | some o' => have := F.keep a o' e; rw [fresh a ha] at this; cases this
  have hD₀ : h₀.get? s₂.heap.objs.size = none := fresh₀ _ (Nat.le_refl _)
  have hC₀ : h₀.get? H2.objs.size = none := fresh₀ _ (by rw [hC]; exact Nat.le_succ _)
  have hLlt : L < s₂.heap.objs.size := F.ns.lt
  have hDL : s₂.heap.objs.size ≠ L := Ne.symm (below L hLlt).2
  have hCL : H2.objs.size ≠ L := Ne.symm (below L hLlt).1
  have zC : ∀ c ∈ [z, TI, TO, i1, i2, l1, l2], c ≠ H2.objs.size := fun c hc => (below c (ltz c hc)).1
  have zD : ∀ c ∈ [z, TI, TO, i1, i2, l1, l2], c ≠ s₂.heap.objs.size := fun c hc => (below c (ltz c hc)).2
  have bC : ∀ p ∈ base, p.1 ≠ H2.objs.size := fun p hp => (below _ (Heap.lt_size (N p hp).1)).1
  have bD : ∀ p ∈ base, p.1 < s₂.heap.objs.size := fun p hp => Heap.lt_size (N p hp).1
  have wrz : ∀ c ∈ [z, TO, i1, i2], c ∈ [z, TI, TO, i1, i2] := wr4
  have wrf : ∀ c ∈ [z, TI, TO, i1, i2], c ∈ [z, TI, TO, i1, i2, l1, l2] := wr5
  have loop : ∀ s₃ : Shared, s₃ = { s₂ with heap := h₁, toks := s₂.toks + ([] : List (Str × Value)).length } →
      codeAny (model prog w) A (.compLoop (.ListComp elt [⟨.Tuple [.Name a pa, .Name b pb] kk tp, iter, [], 0⟩] scope pos) 0 (.ref z) (.ref s₂.heap.objs.size) (compEnvC scope cl H2.objs.size env))
        (RR (.ref s₂.heap.objs.size) H2.objs.size) s₃ := by
    rintro s₃ rfl
    let P : Nat → Shared → Prop := fun k s' => ∃ h' tk i us m', s' = { s₂ with heap := h', toks := tk } ∧ i ≤ G.length ∧ k = G.length + 1 - i ∧ IntsAre us (G.take i) ∧ ZSt ⟨z, TI, TO, i1, i2, l1, l2⟩ xs.toArray ys.toArray i h' ∧ Fr h₀ L h' m ∧ h'.Ns H2.objs.size m' ∧
      News h₀ L h' ((s₂.heap.objs.size, lst us) :: base)
    refine kcp_loop P ?_ (G.length + 1)
      ⟨h₁, _, 0, [], _, rfl, Nat.zero_le _, rfl, .nil, hst₁, F.keeps old, hns₁, fun p hp => ?_⟩
    · rintro k s' ⟨h', tk, i, us, m', rfl, hi, rfl, hus, hst', F', hn', N'⟩
      have hul : us.length = i := by rw [hus.length, List.length_take]; omega
      have kp : ∀ {h2 h3 : Heap}, (∀ b o, b ∉ [z, TO, i1, i2] → h2.get? b = some o → h3.get? b = some o) → ∀ b o, b ∉ [z, TI, TO, i1, i2] → h2.get? b = some o → h3.get? b = some o := fun hk b o hb e => hk b o (fun hc => hb (wrz b hc)) e
      have Lz : L ∉ [z, TI, TO, i1, i2] := fun hc => (hz0 L hc).2 rfl
      have Cz : H2.objs.size ∉ [z, TI, TO, i1, i2] := fun hc => zC _ (wrf _ hc) rfl
      have Dz' : s₂.heap.objs.size ∉ [z, TI, TO, i1, i2] := fun hc => zD _ (wrf _ hc) rfl
      have oz0 : ∀ b o, h₀.get? b = some o → b ∉ [z, TI, TO, i1, i2] := fun b o e hc => by rw [(hz0 b hc).1] at e; cases e
      by_cases hlt : i < G.length
      · refine W.item i _ _ _ hlt hst' fun T vals h₂ tk₂ hP _ hT hMd hk₂ => ?_
        obtain ⟨x, y, hx, hy, rfl⟩ := hP
        refine W.go _ _ _ i T _ _ _ hMd fun h₃ hst₃ hk₃ => ?_
        have hT₃ : h₃.IsTuple T #[x, y] := by
          obtain ⟨oT, eT, rT⟩ := hT
          exact ⟨oT, hk₃ T oT (W.apart i T h₂ hMd) eT, rT⟩
        have up₃ : ∀ c o, c ∉ [z, TI, TO, i1, i2] → h'.get? c = some o → h₃.get? c = some o := fun c o hc e => kp hk₃ c o hc (kp hk₂ c o hc e)
        refine kcp_assign (env := compEnvC scope cl H2.objs.size env) hh hT₃ (lookup_relabel_local hxa) (lookup_relabel_local hxb) (by simp [compEnvC, relabel, hkind]) (hn'.at' fun o e => up₃ _ o Cz e) fun h₄ tk₄ hn₄ hs₄ => ?_
        have up : ∀ c o, c ∉ [z, TI, TO, i1, i2] → c ≠ H2.objs.size → h'.get? c = some o → h₄.get? c = some o := fun c o h1 h2 e => hs₄ c o h2 (up₃ c o h1 e)
        have hst₄ : ZSt ⟨z, TI, TO, i1, i2, l1, l2⟩ xs.toArray ys.toArray (i + 1) h₄ := W.frame (i + 1) _ _ hst₃ fun c hc o e => hs₄ c o (zC c hc) e
        obtain ⟨oC, heC, hoC⟩ := ns_obj hn₄
        have F₄ : Fr h₀ L h₄ m := ⟨F'.ns.at' fun o e => up _ o Lz (Ne.symm hCL) e, fun c o e => up c o (oz0 c o e) (fun q => by rw [q, hC₀] at e; cases e) (F'.keep c o e), F'.above⟩
        have Nb : ∀ q ∈ (s₂.heap.objs.size, lst us) :: base, h₄.get? q.1 = some q.2 ∧ q.1 ≠ L ∧ h₀.get? q.1 = none := fun q hq => by
          have z' := N' q hq
          refine ⟨up _ _ ?_ ?_ z'.1, z'.2⟩
          · rcases List.mem_cons.mp hq with rfl | hq
            · exact Dz'
            · exact hzb q hq
          · rcases List.mem_cons.mp hq with rfl | hq
            · exact hDC
            · exact bC q hq
        obtain ⟨g1, g2, ⟨ta, tb, g3⟩, ⟨o4, g4, r4⟩, ⟨o5, g5, r5⟩, g6, g7⟩ := id hst₄
        obtain ⟨oz, hoz⟩ : ∃ oz, h₄.get? z = some oz := ⟨_, g1⟩
        obtain ⟨oTI, hoTI⟩ : ∃ oz, h₄.get? TI = some oz := ⟨_, g2⟩
        obtain ⟨oTO, hoTO⟩ : ∃ oz, h₄.get? TO = some oz := ⟨_, g3⟩
        have mz : ∀ c ∈ [z, TI, TO, i1, i2], c ≠ L ∧ h₀.get? c = none := fun c hc => ⟨(hz0 c hc).2, (hz0 c hc).1⟩
        have N₄ : News h₀ L h₄ ((z, oz) :: (H2.objs.size, oC) :: (s₂.heap.objs.size, lst us) :: (TI, oTI) :: (TO, oTO) :: (i1, o4) :: (i2, o5) :: base) :=
          news_consZ ⟨hoz, mz z (.head _)⟩ (news_consZ ⟨heC, hCL, hC₀⟩ (news_consZ (Nb _ (.head _)) (news_consZ ⟨hoTI, mz TI (.tail _ (.head _))⟩ (news_consZ ⟨hoTO, mz TO (.tail _ (.tail _ (.head _)))⟩ (news_consZ ⟨g4, mz i1 (.tail _ (.tail _ (.tail _ (.head _))))⟩ (news_consZ ⟨g5, mz i2 (.tail _ (.tail _ (.tail _ (.tail _ (.head _)))))⟩ fun q hq => Nb q (.tail _ hq)))))))
        have off₄ : Off3 z H2.objs.size s₂.heap.objs.size ((TI, oTI) :: (TO, oTO) :: (i1, o4) :: (i2, o5) :: base) := by
          refine ⟨⟨Dz.TIz, zC TI (.tail _ (.head _)), zD TI (.tail _ (.head _))⟩, ⟨Dz.TOz, zC TO (.tail _ (.tail _ (.head _))), zD TO (.tail _ (.tail _ (.head _)))⟩, ⟨Dz.i1z, zC i1 (.tail _ (.tail _ (.tail _ (.head _)))), zD i1 (.tail _ (.tail _ (.tail _ (.head _))))⟩, ⟨Dz.i2z, zC i2 (.tail _ (.tail _ (.tail _ (.tail _ (.head _))))), zD i2 (.tail _ (.tail _ (.tail _ (.tail _ (.head _)))))⟩, ?_⟩
          exact Off3.of fun p hp => ⟨fun e => hzb p hp (by rw [e]; simp), bC p hp, Nat.ne_of_lt (bD p hp)⟩
        have hG : G[i]? = some G[i] := List.getElem?_eq_getElem hlt
        refine wpAny_mono (R i x y G[i] z oz H2.objs.size oC s₂.heap.objs.size _ us h₄ tk₄ ((TI, oTI) :: (TO, oTO) :: (i1, o4) :: (i2, o5) :: base) _ (by simpa using hx) (by simpa using hy) hG hoC (by simp [hab]) (by simp) F₄ (fun p hp => List.mem_cons_of_mem _ (List.mem_cons_of_mem _ (List.mem_cons_of_mem _ (List.mem_cons_of_mem _ hp)))) N₄ off₄) (fun r s₅ h₅ => ?_) fun _ _ e => e
        obtain ⟨h₅, tk₅, news₅, rfl, F₅, N₅, _, _, rfl, t, rfl⟩ := h₅
        have zz := (N₅ (z, oz) (.head _)).1
        have zCC := (N₅ (H2.objs.size, oC) (.tail _ (.head _))).1
        have zDD := (N₅ (s₂.heap.objs.size, lst us) (.tail _ (.tail _ (.head _)))).1
        have N₅' : News h₀ L h₅ base := fun q hq => N₅ q (.tail _ (.tail _ (.tail _ (.tail _ (.tail _ (.tail _ (.tail _ hq)))))))
        obtain ⟨ob1, hb1⟩ := hl1
        obtain ⟨ob2, hb2⟩ := hl2
        have same : ∀ c ∈ [z, TI, TO, i1, i2, l1, l2], ∀ o', h₄.get? c = some o' → h₅.get? c = some o' :=
          allC (same_at N₄ N₅ (oc := oz) (.head _)) (allC (same_at N₄ N₅ (oc := oTI) (.tail _ (.tail _ (.tail _ (.head _))))) (allC (same_at N₄ N₅ (oc := oTO) (.tail _ (.tail _ (.tail _ (.tail _ (.head _)))))) (allC (same_at N₄ N₅ (oc := o4) (.tail _ (.tail _ (.tail _ (.tail _ (.tail _ (.head _))))))) (allC (same_at N₄ N₅ (oc := o5) (.tail _ (.tail _ (.tail _ (.tail _ (.tail _ (.tail _ (.head _)))))))) (allC (same_at N₄ N₅ (oc := ob1) (.tail _ (.tail _ (.tail _ (.tail _ (.tail _ (.tail _ (.tail _ hb1)))))))) (allC (same_at N₄ N₅ (oc := ob2) (.tail _ (.tail _ (.tail _ (.tail _ (.tail _ (.tail _ (.tail _ hb2)))))))) allN))))))
        have hst₅ : ZSt ⟨z, TI, TO, i1, i2, l1, l2⟩ xs.toArray ys.toArray (i + 1) h₅ := W.frame (i + 1) _ _ hst₄ same
        refine append_at (hsz := by show us.toArray.size ≤ sizeLine; rw [List.size_toArray, hul]; exact Nat.le_trans hi hsz) zDD fun h₆ hs₆ hD₆ => ?_
        refine ⟨G.length + 1 - (i + 1), by omega, h₆, tk₅, i + 1, us ++ [.int G[i] t], _, rfl, hlt, rfl, ?_, W.frame (i + 1) _ _ hst₅ fun c hc o' e => hs₆.extBut c o' (zD c hc) e, F₅.change hs₆ hDL hD₀, (hoC.ns zCC).sameBut hs₆ (Ne.symm hDC), fun q hq => ?_⟩
        · rw [List.take_add_one, hG]
          exact ints_snoc hus
        · rcases List.mem_cons.mp hq with rfl | hq
          · exact ⟨hD₆.trans (congrArg some (lst_snoc us _)), hDL, hD₀⟩
          · exact ⟨hs₆.extBut _ _ (Nat.ne_of_lt (bD q hq)) (N₅' q hq).1, (N₅' q hq).2⟩
      · obtain rfl : i = G.length := Nat.le_antisymm hi (Nat.not_lt.mp hlt)
        rw [List.take_length] at hus
        refine W.done _ _ _ hst' fun h₂ tk₂ hk₂ => ?_
        refine hRR _ _ h₂ tk₂ m' us ⟨F'.ns.at' fun o e => kp hk₂ _ o Lz e, fun c o e => kp hk₂ c o (oz0 c o e) (F'.keep c o e), F'.above⟩ (fun q hq => ?_) bD (hn'.at' fun o e => kp hk₂ _ o Cz e) hC₀ hCL (Ne.symm hDC) bC hus
        refine ⟨kp hk₂ _ _ ?_ (N' q hq).1, (N' q hq).2⟩
        rcases List.mem_cons.mp hq with rfl | hq
        · exact Dz'
        · exact hzb q hq
    · rcases List.mem_cons.mp hp with rfl | hp
      · exact ⟨hacc, hDL, hD₀⟩
      · exact ⟨old _ _ (N p hp).1, (N p hp).2⟩
  exact codeAny_compStart_list (loop _ rfl) (W.self 0 _ _ _ hst₁ (loop _ rfl))
noncomputable def SrcZ (prog : Program) (w : World) (A : Around) (h₀ : Heap) (L : Addr) (m : Str → Option Value) (env : Env) (elt : Expr) (a b : Str) (scope : Scope) (cl : List (Str × Addr)) (Q : Value → Shared → Prop) (xv : Value) (s₁ : Shared) : Prop :=
  ∃ (o : ZObj) (xs ys : List Value) (G : List Int) (base : List (Addr × Obj)), xv = .ref o.z ∧ A.handled = none ∧ ZipApart o.z o.TI o.TO o.i1 o.i2 o.l1 o.l2 ∧ xs.length = G.length ∧ ys.length = G.length ∧ G.length ≤ sizeLine ∧ ZSt o xs.toArray ys.toArray 0 s₁.heap ∧ Fr h₀ L s₁.heap m ∧ News h₀ L s₁.heap base ∧
    (∃ ob, (o.l1, ob) ∈ base) ∧ (∃ ob, (o.l2, ob) ∈ base) ∧ (∀ c ∈ [o.z, o.TI, o.TO, o.i1, o.i2], h₀.get? c = none ∧ c ≠ L) ∧ (∀ p ∈ base, p.1 ∉ [o.z, o.TI, o.TO, o.i1, o.i2]) ∧
    TurnZ prog w A h₀ L m env elt a b scope cl s₁ xs ys G base ∧ ∀ D h tk us, Fr h₀ L h m → News h₀ L h ((D, lst us) :: base) → (∀ p ∈ base, p.1 < D) → IntsAre us G → Q (.ref D) { s₁ with heap := h, toks := tk }
theorem ListComp_Z {elt iter : Expr} {a b : Str} {pa pb tp : Pos} {kk : Nat} {scope : Scope} {cl : List (Str × Addr)} {pos : Pos} {Q : Value → Shared → Prop} (_F : Fr h₀ L s.heap m)
    (hclos : closureFor scope env = pure cl) (hcell : ∀ y ∈ scope.names, y.2 ≠ .cell) (hkind : scope.kind = .function) (hxa : scope.names.lookup a = some .local) (hxb : scope.names.lookup b = some .local) (hab : ¬ a = b)
    (hnames : ∀ y ∈ scope.names, y.2 = .local → scope.names.lookup y.1 = some .local)
    (h : wpAny (model prog w) A (eval iter env) (SrcZ prog w A h₀ L m env elt a b scope cl Q) E s)
    (hs : ∀ x, foldedSetIterable iter env x = pure x) :
    wpAny (model prog w) A (eval (.ListComp elt [⟨.Tuple [.Name a pa, .Name b pb] kk tp, iter, [], 0⟩] scope pos) env) Q E s := by
  rw [eval_ListComp]
  refine wpAny_comprehension_free (use := none) rfl hs hclos hkind hnames (wpAny_mono h (fun xv s₁ h₁ => ?_) fun _ _ e => e)
  obtain ⟨o, xs, ys, G, base, rfl, hh, Dz, hxs, hys, hsz, hst, F, N, hl1, hl2, hz0, hzb, R, fin⟩ := h₁
  have W := WalksT.zip2 (prog := prog) (w := w) hh o.z o.TI o.TO o.i1 o.i2 o.l1 o.l2 Dz xs.toArray ys.toArray
  refine W.self 0 _ _ _ hst ?_
  refine block_Z hh Dz hxs hys hsz hcell hkind hxa hxb hab hst F N hl1 hl2 hz0 hzb R ?_
  intro D C h tk m' us F' N' lt hn' hC₀ hCL hCD offC hu
  refine ⟨m', hn', fun h'' hs'' => fin D h'' tk us (F'.change hs'' hCL hC₀) (fun p hp => ?_) lt hu⟩
  refine ⟨hs''.extBut _ _ ?_ (N' p hp).1, (N' p hp).2⟩
  rcases List.mem_cons.mp hp with rfl | hp
  · exact Ne.symm hCD
  · exact offC p hp
noncomputable def SrcZA (prog : Program) (w : World) (A : Around) (h₀ : Heap) (L : Addr) (m : Str → Option Value) (env : Env) (elt : Expr) (a b y : Str) (scope : Scope) (cl : List (Str × Addr)) (Q : Flow → Shared → Prop) (xv : Value) (s₁ : Shared) : Prop :=
  ∃ (o : ZObj) (xs ys : List Value) (G : List Int) (base : List (Addr × Obj)), xv = .ref o.z ∧ A.handled = none ∧ ZipApart o.z o.TI o.TO o.i1 o.i2 o.l1 o.l2 ∧ xs.length = G.length ∧ ys.length = G.length ∧ G.length ≤ sizeLine ∧ ZSt o xs.toArray ys.toArray 0 s₁.heap ∧ Fr h₀ L s₁.heap m ∧ News h₀ L s₁.heap base ∧
    (∃ ob, (o.l1, ob) ∈ base) ∧ (∃ ob, (o.l2, ob) ∈ base) ∧ (∀ c ∈ [o.z, o.TI, o.TO, o.i1, o.i2], h₀.get? c = none ∧ c ≠ L) ∧ (∀ p ∈ base, p.1 ∉ [o.z, o.TI, o.TO, o.i1, o.i2]) ∧
    TurnZ prog w A h₀ L m env elt a b scope cl s₁ xs ys G base ∧ ∀ D h tk us, Fr h₀ L h (fun z => if z = y then some (.ref D) else m z) → News h₀ L h ((D, lst us) :: base) → (∀ p ∈ base, p.1 < D) → IntsAre us G → Q .next { s₁ with heap := h, toks := tk }
theorem Assign_ListComp_Z {elt iter : Expr} {a b y : Str} {pa pb tp py : Pos} {kk : Nat} {scope : Scope} {cl : List (Str × Addr)} {pos spos : Pos} {Q : Flow → Shared → Prop} (_F : Fr h₀ L s.heap m) (hLe : env.locals = L)
    (hsw : swapsWith (.ListComp elt [⟨.Tuple [.Name a pa, .Name b pb] kk tp, iter, [], 0⟩] scope pos) (some (.Name y py)) spos.line env = pure true)
    (hclos : closureFor scope env = pure cl) (hcell : ∀ y ∈ scope.names, y.2 ≠ .cell) (hkind : scope.kind = .function) (hxa : scope.names.lookup a = some .local) (hxb : scope.names.lookup b = some .local) (hab : ¬ a = b)
    (hnames : ∀ y ∈ scope.names, y.2 = .local → scope.names.lookup y.1 = some .local) (hy : env.kindOf y = some .local) (hp : (env.scope.kind == .class || (env.scope.kind == .module && env.locals != env.globals)) = false)
    (h : wpAny (model prog w) A (eval iter env) (SrcZA prog w A h₀ L m env elt a b y scope cl Q) E s)
    (hs : ∀ x, foldedSetIterable iter env x = pure x) :
    wpAny (model prog w) A (exec (.Assign [.Name y py] (.ListComp elt [⟨.Tuple [.Name a pa, .Name b pb] kk tp, iter, [], 0⟩] scope pos) spos) env) Q E s := by
  subst hLe
  rw [exec_Assign_Name_used _ _ _ _ hsw]
  refine wpAny_bind (wpAny_standAt (wpAny_bind ?_))
  show wpAny _ A (do let _ ← comprehension (.ListComp elt [⟨.Tuple [.Name a pa, .Name b pb] kk tp, iter, [], 0⟩] scope pos) scope env _ (newList []) false (eval iter env) (some (assign (.Name y py) env))) _ _ s
  refine wpAny_bind (wpAny_mono (wpAny_comprehension_free (use := some (assign (.Name y py) env)) (Q := fun _ s' => Q .next s') rfl hs hclos hkind hnames
    (wpAny_mono h (fun xv s₁ h₁ => ?_) fun _ _ e => e)) (fun _ s' hq => wpAny_pure (wpAny_pure hq)) fun _ _ e => e)
  obtain ⟨o, xs, ys, G, base, rfl, hh, Dz, hxs, hys, hsz, hst, F, N, hl1, hl2, hz0, hzb, R, fin⟩ := h₁
  have W := WalksT.zip2 (prog := prog) (w := w) hh o.z o.TI o.TO o.i1 o.i2 o.l1 o.l2 Dz xs.toArray ys.toArray
  refine W.self 0 _ _ _ hst ?_
  refine block_Z hh Dz hxs hys hsz hcell hkind hxa hxb hab hst F N hl1 hl2 hz0 hzb R ?_
  intro D C h' tk m' us F' N' lt hn hC₀ hCL hCD offC hu
  show wpAny _ A (assign (.Name y py) env (.ref D)) _ _ _
  refine wpAny_assign_Name (wpAny_storeName_local hy F'.ns (fun h₂ hn₂ hs₂ => ?_) hp)
  have hL₀ : h₀.get? env.locals = none := Heap.get?_none_of_le F'.above
  have F₂ : Fr h₀ env.locals h₂ (fun z => if z = y then some (.ref D) else m z) := ⟨hn₂, fun b o e => hs₂.extBut b o (fun q => by rw [q, hL₀] at e; cases e) (F'.keep b o e), F'.above⟩
  refine ⟨m', hn.sameBut hs₂ hCL, fun h'' hs'' => fin D h'' _ us (F₂.change hs'' hCL hC₀) (fun p hp => ?_) lt hu⟩
  have z : h₂.get? p.1 = some p.2 := hs₂.extBut _ _ (N' p hp).2.1 (N' p hp).1
  refine ⟨hs''.extBut _ _ ?_ z, (N' p hp).2⟩
  rcases List.mem_cons.mp hp with rfl | hp
  · exact Ne.symm hCD
  · exact offC p hp
/-- the call of zip on two lists of the ledger -/
theorem call_zip_Z {elt : Expr} {a b : Str} {scope : Scope} {cl : List (Str × Addr)} {Q : Value → Shared → Prop} {l1 l2 : Addr} {xs ys : List Value} {ns ms : List Int} {c1 c2 : Nat} {base : List (Addr × Obj)} (g : Int → Int → Int)
    (hh : A.handled = none) (F : Fr h₀ L s.heap m) (N : News h₀ L s.heap base) (hm1 : (l1, listOf xs.toArray c1) ∈ base) (hm2 : (l2, listOf ys.toArray c2) ∈ base) (hi1 : IntsAre xs ns) (hi2 : IntsAre ys ms) (hlen : ns.length = ms.length) (hsz : ns.length ≤ sizeLine)
    (turn : ∀ hz, TurnZ prog w A h₀ L m env elt a b scope cl { s with heap := hz } xs ys (List.zipWith g ns ms) base)
    (fin : ∀ D h tk us, Fr h₀ L h m → News h₀ L h ((D, lst us) :: base) → (∀ p ∈ base, p.1 < D) → IntsAre us (List.zipWith g ns ms) → Q (.ref D) { s with heap := h, toks := tk }) :
    wpAny (model prog w) A (call (.type "zip") [.ref l1, .ref l2]) (SrcZ prog w A h₀ L m env elt a b scope cl Q) E s := by
  have h1 : s.heap.IsList l1 xs.toArray := ⟨_, (N _ hm1).1, rfl, _, rfl⟩
  have h2 : s.heap.IsList l2 ys.toArray := ⟨_, (N _ hm2).1, rfl, _, rfl⟩
  have a1 : l1 < s.heap.objs.size := Heap.lt_size (N _ hm1).1
  have a2 : l2 < s.heap.objs.size := Heap.lt_size (N _ hm2).1
  have hzl : (List.zipWith g ns ms).length = ns.length := by rw [List.length_zipWith, ← hlen]; exact Nat.min_self _
  refine call_zip_2 h1 h2 fun h' hz hTI hTO b1 b2 _ hk => ?_
  have up : ∀ k : Nat, ∀ b, b < s.heap.objs.size → b ≠ s.heap.objs.size + k := fun k b hb => Nat.ne_of_lt (Nat.lt_of_lt_of_le hb (Nat.le_add_right _ k))
  have nw : ∀ k : Nat, h₀.get? (s.heap.objs.size + k) = none := fun k => Heap.get?_none_of_le (Nat.le_trans F.above (Nat.le_trans (Nat.le_of_lt F.ns.lt) (Nat.le_add_right _ k)))
  have ne5 : ∀ b, b < s.heap.objs.size → b ∉ [s.heap.objs.size + 4, s.heap.objs.size + 2, s.heap.objs.size + 3, s.heap.objs.size, s.heap.objs.size + 1] := by
    intro b hb hm
    simp only [List.mem_cons, List.not_mem_nil, or_false] at hm
    rcases hm with e | e | e | e | e
    · exact up 4 b hb e
    · exact up 2 b hb e
    · exact up 3 b hb e
    · exact up 0 b hb e
    · exact up 1 b hb e
  refine ⟨⟨s.heap.objs.size + 4, s.heap.objs.size + 2, s.heap.objs.size + 3, s.heap.objs.size, s.heap.objs.size + 1, l1, l2⟩, xs, ys, List.zipWith g ns ms, base, rfl, hh, zipApart_new a1 a2, by rw [hzl, hi1.length], by rw [hzl, hi2.length, hlen], by rw [hzl]; exact hsz,
    ⟨hz, hTI, ⟨_, _, hTO⟩, b1, b2, h1.at fun o e => hk l1 o e, h2.at fun o e => hk l2 o e⟩, F.keeps hk, N.grown hk, ⟨_, hm1⟩, ⟨_, hm2⟩, ?_, fun p hp => ne5 p.1 (Heap.lt_size (N p hp).1), turn h', fun D h tk us => fin D h tk us⟩
  intro c hc
  refine ⟨?_, fun e => ?_⟩
  · simp only [List.mem_cons, List.not_mem_nil, or_false] at hc
    rcases hc with rfl | rfl | rfl | rfl | rfl
    · exact nw 4
    · exact nw 2
    · exact nw 3
    · exact nw 0
    · exact nw 1
  · subst e
    exact ne5 c F.ns.lt hc
theorem call_zip_ZA {elt : Expr} {a b y : Str} {scope : Scope} {cl : List (Str × Addr)} {Q : Flow → Shared → Prop} {l1 l2 : Addr} {xs ys : List Value} {ns ms : List Int} {c1 c2 : Nat} {base : List (Addr × Obj)} (g : Int → Int → Int)
    (hh : A.handled = none) (F : Fr h₀ L s.heap m) (N : News h₀ L s.heap base) (hm1 : (l1, listOf xs.toArray c1) ∈ base) (hm2 : (l2, listOf ys.toArray c2) ∈ base) (hi1 : IntsAre xs ns) (hi2 : IntsAre ys ms) (hlen : ns.length = ms.length) (hsz : ns.length ≤ sizeLine)
    (turn : ∀ hz, TurnZ prog w A h₀ L m env elt a b scope cl { s with heap := hz } xs ys (List.zipWith g ns ms) base)
    (fin : ∀ D h tk us, Fr h₀ L h (fun z => if z = y then some (.ref D) else m z) → News h₀ L h ((D, lst us) :: base) → (∀ p ∈ base, p.1 < D) → IntsAre us (List.zipWith g ns ms) → Q .next { s with heap := h, toks := tk }) :
    wpAny (model prog w) A (call (.type "zip") [.ref l1, .ref l2]) (SrcZA prog w A h₀ L m env elt a b y scope cl Q) E s := by
  have h1 : s.heap.IsList l1 xs.toArray := ⟨_, (N _ hm1).1, rfl, _, rfl⟩
  have h2 : s.heap.IsList l2 ys.toArray := ⟨_, (N _ hm2).1, rfl, _, rfl⟩
  have a1 : l1 < s.heap.objs.size := Heap.lt_size (N _ hm1).1
  have a2 : l2 < s.heap.objs.size := Heap.lt_size (N _ hm2).1
  have hzl : (List.zipWith g ns ms).length = ns.length := by rw [List.length_zipWith, ← hlen]; exact Nat.min_self _
  refine call_zip_2 h1 h2 fun h' hz hTI hTO b1 b2 _ hk => ?_
  have up : ∀ k : Nat, ∀ b, b < s.heap.objs.size → b ≠ s.heap.objs.size + k := fun k b hb => Nat.ne_of_lt (Nat.lt_of_lt_of_le hb (Nat.le_add_right _ k))
  have nw : ∀ k : Nat, h₀.get? (s.heap.objs.size + k) = none := fun k => Heap.get?_none_of_le (Nat.le_trans F.above (Nat.le_trans (Nat.le_of_lt F.ns.lt) (Nat.le_add_right _ k)))
  have ne5 : ∀ b, b < s.heap.objs.size → b ∉ [s.heap.objs.size + 4, s.heap.objs.size + 2, s.heap.objs.size + 3, s.heap.objs.size, s.heap.objs.size + 1] := by
    intro b hb hm
    simp only [List.mem_cons, List.not_mem_nil, or_false] at hm
    rcases hm with e | e | e | e | e
    · exact up 4 b hb e
    · exact up 2 b hb e
    · exact up 3 b hb e
    · exact up 0 b hb e
    · exact up 1 b hb e
  refine ⟨⟨s.heap.objs.size + 4, s.heap.objs.size + 2, s.heap.objs.size + 3, s.heap.objs.size, s.heap.objs.size + 1, l1, l2⟩, xs, ys, List.zipWith g ns ms, base, rfl, hh, zipApart_new a1 a2, by rw [hzl, hi1.length], by rw [hzl, hi2.length, hlen], by rw [hzl]; exact hsz,
    ⟨hz, hTI, ⟨_, _, hTO⟩, b1, b2, h1.at fun o e => hk l1 o e, h2.at fun o e => hk l2 o e⟩, F.keeps hk, N.grown hk, ⟨_, hm1⟩, ⟨_, hm2⟩, ?_, fun p hp => ne5 p.1 (Heap.lt_size (N p hp).1), turn h', fun D h tk us => fin D h tk us⟩
  intro c hc
  refine ⟨?_, fun e => ?_⟩
  · simp only [List.mem_cons, List.not_mem_nil, or_false] at hc
    rcases hc with rfl | rfl | rfl | rfl | rfl
    · exact nw 4
    · exact nw 2
    · exact nw 3
    · exact nw 0
    · exact nw 1
  · subst e
    exact ne5 c F.ns.lt hc
end
end ZZC
section ZM0
set_option maxRecDepth 100000
open PySem PySem.W PySem.Spec PySem.Calls PyProof.Rows PyProof.Rows.LCg
theorem allLtAt {a : Addr} : ∀ {l : List (Addr × Obj)}, (∀ p ∈ l, p.1 < a) → ∀ b : Addr, a ≤ b → AllLt b l
  | [], _, _, _ => trivial
  | p :: r, h, b, hb => ⟨Nat.lt_of_lt_of_le (h p (.head _)) hb, allLtAt (fun q hq => h q (.tail _ hq)) b hb⟩
theorem upd_mk {d : Addr} {o o' : Obj} {post : List (Addr × Obj)} : ∀ pre : List (Addr × Obj), (∀ p ∈ pre, p.1 ≠ d) → (∀ p ∈ post, p.1 ≠ d) → Upd d o o' (pre ++ (d, o) :: post) (pre ++ (d, o') :: post)
  | [], _, h2 => .head h2
  | p :: pre, h1, h2 => .tail (h1 p (.head _)) (upd_mk pre (fun q hq => h1 q (.tail _ hq)) h2)
section
variable {prog : Program} {w : World} {A : Around} {E : Value → Shared → Prop} {s : Shared} {h₀ : Heap} {L : Addr} {m : Str → Option Value} {news : List (Addr × Obj)}
theorem extendI {D b : Addr} {ws us : List Value} {n n2 : Nat} {g : Obj → List (Addr × Obj)} {Q : Value → Shared → Prop} (F : Fr h₀ L s.heap m) (N : News h₀ L s.heap news) (hb : (b, listOf us.toArray n2) ∈ news)
    (U : UpdF D (listOf ws.toArray n) news g) (hz : ws.length + us.length ≤ 1000)
    (h : ∀ h' k, Fr h₀ L h' m → News h₀ L h' (g (listOf (ws ++ us).toArray k)) → Q .none { s with heap := h' }) : wpAny (model prog w) A (call (.builtin "list.extend") [.ref D, .ref b]) Q E s := by
  obtain ⟨pre, post, rfl, hg, h1, h2⟩ := U.split
  have hno : ¬(!ws.toArray.isEmpty && Builtin.List.listTooLong (ws.toArray.size + us.toArray.size)) = true := by
    intro hc
    have : Builtin.List.listTooLong (ws.toArray.size + us.toArray.size) = true := by
      cases h3 : Builtin.List.listTooLong (ws.toArray.size + us.toArray.size) with
      | true => rfl
      | false => rw [h3] at hc; simp at hc
    unfold Builtin.List.listTooLong at this
    simp at this
    rw [sizeLine_eq] at this
    omega
  have hz1 : ws.toArray.toList.length ≤ sizeLine := by rw [sizeLine_eq]; simp; omega
  have hz2 : ws.toArray.size + us.toArray.size ≤ sizeLine + 1 := by rw [sizeLine_eq]; simp; omega
  cases us with
  | nil =>
    refine kxn_extend F N hb rfl (upd_mk pre h1 h2) hno hz1 hz2 fun h' F' N' => h h' n F' ?_
    rw [hg, List.append_nil]; exact N'
  | cons u us =>
    refine kl_extend (l := ws ++ (u :: us)) F N hb rfl (by simp) (upd_mk pre h1 h2) hno hz1 hz2 fun h' F' N' => h h' (n + 1) F' ?_
    rw [hg]; exact N'
end
section
variable {prog : Program} {w : World} {A : Around} {E : Value → Shared → Prop} {s : Shared} {env : Env} {h₀ : Heap} {m : Str → Option Value}
noncomputable def PJ (T : List Int → List Int) (nm : Str) (fc : Addr) (tl : List (Addr × Obj)) (m : Str → Option Value) (pre : List Int) (m₁ : Str → Option Value) (n₁ : List (Addr × Obj)) : Prop :=
  ∃ ta tv tc oc v0, n₁ = (ta, listOf (List.toArray tv) tc) :: (fc, oc) :: tl ∧ oc.data = .cell v0 ∧ IntsAre tv (T pre) ∧ @Ne Nat ta fc ∧ (∀ p ∈ tl, p.1 < ta) ∧ m₁ = fun y => if y = nm then some (.ref ta) else m y
/-- a loop over a list of ints that binds a list anew in every turn; the loop's own name is a cell -/
theorem turns_prod {x nm : Str} {px : Pos} {body : List Stmt} {Q : Flow → Shared → Prop} {l fc ta : Addr} {vs tv : List Value} {ns : List Int} {c tc : Nat} {oc : Obj} {v0 : Option Value} {tl : List (Addr × Obj)} (T : List Int → List Int)
    (hh : A.handled = none) (F : Fr h₀ env.locals s.heap (fun y => if y = nm then some (.ref ta) else m y)) (N : News h₀ env.locals s.heap ((ta, listOf tv.toArray tc) :: (fc, oc) :: tl)) (hd : oc.data = .cell v0)
    (hm : (l, listOf vs.toArray c) ∈ tl) (hi : IntsAre vs ns) (h0 : IntsAre tv (T [])) (hta : @Ne Nat ta fc) (hlta : ∀ p ∈ tl, p.1 < ta) (htl : ∀ p ∈ tl, p.1 ≠ fc)
    (turn : ∀ pre n post t ta tv tc oc v0 I own h tk, ns = pre ++ n :: post → oc.data = .cell v0 → IntsAre tv (T pre) → @Ne Nat ta fc → (∃ oI, (I, oI) ∈ own) → (∀ p ∈ own, p.1 ≠ fc) → (∀ p ∈ tl, p.1 ≠ I) → Fr h₀ env.locals h (fun y => if y = nm then some (.ref ta) else m y) →
      News h₀ env.locals h ((ta, listOf (List.toArray tv) tc) :: (fc, oc) :: (tl ++ own)) →
      wpAny (model prog w) A (assign (.Name x px) env (.int n t)) (fun _ s₃ => wpAny (model prog w) A (execs body env)
        (LoopStepV h₀ env.locals [I] own (PJ T nm fc tl m (pre ++ [n])) { s with heap := h, toks := tk } (fun v s' => Q (.ret v) s') fun s' => Q .next s') E s₃) E { s with heap := h, toks := tk })
    (done : ∀ ta tv tc oc v0 h tk, oc.data = .cell v0 → IntsAre tv (T ns) → @Ne Nat ta fc → (∀ p ∈ tl, p.1 < ta) → Fr h₀ env.locals h (fun y => if y = nm then some (.ref ta) else m y) → News h₀ env.locals h ((ta, listOf (List.toArray tv) tc) :: (fc, oc) :: tl) → Q .next { s with heap := h, toks := tk }) :
    wpAny (model prog w) A (pyIter (.ref l)) (fun it s₂ => TurnsAt prog w A h₀ env (.Name x px) body Q E it s₂) E s := by
  have hml : (l, listOf vs.toArray c) ∈ (ta, listOf tv.toArray tc) :: (fc, oc) :: tl := .tail _ (.tail _ hm)
  have hl : s.heap.IsList l vs.toArray := ⟨_, (N _ hml).1, rfl, _, rfl⟩
  have hlt : l < s.heap.objs.size := Heap.lt_size (N _ hml).1
  have hne : l ≠ s.heap.objs.size := Nat.ne_of_lt hlt
  refine wpAny_pyIter_list hl ?_
  have up : ∀ b o, s.heap.get? b = some o → (s.heap.push { cls := .type "list_iterator", data := .fields #[.ref l, .int 0 0] }).get? b = some o := fun b o e => Heap.get?_push_of_some _ e
  have hlen : vs.toArray.size = ns.length := by rw [List.size_toArray]; exact hi.length
  have W := KTurns.ofWalks (target := Expr.Name x px) (Walks.list (prog := prog) (w := w) hh s.heap.objs.size l hne vs.toArray) (fun i v s Q E _ q => wpAny_of_eq (by rfl) q)
  rw [hlen] at W
  refine ⟨s.heap.objs.size, [s.heap.objs.size, l], [s.heap.objs.size], ns.length, _, _, _, _, _, fun i m₁ n₁ => PJ T nm fc tl m (ns.take i) m₁ n₁, rfl, W, ?_, ?_, ?_, ⟨⟨_, Heap.get?_push_size _ rfl, rfl, rfl⟩, hl.push _⟩, F.keeps up, N.grown up, ⟨ta, tv, tc, oc, v0, rfl, hd, by simpa using h0, hta, hlta, rfl⟩, ?_, ?_⟩
  · intro hmem
    rcases List.mem_cons.mp hmem with e | hmem
    · exact absurd F.ns.lt (e ▸ Nat.lt_irrefl _)
    · exact (N _ hml).2.1 (List.mem_singleton.mp hmem).symm
  · intro b hb
    rw [List.mem_singleton.mp hb]
    exact next_is_new F
  · intro p hp hmem
    exact absurd (Heap.lt_size (N p hp).1) ((List.mem_singleton.mp hmem) ▸ Nat.lt_irrefl _)
  · rintro i v m₁ n₁ h₁ tk₁ own hin hP ⟨ta', tv', tc', oc', v0', rfl, hd', hi', hta', _, rfl⟩ _ hofs _ hall hst F₁ N₁
    have hv : vs[i]? = some v := by simpa using hP
    obtain ⟨n, t, rfl, hn⟩ := IntsAre.at hi i v hv
    have hs : ns.take (i + 1) = ns.take i ++ [n] := by simp [List.take_add_one, hn]
    have e : ns = ns.take i ++ n :: ns.drop (i + 1) := by
      have ht := List.take_append_drop (i + 1) ns
      rw [hs, List.append_assoc] at ht
      exact ht.symm
    dsimp only
    rw [hs]
    obtain ⟨it, hit, _⟩ := hst.1
    refine turn (ns.take i) n (ns.drop (i + 1)) t ta' tv' tc' oc' v0' s.heap.objs.size own h₁ tk₁ e hd' hi' hta' ⟨it, hall _ List.mem_cons_self (next_is_new F) it hit⟩ (fun p hp => ?_) (fun p hp => Nat.ne_of_lt (Heap.lt_size (N p (.tail _ (.tail _ hp))).1)) F₁ (fun p hp => N₁ p ?_)
    · rcases List.mem_cons.mp (hofs p hp) with e | e
      · rw [e]
        exact Nat.ne_of_gt (Heap.lt_size (N (fc, oc) (.tail _ (.head _))).1)
      · rw [List.mem_singleton.mp e]
        exact htl _ hm
    · rcases List.mem_cons.mp hp with rfl | hp
      · exact List.mem_append_right _ (.head _)
      rcases List.mem_cons.mp hp with rfl | hp
      · exact List.mem_append_right _ (.tail _ (.head _))
      rcases List.mem_append.mp hp with hp | hp
      · exact List.mem_append_right _ (.tail _ (.tail _ hp))
      · exact List.mem_append_left _ hp
  · rintro h' tk m' n' F' N' _ ⟨ta', tv', tc', oc', v0', rfl, hd', hi', hta', hlt', rfl⟩
    rw [List.take_length] at hi'
    exact done ta' tv' tc' oc' v0' h' tk hd' hi' hta' hlt' F' N'
/-- the end of such a turn -/
theorem prod_end {x nm : Str} {L fc ta I : Addr} {tv : List Value} {tc : Nat} {oc : Obj} {v0 : Option Value} {T : List Int → List Int} {tl own : List (Addr × Obj)} {pre : List Int} {s₁ : Shared} {h' : Heap} {tk : Nat} {m m' : Str → Option Value} {Qr : Value → Shared → Prop} {Qn : Shared → Prop}
    (F : Fr h₀ L h' m') (N : News h₀ L h' ((ta, listOf tv.toArray tc) :: (fc, oc) :: (tl ++ own))) (hd : oc.data = .cell v0) (hi : IntsAre tv (T pre)) (hta : @Ne Nat ta fc) (hI : ∃ oI, (I, oI) ∈ own) (hlt : @Ne Nat ta I) (hfc : ∀ p ∈ own, p.1 ≠ fc) (htl : ∀ p ∈ tl, p.1 ≠ I) (hlta : ∀ p ∈ tl, p.1 < ta)
    (hm : m' = fun y => if y = nm then some (.ref ta) else m y) :
    LoopStepV h₀ L [I] own (PJ T nm fc tl m pre) s₁ Qr Qn .next { s₁ with heap := h', toks := tk } := by
  obtain ⟨oI, hI⟩ := hI
  refine LoopStepV.next ⟨rfl, h', tk, m', (ta, listOf tv.toArray tc) :: (fc, oc) :: tl, rfl, F, fun p hp => N p ?_, fun p hp hmem => ?_, ⟨ta, tv, tc, oc, v0, rfl, hd, hi, hta, hlta, hm⟩⟩
  · rcases List.mem_append.mp hp with hp | hp
    · exact .tail _ (.tail _ (List.mem_append_right _ hp))
    rcases List.mem_cons.mp hp with rfl | hp
    · exact .head _
    rcases List.mem_cons.mp hp with rfl | hp
    · exact .tail _ (.head _)
    · exact .tail _ (.tail _ (List.mem_append_left _ hp))
  · have e := List.mem_singleton.mp hmem
    rcases List.mem_cons.mp hp with rfl | hp
    · exact hlt e
    rcases List.mem_cons.mp hp with rfl | hp
    · exact hfc _ hI e.symm
    · exact htl p hp e
theorem prod_end2 {nm : Str} {L fc ta D I : Addr} {us : List Value} {oc : Obj} {v0 : Option Value} {T : List Int → List Int} {tl own base : List (Addr × Obj)} {pre : List Int} {s₁ : Shared} {h' : Heap} {tk : Nat} {m : Str → Option Value} {Qr : Value → Shared → Prop} {Qn : Shared → Prop}
    (F : Fr h₀ L h' (fun z => if z = nm then some (.ref D) else if z = nm then some (.ref ta) else m z)) (N : News h₀ L h' ((D, lst us) :: base)) (hlt : ∀ p ∈ base, p.1 < D) (h1 : (fc, oc) ∈ base) (h2 : ∀ p ∈ tl ++ own, p ∈ base)
    (hd : oc.data = .cell v0) (hi : IntsAre us (T pre)) (hI : ∃ oI, (I, oI) ∈ own) (hfc : ∀ p ∈ own, p.1 ≠ fc) (htl : ∀ p ∈ tl, p.1 ≠ I) :
    LoopStepV h₀ L [I] own (PJ T nm fc tl m pre) s₁ Qr Qn .next { s₁ with heap := h', toks := tk } := by
  obtain ⟨oI, hI'⟩ := id hI
  refine prod_end (x := nm) (tc := us.length) F (fun p hp => N p ?_) hd hi (Nat.ne_of_gt (hlt _ h1)) hI (Nat.ne_of_gt (hlt _ (h2 _ (List.mem_append_right _ hI')))) hfc htl (fun p hp => hlt p (h2 p (List.mem_append_left _ hp))) ?_
  · rcases List.mem_cons.mp hp with rfl | hp
    · exact .head _
    rcases List.mem_cons.mp hp with rfl | hp
    · exact .tail _ h1
    · exact .tail _ (h2 p hp)
  · funext z
    by_cases hz : z = nm
    · rw [if_pos hz, if_pos hz]
    · rw [if_neg hz, if_neg hz, if_neg hz]
theorem zipW_at {g : Int → Int → Int} {ns ms : List Int} {i : Nat} {a b c : Int} (h1 : ns[i]? = some a) (h2 : ms[i]? = some b) (h : (List.zipWith g ns ms)[i]? = some c) : c = g a b := by
  rw [List.getElem?_zipWith, h1, h2] at h
  simpa using h.symm
end
end ZM0
section ZM1
open PySem PySem.W PySem.Spec PySem.Calls PyProof.Rows
set_option rowWalk.seconds 0
set_option compiler.extract_closed false
set_option maxRecDepth 100000
set_option maxHeartbeats 8000000
set_option pp.deepTerms false
set_option pp.deepTerms.threshold 10
set_option pp.maxSteps 20000
noncomputable def stepT (f : Int) (t : List Int) : List Int := List.zipWith (fun a b => a + f * b) (t ++ [0]) ([0] ++ t)
noncomputable def prodT (t : List Int) (fs : List Int) : List Int := fs.foldl (fun t f => stepT f t) t
theorem prodT_snoc (t fs : List Int) (f : Int) : prodT t (fs ++ [f]) = stepT f (prodT t fs) := by simp [prodT, List.foldl_append]
theorem stepT_len (f : Int) (t : List Int) : (stepT f t).length = t.length + 1 := by simp [stepT]
theorem prodT_len (t : List Int) : ∀ fs : List Int, (prodT t fs).length = t.length + fs.length := by
  intro fs
  induction fs generalizing t with
  | nil => rfl
  | cons f fs ih =>
    show (prodT (stepT f t) fs).length = _
    rw [ih, stepT_len, List.length_cons]; omega
noncomputable def facL (m g0 g1 g2 g3 : Int) : List Int :=
  if m = 1 then List.replicate (g0 - 1).toNat m
  else if m = 2 then List.replicate (g0 - 1).toNat m ++ List.replicate (g1 - g0).toNat (m - 1)
  else if m = 3 then (List.replicate (g0 - 1).toNat m ++ List.replicate (g1 - g0).toNat (m - 1)) ++ List.replicate (g2 - g1).toNat (m - 2)
  else ((List.replicate (g0 - 1).toNat m ++ List.replicate (g1 - g0).toNat (m - 1)) ++ List.replicate (g2 - g1).toNat (m - 2)) ++ List.replicate (g3 - g2).toNat (m - 3)
theorem fac1 (g0 g1 g2 g3 : Int) : facL 1 g0 g1 g2 g3 = List.replicate (g0 - 1).toNat 1 := by simp [facL]
theorem fac2 (g0 g1 g2 g3 : Int) : facL 2 g0 g1 g2 g3 = List.replicate (g0 - 1).toNat 2 ++ List.replicate (g1 - g0).toNat 1 := by simp [facL]
theorem fac3 (g0 g1 g2 g3 : Int) : facL 3 g0 g1 g2 g3 = (List.replicate (g0 - 1).toNat 3 ++ List.replicate (g1 - g0).toNat 2) ++ List.replicate (g2 - g1).toNat 1 := by simp [facL]
theorem fac4 (g0 g1 g2 g3 : Int) : facL 4 g0 g1 g2 g3 = ((List.replicate (g0 - 1).toNat 4 ++ List.replicate (g1 - g0).toNat 3) ++ List.replicate (g2 - g1).toNat 2) ++ List.replicate (g3 - g2).toNat 1 := by simp [facL]
theorem facL_le (m g0 g1 g2 g3 : Int) : (facL m g0 g1 g2 g3).length ≤ (g0 - 1).toNat + (g1 - g0).toNat + (g2 - g1).toNat + (g3 - g2).toNat := by
  unfold facL
  (repeat' split) <;> simp only [List.length_append, List.length_replicate] <;> (generalize (g0 - 1).toNat = a; generalize (g1 - g0).toNat = b; generalize (g2 - g1).toNat = c; generalize (g3 - g2).toNat = d; omega)
theorem facL_len {m g0 g1 g2 g3 : Int} (hg0 : 1 ≤ g0) (hg1 : g0 ≤ g1) (hg2 : g1 ≤ g2) (hg3 : g2 ≤ g3) (hg4 : g3 ≤ 50) : (facL m g0 g1 g2 g3).length ≤ 60 := by
  refine Nat.le_trans (facL_le m g0 g1 g2 g3) ?_
  omega
theorem mem_rep {k : Nat} {x y : Int} (h : x ∈ List.replicate k y) (h0 : 0 ≤ y) (h4 : y ≤ 4) : 0 ≤ x ∧ x ≤ 4 := by
  rw [(List.mem_replicate.mp h).2]; exact ⟨h0, h4⟩
theorem mem_app2 {l r : List Int} {x : Int} (h : x ∈ l ++ r) (h1 : x ∈ l → 0 ≤ x ∧ x ≤ 4) (h2 : x ∈ r → 0 ≤ x ∧ x ≤ 4) : 0 ≤ x ∧ x ≤ 4 := (List.mem_append.mp h).elim h1 h2
theorem facL_bd {m g0 g1 g2 g3 x : Int} (h1 : 1 ≤ m) (h4 : m ≤ 4) (hx : x ∈ facL m g0 g1 g2 g3) : 0 ≤ x ∧ x ≤ 4 := by
  have hm : m = 1 ∨ m = 2 ∨ m = 3 ∨ m = 4 := by omega
  rcases hm with rfl | rfl | rfl | rfl
  · rw [fac1] at hx; exact mem_rep hx (by decide) (by decide)
  · rw [fac2] at hx; exact mem_app2 hx (fun h => mem_rep h (by decide) (by decide)) (fun h => mem_rep h (by decide) (by decide))
  · rw [fac3] at hx; exact mem_app2 hx (fun h => mem_app2 h (fun h => mem_rep h (by decide) (by decide)) (fun h => mem_rep h (by decide) (by decide))) (fun h => mem_rep h (by decide) (by decide))
  · rw [fac4] at hx; exact mem_app2 hx (fun h => mem_app2 h (fun h => mem_app2 h (fun h => mem_rep h (by decide) (by decide)) (fun h => mem_rep h (by decide) (by decide))) (fun h => mem_rep h (by decide) (by decide))) (fun h => mem_rep h (by decide) (by decide))
theorem pre_mem {ns pre post : List Int} {n : Int} (h : ns = pre ++ n :: post) : n ∈ ns := by rw [h]; simp
theorem pre_len {ns pre post : List Int} {n : Int} (h : ns = pre ++ n :: post) : pre.length < ns.length := by rw [h]; simp
theorem news_sel4 {h₀ h : Heap} {L : Addr} {e1 e2 e3 e4 : Addr × Obj} {nw news : List (Addr × Obj)} (N : News h₀ L h nw) (h1 : e1 ∈ nw) (h2 : e2 ∈ nw) (h3 : e3 ∈ nw) (h4 : e4 ∈ nw) (ht : ∀ p ∈ news, p ∈ nw) : News h₀ L h (e1 :: e2 :: e3 :: e4 :: news) := fun p hp => N p (by
  simp only [List.mem_cons] at hp
  rcases hp with rfl | rfl | rfl | rfl | hp
  · exact h1
  · exact h2
  · exact h3
  · exact h4
  · exact ht p hp)
theorem news_prod {h₀ h : Heap} {L fA fc ta : Addr} {vs tv : List Value} {c tc : Nat} {oc : Obj} {e4 : Addr × Obj} {nw news : List (Addr × Obj)} (N : News h₀ L h nw) (h1 : (ta, listOf (List.toArray tv) tc) ∈ nw) (h2 : (fc, oc) ∈ nw) (h3 : (fA, listOf (List.toArray vs) c) ∈ nw) (h4 : e4 ∈ nw) (ht : ∀ p ∈ news, p ∈ nw) :
    News h₀ L h ((ta, listOf (List.toArray tv) tc) :: (fc, oc) :: (fA, listOf (List.toArray vs) c) :: e4 :: news) := news_sel4 N h1 h2 h3 h4 ht
theorem offTl {a b : Addr × Obj} {c : Addr} {news : List (Addr × Obj)} (h1 : @Ne Nat a.1 c) (h2 : @Ne Nat b.1 c) (h3 : AllLt c news) : ∀ p ∈ a :: b :: news, p.1 ≠ c := by
  intro p hp
  simp only [List.mem_cons] at hp
  rcases hp with rfl | rfl | hp
  · exact h1
  · exact h2
  · exact Nat.ne_of_lt (allLt_mem h3 p hp)
theorem offLt {a b : Addr × Obj} {c : Addr} {news : List (Addr × Obj)} (h1 : @LT.lt Nat _ a.1 c) (h2 : @LT.lt Nat _ b.1 c) (h3 : AllLt c news) : ∀ p ∈ a :: b :: news, p.1 < c := by
  intro p hp
  simp only [List.mem_cons] at hp
  rcases hp with rfl | rfl | hp
  · exact h1
  · exact h2
  · exact allLt_mem h3 p hp
theorem offApp {c : Addr} {a b : List (Addr × Obj)} (h1 : AllLt c a) (h2 : ∀ p ∈ b, p.1 ≠ c) : ∀ p ∈ a ++ b, p.1 ≠ c := by
  intro p hp
  rcases List.mem_append.mp hp with hp | hp
  · exact Nat.ne_of_lt (allLt_mem h1 p hp)
  · exact h2 p hp
theorem unrEndE2 {h₀ h' : Heap} {L I : Addr} {oI : Obj} {x1 x2 : Addr × Obj} {s₁ : Shared} {tk : Nat} {m' : Str → Option Value} {l : List (Addr × Obj)} {rest : (Str → Option Value) → List (Addr × Obj) → Prop}
    (F : Fr h₀ L h' m') (N : News h₀ L h' (x1 :: x2 :: (I, oI) :: l)) (hl : AllLt I l) (r : rest m' l) : UnrEnd h₀ L s₁ I oI rest { s₁ with heap := h', toks := tk } :=
  UnrEnd.intro F (fun p hp => N p (.tail _ (.tail _ hp))) l (fun _ h => h) (fun p hp => Nat.ne_of_lt (allLt_mem hl p hp)) r
noncomputable def toldFor : List Stmt := (by exact fun s _ => s : (s : List Stmt) → (match PySem.Challenge.pw_sn0058_01.main.body[72]? with | some (Stmt.FunctionDef _ _ x _ _ _ _ _ _ _) => (match x[3]? with | some (Stmt.For _ _ b _ _) => some b | _ => none) | _ => none) = some s → List Stmt) _ (by unfold PySem.Challenge.pw_sn0058_01; exact rfl)
noncomputable def prodSc : Scope := (by exact fun s _ => s : (s : Scope) → (match PySem.Challenge.pw_sn0058_01.main.body[72]? with | some (Stmt.FunctionDef _ _ _ _ _ _ x _ _ _) => some x | _ => none) = some s → Scope) _ (by unfold PySem.Challenge.pw_sn0058_01; exact rfl)
structure GB (g0 g1 g2 g3 : Int) : Prop where
  a : 0 ≤ g0 - 1 ∧ g0 - 1 ≤ 50
  b : 0 ≤ g1 - g0 ∧ g1 - g0 ≤ 50
  c : 0 ≤ g2 - g1 ∧ g2 - g1 ≤ 50
  d : 0 ≤ g3 - g2 ∧ g3 - g2 ≤ 50
theorem gB {g0 g1 g2 g3 : Int} (h0 : 1 ≤ g0) (h1 : g0 ≤ g1) (h2 : g1 ≤ g2) (h3 : g2 ≤ g3) (h4 : g3 ≤ 50) : GB g0 g1 g2 g3 :=
  ⟨⟨by omega, by omega⟩, ⟨by omega, by omega⟩, ⟨by omega, by omega⟩, ⟨by omega, by omega⟩⟩
theorem lo63 {x : Int} (h : 0 ≤ x ∧ x ≤ 50) : -(2 ^ 63 : Int) ≤ x := Int.le_trans (by decide) h.1
theorem hi63 {x : Int} (h : 0 ≤ x ∧ x ≤ 50) : x < 2 ^ 63 := Int.lt_of_le_of_lt h.2 (by decide)
theorem tn50 {x : Int} (h : 0 ≤ x ∧ x ≤ 50) : x.toNat ≤ 50 := Int.toNat_le.mpr h.2
theorem z50 {x : Int} (h : 0 ≤ x ∧ x ≤ 50) : 1 * x.toNat ≤ 256 := by rw [Nat.one_mul]; exact Nat.le_trans (tn50 h) (by decide)
theorem s2 {a b : Nat} (ha : a ≤ 50) (hb : b ≤ 50) : a + b ≤ 1000 := Nat.le_trans (Nat.add_le_add ha hb) (by decide)
theorem s3 {a b c : Nat} (ha : a ≤ 50) (hb : b ≤ 50) (hc : c ≤ 50) : a + b + c ≤ 1000 := Nat.le_trans (Nat.add_le_add (Nat.add_le_add ha hb) hc) (by decide)
theorem s4 {a b c d : Nat} (ha : a ≤ 50) (hb : b ≤ 50) (hc : c ≤ 50) (hd : d ≤ 50) : a + b + c + d ≤ 1000 := Nat.le_trans (Nat.add_le_add (Nat.add_le_add (Nat.add_le_add ha hb) hc) hd) (by decide)
theorem told_turn {w : World} {mean : ExcName → Option Value} {mg mb : Str → Option Value} {A : Around} {h₀ : Heap} {L fa : Addr} {cd : Value} {m : Str → Option Value} {s : Shared} {Qr : Value → Shared → Prop} {Qn : Shared → Prop} {E : Value → Shared → Prop} {t0 : List Int} {px : Pos} {tl : List (Addr × Obj)} {ns : List Int}
  (hh : A.handled = none) (X : (Mine.hp w.params).In h₀) (T : Top topProg (looseW Mine.vw Mine.lo ++ (recsOf Mine.vw).map (·.name) ++ (litsOf Mine.vw).map (·.1) ++ (clssOf Mine.vw (looseW Mine.vw Mine.lo)).map (·.name)) mean mg mb h₀) (ht0 : t0.length = 2) (hfl : ns.length ≤ 60) (hfb : ∀ x ∈ ns, 0 ≤ x ∧ x ≤ 4) (htl : ∀ p ∈ tl, p.1 ≠ L + 1)
  (pre : List Int) (n : Int) (post : List Int) (t : Tok) (ta : Addr) (tv : List Value) (tc : Nat) (oc : Obj) (v0 : Option Value) (I : Addr) (own : List (Addr × Obj)) (h : Heap) (tk : Nat)
  (hns : ns = pre ++ n :: post) (hoc : oc.data = .cell v0) (htv : IntsAre tv (prodT t0 pre)) (htaf : @Ne Nat ta (L + 1)) (hIo : ∃ oI, (I, oI) ∈ own) (hofc : ∀ p ∈ own, p.1 ≠ L + 1) (htI : ∀ p ∈ tl, p.1 ≠ I)
  (F : Fr h₀ L h (fun y => if y = Str.ofString "told" then some (.ref ta) else m y)) (N : News h₀ L h ((ta, listOf (List.toArray tv) tc) :: (L + 1, oc) :: (tl ++ own))) :
  wpAny (model Mine.rw.prog w) A (assign (.Name (Str.ofString "factor") px) (envOfC (Str.ofString "_law_product") prodSc L fa cd) (.int n t)) (fun _ s₃ => wpAny (model Mine.rw.prog w) A (execs toldFor (envOfC (Str.ofString "_law_product") prodSc L fa cd))
    (LoopStepV h₀ L [I] own (PJ (prodT t0) (Str.ofString "told") (L + 1) tl m (pre ++ [n])) { s with heap := h, toks := tk } Qr Qn) E s₃) E { s with heap := h, toks := tk } := by
  unfold toldFor prodSc
  have hpl := Nat.lt_of_lt_of_le (pre_len hns) hfl
  have hnb := hfb n (pre_mem hns)
  have htv2 := htv.length
  rw [prodT_len, ht0] at htv2
  have hno : ∀ p ∈ tl ++ own, p.1 ≠ L + 1 := fun p hp => (List.mem_append.mp hp).elim (htl p) (hofc p)
  k_with_none
  k_with "execs cons" => (k_here; first | k_gentoks | (k_made; walk_at "execs cons") | ((with_reducible refine execs_consF ?_); intro qz))
  k_with "storeName" => (k_here; (fail_if_success (k_extra "unfolded")); k_dflt (first | (refine' storeX_LF ?F ?N ?_ ?a ?b; (case F => k_asm); (case N => k_asm); (case a => rfl); (case b => rfl); k_whole; intro h' tk' mz F' N'; (try k_sweep)) | (refine' storeX_CF ?F ?N ?c ?U ?d ?_ ?a ?b; (case a => rfl); (case b => rfl); (case F => k_asm); (case N => k_asm); (case c => rfl); (case U => k_updF); (case d => k_asm); k_whole; intro h' o' F' N' d'; (try dsimp only at N'); (try k_sweep))))
  k_with "LeaveF" => (k_dflt (refine' leaveF_ ?k1 ?k2 ?_; (case k1 => k_asm); (case k2 => k_asm); k_whole); intro kF kN; (try ground_anew kF); (try have kX := kFor kF (by k_asm)))
  k_with "LeaveF" => (k_made; walk_at "LeaveF")
  k_with "zUR" => (have hcL9 := cLine_is; omega)
  k_with "zNE" => (refine neN ?_; (try dsimp only); first | with_reducible (first | (refine neA0 (by assumption) ?_; focus ((repeat (first | exact And.left | exact id | refine andR ?_)); done)) | (refine neB0 (by assumption) ?_; focus ((repeat (first | exact And.left | exact id | refine andR ?_)); done)) | (refine neC (by assumption) ?_; focus ((repeat (first | exact And.left | exact id | refine andR ?_)); done)) | (refine neCs (by assumption) ?_; focus ((repeat (first | exact And.left | exact id | refine andR ?_)); done)) | (refine neA1 (by assumption) ?_; focus ((repeat (first | exact And.left | exact id | refine andR ?_)); done)) | (refine neB1 (by assumption) ?_; focus ((repeat (first | exact And.left | exact id | refine andR ?_)); done)) | (refine neA2 (by assumption) ?_; focus ((repeat (first | exact And.left | exact id | refine andR ?_)); done)) | (refine neB2 (by assumption) ?_; focus ((repeat (first | exact And.left | exact id | refine andR ?_)); done)) | (refine neA3 (by assumption) ?_; focus ((repeat (first | exact And.left | exact id | refine andR ?_)); done)) | (refine neB3 (by assumption) ?_; focus ((repeat (first | exact And.left | exact id | refine andR ?_)); done))) | omega)
  k_with "zRM" => (with_reducible first | exact room1 (by assumption) (by assumption) (by decide) | exact room2 (by assumption) (by assumption) (by decide) | exact room3 (by assumption) (by assumption) (by decide) | exact room4 (by assumption) (by assumption) (by decide) | exact room5 (by assumption) (by assumption) (by decide) | exact room0 (by assumption))
  k_with "zALL" => first | assumption | with_reducible (first | (refine nwA0 (by assumption) ?_; focus ((refine andR ?_); (repeat (first | exact id | refine andR ?_)); done)) | (refine nwA1 (by assumption) ?_; focus ((refine andR ?_); (repeat (first | exact id | refine andR ?_)); done)) | (refine nwA2 (by assumption) ?_; focus ((refine andR ?_); (repeat (first | exact id | refine andR ?_)); done)) | (refine nwA3 (by assumption) ?_; focus ((refine andR ?_); (repeat (first | exact id | refine andR ?_)); done)))
  k_with "exec Assign cons ListComp" => ((rename Fr _ _ _ _ => lF'); (with_unfolding_all refine' Assign_ListComp_Z lF' ?zqe ?zqw ?zq1 ?zq2 ?zq3 ?zq4 ?zq5 ?zq6 ?zq7 ?zqy ?zqp ?_ ?zq9); (case zqe => with_unfolding_all exact rfl); (case zqw => with_unfolding_all exact rfl); (case zq1 => with_unfolding_all exact rfl); (case zq2 => decide); (case zq3 => with_unfolding_all exact rfl); (case zq4 => with_unfolding_all exact rfl); (case zq5 => with_unfolding_all exact rfl); (case zq6 => decide); (case zq7 => decide); (case zqy => with_unfolding_all exact rfl); (case zqp => with_unfolding_all exact rfl); (case zq9 => with_unfolding_all exact fun x => rfl))
  k_with "binaryOp Add ref ref" => (with_unfolding_all ((refine' kmk_add_ints ?zqF ?zqN ?zqa ?zqb ?zqi ?zqj ?_ ?zqz; (case zqF => k_asm); (case zqN => k_asm); (case zqa => exact News.isList (by assumption) (by (focus first | ((repeat (first | exact memH | ((fail_if_success (refine nilX ?_)); refine memT ?_))); done) | ((repeat (first | assumption | ((fail_if_success (refine nilX ?_)); refine memT ?_))); done)))); (case zqb => exact News.isList (by assumption) (by (focus first | ((repeat (first | exact memH | ((fail_if_success (refine nilX ?_)); refine memT ?_))); done) | ((repeat (first | assumption | ((fail_if_success (refine nilX ?_)); refine memT ?_))); done)))); (case zqi => first | assumption | exact .cons _ _ .nil); (case zqj => first | assumption | exact .cons _ _ .nil); (case zqz => (simp only [sizeLine_eq, prodT_len, ht0, List.length_append, List.length_map, List.length_cons, List.length_nil]; omega)))); intro D' ws' h' F' N' l1 hI'; (try k_lt l1); (try k_sweep))
  k_with "call type:zip" => ((rename Fr _ _ _ _ => lF'); (rename News _ _ _ _ => lN'); (with_unfolding_all refine' call_zip_ZA (fun a b => a + n * b) ?zyh lF' lN' (by (focus first | ((repeat (first | exact memH | ((fail_if_success (refine nilX ?_)); refine memT ?_))); done) | ((repeat (first | assumption | ((fail_if_success (refine nilX ?_)); refine memT ?_))); done))) (by (focus first | ((repeat (first | exact memH | ((fail_if_success (refine nilX ?_)); refine memT ?_))); done) | ((repeat (first | assumption | ((fail_if_success (refine nilX ?_)); refine memT ?_))); done))) (by assumption) (by assumption) ?zyl ?zyz ?zyT ?zyD); (case zyh => exact hh); (case zyl => (simp [prodT_len, ht0])); (case zyz => (simp only [sizeLine_eq, prodT_len, ht0, List.length_append, List.length_cons, List.length_nil]; omega)); (case' zyT => (clear lF' lN'; intro hz; with_unfolding_all (intro i x y nG I' oI C oC D m₂ us h tk nw E' hx hy hG hoC hma hmb lF' hsub lN' o3); (obtain ⟨ka, ua, rfl, hka⟩ := IntsAre.at (by assumption) i x hx); (obtain ⟨kb, ub, rfl, hkb⟩ := IntsAre.at (by assumption) i y hy); (have hnG := zipW_at hka hkb hG); subst hnG; (have lN2 := news_dup lN' (.tail _ (.tail _ (.tail _ (hsub (L + 1, _) (by (focus first | ((repeat (first | exact memH | ((fail_if_success (refine nilX ?_)); refine memT ?_))); done) | ((repeat (first | assumption | ((fail_if_success (refine nilX ?_)); refine memT ?_))); done)))))))); clear lN')); (case' zyD => (clear lF' lN'; intro D h tk us lF' lN' hlt hus)))
  k_with "CompEnd" => (with_unfolding_all refine compEndD (by assumption) (by assumption) (by first | assumption | exact ⟨⟨by omega, by omega, by omega⟩, by assumption⟩) True.intro ?_)
  k_with "LoopStepV" => ((rename Fr _ _ _ _ => lF'); (rename News _ _ _ _ => lN'); (with_unfolding_all refine' prod_end2 (oc := _) lF' lN' hlt (by (focus first | ((repeat (first | exact memH | ((fail_if_success (refine nilX ?_)); refine memT ?_))); done) | ((repeat (first | assumption | ((fail_if_success (refine nilX ?_)); refine memT ?_))); done))) ?zps ?zpd ?zpi hIo hofc htI); (case zps => with_unfolding_all (focus (intro p hp; (repeat (first | exact hp | refine memT ?_)); done))); (case zpd => assumption); (case zpi => (rw [prodT_snoc]; with_unfolding_all exact hus)))
  k_steps
theorem product1 {w : World} {mean : ExcName → Option Value} {mg mb : Str → Option Value} (dp un : Nat) (gd : Option (List Code)) (cn : Str) (cs : Scope) (ca : Addr) (ccd : Value) (cl : List (Str × Addr)) (outer : List Env) (A₀ : Around) (base h₀ : Heap) (L : Addr) (m : Str → Option Value) (s : Shared) (Q E : Value → Shared → Prop) (news : List (Addr × Obj))
  (B : Below A₀ base outer h₀) (F : Fr h₀ L s.heap m) (X : (Mine.hp w.params).In h₀) (N : News h₀ L s.heap news) (T : Top topProg (looseW Mine.vw Mine.lo ++ (recsOf Mine.vw).map (·.name) ++ (litsOf Mine.vw).map (·.1) ++ (clssOf Mine.vw (looseW Mine.vw Mine.lo)).map (·.name)) mean mg mb h₀) (hk : cs.kind = .function)
  (l : Addr) (step first g0 g1 g2 g3 : Int) (t0 t1 t2 t3 t4 t5 t6 : Tok) (nn : Nat) (hl : (l, l4 g0 g1 g2 g3 t0 t1 t2 t3 nn) ∈ news) (hg0 : 1 ≤ g0) (hg1 : g0 ≤ g1) (hg2 : g1 ≤ g2) (hg3 : g2 ≤ g3) (hg4 : g3 ≤ 50)
  (hd : dp + 6 < recursionLimit) (hu : un + 120 < cLine)
  (ret : ∀ (D : Addr) (vs : List Value) (k : Nat) (h : Heap) (tk : Nat), IntsAre vs (prodT [step, step * 1 + first - step] (facL 1 g0 g1 g2 g3)) → Fr h₀ L h m → News h₀ L h ((D, listOf vs.toArray k) :: news) → (∀ p ∈ news, p.1 < D) → Q (.ref D) { s with heap := h, toks := tk }) :
  wpAny (model Mine.rw.prog w) (ktrTop dp un gd cn cs L ca ccd cl outer) (call (.ref 137) [.int step t4, .int first t5, .ref l, .int 1 t6]) Q E s := by
  have gb := gB hg0 hg1 hg2 hg3 hg4
  have N2 := news_dup N hl
  clear N hl
  k_with_none
  k_with "execs cons" => (k_here; first | k_gentoks | (k_made; walk_at "execs cons") | ((with_reducible refine execs_consF ?_); intro qz))
  k_with "storeName" => (k_here; (fail_if_success (k_extra "unfolded")); k_dflt (first | (refine' storeX_LF ?F ?N ?_ ?a ?b; (case F => k_asm); (case N => k_asm); (case a => rfl); (case b => rfl); k_whole; intro h' tk' mz F' N'; (try k_sweep)) | (refine' storeX_CF ?F ?N ?c ?U ?d ?_ ?a ?b; (case a => rfl); (case b => rfl); (case F => k_asm); (case N => k_asm); (case c => rfl); (case U => k_updF); (case d => k_asm); k_whole; intro h' o' F' N' d'; (try dsimp only at N'); (try k_sweep))))
  k_with "LeaveF" => (k_dflt (refine' leaveF_ ?k1 ?k2 ?_; (case k1 => k_asm); (case k2 => k_asm); k_whole); intro kF kN; (try ground_anew kF); (try have kX := kFor kF (by k_asm)))
  k_with "LeaveF" => (k_made; walk_at "LeaveF")
  k_with "zUR" => (have hcL9 := cLine_is; omega)
  k_with "zNE" => (refine neN ?_; (try dsimp only); first | with_reducible (first | (refine neA0 (by assumption) ?_; focus ((repeat (first | exact And.left | exact id | refine andR ?_)); done)) | (refine neB0 (by assumption) ?_; focus ((repeat (first | exact And.left | exact id | refine andR ?_)); done)) | (refine neC (by assumption) ?_; focus ((repeat (first | exact And.left | exact id | refine andR ?_)); done)) | (refine neCs (by assumption) ?_; focus ((repeat (first | exact And.left | exact id | refine andR ?_)); done)) | (refine neA1 (by assumption) ?_; focus ((repeat (first | exact And.left | exact id | refine andR ?_)); done)) | (refine neB1 (by assumption) ?_; focus ((repeat (first | exact And.left | exact id | refine andR ?_)); done)) | (refine neA2 (by assumption) ?_; focus ((repeat (first | exact And.left | exact id | refine andR ?_)); done)) | (refine neB2 (by assumption) ?_; focus ((repeat (first | exact And.left | exact id | refine andR ?_)); done)) | (refine neA3 (by assumption) ?_; focus ((repeat (first | exact And.left | exact id | refine andR ?_)); done)) | (refine neB3 (by assumption) ?_; focus ((repeat (first | exact And.left | exact id | refine andR ?_)); done))) | omega)
  k_with "zRM" => (with_reducible first | exact room1 (by assumption) (by assumption) (by decide) | exact room2 (by assumption) (by assumption) (by decide) | exact room3 (by assumption) (by assumption) (by decide) | exact room4 (by assumption) (by assumption) (by decide) | exact room5 (by assumption) (by assumption) (by decide) | exact room0 (by assumption))
  k_with "zALL" => first | assumption | with_reducible (first | (refine nwA0 (by assumption) ?_; focus ((refine andR ?_); (repeat (first | exact id | refine andR ?_)); done)) | (refine nwA1 (by assumption) ?_; focus ((refine andR ?_); (repeat (first | exact id | refine andR ?_)); done)) | (refine nwA2 (by assumption) ?_; focus ((refine andR ?_); (repeat (first | exact id | refine andR ?_)); done)) | (refine nwA3 (by assumption) ?_; focus ((refine andR ?_); (repeat (first | exact id | refine andR ?_)); done)))
  k_with "binaryOp Mult ref int" => (k_here; with_unfolding_all (refine' KMa.mul ?F ?N ?l ?lo ?hi ?z ?e ?_; (case F => k_asm); (case N => k_asm); (case l => exact News.isList (by assumption) (by (focus first | ((repeat (first | exact memH | ((fail_if_success (refine nilX ?_)); refine memT ?_))); done) | ((repeat (first | assumption | ((fail_if_success (refine nilX ?_)); refine memT ?_))); done)))); (case lo => first | exact lo63 gb.a | exact lo63 gb.b | exact lo63 gb.c | exact lo63 gb.d); (case hi => first | exact hi63 gb.a | exact hi63 gb.b | exact hi63 gb.c | exact hi63 gb.d); (case z => first | exact z50 gb.a | exact z50 gb.b | exact z50 gb.c | exact z50 gb.d | (simp only [List.length_cons, List.length_nil]; omega)); (case e => exact rfl); k_whole); intro D' h' F' N' l1; (try k_lt l1); (try k_sweep))
  k_with "binaryOp Mult ref int" => (k_here; (with_reducible show wpAny _ _ (binaryOp _ (Value.ref _) (Value.int (g0 - 1) _)) _ _ _); ( with_unfolding_all (refine' KMa.mul ?F ?N ?l ?lo ?hi ?z ?e ?_; (case F => k_asm); (case N => k_asm); (case l => exact News.isList (by assumption) (by (focus first | ((repeat (first | exact memH | ((fail_if_success (refine nilX ?_)); refine memT ?_))); done) | ((repeat (first | assumption | ((fail_if_success (refine nilX ?_)); refine memT ?_))); done)))); (case lo => first | exact lo63 gb.a | exact lo63 gb.b | exact lo63 gb.c | exact lo63 gb.d); (case hi => first | exact hi63 gb.a | exact hi63 gb.b | exact hi63 gb.c | exact hi63 gb.d); (case z => first | exact z50 gb.a | exact z50 gb.b | exact z50 gb.c | exact z50 gb.d | (simp only [List.length_cons, List.length_nil]; omega)); (case e => exact rfl); k_whole); intro fA h' F' N' l1; (try k_lt l1); (try k_sweep)))
  k_with "subscriptTail Name Constant ref int" => (with_unfolding_all ((refine' itemK ?zqk1 ?zqk2 ?zqk3 ?zqk4 ?_ ?zqk6); (case zqk1 => exact News.isList (by assumption) (by (focus first | ((repeat (first | exact memH | ((fail_if_success (refine nilX ?_)); refine memT ?_))); done) | ((repeat (first | assumption | ((fail_if_success (refine nilX ?_)); refine memT ?_))); done)))); (case zqk2 => decide); (case zqk3 => decide); (case zqk4 => with_unfolding_all exact rfl); (case zqk6 => with_unfolding_all rfl); k_whole))
  k_with "subscriptTail Name Name ref int" => (with_unfolding_all ((refine' itemK ?zqk1 ?zqk2 ?zqk3 ?zqk4 ?_ ?zqk6); (case zqk1 => exact News.isList (by assumption) (by (focus first | ((repeat (first | exact memH | ((fail_if_success (refine nilX ?_)); refine memT ?_))); done) | ((repeat (first | assumption | ((fail_if_success (refine nilX ?_)); refine memT ?_))); done)))); (case zqk2 => decide); (case zqk3 => decide); (case zqk4 => with_unfolding_all exact rfl); (case zqk6 => with_unfolding_all rfl); k_whole))
  k_with "subscriptTail Name BinOp ref int" => (with_unfolding_all ((refine' itemK ?zqk1 ?zqk2 ?zqk3 ?zqk4 ?_ ?zqk6); (case zqk1 => exact News.isList (by assumption) (by (focus first | ((repeat (first | exact memH | ((fail_if_success (refine nilX ?_)); refine memT ?_))); done) | ((repeat (first | assumption | ((fail_if_success (refine nilX ?_)); refine memT ?_))); done)))); (case zqk2 => decide); (case zqk3 => decide); (case zqk4 => with_unfolding_all exact rfl); (case zqk6 => with_unfolding_all rfl); k_whole))
  k_with "call builtin:list.extend cons nil" => (k_here; with_unfolding_all (refine' extendI ?zqF ?zqN ?zqb ?zqU ?zqz ?_; (case zqF => k_asm); (case zqN => k_asm); (case zqb => (focus first | ((repeat (first | exact memH | ((fail_if_success (refine nilX ?_)); refine memT ?_))); done) | ((repeat (first | assumption | ((fail_if_success (refine nilX ?_)); refine memT ?_))); done))); (case zqU => k_updF); (case zqz => (simp only [IntsAre.length (rep1 (x := _) (t := _) _), List.length_append, List.length_replicate, List.length_cons, List.length_nil]; first | exact s2 (tn50 gb.a) (tn50 gb.b) | exact s3 (tn50 gb.a) (tn50 gb.b) (tn50 gb.c) | exact s4 (tn50 gb.a) (tn50 gb.b) (tn50 gb.c) (tn50 gb.d) | omega)); k_whole); intro h' kx F' N'; (try dsimp only at N'); (try k_sweep))
  k_with "UnrEnd" => ((rename Fr _ _ _ _ => lF'); (rename News _ _ _ _ => lN'); (first | (with_unfolding_all refine unrEndE2 lF' lN' ?zqa ?_) | (with_unfolding_all refine unrEndE lF' lN' ?zqa ?_)); (case zqa => with_unfolding_all assumption); clear lF' lN')
  k_with "exec For Name Name cons nil" => (k_here; (rename Fr _ _ _ _ => lF'); (with_unfolding_all refine' For_turns lF' ?_); k_whole)
  k_with "pyIter ref" => ((with_reducible show wpAny _ _ (pyIter (Value.ref fA)) _ _ _); (rename Fr _ _ _ _ => lF'); (rename News _ _ _ _ => lN'); ((with_unfolding_all refine' turns_prod (fc := L' + 1) (nm := Str.ofString "told") (ns := facL 1 g0 g1 g2 g3) (prodT [step, step * 1 + first - step]) ?zqh lF' (news_prod (fA := fA) (e4 := (l, l4 g0 g1 g2 g3 t0 t1 t2 t3 nn)) (news := news) lN' (by (focus first | ((repeat (first | exact memH | ((fail_if_success (refine nilX ?_)); refine memT ?_))); done) | ((repeat (first | assumption | ((fail_if_success (refine nilX ?_)); refine memT ?_))); done))) (by (focus first | ((repeat (first | exact memH | ((fail_if_success (refine nilX ?_)); refine memT ?_))); done) | ((repeat (first | assumption | ((fail_if_success (refine nilX ?_)); refine memT ?_))); done))) (by (focus first | ((repeat (first | exact memH | ((fail_if_success (refine nilX ?_)); refine memT ?_))); done) | ((repeat (first | assumption | ((fail_if_success (refine nilX ?_)); refine memT ?_))); done))) (by (focus first | ((repeat (first | exact memH | ((fail_if_success (refine nilX ?_)); refine memT ?_))); done) | ((repeat (first | assumption | ((fail_if_success (refine nilX ?_)); refine memT ?_))); done))) (by (focus (intro p hp; (repeat (first | exact hp | refine memT ?_)); done)))) ?zqd (.head _) ?zqi ?zq0 ?zqt ?zqlt ?zql ?zqT ?zqD); (case zqi => (rw [fac1]; with_unfolding_all exact rep1 _))); (case zqh => with_unfolding_all exact rfl); (case zqd => assumption); (case zq0 => with_unfolding_all exact .cons _ _ (.cons _ _ .nil)); (case zqt => ((try dsimp only); first | k_ne | omega)); (case zqlt => exact offLt (by (try dsimp only); first | k_ne | (refine ltVia (by assumption) ?_; (focus ((repeat (first | exact And.left | exact id | refine andR ?_)); done))) | omega) (by (try dsimp only); first | k_ne | (refine ltVia (by assumption) ?_; (focus ((repeat (first | exact And.left | exact id | refine andR ?_)); done))) | omega) (by first | assumption | ((repeat (rename _ < _ ∧ _ => hx; obtain ⟨_, _⟩ := hx)); assumption))); (case zql => exact offTl (by (try dsimp only); first | k_ne | (refine ltVia (by assumption) ?_; (focus ((repeat (first | exact And.left | exact id | refine andR ?_)); done))) | omega) (by (try dsimp only); first | k_ne | (refine ltVia (by assumption) ?_; (focus ((repeat (first | exact And.left | exact id | refine andR ?_)); done))) | omega) zC1.2); (have hfl := facL_len (m := 1) hg0 hg1 hg2 hg3 hg4); (case zqT => (clear lF' lN'; with_unfolding_all exact told_turn (by with_unfolding_all rfl) X' T' rfl hfl (fun x hx => facL_bd (by decide) (by decide) hx) (offTl (by (try dsimp only); first | k_ne | (refine ltVia (by assumption) ?_; (focus ((repeat (first | exact And.left | exact id | refine andR ?_)); done))) | omega) (by (try dsimp only); first | k_ne | (refine ltVia (by assumption) ?_; (focus ((repeat (first | exact And.left | exact id | refine andR ?_)); done))) | omega) zC1.2))); (case' zqD => (clear lF' lN'; intro ta tv tc oc v0 h tk hoc htv htaf hlta lF' lN')))
  all_goals (k_dflt (refine' code_defCF ?k1 ?k2 ?k3 ?k4 ?k5 ?kA ?kZ ?kF ?kK ?k6 ?k7 ?k8 ?k9 ?kB ?kD ?_ ?c2 ?c3 ?c4; (case kA => exact rfl); (case kZ => first | with_reducible assumption | exact ktrDepth); (case kF => exact rfl); (case kK => assumption); (case k1 => k_asm); (case k2 => k_asm); (case k3 => k_asm); (case k4 => k_asm); (case k5 => k_asm); (case k6 => k_is); (case k7 => k_is); (case k8 => ktr_room); (case k9 => (first | exact BindsTo.of_eq (binds := []) rfl | exact BindsTo.of_eq (binds := [(_, _)]) rfl | exact BindsTo.of_eq (binds := [(_, _), (_, _)]) rfl | exact BindsTo.of_eq (binds := [(_, _), (_, _), (_, _)]) rfl | exact BindsTo.of_eq (binds := [(_, _), (_, _), (_, _), (_, _)]) rfl | exact BindsTo.of_eq (binds := [(_, _), (_, _), (_, _), (_, _), (_, _)]) rfl | exact BindsTo.of_eq rfl)); (case kB => exact rfl); (case kD => decide +kernel); (case c2 => exact rfl); (case c3 => exact rfl); (case c4 => exact rfl); k_whole; intro qr er g' L' h' tk' cells' FG' F' N' Y' B' X' T' l1 az hzd hzu qz ez; (try dsimp only [ktrTop] at hzu); (have zC1 := allLtAt l1 (L' + 1) (Nat.le_succ _)); (have zC2 := allLtAt l1 (L' + 1 + 1) (Nat.le_trans (Nat.le_succ _) (Nat.le_succ _))); (have zC3 := allLtAt l1 (L' + 1 + 1 + 1) (Nat.le_trans (Nat.le_trans (Nat.le_succ _) (Nat.le_succ _)) (Nat.le_succ _))); k_cells Y'; (try simp only [List.cons_append, List.nil_append] at N'); (try k_lift B')); (try simp only [AllLt] at zC1 zC2 zC3))
  k_steps
  all_goals (try (refine ret _ tv _ _ _ htv (by assumption) (cb_drop (by assumption) (by (refine subC (by (focus first | ((repeat (first | exact memH | ((fail_if_success (refine nilX ?_)); refine memT ?_))); done) | ((repeat (first | assumption | ((fail_if_success (refine nilX ?_)); refine memT ?_))); done))) ?_; (focus (intro p hp; (repeat (first | exact hp | refine memT ?_)); done))))) (fun p hp => hlta p (.tail _ (.tail _ hp)))))
theorem product2 {w : World} {mean : ExcName → Option Value} {mg mb : Str → Option Value} (dp un : Nat) (gd : Option (List Code)) (cn : Str) (cs : Scope) (ca : Addr) (ccd : Value) (cl : List (Str × Addr)) (outer : List Env) (A₀ : Around) (base h₀ : Heap) (L : Addr) (m : Str → Option Value) (s : Shared) (Q E : Value → Shared → Prop) (news : List (Addr × Obj))
  (B : Below A₀ base outer h₀) (F : Fr h₀ L s.heap m) (X : (Mine.hp w.params).In h₀) (N : News h₀ L s.heap news) (T : Top topProg (looseW Mine.vw Mine.lo ++ (recsOf Mine.vw).map (·.name) ++ (litsOf Mine.vw).map (·.1) ++ (clssOf Mine.vw (looseW Mine.vw Mine.lo)).map (·.name)) mean mg mb h₀) (hk : cs.kind = .function)
  (l : Addr) (step first g0 g1 g2 g3 : Int) (t0 t1 t2 t3 t4 t5 t6 : Tok) (nn : Nat) (hl : (l, l4 g0 g1 g2 g3 t0 t1 t2 t3 nn) ∈ news) (hg0 : 1 ≤ g0) (hg1 : g0 ≤ g1) (hg2 : g1 ≤ g2) (hg3 : g2 ≤ g3) (hg4 : g3 ≤ 50)
  (hd : dp + 6 < recursionLimit) (hu : un + 120 < cLine)
  (ret : ∀ (D : Addr) (vs : List Value) (k : Nat) (h : Heap) (tk : Nat), IntsAre vs (prodT [step, step * 2 + first - step] (facL 2 g0 g1 g2 g3)) → Fr h₀ L h m → News h₀ L h ((D, listOf vs.toArray k) :: news) → (∀ p ∈ news, p.1 < D) → Q (.ref D) { s with heap := h, toks := tk }) :
  wpAny (model Mine.rw.prog w) (ktrTop dp un gd cn cs L ca ccd cl outer) (call (.ref 137) [.int step t4, .int first t5, .ref l, .int 2 t6]) Q E s := by
  have gb := gB hg0 hg1 hg2 hg3 hg4
  have N2 := news_dup N hl
  clear N hl
  k_with_none
  k_with "execs cons" => (k_here; first | k_gentoks | (k_made; walk_at "execs cons") | ((with_reducible refine execs_consF ?_); intro qz))
  k_with "storeName" => (k_here; (fail_if_success (k_extra "unfolded")); k_dflt (first | (refine' storeX_LF ?F ?N ?_ ?a ?b; (case F => k_asm); (case N => k_asm); (case a => rfl); (case b => rfl); k_whole; intro h' tk' mz F' N'; (try k_sweep)) | (refine' storeX_CF ?F ?N ?c ?U ?d ?_ ?a ?b; (case a => rfl); (case b => rfl); (case F => k_asm); (case N => k_asm); (case c => rfl); (case U => k_updF); (case d => k_asm); k_whole; intro h' o' F' N' d'; (try dsimp only at N'); (try k_sweep))))
  k_with "LeaveF" => (k_dflt (refine' leaveF_ ?k1 ?k2 ?_; (case k1 => k_asm); (case k2 => k_asm); k_whole); intro kF kN; (try ground_anew kF); (try have kX := kFor kF (by k_asm)))
  k_with "LeaveF" => (k_made; walk_at "LeaveF")
  k_with "zUR" => (have hcL9 := cLine_is; omega)
  k_with "zNE" => (refine neN ?_; (try dsimp only); first | with_reducible (first | (refine neA0 (by assumption) ?_; focus ((repeat (first | exact And.left | exact id | refine andR ?_)); done)) | (refine neB0 (by assumption) ?_; focus ((repeat (first | exact And.left | exact id | refine andR ?_)); done)) | (refine neC (by assumption) ?_; focus ((repeat (first | exact And.left | exact id | refine andR ?_)); done)) | (refine neCs (by assumption) ?_; focus ((repeat (first | exact And.left | exact id | refine andR ?_)); done)) | (refine neA1 (by assumption) ?_; focus ((repeat (first | exact And.left | exact id | refine andR ?_)); done)) | (refine neB1 (by assumption) ?_; focus ((repeat (first | exact And.left | exact id | refine andR ?_)); done)) | (refine neA2 (by assumption) ?_; focus ((repeat (first | exact And.left | exact id | refine andR ?_)); done)) | (refine neB2 (by assumption) ?_; focus ((repeat (first | exact And.left | exact id | refine andR ?_)); done)) | (refine neA3 (by assumption) ?_; focus ((repeat (first | exact And.left | exact id | refine andR ?_)); done)) | (refine neB3 (by assumption) ?_; focus ((repeat (first | exact And.left | exact id | refine andR ?_)); done))) | omega)
  k_with "zRM" => (with_reducible first | exact room1 (by assumption) (by assumption) (by decide) | exact room2 (by assumption) (by assumption) (by decide) | exact room3 (by assumption) (by assumption) (by decide) | exact room4 (by assumption) (by assumption) (by decide) | exact room5 (by assumption) (by assumption) (by decide) | exact room0 (by assumption))
  k_with "zALL" => first | assumption | with_reducible (first | (refine nwA0 (by assumption) ?_; focus ((refine andR ?_); (repeat (first | exact id | refine andR ?_)); done)) | (refine nwA1 (by assumption) ?_; focus ((refine andR ?_); (repeat (first | exact id | refine andR ?_)); done)) | (refine nwA2 (by assumption) ?_; focus ((refine andR ?_); (repeat (first | exact id | refine andR ?_)); done)) | (refine nwA3 (by assumption) ?_; focus ((refine andR ?_); (repeat (first | exact id | refine andR ?_)); done)))
  k_with "binaryOp Mult ref int" => (k_here; with_unfolding_all (refine' KMa.mul ?F ?N ?l ?lo ?hi ?z ?e ?_; (case F => k_asm); (case N => k_asm); (case l => exact News.isList (by assumption) (by (focus first | ((repeat (first | exact memH | ((fail_if_success (refine nilX ?_)); refine memT ?_))); done) | ((repeat (first | assumption | ((fail_if_success (refine nilX ?_)); refine memT ?_))); done)))); (case lo => first | exact lo63 gb.a | exact lo63 gb.b | exact lo63 gb.c | exact lo63 gb.d); (case hi => first | exact hi63 gb.a | exact hi63 gb.b | exact hi63 gb.c | exact hi63 gb.d); (case z => first | exact z50 gb.a | exact z50 gb.b | exact z50 gb.c | exact z50 gb.d | (simp only [List.length_cons, List.length_nil]; omega)); (case e => exact rfl); k_whole); intro D' h' F' N' l1; (try k_lt l1); (try k_sweep))
  k_with "binaryOp Mult ref int" => (k_here; (with_reducible show wpAny _ _ (binaryOp _ (Value.ref _) (Value.int (g0 - 1) _)) _ _ _); ( with_unfolding_all (refine' KMa.mul ?F ?N ?l ?lo ?hi ?z ?e ?_; (case F => k_asm); (case N => k_asm); (case l => exact News.isList (by assumption) (by (focus first | ((repeat (first | exact memH | ((fail_if_success (refine nilX ?_)); refine memT ?_))); done) | ((repeat (first | assumption | ((fail_if_success (refine nilX ?_)); refine memT ?_))); done)))); (case lo => first | exact lo63 gb.a | exact lo63 gb.b | exact lo63 gb.c | exact lo63 gb.d); (case hi => first | exact hi63 gb.a | exact hi63 gb.b | exact hi63 gb.c | exact hi63 gb.d); (case z => first | exact z50 gb.a | exact z50 gb.b | exact z50 gb.c | exact z50 gb.d | (simp only [List.length_cons, List.length_nil]; omega)); (case e => exact rfl); k_whole); intro fA h' F' N' l1; (try k_lt l1); (try k_sweep)))
  k_with "subscriptTail Name Constant ref int" => (with_unfolding_all ((refine' itemK ?zqk1 ?zqk2 ?zqk3 ?zqk4 ?_ ?zqk6); (case zqk1 => exact News.isList (by assumption) (by (focus first | ((repeat (first | exact memH | ((fail_if_success (refine nilX ?_)); refine memT ?_))); done) | ((repeat (first | assumption | ((fail_if_success (refine nilX ?_)); refine memT ?_))); done)))); (case zqk2 => decide); (case zqk3 => decide); (case zqk4 => with_unfolding_all exact rfl); (case zqk6 => with_unfolding_all rfl); k_whole))
  k_with "subscriptTail Name Name ref int" => (with_unfolding_all ((refine' itemK ?zqk1 ?zqk2 ?zqk3 ?zqk4 ?_ ?zqk6); (case zqk1 => exact News.isList (by assumption) (by (focus first | ((repeat (first | exact memH | ((fail_if_success (refine nilX ?_)); refine memT ?_))); done) | ((repeat (first | assumption | ((fail_if_success (refine nilX ?_)); refine memT ?_))); done)))); (case zqk2 => decide); (case zqk3 => decide); (case zqk4 => with_unfolding_all exact rfl); (case zqk6 => with_unfolding_all rfl); k_whole))
  k_with "subscriptTail Name BinOp ref int" => (with_unfolding_all ((refine' itemK ?zqk1 ?zqk2 ?zqk3 ?zqk4 ?_ ?zqk6); (case zqk1 => exact News.isList (by assumption) (by (focus first | ((repeat (first | exact memH | ((fail_if_success (refine nilX ?_)); refine memT ?_))); done) | ((repeat (first | assumption | ((fail_if_success (refine nilX ?_)); refine memT ?_))); done)))); (case zqk2 => decide); (case zqk3 => decide); (case zqk4 => with_unfolding_all exact rfl); (case zqk6 => with_unfolding_all rfl); k_whole))
  k_with "call builtin:list.extend cons nil" => (k_here; with_unfolding_all (refine' extendI ?zqF ?zqN ?zqb ?zqU ?zqz ?_; (case zqF => k_asm); (case zqN => k_asm); (case zqb => (focus first | ((repeat (first | exact memH | ((fail_if_success (refine nilX ?_)); refine memT ?_))); done) | ((repeat (first | assumption | ((fail_if_success (refine nilX ?_)); refine memT ?_))); done))); (case zqU => k_updF); (case zqz => (simp only [IntsAre.length (rep1 (x := _) (t := _) _), List.length_append, List.length_replicate, List.length_cons, List.length_nil]; first | exact s2 (tn50 gb.a) (tn50 gb.b) | exact s3 (tn50 gb.a) (tn50 gb.b) (tn50 gb.c) | exact s4 (tn50 gb.a) (tn50 gb.b) (tn50 gb.c) (tn50 gb.d) | omega)); k_whole); intro h' kx F' N'; (try dsimp only at N'); (try k_sweep))
  k_with "UnrEnd" => ((rename Fr _ _ _ _ => lF'); (rename News _ _ _ _ => lN'); (first | (with_unfolding_all refine unrEndE2 lF' lN' ?zqa ?_) | (with_unfolding_all refine unrEndE lF' lN' ?zqa ?_)); (case zqa => with_unfolding_all assumption); clear lF' lN')
  k_with "exec For Name Name cons nil" => (k_here; (rename Fr _ _ _ _ => lF'); (with_unfolding_all refine' For_turns lF' ?_); k_whole)
  k_with "pyIter ref" => ((with_reducible show wpAny _ _ (pyIter (Value.ref fA)) _ _ _); (rename Fr _ _ _ _ => lF'); (rename News _ _ _ _ => lN'); ((with_unfolding_all refine' turns_prod (fc := L' + 1) (nm := Str.ofString "told") (ns := facL 2 g0 g1 g2 g3) (prodT [step, step * 2 + first - step]) ?zqh lF' (news_prod (fA := fA) (e4 := (l, l4 g0 g1 g2 g3 t0 t1 t2 t3 nn)) (news := news) lN' (by (focus first | ((repeat (first | exact memH | ((fail_if_success (refine nilX ?_)); refine memT ?_))); done) | ((repeat (first | assumption | ((fail_if_success (refine nilX ?_)); refine memT ?_))); done))) (by (focus first | ((repeat (first | exact memH | ((fail_if_success (refine nilX ?_)); refine memT ?_))); done) | ((repeat (first | assumption | ((fail_if_success (refine nilX ?_)); refine memT ?_))); done))) (by (focus first | ((repeat (first | exact memH | ((fail_if_success (refine nilX ?_)); refine memT ?_))); done) | ((repeat (first | assumption | ((fail_if_success (refine nilX ?_)); refine memT ?_))); done))) (by (focus first | ((repeat (first | exact memH | ((fail_if_success (refine nilX ?_)); refine memT ?_))); done) | ((repeat (first | assumption | ((fail_if_success (refine nilX ?_)); refine memT ?_))); done))) (by (focus (intro p hp; (repeat (first | exact hp | refine memT ?_)); done)))) ?zqd (.head _) ?zqi ?zq0 ?zqt ?zqlt ?zql ?zqT ?zqD); (case zqi => (rw [fac2]; with_unfolding_all exact (rep1 _).append (rep1 _)))); (case zqh => with_unfolding_all exact rfl); (case zqd => assumption); (case zq0 => with_unfolding_all exact .cons _ _ (.cons _ _ .nil)); (case zqt => ((try dsimp only); first | k_ne | omega)); (case zqlt => exact offLt (by (try dsimp only); first | k_ne | (refine ltVia (by assumption) ?_; (focus ((repeat (first | exact And.left | exact id | refine andR ?_)); done))) | omega) (by (try dsimp only); first | k_ne | (refine ltVia (by assumption) ?_; (focus ((repeat (first | exact And.left | exact id | refine andR ?_)); done))) | omega) (by first | assumption | ((repeat (rename _ < _ ∧ _ => hx; obtain ⟨_, _⟩ := hx)); assumption))); (case zql => exact offTl (by (try dsimp only); first | k_ne | (refine ltVia (by assumption) ?_; (focus ((repeat (first | exact And.left | exact id | refine andR ?_)); done))) | omega) (by (try dsimp only); first | k_ne | (refine ltVia (by assumption) ?_; (focus ((repeat (first | exact And.left | exact id | refine andR ?_)); done))) | omega) zC1.2); (have hfl := facL_len (m := 2) hg0 hg1 hg2 hg3 hg4); (case zqT => (clear lF' lN'; with_unfolding_all exact told_turn (by with_unfolding_all rfl) X' T' rfl hfl (fun x hx => facL_bd (by decide) (by decide) hx) (offTl (by (try dsimp only); first | k_ne | (refine ltVia (by assumption) ?_; (focus ((repeat (first | exact And.left | exact id | refine andR ?_)); done))) | omega) (by (try dsimp only); first | k_ne | (refine ltVia (by assumption) ?_; (focus ((repeat (first | exact And.left | exact id | refine andR ?_)); done))) | omega) zC1.2))); (case' zqD => (clear lF' lN'; intro ta tv tc oc v0 h tk hoc htv htaf hlta lF' lN')))
  all_goals (k_dflt (refine' code_defCF ?k1 ?k2 ?k3 ?k4 ?k5 ?kA ?kZ ?kF ?kK ?k6 ?k7 ?k8 ?k9 ?kB ?kD ?_ ?c2 ?c3 ?c4; (case kA => exact rfl); (case kZ => first | with_reducible assumption | exact ktrDepth); (case kF => exact rfl); (case kK => assumption); (case k1 => k_asm); (case k2 => k_asm); (case k3 => k_asm); (case k4 => k_asm); (case k5 => k_asm); (case k6 => k_is); (case k7 => k_is); (case k8 => ktr_room); (case k9 => (first | exact BindsTo.of_eq (binds := []) rfl | exact BindsTo.of_eq (binds := [(_, _)]) rfl | exact BindsTo.of_eq (binds := [(_, _), (_, _)]) rfl | exact BindsTo.of_eq (binds := [(_, _), (_, _), (_, _)]) rfl | exact BindsTo.of_eq (binds := [(_, _), (_, _), (_, _), (_, _)]) rfl | exact BindsTo.of_eq (binds := [(_, _), (_, _), (_, _), (_, _), (_, _)]) rfl | exact BindsTo.of_eq rfl)); (case kB => exact rfl); (case kD => decide +kernel); (case c2 => exact rfl); (case c3 => exact rfl); (case c4 => exact rfl); k_whole; intro qr er g' L' h' tk' cells' FG' F' N' Y' B' X' T' l1 az hzd hzu qz ez; (try dsimp only [ktrTop] at hzu); (have zC1 := allLtAt l1 (L' + 1) (Nat.le_succ _)); (have zC2 := allLtAt l1 (L' + 1 + 1) (Nat.le_trans (Nat.le_succ _) (Nat.le_succ _))); (have zC3 := allLtAt l1 (L' + 1 + 1 + 1) (Nat.le_trans (Nat.le_trans (Nat.le_succ _) (Nat.le_succ _)) (Nat.le_succ _))); k_cells Y'; (try simp only [List.cons_append, List.nil_append] at N'); (try k_lift B')); (try simp only [AllLt] at zC1 zC2 zC3))
  k_steps
  all_goals (try (refine ret _ tv _ _ _ htv (by assumption) (cb_drop (by assumption) (by (refine subC (by (focus first | ((repeat (first | exact memH | ((fail_if_success (refine nilX ?_)); refine memT ?_))); done) | ((repeat (first | assumption | ((fail_if_success (refine nilX ?_)); refine memT ?_))); done))) ?_; (focus (intro p hp; (repeat (first | exact hp | refine memT ?_)); done))))) (fun p hp => hlta p (.tail _ (.tail _ hp)))))
theorem product3 {w : World} {mean : ExcName → Option Value} {mg mb : Str → Option Value} (dp un : Nat) (gd : Option (List Code)) (cn : Str) (cs : Scope) (ca : Addr) (ccd : Value) (cl : List (Str × Addr)) (outer : List Env) (A₀ : Around) (base h₀ : Heap) (L : Addr) (m : Str → Option Value) (s : Shared) (Q E : Value → Shared → Prop) (news : List (Addr × Obj))
  (B : Below A₀ base outer h₀) (F : Fr h₀ L s.heap m) (X : (Mine.hp w.params).In h₀) (N : News h₀ L s.heap news) (T : Top topProg (looseW Mine.vw Mine.lo ++ (recsOf Mine.vw).map (·.name) ++ (litsOf Mine.vw).map (·.1) ++ (clssOf Mine.vw (looseW Mine.vw Mine.lo)).map (·.name)) mean mg mb h₀) (hk : cs.kind = .function)
  (l : Addr) (step first g0 g1 g2 g3 : Int) (t0 t1 t2 t3 t4 t5 t6 : Tok) (nn : Nat) (hl : (l, l4 g0 g1 g2 g3 t0 t1 t2 t3 nn) ∈ news) (hg0 : 1 ≤ g0) (hg1 : g0 ≤ g1) (hg2 : g1 ≤ g2) (hg3 : g2 ≤ g3) (hg4 : g3 ≤ 50)
  (hd : dp + 6 < recursionLimit) (hu : un + 120 < cLine)
  (ret : ∀ (D : Addr) (vs : List Value) (k : Nat) (h : Heap) (tk : Nat), IntsAre vs (prodT [step, step * 3 + first - step] (facL 3 g0 g1 g2 g3)) → Fr h₀ L h m → News h₀ L h ((D, listOf vs.toArray k) :: news) → (∀ p ∈ news, p.1 < D) → Q (.ref D) { s with heap := h, toks := tk }) :
  wpAny (model Mine.rw.prog w) (ktrTop dp un gd cn cs L ca ccd cl outer) (call (.ref 137) [.int step t4, .int first t5, .ref l, .int 3 t6]) Q E s := by
  have gb := gB hg0 hg1 hg2 hg3 hg4
  have N2 := news_dup N hl
  clear N hl
  k_with_none
  k_with "execs cons" => (k_here; first | k_gentoks | (k_made; walk_at "execs cons") | ((with_reducible refine execs_consF ?_); intro qz))
  k_with "storeName" => (k_here; (fail_if_success (k_extra "unfolded")); k_dflt (first | (refine' storeX_LF ?F ?N ?_ ?a ?b; (case F => k_asm); (case N => k_asm); (case a => rfl); (case b => rfl); k_whole; intro h' tk' mz F' N'; (try k_sweep)) | (refine' storeX_CF ?F ?N ?c ?U ?d ?_ ?a ?b; (case a => rfl); (case b => rfl); (case F => k_asm); (case N => k_asm); (case c => rfl); (case U => k_updF); (case d => k_asm); k_whole; intro h' o' F' N' d'; (try dsimp only at N'); (try k_sweep))))
  k_with "LeaveF" => (k_dflt (refine' leaveF_ ?k1 ?k2 ?_; (case k1 => k_asm); (case k2 => k_asm); k_whole); intro kF kN; (try ground_anew kF); (try have kX := kFor kF (by k_asm)))
  k_with "LeaveF" => (k_made; walk_at "LeaveF")
  k_with "zUR" => (have hcL9 := cLine_is; omega)
  k_with "zNE" => (refine neN ?_; (try dsimp only); first | with_reducible (first | (refine neA0 (by assumption) ?_; focus ((repeat (first | exact And.left | exact id | refine andR ?_)); done)) | (refine neB0 (by assumption) ?_; focus ((repeat (first | exact And.left | exact id | refine andR ?_)); done)) | (refine neC (by assumption) ?_; focus ((repeat (first | exact And.left | exact id | refine andR ?_)); done)) | (refine neCs (by assumption) ?_; focus ((repeat (first | exact And.left | exact id | refine andR ?_)); done)) | (refine neA1 (by assumption) ?_; focus ((repeat (first | exact And.left | exact id | refine andR ?_)); done)) | (refine neB1 (by assumption) ?_; focus ((repeat (first | exact And.left | exact id | refine andR ?_)); done)) | (refine neA2 (by assumption) ?_; focus ((repeat (first | exact And.left | exact id | refine andR ?_)); done)) | (refine neB2 (by assumption) ?_; focus ((repeat (first | exact And.left | exact id | refine andR ?_)); done)) | (refine neA3 (by assumption) ?_; focus ((repeat (first | exact And.left | exact id | refine andR ?_)); done)) | (refine neB3 (by assumption) ?_; focus ((repeat (first | exact And.left | exact id | refine andR ?_)); done))) | omega)
  k_with "zRM" => (with_reducible first | exact room1 (by assumption) (by assumption) (by decide) | exact room2 (by assumption) (by assumption) (by decide) | exact room3 (by assumption) (by assumption) (by decide) | exact room4 (by assumption) (by assumption) (by decide) | exact room5 (by assumption) (by assumption) (by decide) | exact room0 (by assumption))
  k_with "zALL" => first | assumption | with_reducible (first | (refine nwA0 (by assumption) ?_; focus ((refine andR ?_); (repeat (first | exact id | refine andR ?_)); done)) | (refine nwA1 (by assumption) ?_; focus ((refine andR ?_); (repeat (first | exact id | refine andR ?_)); done)) | (refine nwA2 (by assumption) ?_; focus ((refine andR ?_); (repeat (first | exact id | refine andR ?_)); done)) | (refine nwA3 (by assumption) ?_; focus ((refine andR ?_); (repeat (first | exact id | refine andR ?_)); done)))
  k_with "binaryOp Mult ref int" => (k_here; with_unfolding_all (refine' KMa.mul ?F ?N ?l ?lo ?hi ?z ?e ?_; (case F => k_asm); (case N => k_asm); (case l => exact News.isList (by assumption) (by (focus first | ((repeat (first | exact memH | ((fail_if_success (refine nilX ?_)); refine memT ?_))); done) | ((repeat (first | assumption | ((fail_if_success (refine nilX ?_)); refine memT ?_))); done)))); (case lo => first | exact lo63 gb.a | exact lo63 gb.b | exact lo63 gb.c | exact lo63 gb.d); (case hi => first | exact hi63 gb.a | exact hi63 gb.b | exact hi63 gb.c | exact hi63 gb.d); (case z => first | exact z50 gb.a | exact z50 gb.b | exact z50 gb.c | exact z50 gb.d | (simp only [List.length_cons, List.length_nil]; omega)); (case e => exact rfl); k_whole); intro D' h' F' N' l1; (try k_lt l1); (try k_sweep))
  k_with "binaryOp Mult ref int" => (k_here; (with_reducible show wpAny _ _ (binaryOp _ (Value.ref _) (Value.int (g0 - 1) _)) _ _ _); ( with_unfolding_all (refine' KMa.mul ?F ?N ?l ?lo ?hi ?z ?e ?_; (case F => k_asm); (case N => k_asm); (case l => exact News.isList (by assumption) (by (focus first | ((repeat (first | exact memH | ((fail_if_success (refine nilX ?_)); refine memT ?_))); done) | ((repeat (first | assumption | ((fail_if_success (refine nilX ?_)); refine memT ?_))); done)))); (case lo => first | exact lo63 gb.a | exact lo63 gb.b | exact lo63 gb.c | exact lo63 gb.d); (case hi => first | exact hi63 gb.a | exact hi63 gb.b | exact hi63 gb.c | exact hi63 gb.d); (case z => first | exact z50 gb.a | exact z50 gb.b | exact z50 gb.c | exact z50 gb.d | (simp only [List.length_cons, List.length_nil]; omega)); (case e => exact rfl); k_whole); intro fA h' F' N' l1; (try k_lt l1); (try k_sweep)))
  k_with "subscriptTail Name Constant ref int" => (with_unfolding_all ((refine' itemK ?zqk1 ?zqk2 ?zqk3 ?zqk4 ?_ ?zqk6); (case zqk1 => exact News.isList (by assumption) (by (focus first | ((repeat (first | exact memH | ((fail_if_success (refine nilX ?_)); refine memT ?_))); done) | ((repeat (first | assumption | ((fail_if_success (refine nilX ?_)); refine memT ?_))); done)))); (case zqk2 => decide); (case zqk3 => decide); (case zqk4 => with_unfolding_all exact rfl); (case zqk6 => with_unfolding_all rfl); k_whole))
  k_with "subscriptTail Name Name ref int" => (with_unfolding_all ((refine' itemK ?zqk1 ?zqk2 ?zqk3 ?zqk4 ?_ ?zqk6); (case zqk1 => exact News.isList (by assumption) (by (focus first | ((repeat (first | exact memH | ((fail_if_success (refine nilX ?_)); refine memT ?_))); done) | ((repeat (first | assumption | ((fail_if_success (refine nilX ?_)); refine memT ?_))); done)))); (case zqk2 => decide); (case zqk3 => decide); (case zqk4 => with_unfolding_all exact rfl); (case zqk6 => with_unfolding_all rfl); k_whole))
  k_with "subscriptTail Name BinOp ref int" => (with_unfolding_all ((refine' itemK ?zqk1 ?zqk2 ?zqk3 ?zqk4 ?_ ?zqk6); (case zqk1 => exact News.isList (by assumption) (by (focus first | ((repeat (first | exact memH | ((fail_if_success (refine nilX ?_)); refine memT ?_))); done) | ((repeat (first | assumption | ((fail_if_success (refine nilX ?_)); refine memT ?_))); done)))); (case zqk2 => decide); (case zqk3 => decide); (case zqk4 => with_unfolding_all exact rfl); (case zqk6 => with_unfolding_all rfl); k_whole))
  k_with "call builtin:list.extend cons nil" => (k_here; with_unfolding_all (refine' extendI ?zqF ?zqN ?zqb ?zqU ?zqz ?_; (case zqF => k_asm); (case zqN => k_asm); (case zqb => (focus first | ((repeat (first | exact memH | ((fail_if_success (refine nilX ?_)); refine memT ?_))); done) | ((repeat (first | assumption | ((fail_if_success (refine nilX ?_)); refine memT ?_))); done))); (case zqU => k_updF); (case zqz => (simp only [IntsAre.length (rep1 (x := _) (t := _) _), List.length_append, List.length_replicate, List.length_cons, List.length_nil]; first | exact s2 (tn50 gb.a) (tn50 gb.b) | exact s3 (tn50 gb.a) (tn50 gb.b) (tn50 gb.c) | exact s4 (tn50 gb.a) (tn50 gb.b) (tn50 gb.c) (tn50 gb.d) | omega)); k_whole); intro h' kx F' N'; (try dsimp only at N'); (try k_sweep))
  k_with "UnrEnd" => ((rename Fr _ _ _ _ => lF'); (rename News _ _ _ _ => lN'); (first | (with_unfolding_all refine unrEndE2 lF' lN' ?zqa ?_) | (with_unfolding_all refine unrEndE lF' lN' ?zqa ?_)); (case zqa => with_unfolding_all assumption); clear lF' lN')
  k_with "exec For Name Name cons nil" => (k_here; (rename Fr _ _ _ _ => lF'); (with_unfolding_all refine' For_turns lF' ?_); k_whole)
  k_with "pyIter ref" => ((with_reducible show wpAny _ _ (pyIter (Value.ref fA)) _ _ _); (rename Fr _ _ _ _ => lF'); (rename News _ _ _ _ => lN'); ((with_unfolding_all refine' turns_prod (fc := L' + 1) (nm := Str.ofString "told") (ns := facL 3 g0 g1 g2 g3) (prodT [step, step * 3 + first - step]) ?zqh lF' (news_prod (fA := fA) (e4 := (l, l4 g0 g1 g2 g3 t0 t1 t2 t3 nn)) (news := news) lN' (by (focus first | ((repeat (first | exact memH | ((fail_if_success (refine nilX ?_)); refine memT ?_))); done) | ((repeat (first | assumption | ((fail_if_success (refine nilX ?_)); refine memT ?_))); done))) (by (focus first | ((repeat (first | exact memH | ((fail_if_success (refine nilX ?_)); refine memT ?_))); done) | ((repeat (first | assumption | ((fail_if_success (refine nilX ?_)); refine memT ?_))); done))) (by (focus first | ((repeat (first | exact memH | ((fail_if_success (refine nilX ?_)); refine memT ?_))); done) | ((repeat (first | assumption | ((fail_if_success (refine nilX ?_)); refine memT ?_))); done))) (by (focus first | ((repeat (first | exact memH | ((fail_if_success (refine nilX ?_)); refine memT ?_))); done) | ((repeat (first | assumption | ((fail_if_success (refine nilX ?_)); refine memT ?_))); done))) (by (focus (intro p hp; (repeat (first | exact hp | refine memT ?_)); done)))) ?zqd (.head _) ?zqi ?zq0 ?zqt ?zqlt ?zql ?zqT ?zqD); (case zqi => (rw [fac3]; with_unfolding_all exact ((rep1 _).append (rep1 _)).append (rep1 _)))); (case zqh => with_unfolding_all exact rfl); (case zqd => assumption); (case zq0 => with_unfolding_all exact .cons _ _ (.cons _ _ .nil)); (case zqt => ((try dsimp only); first | k_ne | omega)); (case zqlt => exact offLt (by (try dsimp only); first | k_ne | (refine ltVia (by assumption) ?_; (focus ((repeat (first | exact And.left | exact id | refine andR ?_)); done))) | omega) (by (try dsimp only); first | k_ne | (refine ltVia (by assumption) ?_; (focus ((repeat (first | exact And.left | exact id | refine andR ?_)); done))) | omega) (by first | assumption | ((repeat (rename _ < _ ∧ _ => hx; obtain ⟨_, _⟩ := hx)); assumption))); (case zql => exact offTl (by (try dsimp only); first | k_ne | (refine ltVia (by assumption) ?_; (focus ((repeat (first | exact And.left | exact id | refine andR ?_)); done))) | omega) (by (try dsimp only); first | k_ne | (refine ltVia (by assumption) ?_; (focus ((repeat (first | exact And.left | exact id | refine andR ?_)); done))) | omega) zC1.2); (have hfl := facL_len (m := 3) hg0 hg1 hg2 hg3 hg4); (case zqT => (clear lF' lN'; with_unfolding_all exact told_turn (by with_unfolding_all rfl) X' T' rfl hfl (fun x hx => facL_bd (by decide) (by decide) hx) (offTl (by (try dsimp only); first | k_ne | (refine ltVia (by assumption) ?_; (focus ((repeat (first | exact And.left | exact id | refine andR ?_)); done))) | omega) (by (try dsimp only); first | k_ne | (refine ltVia (by assumption) ?_; (focus ((repeat (first | exact And.left | exact id | refine andR ?_)); done))) | omega) zC1.2))); (case' zqD => (clear lF' lN'; intro ta tv tc oc v0 h tk hoc htv htaf hlta lF' lN')))
  all_goals (k_dflt (refine' code_defCF ?k1 ?k2 ?k3 ?k4 ?k5 ?kA ?kZ ?kF ?kK ?k6 ?k7 ?k8 ?k9 ?kB ?kD ?_ ?c2 ?c3 ?c4; (case kA => exact rfl); (case kZ => first | with_reducible assumption | exact ktrDepth); (case kF => exact rfl); (case kK => assumption); (case k1 => k_asm); (case k2 => k_asm); (case k3 => k_asm); (case k4 => k_asm); (case k5 => k_asm); (case k6 => k_is); (case k7 => k_is); (case k8 => ktr_room); (case k9 => (first | exact BindsTo.of_eq (binds := []) rfl | exact BindsTo.of_eq (binds := [(_, _)]) rfl | exact BindsTo.of_eq (binds := [(_, _), (_, _)]) rfl | exact BindsTo.of_eq (binds := [(_, _), (_, _), (_, _)]) rfl | exact BindsTo.of_eq (binds := [(_, _), (_, _), (_, _), (_, _)]) rfl | exact BindsTo.of_eq (binds := [(_, _), (_, _), (_, _), (_, _), (_, _)]) rfl | exact BindsTo.of_eq rfl)); (case kB => exact rfl); (case kD => decide +kernel); (case c2 => exact rfl); (case c3 => exact rfl); (case c4 => exact rfl); k_whole; intro qr er g' L' h' tk' cells' FG' F' N' Y' B' X' T' l1 az hzd hzu qz ez; (try dsimp only [ktrTop] at hzu); (have zC1 := allLtAt l1 (L' + 1) (Nat.le_succ _)); (have zC2 := allLtAt l1 (L' + 1 + 1) (Nat.le_trans (Nat.le_succ _) (Nat.le_succ _))); (have zC3 := allLtAt l1 (L' + 1 + 1 + 1) (Nat.le_trans (Nat.le_trans (Nat.le_succ _) (Nat.le_succ _)) (Nat.le_succ _))); k_cells Y'; (try simp only [List.cons_append, List.nil_append] at N'); (try k_lift B')); (try simp only [AllLt] at zC1 zC2 zC3))
  k_steps
  all_goals (try (refine ret _ tv _ _ _ htv (by assumption) (cb_drop (by assumption) (by (refine subC (by (focus first | ((repeat (first | exact memH | ((fail_if_success (refine nilX ?_)); refine memT ?_))); done) | ((repeat (first | assumption | ((fail_if_success (refine nilX ?_)); refine memT ?_))); done))) ?_; (focus (intro p hp; (repeat (first | exact hp | refine memT ?_)); done))))) (fun p hp => hlta p (.tail _ (.tail _ hp)))))
theorem product4 {w : World} {mean : ExcName → Option Value} {mg mb : Str → Option Value} (dp un : Nat) (gd : Option (List Code)) (cn : Str) (cs : Scope) (ca : Addr) (ccd : Value) (cl : List (Str × Addr)) (outer : List Env) (A₀ : Around) (base h₀ : Heap) (L : Addr) (m : Str → Option Value) (s : Shared) (Q E : Value → Shared → Prop) (news : List (Addr × Obj))
  (B : Below A₀ base outer h₀) (F : Fr h₀ L s.heap m) (X : (Mine.hp w.params).In h₀) (N : News h₀ L s.heap news) (T : Top topProg (looseW Mine.vw Mine.lo ++ (recsOf Mine.vw).map (·.name) ++ (litsOf Mine.vw).map (·.1) ++ (clssOf Mine.vw (looseW Mine.vw Mine.lo)).map (·.name)) mean mg mb h₀) (hk : cs.kind = .function)
  (l : Addr) (step first g0 g1 g2 g3 : Int) (t0 t1 t2 t3 t4 t5 t6 : Tok) (nn : Nat) (hl : (l, l4 g0 g1 g2 g3 t0 t1 t2 t3 nn) ∈ news) (hg0 : 1 ≤ g0) (hg1 : g0 ≤ g1) (hg2 : g1 ≤ g2) (hg3 : g2 ≤ g3) (hg4 : g3 ≤ 50)
  (hd : dp + 6 < recursionLimit) (hu : un + 120 < cLine)
  (ret : ∀ (D : Addr) (vs : List Value) (k : Nat) (h : Heap) (tk : Nat), IntsAre vs (prodT [step, step * 4 + first - step] (facL 4 g0 g1 g2 g3)) → Fr h₀ L h m → News h₀ L h ((D, listOf vs.toArray k) :: news) → (∀ p ∈ news, p.1 < D) → Q (.ref D) { s with heap := h, toks := tk }) :
  wpAny (model Mine.rw.prog w) (ktrTop dp un gd cn cs L ca ccd cl outer) (call (.ref 137) [.int step t4, .int first t5, .ref l, .int 4 t6]) Q E s := by
  have gb := gB hg0 hg1 hg2 hg3 hg4
  have N2 := news_dup N hl
  clear N hl
  k_with_none
  k_with "execs cons" => (k_here; first | k_gentoks | (k_made; walk_at "execs cons") | ((with_reducible refine execs_consF ?_); intro qz))
  k_with "storeName" => (k_here; (fail_if_success (k_extra "unfolded")); k_dflt (first | (refine' storeX_LF ?F ?N ?_ ?a ?b; (case F => k_asm); (case N => k_asm); (case a => rfl); (case b => rfl); k_whole; intro h' tk' mz F' N'; (try k_sweep)) | (refine' storeX_CF ?F ?N ?c ?U ?d ?_ ?a ?b; (case a => rfl); (case b => rfl); (case F => k_asm); (case N => k_asm); (case c => rfl); (case U => k_updF); (case d => k_asm); k_whole; intro h' o' F' N' d'; (try dsimp only at N'); (try k_sweep))))
  k_with "LeaveF" => (k_dflt (refine' leaveF_ ?k1 ?k2 ?_; (case k1 => k_asm); (case k2 => k_asm); k_whole); intro kF kN; (try ground_anew kF); (try have kX := kFor kF (by k_asm)))
  k_with "LeaveF" => (k_made; walk_at "LeaveF")
  k_with "zUR" => (have hcL9 := cLine_is; omega)
  k_with "zNE" => (refine neN ?_; (try dsimp only); first | with_reducible (first | (refine neA0 (by assumption) ?_; focus ((repeat (first | exact And.left | exact id | refine andR ?_)); done)) | (refine neB0 (by assumption) ?_; focus ((repeat (first | exact And.left | exact id | refine andR ?_)); done)) | (refine neC (by assumption) ?_; focus ((repeat (first | exact And.left | exact id | refine andR ?_)); done)) | (refine neCs (by assumption) ?_; focus ((repeat (first | exact And.left | exact id | refine andR ?_)); done)) | (refine neA1 (by assumption) ?_; focus ((repeat (first | exact And.left | exact id | refine andR ?_)); done)) | (refine neB1 (by assumption) ?_; focus ((repeat (first | exact And.left | exact id | refine andR ?_)); done)) | (refine neA2 (by assumption) ?_; focus ((repeat (first | exact And.left | exact id | refine andR ?_)); done)) | (refine neB2 (by assumption) ?_; focus ((repeat (first | exact And.left | exact id | refine andR ?_)); done)) | (refine neA3 (by assumption) ?_; focus ((repeat (first | exact And.left | exact id | refine andR ?_)); done)) | (refine neB3 (by assumption) ?_; focus ((repeat (first | exact And.left | exact id | refine andR ?_)); done))) | omega)
  k_with "zRM" => (with_reducible first | exact room1 (by assumption) (by assumption) (by decide) | exact room2 (by assumption) (by assumption) (by decide) | exact room3 (by assumption) (by assumption) (by decide) | exact room4 (by assumption) (by assumption) (by decide) | exact room5 (by assumption) (by assumption) (by decide) | exact room0 (by assumption))
  k_with "zALL" => first | assumption | with_reducible (first | (refine nwA0 (by assumption) ?_; focus ((refine andR ?_); (repeat (first | exact id | refine andR ?_)); done)) | (refine nwA1 (by assumption) ?_; focus ((refine andR ?_); (repeat (first | exact id | refine andR ?_)); done)) | (refine nwA2 (by assumption) ?_; focus ((refine andR ?_); (repeat (first | exact id | refine andR ?_)); done)) | (refine nwA3 (by assumption) ?_; focus ((refine andR ?_); (repeat (first | exact id | refine andR ?_)); done)))
  k_with "binaryOp Mult ref int" => (k_here; with_unfolding_all (refine' KMa.mul ?F ?N ?l ?lo ?hi ?z ?e ?_; (case F => k_asm); (case N => k_asm); (case l => exact News.isList (by assumption) (by (focus first | ((repeat (first | exact memH | ((fail_if_success (refine nilX ?_)); refine memT ?_))); done) | ((repeat (first | assumption | ((fail_if_success (refine nilX ?_)); refine memT ?_))); done)))); (case lo => first | exact lo63 gb.a | exact lo63 gb.b | exact lo63 gb.c | exact lo63 gb.d); (case hi => first | exact hi63 gb.a | exact hi63 gb.b | exact hi63 gb.c | exact hi63 gb.d); (case z => first | exact z50 gb.a | exact z50 gb.b | exact z50 gb.c | exact z50 gb.d | (simp only [List.length_cons, List.length_nil]; omega)); (case e => exact rfl); k_whole); intro D' h' F' N' l1; (try k_lt l1); (try k_sweep))
  k_with "binaryOp Mult ref int" => (k_here; (with_reducible show wpAny _ _ (binaryOp _ (Value.ref _) (Value.int (g0 - 1) _)) _ _ _); ( with_unfolding_all (refine' KMa.mul ?F ?N ?l ?lo ?hi ?z ?e ?_; (case F => k_asm); (case N => k_asm); (case l => exact News.isList (by assumption) (by (focus first | ((repeat (first | exact memH | ((fail_if_success (refine nilX ?_)); refine memT ?_))); done) | ((repeat (first | assumption | ((fail_if_success (refine nilX ?_)); refine memT ?_))); done)))); (case lo => first | exact lo63 gb.a | exact lo63 gb.b | exact lo63 gb.c | exact lo63 gb.d); (case hi => first | exact hi63 gb.a | exact hi63 gb.b | exact hi63 gb.c | exact hi63 gb.d); (case z => first | exact z50 gb.a | exact z50 gb.b | exact z50 gb.c | exact z50 gb.d | (simp only [List.length_cons, List.length_nil]; omega)); (case e => exact rfl); k_whole); intro fA h' F' N' l1; (try k_lt l1); (try k_sweep)))
  k_with "subscriptTail Name Constant ref int" => (with_unfolding_all ((refine' itemK ?zqk1 ?zqk2 ?zqk3 ?zqk4 ?_ ?zqk6); (case zqk1 => exact News.isList (by assumption) (by (focus first | ((repeat (first | exact memH | ((fail_if_success (refine nilX ?_)); refine memT ?_))); done) | ((repeat (first | assumption | ((fail_if_success (refine nilX ?_)); refine memT ?_))); done)))); (case zqk2 => decide); (case zqk3 => decide); (case zqk4 => with_unfolding_all exact rfl); (case zqk6 => with_unfolding_all rfl); k_whole))
  k_with "subscriptTail Name Name ref int" => (with_unfolding_all ((refine' itemK ?zqk1 ?zqk2 ?zqk3 ?zqk4 ?_ ?zqk6); (case zqk1 => exact News.isList (by assumption) (by (focus first | ((repeat (first | exact memH | ((fail_if_success (refine nilX ?_)); refine memT ?_))); done) | ((repeat (first | assumption | ((fail_if_success (refine nilX ?_)); refine memT ?_))); done)))); (case zqk2 => decide); (case zqk3 => decide); (case zqk4 => with_unfolding_all exact rfl); (case zqk6 => with_unfolding_all rfl); k_whole))
  k_with "subscriptTail Name BinOp ref int" => (with_unfolding_all ((refine' itemK ?zqk1 ?zqk2 ?zqk3 ?zqk4 ?_ ?zqk6); (case zqk1 => exact News.isList (by assumption) (by (focus first | ((repeat (first | exact memH | ((fail_if_success (refine nilX ?_)); refine memT ?_))); done) | ((repeat (first | assumption | ((fail_if_success (refine nilX ?_)); refine memT ?_))); done)))); (case zqk2 => decide); (case zqk3 => decide); (case zqk4 => with_unfolding_all exact rfl); (case zqk6 => with_unfolding_all rfl); k_whole))
  k_with "call builtin:list.extend cons nil" => (k_here; with_unfolding_all (refine' extendI ?zqF ?zqN ?zqb ?zqU ?zqz ?_; (case zqF => k_asm); (case zqN => k_asm); (case zqb => (focus first | ((repeat (first | exact memH | ((fail_if_success (refine nilX ?_)); refine memT ?_))); done) | ((repeat (first | assumption | ((fail_if_success (refine nilX ?_)); refine memT ?_))); done))); (case zqU => k_updF); (case zqz => (simp only [IntsAre.length (rep1 (x := _) (t := _) _), List.length_append, List.length_replicate, List.length_cons, List.length_nil]; first | exact s2 (tn50 gb.a) (tn50 gb.b) | exact s3 (tn50 gb.a) (tn50 gb.b) (tn50 gb.c) | exact s4 (tn50 gb.a) (tn50 gb.b) (tn50 gb.c) (tn50 gb.d) | omega)); k_whole); intro h' kx F' N'; (try dsimp only at N'); (try k_sweep))
  k_with "UnrEnd" => ((rename Fr _ _ _ _ => lF'); (rename News _ _ _ _ => lN'); (first | (with_unfolding_all refine unrEndE2 lF' lN' ?zqa ?_) | (with_unfolding_all refine unrEndE lF' lN' ?zqa ?_)); (case zqa => with_unfolding_all assumption); clear lF' lN')
  k_with "exec For Name Name cons nil" => (k_here; (rename Fr _ _ _ _ => lF'); (with_unfolding_all refine' For_turns lF' ?_); k_whole)
  k_with "pyIter ref" => ((with_reducible show wpAny _ _ (pyIter (Value.ref fA)) _ _ _); (rename Fr _ _ _ _ => lF'); (rename News _ _ _ _ => lN'); ((with_unfolding_all refine' turns_prod (fc := L' + 1) (nm := Str.ofString "told") (ns := facL 4 g0 g1 g2 g3) (prodT [step, step * 4 + first - step]) ?zqh lF' (news_prod (fA := fA) (e4 := (l, l4 g0 g1 g2 g3 t0 t1 t2 t3 nn)) (news := news) lN' (by (focus first | ((repeat (first | exact memH | ((fail_if_success (refine nilX ?_)); refine memT ?_))); done) | ((repeat (first | assumption | ((fail_if_success (refine nilX ?_)); refine memT ?_))); done))) (by (focus first | ((repeat (first | exact memH | ((fail_if_success (refine nilX ?_)); refine memT ?_))); done) | ((repeat (first | assumption | ((fail_if_success (refine nilX ?_)); refine memT ?_))); done))) (by (focus first | ((repeat (first | exact memH | ((fail_if_success (refine nilX ?_)); refine memT ?_))); done) | ((repeat (first | assumption | ((fail_if_success (refine nilX ?_)); refine memT ?_))); done))) (by (focus first | ((repeat (first | exact memH | ((fail_if_success (refine nilX ?_)); refine memT ?_))); done) | ((repeat (first | assumption | ((fail_if_success (refine nilX ?_)); refine memT ?_))); done))) (by (focus (intro p hp; (repeat (first | exact hp | refine memT ?_)); done)))) ?zqd (.head _) ?zqi ?zq0 ?zqt ?zqlt ?zql ?zqT ?zqD); (case zqi => (rw [fac4]; with_unfolding_all exact (((rep1 _).append (rep1 _)).append (rep1 _)).append (rep1 _)))); (case zqh => with_unfolding_all exact rfl); (case zqd => assumption); (case zq0 => with_unfolding_all exact .cons _ _ (.cons _ _ .nil)); (case zqt => ((try dsimp only); first | k_ne | omega)); (case zqlt => exact offLt (by (try dsimp only); first | k_ne | (refine ltVia (by assumption) ?_; (focus ((repeat (first | exact And.left | exact id | refine andR ?_)); done))) | omega) (by (try dsimp only); first | k_ne | (refine ltVia (by assumption) ?_; (focus ((repeat (first | exact And.left | exact id | refine andR ?_)); done))) | omega) (by first | assumption | ((repeat (rename _ < _ ∧ _ => hx; obtain ⟨_, _⟩ := hx)); assumption))); (case zql => exact offTl (by (try dsimp only); first | k_ne | (refine ltVia (by assumption) ?_; (focus ((repeat (first | exact And.left | exact id | refine andR ?_)); done))) | omega) (by (try dsimp only); first | k_ne | (refine ltVia (by assumption) ?_; (focus ((repeat (first | exact And.left | exact id | refine andR ?_)); done))) | omega) zC1.2); (have hfl := facL_len (m := 4) hg0 hg1 hg2 hg3 hg4); (case zqT => (clear lF' lN'; with_unfolding_all exact told_turn (by with_unfolding_all rfl) X' T' rfl hfl (fun x hx => facL_bd (by decide) (by decide) hx) (offTl (by (try dsimp only); first | k_ne | (refine ltVia (by assumption) ?_; (focus ((repeat (first | exact And.left | exact id | refine andR ?_)); done))) | omega) (by (try dsimp only); first | k_ne | (refine ltVia (by assumption) ?_; (focus ((repeat (first | exact And.left | exact id | refine andR ?_)); done))) | omega) zC1.2))); (case' zqD => (clear lF' lN'; intro ta tv tc oc v0 h tk hoc htv htaf hlta lF' lN')))
  all_goals (k_dflt (refine' code_defCF ?k1 ?k2 ?k3 ?k4 ?k5 ?kA ?kZ ?kF ?kK ?k6 ?k7 ?k8 ?k9 ?kB ?kD ?_ ?c2 ?c3 ?c4; (case kA => exact rfl); (case kZ => first | with_reducible assumption | exact ktrDepth); (case kF => exact rfl); (case kK => assumption); (case k1 => k_asm); (case k2 => k_asm); (case k3 => k_asm); (case k4 => k_asm); (case k5 => k_asm); (case k6 => k_is); (case k7 => k_is); (case k8 => ktr_room); (case k9 => (first | exact BindsTo.of_eq (binds := []) rfl | exact BindsTo.of_eq (binds := [(_, _)]) rfl | exact BindsTo.of_eq (binds := [(_, _), (_, _)]) rfl | exact BindsTo.of_eq (binds := [(_, _), (_, _), (_, _)]) rfl | exact BindsTo.of_eq (binds := [(_, _), (_, _), (_, _), (_, _)]) rfl | exact BindsTo.of_eq (binds := [(_, _), (_, _), (_, _), (_, _), (_, _)]) rfl | exact BindsTo.of_eq rfl)); (case kB => exact rfl); (case kD => decide +kernel); (case c2 => exact rfl); (case c3 => exact rfl); (case c4 => exact rfl); k_whole; intro qr er g' L' h' tk' cells' FG' F' N' Y' B' X' T' l1 az hzd hzu qz ez; (try dsimp only [ktrTop] at hzu); (have zC1 := allLtAt l1 (L' + 1) (Nat.le_succ _)); (have zC2 := allLtAt l1 (L' + 1 + 1) (Nat.le_trans (Nat.le_succ _) (Nat.le_succ _))); (have zC3 := allLtAt l1 (L' + 1 + 1 + 1) (Nat.le_trans (Nat.le_trans (Nat.le_succ _) (Nat.le_succ _)) (Nat.le_succ _))); k_cells Y'; (try simp only [List.cons_append, List.nil_append] at N'); (try k_lift B')); (try simp only [AllLt] at zC1 zC2 zC3))
  k_steps
  all_goals (try (refine ret _ tv _ _ _ htv (by assumption) (cb_drop (by assumption) (by (refine subC (by (focus first | ((repeat (first | exact memH | ((fail_if_success (refine nilX ?_)); refine memT ?_))); done) | ((repeat (first | assumption | ((fail_if_success (refine nilX ?_)); refine memT ?_))); done))) ?_; (focus (intro p hp; (repeat (first | exact hp | refine memT ?_)); done))))) (fun p hp => hlta p (.tail _ (.tail _ hp)))))
theorem product {w : World} {mean : ExcName → Option Value} {mg mb : Str → Option Value} (dp un : Nat) (gd : Option (List Code)) (cn : Str) (cs : Scope) (ca : Addr) (ccd : Value) (cl : List (Str × Addr)) (outer : List Env) (A₀ : Around) (base h₀ : Heap) (L : Addr) (m : Str → Option Value) (s : Shared) (Q E : Value → Shared → Prop) (news : List (Addr × Obj))
  (B : Below A₀ base outer h₀) (F : Fr h₀ L s.heap m) (X : (Mine.hp w.params).In h₀) (N : News h₀ L s.heap news) (T : Top topProg (looseW Mine.vw Mine.lo ++ (recsOf Mine.vw).map (·.name) ++ (litsOf Mine.vw).map (·.1) ++ (clssOf Mine.vw (looseW Mine.vw Mine.lo)).map (·.name)) mean mg mb h₀) (hk : cs.kind = .function)
  (l : Addr) (step first g0 g1 g2 g3 mm : Int) (t0 t1 t2 t3 t4 t5 t6 : Tok) (nn : Nat) (hl : (l, l4 g0 g1 g2 g3 t0 t1 t2 t3 nn) ∈ news) (hg0 : 1 ≤ g0) (hg1 : g0 ≤ g1) (hg2 : g1 ≤ g2) (hg3 : g2 ≤ g3) (hg4 : g3 ≤ 50) (hmm : mm = 1 ∨ mm = 2 ∨ mm = 3 ∨ mm = 4)
  (hd : dp + 6 < recursionLimit) (hu : un + 120 < cLine)
  (ret : ∀ (D : Addr) (vs : List Value) (k : Nat) (h : Heap) (tk : Nat), IntsAre vs (prodT [step, step * mm + first - step] (facL mm g0 g1 g2 g3)) → Fr h₀ L h m → News h₀ L h ((D, listOf vs.toArray k) :: news) → (∀ p ∈ news, p.1 < D) → Q (.ref D) { s with heap := h, toks := tk }) :
  wpAny (model Mine.rw.prog w) (ktrTop dp un gd cn cs L ca ccd cl outer) (call (.ref 137) [.int step t4, .int first t5, .ref l, .int mm t6]) Q E s := by
  rcases hmm with rfl | rfl | rfl | rfl
  · exact product1 dp un gd cn cs ca ccd cl outer A₀ base h₀ L m s Q E news B F X N T hk l step first g0 g1 g2 g3 t0 t1 t2 t3 t4 t5 t6 nn hl hg0 hg1 hg2 hg3 hg4 hd hu ret
  · exact product2 dp un gd cn cs ca ccd cl outer A₀ base h₀ L m s Q E news B F X N T hk l step first g0 g1 g2 g3 t0 t1 t2 t3 t4 t5 t6 nn hl hg0 hg1 hg2 hg3 hg4 hd hu ret
  · exact product3 dp un gd cn cs ca ccd cl outer A₀ base h₀ L m s Q E news B F X N T hk l step first g0 g1 g2 g3 t0 t1 t2 t3 t4 t5 t6 nn hl hg0 hg1 hg2 hg3 hg4 hd hu ret
  · exact product4 dp un gd cn cs ca ccd cl outer A₀ base h₀ L m s Q E news B F X N T hk l step first g0 g1 g2 g3 t0 t1 t2 t3 t4 t5 t6 nn hl hg0 hg1 hg2 hg3 hg4 hd hu ret
end ZM1
section ZP6
open PySem PySem.W PySem.Spec PySem.Calls PyProof.Rows
set_option rowWalk.seconds 0
set_option compiler.extract_closed false
set_option maxRecDepth 100000
set_option maxHeartbeats 8000000
set_option pp.deepTerms false
set_option pp.deepTerms.threshold 10
set_option pp.maxSteps 20000
theorem ints4 {ws : List Value} {a b c d : Int} (h : IntsAre ws [a, b, c, d]) : ∃ t0 t1 t2 t3 : Tok, ws = [.int a t0, .int b t1, .int c t2, .int d t3] := by
  cases h with
  | cons _ t0 h => cases h with
    | cons _ t1 h => cases h with
      | cons _ t2 h => cases h with
        | cons _ t3 h => cases h with
          | nil => exact ⟨t0, t1, t2, t3, rfl⟩
theorem ltOf {l : List (Addr × Obj)} {a D : Addr} {o : Obj} (h : ∀ p ∈ l, p.1 < D) (hm : (a, o) ∈ l) : @LT.lt Nat _ a D := h _ hm
theorem part_groups {w : World} {mean : ExcName → Option Value} {mg mb : Str → Option Value} {h₀ : Heap} {L fa : Addr} {cd : Value} {m : Str → Option Value} {s : Shared} {Q : Flow → Shared → Prop} {E : Value → Shared → Prop}
  {oc1 oc6 oc7 oc8 : Obj} {dA yA : Addr} {vs : List Value} {nn kd : Nat} {YS : List Int} {G0 G1 G2 G3 : Int} {x0 x1 x2 x3 x4 x5 x6 x7 : Int} {t0 t1 t2 t3 t4 t5 t6 t7 : Tok} {v6 v7 v8 : Option Value} {ps1 ps2 : Array Value} {rest : List Stmt}
  (B : Below callerA h₀ [] h₀) (X : (Mine.hp w.params).In h₀) (T : Top topProg (looseW Mine.vw Mine.lo ++ (recsOf Mine.vw).map (·.name) ++ (litsOf Mine.vw).map (·.1) ++ (clssOf Mine.vw (looseW Mine.vw Mine.lo)).map (·.name)) mean mg mb h₀) (F : Fr h₀ L s.heap (fun y => if y = Str.ofString "symbols" then some (.ref yA) else m y))
  (N : News h₀ L s.heap [(yA, W.listOf vs.toArray nn), (dA, W.listOf #[.int x0 t0, .int x1 t1, .int x2 t2, .int x3 t3, .int x4 t4, .int x5 t5, .int x6 t6, .int x7 t7] kd), (L + 1 + 1 + 1 + 1 + 1 + 1 + 1 + 1, oc8), (L + 1 + 1 + 1 + 1 + 1 + 1 + 1, oc7), (L + 1 + 1 + 1 + 1 + 1 + 1, oc6), (L + 1, oc1), (54, tabObj ps1), (47, tabObj ps2)])
  (hlt : @LT.lt Nat _ (@HAdd.hAdd Nat Nat Nat _ L 8) yA ∧ @LT.lt Nat _ (@HAdd.hAdd Nat Nat Nat _ L 8) dA) (h54 : @LT.lt Nat _ 54 L ∧ @LT.lt Nat _ 47 L)
  (e1 : oc1.data = .cell (some (.ref dA))) (e6 : oc6.data = .cell v6) (e7 : oc7.data = .cell v7) (e8 : oc8.data = .cell v8)
  (hY : IntsAre vs YS) (hYl : YS.length < 1000) (hG : (grp YS).1 = [G0, G1, G2, G3])
  (cont : ∀ (gA : Addr) (kg : Nat) (u0 u1 u2 u3 us uf : Tok) (oc6 oc7 oc8 : Obj) (m1 : Str → Option Value) (h : Heap) (tk : Nat), oc6.data = .cell (some (.ref gA)) → oc7.data = .cell (some (.int (1 + x5.fmod 3) us)) → oc8.data = .cell (some (.int (1 + x5.fmod 3 + x6.fmod 6) uf)) → Fr h₀ L h m1 → 
    News h₀ L h [(gA, l4 G0 G1 G2 G3 u0 u1 u2 u3 kg), (L + 1 + 1 + 1 + 1 + 1 + 1 + 1 + 1, oc8), (L + 1 + 1 + 1 + 1 + 1 + 1 + 1, oc7), (L + 1 + 1 + 1 + 1 + 1 + 1, oc6), (54, tabObj ps1), (47, tabObj ps2)] → @LT.lt Nat _ (@HAdd.hAdd Nat Nat Nat _ L 8) gA → wpAny (model Mine.rw.prog w) (callerA.deeper (envOfC drec.name drec.scope L fa cd)) (execs rest (envOfC drec.name drec.scope L fa cd)) Q E { s with heap := h, toks := tk }) :
  wpAny (model Mine.rw.prog w) (callerA.deeper (envOfC drec.name drec.scope L fa cd)) (execs ((drec.body.drop 12).take 3 ++ rest) (envOfC drec.name drec.scope L fa cd)) Q E s := by
  unfold drec
  dsimp only [List.drop, List.take, List.cons_append, List.nil_append]
  k_with_none
  k_with "execs cons" => (k_here; first | k_gentoks | (k_made; walk_at "execs cons") | ((with_reducible refine execs_consF ?_); intro qz))
  k_with "storeName" => (k_here; (fail_if_success (k_extra "unfolded")); k_dflt (first | (refine' storeX_LF ?F ?N ?_ ?a ?b; (case F => k_asm); (case N => k_asm); (case a => rfl); (case b => rfl); k_whole; intro h' tk' mz F' N'; (try k_sweep)) | (refine' storeX_CF ?F ?N ?c ?U ?d ?_ ?a ?b; (case a => rfl); (case b => rfl); (case F => k_asm); (case N => k_asm); (case c => rfl); (case U => k_updF); (case d => k_asm); k_whole; intro h' o' F' N' d'; (try dsimp only at N'); (try k_sweep))))
  k_with "LeaveF" => (k_dflt (refine' leaveF_ ?k1 ?k2 ?_; (case k1 => k_asm); (case k2 => k_asm); k_whole); intro kF kN; (try ground_anew kF); (try have kX := kFor kF (by k_asm)))
  k_with "LeaveF" => (k_made; walk_at "LeaveF")
  k_with "zUR" => (have hcL9 := cLine_is; omega)
  k_with "zNE" => (refine neN ?_; (try dsimp only); first | with_reducible (first | (refine neA0 (by assumption) ?_; focus ((repeat (first | exact And.left | exact id | refine andR ?_)); done)) | (refine neB0 (by assumption) ?_; focus ((repeat (first | exact And.left | exact id | refine andR ?_)); done)) | (refine neC (by assumption) ?_; focus ((repeat (first | exact And.left | exact id | refine andR ?_)); done)) | (refine neCs (by assumption) ?_; focus ((repeat (first | exact And.left | exact id | refine andR ?_)); done)) | (refine neA1 (by assumption) ?_; focus ((repeat (first | exact And.left | exact id | refine andR ?_)); done)) | (refine neB1 (by assumption) ?_; focus ((repeat (first | exact And.left | exact id | refine andR ?_)); done)) | (refine neA2 (by assumption) ?_; focus ((repeat (first | exact And.left | exact id | refine andR ?_)); done)) | (refine neB2 (by assumption) ?_; focus ((repeat (first | exact And.left | exact id | refine andR ?_)); done)) | (refine neA3 (by assumption) ?_; focus ((repeat (first | exact And.left | exact id | refine andR ?_)); done)) | (refine neB3 (by assumption) ?_; focus ((repeat (first | exact And.left | exact id | refine andR ?_)); done))) | omega)
  k_with "zRM" => (with_reducible first | exact room1 (by assumption) (by assumption) (by decide) | exact room2 (by assumption) (by assumption) (by decide) | exact room3 (by assumption) (by assumption) (by decide) | exact room4 (by assumption) (by assumption) (by decide) | exact room5 (by assumption) (by assumption) (by decide) | exact room0 (by assumption))
  k_with "zALL" => first | assumption | with_reducible (first | (refine nwA0 (by assumption) ?_; focus ((refine andR ?_); (repeat (first | exact id | refine andR ?_)); done)) | (refine nwA1 (by assumption) ?_; focus ((refine andR ?_); (repeat (first | exact id | refine andR ?_)); done)) | (refine nwA2 (by assumption) ?_; focus ((refine andR ?_); (repeat (first | exact id | refine andR ?_)); done)) | (refine nwA3 (by assumption) ?_; focus ((refine andR ?_); (repeat (first | exact id | refine andR ?_)); done)))
  k_with "subscriptTail Name Constant ref int" => (with_unfolding_all ((refine' itemK ?zqk1 ?zqk2 ?zqk3 ?zqk4 ?_ ?zqk6); (case zqk1 => exact News.isList (by assumption) (by (focus first | ((repeat (first | exact memH | ((fail_if_success (refine nilX ?_)); refine memT ?_))); done) | ((repeat (first | assumption | ((fail_if_success (refine nilX ?_)); refine memT ?_))); done)))); (case zqk2 => decide); (case zqk3 => decide); (case zqk4 => with_unfolding_all exact rfl); (case zqk6 => with_unfolding_all rfl); k_whole))
  k_with "call ref" => (k_here; (with_reducible show wpAny _ _ (call (Value.ref 132) [Value.ref _]) _ _ _); ((rename Fr _ _ _ _ => lF'); (with_unfolding_all refine' groups _ _ _ _ _ _ _ _ _ _ _ _ _ _ _ _ _ _ ?k1 ?k2 ?k3 ?k4 ?k5 ?kK yA vs YS nn ?a1 ?a2 ?a3 ?kd ?ku ?_); (case k1 => with_unfolding_all assumption); (case k2 => with_unfolding_all assumption); (case k3 => with_unfolding_all assumption); (case k4 => with_unfolding_all assumption); (case k5 => with_unfolding_all assumption); (case kK => first | exact rfl | assumption); (case a1 => with_unfolding_all (focus first | ((repeat (first | exact memH | ((fail_if_success (refine nilX ?_)); refine memT ?_))); done) | ((repeat (first | assumption | ((fail_if_success (refine nilX ?_)); refine memT ?_))); done))); (case a2 => exact hY); (case a3 => exact hYl); (case kd => ktr_room); (case ku => ktr_units); intro gA gv kg h8 tk8 hI8 F8 N8 hl8; (rw [hG] at hI8); (obtain ⟨u0, u1, u2, u3, rfl⟩ := ints4 hI8); (replace F8 := frAs lF' (by with_unfolding_all exact rfl) F8); (replace N8 := newsAs lF' (by with_unfolding_all exact rfl) N8); (have hg1 : @LT.lt Nat _ dA gA := ltOf hl8 (by with_unfolding_all (focus first | ((repeat (first | exact memH | ((fail_if_success (refine nilX ?_)); refine memT ?_))); done) | ((repeat (first | assumption | ((fail_if_success (refine nilX ?_)); refine memT ?_))); done)))); clear lF' hl8; (try dsimp only); (try k_fold); (try k_sweep)))
  k_steps
  rename Fr _ _ _ _ => lF'
  rename News _ _ _ _ => lN'
  refine cont gA kg u0 u1 u2 u3 ?xzs ?xzf ?xz6 ?xz7 ?xz8 _ _ _ ?zh6 ?zh7 ?zh8 lF' ?zhN ?zhl
  case zh6 => assumption
  case zh7 => assumption
  case zh8 => assumption
  case zhN => exact fun p hp => lN' p (SubL.mem (by k_subL) p hp)
  case zhl => omega
end ZP6
section ZT5
open PySem PySem.W PySem.Spec PySem.Calls PyProof.Rows
set_option maxRecDepth 100000
theorem andT {a b : Bool} (h : (a && b) = true) : a = true ∧ b = true := (Bool.and_eq_true a b).mp h
theorem andI {a b : Bool} (h : a = true) (g : b = true) : (a && b) = true := (Bool.and_eq_true a b).mpr ⟨h, g⟩
theorem okB_le {M M' : Int} {r : ST} (hM : M ≤ M') (h : okB M r = true) : okB M' r = true :=
  andI (andI (andT (andT h).1).1 (decide_eq_true (Int.lt_of_lt_of_le (of_decide_eq_true (andT (andT h).1).2) hM))) (andT h).2
noncomputable def runB (M : Int) : Nat → ST → Option ST
  | 0, r => if r.row = [] then some r else none
  | f + 1, r => if r.row = [] then some r else if okB M r then runB M f (turnS r) else none
theorem runB_nil {M : Int} {f : Nat} {r : ST} (h : r.row = []) : runB M f r = some r := by
  cases f <;> exact if_pos h
theorem runB_go {M : Int} {f : Nat} {r fin : ST} (h : ¬ r.row = []) (g : runB M f r = some fin) : ∃ n, f = n + 1 ∧ okB M r = true ∧ runB M n (turnS r) = some fin := by
  cases f with
  | zero => cases (if_neg h).symm.trans g
  | succ n =>
    replace g := (if_neg h).symm.trans g
    by_cases o : okB M r = true
    · exact ⟨n, rfl, o, (if_pos o).symm.trans g⟩
    · cases (if_neg o).symm.trans g
theorem runB_on {M : Int} {n : Nat} {r fin : ST} (h : ¬ r.row = []) (o : okB M r = true) (g : runB M n (turnS r) = some fin) : runB M (n + 1) r = some fin := (if_neg h).trans ((if_pos o).trans g)
theorem runB_S {P M : Int} (hM : M ≤ P * P - 1) {fin : ST} (f : Nat) : ∀ (r : ST), runB M f r = some fin → runS P f r = some fin := by
  induction f with
  | zero => exact fun _ => id
  | succ f ih =>
    intro r g
    by_cases h : r.row = []
    · exact (if_pos h).trans ((if_pos h).symm.trans g)
    · obtain ⟨n, hn, o, g⟩ := runB_go h g
      cases hn
      exact (if_neg h).trans ((if_pos (okB_le hM o)).trans (ih _ g))
noncomputable def prodOf (step first m g0 g1 g2 g3 : Int) : List Int := prodT [step, step * m + first - step] (facL m g0 g1 g2 g3)
noncomputable def startS (step first g0 g1 g2 g3 : Int) : ST := ⟨first :: List.replicate (g0 + (g1 + (g2 + (g3 + 0))) - 1).toNat step, [], [], [], [], g0, g1, g2, g3⟩
noncomputable def chk (g0 g1 g2 g3 step first : Int) : Bool :=
  let S := (prodOf step first 4 g0 g1 g2 g3).sum
  decide (0 ≤ S) && (match runB (S + 1) 12 (startS step first g0 g1 g2 g3) with
  | some fin => fin.n0 == (prodOf step first 1 g0 g1 g2 g3).drop 1 && (fin.n1 == (prodOf step first 2 g0 g1 g2 g3).drop 1 && (fin.n2 == (prodOf step first 3 g0 g1 g2 g3).drop 1 && fin.n3 == (prodOf step first 4 g0 g1 g2 g3).drop 1))
  | none => false)
inductive L3 (s e : Int) : List Int → List Int → List Int → Prop
  | nil : L3 s e [] [] []
  | cons {x l l1 l2} (a b : Int) (hx : x = s * a + e * b) (h : L3 s e l l1 l2) : L3 s e (x :: l) (a :: l1) (b :: l2)
theorem L3.app {s e : Int} {l l1 l2 k k1 k2 : List Int} (h : L3 s e l l1 l2) (g : L3 s e k k1 k2) : L3 s e (l ++ k) (l1 ++ k1) (l2 ++ k2) := by
  induction h with
  | nil => exact g
  | cons a b hx _ ih => exact .cons a b hx ih
theorem L3.len {s e : Int} {l l1 l2 : List Int} (h : L3 s e l l1 l2) : l.length = l1.length ∧ l.length = l2.length := by
  induction h with
  | nil => exact ⟨rfl, rfl⟩
  | cons a b hx _ ih => exact ⟨congrArg (· + 1) ih.1, congrArg (· + 1) ih.2⟩
theorem L3.rep {s e x a b : Int} (hx : x = s * a + e * b) : ∀ n : Nat, L3 s e (List.replicate n x) (List.replicate n a) (List.replicate n b)
  | 0 => .nil
  | n + 1 => .cons a b hx (L3.rep hx n)
theorem lin_add {s e x a b y c d : Int} (hx : x = s * a + e * b) (hy : y = s * c + e * d) : x + y = s * (a + c) + e * (b + d) := by
  rw [hx, hy, Int.mul_add, Int.mul_add]; omega
theorem lin_mul {s e x a b : Int} (f : Int) (hx : x = s * a + e * b) : f * x = s * (f * a) + e * (f * b) := by
  rw [hx, Int.mul_add, Int.mul_left_comm, Int.mul_left_comm f e]
theorem L3.sum {s e : Int} {l l1 l2 : List Int} (h : L3 s e l l1 l2) : l.sum = s * l1.sum + e * l2.sum := by
  induction h with
  | nil => simp
  | cons a b hx _ ih => rw [List.sum_cons, List.sum_cons, List.sum_cons]; exact lin_add hx ih
theorem L3.pre {s e : Int} {l l1 l2 : List Int} (h : L3 s e l l1 l2) : ∀ {x a b : Int}, x = s * a + e * b → L3 s e (prefS l x) (prefS l1 a) (prefS l2 b) := by
  induction h with
  | nil => intro x a b _; exact .nil
  | cons a b hx _ ih => intro x c d hy; exact .cons c d hy (ih (lin_add hy hx))
theorem L3.tl {s e : Int} {l l1 l2 : List Int} (h : L3 s e l l1 l2) : L3 s e l.tail l1.tail l2.tail := by
  cases h with
  | nil => exact .nil
  | cons a b _ h => exact h
theorem L3.dr {s e : Int} {l l1 l2 : List Int} (h : L3 s e l l1 l2) : L3 s e (l.drop 1) (l1.drop 1) (l2.drop 1) := by
  cases h with
  | nil => exact .nil
  | cons a b _ h => exact h
theorem L3.get {s e : Int} {l l1 l2 : List Int} (h : L3 s e l l1 l2) : ∀ k : Nat, l.getD k 0 = s * l1.getD k 0 + e * l2.getD k 0 := by
  induction h with
  | nil => intro k; simp
  | cons a b hx _ ih => intro k; cases k with
    | zero => exact hx
    | succ k => exact ih k
theorem L3.one {s e : Int} {t t1 t2 : List Int} (h : L3 s e t t1 t2) (k : Nat) : L3 s e [t.getD k 0] [t1.getD k 0] [t2.getD k 0] := .cons _ _ (h.get k) .nil
theorem L3.eq {s e : Int} {l l1 l2 : List Int} (h : L3 s e l l1 l2) : l = List.zipWith (fun a b => s * a + e * b) l1 l2 := by
  induction h with
  | nil => rfl
  | cons a b hx _ ih => rw [List.zipWith_cons_cons, ← ih, hx]
theorem L3.det {s e : Int} {l k l1 l2 : List Int} (h : L3 s e l l1 l2) (g : L3 s e k l1 l2) : l = k := h.eq.trans g.eq.symm
theorem L3.det1 {s e : Int} {l k l1 l2 k1 k2 : List Int} (h : L3 s e l l1 l2) (h1 : l1 = k1) (h2 : l2 = k2) (g : L3 s e k k1 k2) : l = k := by
  subst h1 h2
  exact h.det g
theorem L3.zip {s e : Int} (f : Int) {l l1 l2 : List Int} (h : L3 s e l l1 l2) : ∀ {k k1 k2 : List Int}, L3 s e k k1 k2 →
    L3 s e (List.zipWith (fun a b => a + f * b) l k) (List.zipWith (fun a b => a + f * b) l1 k1) (List.zipWith (fun a b => a + f * b) l2 k2) := by
  induction h with
  | nil => intro k k1 k2 _; exact .nil
  | cons a b hx _ ih => intro k k1 k2 g; cases g with
    | nil => exact .nil
    | cons c d hy g => exact .cons _ _ (lin_add hx (lin_mul f hy)) (ih g)
theorem L3.z1 {s e : Int} : L3 s e [0] [0] [0] := .cons 0 0 (by simp) .nil
theorem L3.stT {s e : Int} (f : Int) {l l1 l2 : List Int} (h : L3 s e l l1 l2) : L3 s e (stepT f l) (stepT f l1) (stepT f l2) :=
  L3.zip f (h.app L3.z1) (L3.z1.app h)
theorem L3.prod {s e : Int} : ∀ (fs : List Int) {l l1 l2 : List Int}, L3 s e l l1 l2 → L3 s e (prodT l fs) (prodT l1 fs) (prodT l2 fs)
  | [], _, _, _, h => h
  | f :: fs, _, _, _, h => L3.prod fs (h.stT f)
theorem L3.nonneg {s e : Int} (hs : 0 ≤ s) (he : 0 ≤ e) {l l1 l2 : List Int} (h : L3 s e l l1 l2) : l1.all (0 ≤ ·) = true → l2.all (0 ≤ ·) = true → l.all (0 ≤ ·) = true := by
  induction h with
  | nil => intro _ _; rfl
  | cons a b hx _ ih =>
    intro h1 h2
    simp only [List.all_cons, Bool.and_eq_true, decide_eq_true_eq] at h1 h2 ⊢
    refine ⟨?_, ih h1.2 h2.2⟩
    rw [hx]
    exact Int.add_nonneg (Int.mul_nonneg hs h1.1) (Int.mul_nonneg he h2.1)
theorem lenNil {l k : List Int} (h : l.length = k.length) (g : l = []) : k = [] := List.eq_nil_of_length_eq_zero (h ▸ (congrArg List.length g))
theorem L3.nil1 {s e : Int} {l l1 l2 : List Int} (h : L3 s e l l1 l2) (g : l = []) : l1 = [] := lenNil h.len.1 g
theorem L3.nil2 {s e : Int} {l l1 l2 : List Int} (h : L3 s e l l1 l2) (g : l1 = []) : l = [] ∧ l2 = [] := ⟨lenNil h.len.1.symm g, lenNil (h.len.1.symm.trans h.len.2) g⟩
theorem L3.nil3 {s e : Int} {l l1 l2 : List Int} (h : L3 s e l l1 l2) (g : l2 = []) : l1 = [] := lenNil (h.len.2.symm.trans h.len.1) g
inductive LS (s e : Int) : ST → ST → ST → Prop
  | mk {w p q w0 p0 q0 w1 p1 q1 w2 p2 q2 w3 p3 q3 : List Int} (z0 z1 z2 z3 : Int) (h : L3 s e w p q) (h0 : L3 s e w0 p0 q0) (h1 : L3 s e w1 p1 q1) (h2 : L3 s e w2 p2 q2) (h3 : L3 s e w3 p3 q3) :
    LS s e ⟨w, w0, w1, w2, w3, z0, z1, z2, z3⟩ ⟨p, p0, p1, p2, p3, z0, z1, z2, z3⟩ ⟨q, q0, q1, q2, q3, z0, z1, z2, z3⟩
theorem LS.ite {s e : Int} {c : Prop} [Decidable c] {a a1 a2 b b1 b2 : ST} (h : LS s e a a1 a2) (g : LS s e b b1 b2) : LS s e (if c then a else b) (if c then a1 else b1) (if c then a2 else b2) := by
  split
  · exact h
  · exact g
theorem LS.one {s e : Int} (a b c d : Int) {t t1 t2 : List Int} (ht : L3 s e t t1 t2) (k : Int) {r r1 r2 : ST} (h : LS s e r r1 r2) : LS s e (stp a b c d t r k) (stp a b c d t1 r1 k) (stp a b c d t2 r2 k) := by
  have hk := ht.one k.toNat
  cases h with | mk z0 z1 z2 z3 h h0 h1 h2 h3 =>
  exact .ite (.ite (.mk z0 z1 z2 z3 h (h0.app hk) h1 h2 h3) (.ite (.mk z0 z1 z2 z3 h h0 (h1.app hk) h2 h3) (.ite (.mk z0 z1 z2 z3 h h0 h1 (h2.app hk) h3) (.mk z0 z1 z2 z3 h h0 h1 h2 (h3.app hk))))) (.mk z0 z1 z2 z3 (h.app hk) h0 h1 h2 h3)
theorem LS.fold {s e : Int} (a b c d : Int) {t t1 t2 : List Int} (ht : L3 s e t t1 t2) {k k1 k2 : List Int} (hk1 : k1 = k) (hk2 : k2 = k) : ∀ {r r1 r2 : ST}, LS s e r r1 r2 → LS s e (k.foldl (stp a b c d t) r) (k1.foldl (stp a b c d t1) r1) (k2.foldl (stp a b c d t2) r2) := by
  subst hk1 hk2
  induction k2 with
  | nil => exact id
  | cons x k ih => intro r r1 r2 h; exact ih (h.one a b c d ht x)
theorem LS.low {s e : Int} {r r1 r2 : ST} (h : LS s e r r1 r2) : LS s e (lower r) (lower r1) (lower r2) := by
  cases h with | mk z0 z1 z2 z3 h h0 h1 h2 h3 => exact .mk _ _ _ _ h h0 h1 h2 h3
theorem LS.turn {s e : Int} {r r1 r2 : ST} (h : LS s e r r1 r2) : LS s e (turnS r) (turnS r1) (turnS r2) := by
  cases h with | mk z0 z1 z2 z3 h h0 h1 h2 h3 =>
  have ht := ((h.app L3.z1).pre (x := 0) (a := 0) (b := 0) (by simp)).tl
  exact LS.low (LS.fold _ _ _ _ ht (congrArg (rangeKs 0) ht.len.1.symm) (congrArg (rangeKs 0) ht.len.2.symm) (.mk _ _ _ _ .nil h0 h1 h2 h3))
theorem LS.res {s e : Int} {r r1 r2 : ST} (h : LS s e r r1 r2) : okR r.row.length r.n0.length r.n1.length r.n2.length r.n3.length r.z0 r.z1 r.z2 r.z3 = okR r1.row.length r1.n0.length r1.n1.length r1.n2.length r1.n3.length r1.z0 r1.z1 r1.z2 r1.z3 := by
  cases h with | mk z0 z1 z2 z3 h h0 h1 h2 h3 => dsimp only; rw [h.len.1, h0.len.1, h1.len.1, h2.len.1, h3.len.1]
theorem LS.row {s e : Int} {r r1 r2 : ST} (h : LS s e r r1 r2) : L3 s e r.row r1.row r2.row := by
  cases h with | mk z0 z1 z2 z3 h => exact h
theorem LS.f0 {s e : Int} {r r1 r2 : ST} (h : LS s e r r1 r2) : L3 s e r.n0 r1.n0 r2.n0 := by
  cases h with | mk z0 z1 z2 z3 h h0 => exact h0
theorem LS.f1 {s e : Int} {r r1 r2 : ST} (h : LS s e r r1 r2) : L3 s e r.n1 r1.n1 r2.n1 := by
  cases h with | mk z0 z1 z2 z3 h h0 h1 => exact h1
theorem LS.f2 {s e : Int} {r r1 r2 : ST} (h : LS s e r r1 r2) : L3 s e r.n2 r1.n2 r2.n2 := by
  cases h with | mk z0 z1 z2 z3 h h0 h1 h2 => exact h2
theorem LS.f3 {s e : Int} {r r1 r2 : ST} (h : LS s e r r1 r2) : L3 s e r.n3 r1.n3 r2.n3 := by
  cases h with | mk z0 z1 z2 z3 h h0 h1 h2 h3 => exact h3
theorem LS.ok {s e M S1 S2 : Int} (hs : 0 ≤ s) (he : 0 ≤ e) (hM : M = s * S1 + e * S2) {r r1 r2 : ST} (h : LS s e r r1 r2) (h1 : okB (S1 + 1) r1 = true) (h2 : okB (S2 + 1) r2 = true) : okB (M + 1) r = true := by
  have g1 := andT h1
  have g2 := andT h2
  have a1 := andT g1.1
  have a2 := andT g2.1
  refine andI (andI (h.row.nonneg hs he a1.1 a2.1) (decide_eq_true ?_)) (h.res.trans g1.2)
  rw [h.row.sum, hM]
  exact Int.lt_add_one_of_le (Int.add_le_add (Int.mul_le_mul_of_nonneg_left (Int.le_of_lt_add_one (of_decide_eq_true a1.2)) hs) (Int.mul_le_mul_of_nonneg_left (Int.le_of_lt_add_one (of_decide_eq_true a2.2)) he))
theorem some_inj {a b : ST} (h : some a = some b) : a = b := Option.some.inj h
theorem LS.halt {s e M M1 M2 : Int} {f : Nat} {r r1 r2 f1 f2 : ST} (hr : r1.row = []) (h : LS s e r r1 r2) (g1 : runB M1 f r1 = some f1) (g2 : runB M2 f r2 = some f2) : ∃ fin, runB M f r = some fin ∧ LS s e fin f1 f2 :=
  ⟨r, runB_nil (h.row.nil2 hr).1, some_inj ((runB_nil hr).symm.trans g1) ▸ some_inj ((runB_nil (h.row.nil2 hr).2).symm.trans g2) ▸ h⟩
theorem LS.run {s e M S1 S2 : Int} (hs : 0 ≤ s) (he : 0 ≤ e) (hM : M = s * S1 + e * S2) {f1 f2 : ST} (f : Nat) : ∀ {r r1 r2 : ST}, LS s e r r1 r2 → runB (S1 + 1) f r1 = some f1 → runB (S2 + 1) f r2 = some f2 → ∃ fin, runB (M + 1) f r = some fin ∧ LS s e fin f1 f2 := by
  induction f with
  | zero =>
    intro r r1 r2 h g1 g2
    exact Decidable.byCases (fun hr => LS.halt hr h g1 g2) (fun hr => nomatch runB_go hr g1)
  | succ f ih =>
    intro r r1 r2 h g1 g2
    refine Decidable.byCases (fun hr => LS.halt hr h g1 g2) (fun hr => ?_)
    obtain ⟨n, hn, o1, g1⟩ := runB_go hr g1
    cases hn
    obtain ⟨n, hn, o2, g2⟩ := runB_go (fun x => hr (h.row.nil3 x)) g2
    cases hn
    obtain ⟨fin, g, l⟩ := ih h.turn g1 g2
    exact ⟨fin, runB_on (fun x => hr (h.row.nil1 x)) (h.ok hs he hM o1 o2) g, l⟩
theorem L3.of {s e m g0 g1 g2 g3 : Int} : L3 s e (prodOf s (s + e) m g0 g1 g2 g3) (prodOf 1 1 m g0 g1 g2 g3) (prodOf 0 1 m g0 g1 g2 g3) :=
  L3.prod _ (.cons 1 0 (by simp) (.cons _ _ (by rw [Int.one_mul, Int.zero_mul, Int.add_sub_cancel]; omega) .nil))
theorem LS.st {s e g0 g1 g2 g3 : Int} : LS s e (startS s (s + e) g0 g1 g2 g3) (startS 1 1 g0 g1 g2 g3) (startS 0 1 g0 g1 g2 g3) :=
  .mk _ _ _ _ (.cons 1 1 (by simp) (L3.rep (by simp) _)) .nil .nil .nil .nil
inductive Told (step first g0 g1 g2 g3 : Int) : Prop
  | mk (fin : ST) (h0 : 0 ≤ (prodOf step first 4 g0 g1 g2 g3).sum) (hr : runB ((prodOf step first 4 g0 g1 g2 g3).sum + 1) 12 (startS step first g0 g1 g2 g3) = some fin)
    (f0 : fin.n0 = (prodOf step first 1 g0 g1 g2 g3).drop 1) (f1 : fin.n1 = (prodOf step first 2 g0 g1 g2 g3).drop 1) (f2 : fin.n2 = (prodOf step first 3 g0 g1 g2 g3).drop 1) (f3 : fin.n3 = (prodOf step first 4 g0 g1 g2 g3).drop 1)
noncomputable def chkL (g0 g1 g2 g3 : Int) : Bool := (chk g0 g1 g2 g3 1 1 && chk g0 g1 g2 g3 0 1) && decide (3 * (prodOf 1 1 4 g0 g1 g2 g3).sum + 5 * (prodOf 0 1 4 g0 g1 g2 g3).sum ≤ 240000)
noncomputable def chkN (f : Int) : Bool := [0, 1].all fun (c0 : Int) => [c0 + 0, c0 + 1, c0 + 2].all fun (c1 : Int) => [c1 + 0, c1 + 1].all fun (c2 : Int) => [c2 + 0, c2 + 1].all fun (c3 : Int) => chkL (f + c0) (f + c1) (f + c2) (f + c3)
theorem chk_out {g0 g1 g2 g3 step first : Int} (h : chk g0 g1 g2 g3 step first = true) : Told step first g0 g1 g2 g3 := by
  unfold chk at h
  have h2 := andT h
  generalize he : runB ((prodOf step first 4 g0 g1 g2 g3).sum + 1) 12 (startS step first g0 g1 g2 g3) = o at h2
  cases o with
  | none => cases h2.2
  | some fin =>
    have c1 := andT h2.2
    have c2 := andT c1.2
    have c3 := andT c2.2
    exact .mk fin (of_decide_eq_true h2.1) he (eq_of_beq c1.1) (eq_of_beq c2.1) (eq_of_beq c3.1) (eq_of_beq c3.2)
theorem lin_lo {s e a b x : Int} (h : x = s * a + e * b) (hs : 0 ≤ s) (he : 0 ≤ e) (ha : 0 ≤ a) (hb : 0 ≤ b) : 0 ≤ x := h ▸ Int.add_nonneg (Int.mul_nonneg hs ha) (Int.mul_nonneg he hb)
theorem lin_hi {s e a b x : Int} (h : x = s * a + e * b) (hs : s ≤ 3) (he : e ≤ 5) (ha : 0 ≤ a) (hb : 0 ≤ b) (g : 3 * a + 5 * b ≤ 240000) : x ≤ 240000 := h ▸ Int.le_trans (Int.add_le_add (Int.mul_le_mul_of_nonneg_right hs ha) (Int.mul_le_mul_of_nonneg_right he hb)) g
theorem chk_lin {g0 g1 g2 g3 s e : Int} (h : chkL g0 g1 g2 g3 = true) (hs : 0 ≤ s) (hs3 : s ≤ 3) (he : 0 ≤ e) (he5 : e ≤ 5) : (prodOf s (s + e) 4 g0 g1 g2 g3).sum ≤ 240000 ∧ Told s (s + e) g0 g1 g2 g3 := by
  have q := andT h
  have p := andT q.1
  cases chk_out p.1 with | mk f1 p0 p1 p2 p3 p4 p5 =>
  cases chk_out p.2 with | mk f2 q0 q1 q2 q3 q4 q5 =>
  have hS := (L3.of (s := s) (e := e) (m := 4) (g0 := g0) (g1 := g1) (g2 := g2) (g3 := g3)).sum
  obtain ⟨fin, hr, hl⟩ := LS.run hs he hS 12 LS.st p1 q1
  exact ⟨lin_hi hS hs3 he5 p0 q0 (of_decide_eq_true q.2), .mk fin (lin_lo hS hs he p0 q0) hr (hl.f0.det1 p2 q2 L3.of.dr) (hl.f1.det1 p3 q3 L3.of.dr) (hl.f2.det1 p4 q4 L3.of.dr) (hl.f3.det1 p5 q5 L3.of.dr)⟩
theorem chkN1 : chkN 1 = true := by decide +kernel
theorem chkN2 : chkN 2 = true := by decide +kernel
theorem chkN3 : chkN 3 = true := by decide +kernel
theorem mem2 {b x y : Int} (h : b = x ∨ b = y) : b ∈ [x, y] := h.elim (· ▸ .head _) (· ▸ .tail _ (.head _))
theorem mem3 {b x y z : Int} (h : b = x ∨ b = y ∨ b = z) : b ∈ [x, y, z] := h.elim (· ▸ .head _) (.tail _ <| mem2 ·)
theorem allT {p : Int → Bool} {l : List Int} {x : Int} (h : l.all p = true) (g : x ∈ l) : p x = true := List.all_eq_true.mp h x g
theorem chkNf {f : Int} (h : f = 1 ∨ f = 2 ∨ f = 3) : chkN f = true := h.elim (· ▸ chkN1) (·.elim (· ▸ chkN2) (· ▸ chkN3))
theorem chk_at {f c0 c1 c2 c3 s e : Int} (hf : f = 1 ∨ f = 2 ∨ f = 3) (h0 : c0 = 0 ∨ c0 = 1) (h1 : c1 = c0 + 0 ∨ c1 = c0 + 1 ∨ c1 = c0 + 2) (h2 : c2 = c1 + 0 ∨ c2 = c1 + 1) (h3 : c3 = c2 + 0 ∨ c3 = c2 + 1) (hs : 0 ≤ s ∧ s ≤ 3) (he : 0 ≤ e ∧ e ≤ 5) :
    (prodOf s (s + e) 4 (f + c0) (f + c1) (f + c2) (f + c3)).sum ≤ 240000 ∧ Told s (s + e) (f + c0) (f + c1) (f + c2) (f + c3) :=
  have a0 : _ = true := allT (p := fun c0 => [c0 + 0, c0 + 1, c0 + 2].all fun c1 => [c1 + 0, c1 + 1].all fun c2 => [c2 + 0, c2 + 1].all fun c3 => chkL (f + c0) (f + c1) (f + c2) (f + c3)) (chkNf hf) (mem2 h0)
  have a1 := allT a0 (mem3 h1)
  have a2 := allT a1 (mem2 h2)
  have a3 := allT a2 (mem2 h3)
  chk_lin a3 hs.1 hs.2 he.1 he.2
end ZT5
section ZP7
open PySem PySem.W PySem.Spec PySem.Calls PyProof.Rows
set_option rowWalk.seconds 0
set_option compiler.extract_closed false
set_option maxRecDepth 100000
set_option maxHeartbeats 8000000
set_option pp.deepTerms false
set_option pp.deepTerms.threshold 10
set_option pp.maxSteps 20000
theorem part_products {w : World} {mean : ExcName → Option Value} {mg mb : Str → Option Value} {h₀ : Heap} {L fa : Addr} {cd : Value} {m : Str → Option Value} {s : Shared} {Q : Flow → Shared → Prop} {E : Value → Shared → Prop}
  {oc6 oc7 oc8 : Obj} {gA : Addr} {kg : Nat} {G0 G1 G2 G3 step first : Int} {u0 u1 u2 u3 us uf : Tok} {ps1 ps2 : Array Value} {rest : List Stmt}
  (B : Below callerA h₀ [] h₀) (X : (Mine.hp w.params).In h₀) (T : Top topProg (looseW Mine.vw Mine.lo ++ (recsOf Mine.vw).map (·.name) ++ (litsOf Mine.vw).map (·.1) ++ (clssOf Mine.vw (looseW Mine.vw Mine.lo)).map (·.name)) mean mg mb h₀) (F : Fr h₀ L s.heap m)
  (N : News h₀ L s.heap [(gA, l4 G0 G1 G2 G3 u0 u1 u2 u3 kg), (L + 1 + 1 + 1 + 1 + 1 + 1 + 1 + 1, oc8), (L + 1 + 1 + 1 + 1 + 1 + 1 + 1, oc7), (L + 1 + 1 + 1 + 1 + 1 + 1, oc6), (54, tabObj ps1), (47, tabObj ps2)])
  (hlt : @LT.lt Nat _ (@HAdd.hAdd Nat Nat Nat _ L 8) gA) (h54 : @LT.lt Nat _ 54 L ∧ @LT.lt Nat _ 47 L)
  (e6 : oc6.data = .cell (some (.ref gA))) (e7 : oc7.data = .cell (some (.int step us))) (e8 : oc8.data = .cell (some (.int first uf)))
  (hg0 : 1 ≤ G0) (hg1 : G0 ≤ G1) (hg2 : G1 ≤ G2) (hg3 : G2 ≤ G3) (hg4 : G3 ≤ 50)
  (cont : ∀ (pA p0 p1 p2 p3 : Addr) (k0 k1 k2 k3 : Nat) (w0 w1 w2 w3 : List Value) (h : Heap) (tk : Nat), IntsAre w0 (prodOf step first 1 G0 G1 G2 G3) → IntsAre w1 (prodOf step first 2 G0 G1 G2 G3) → IntsAre w2 (prodOf step first 3 G0 G1 G2 G3) → IntsAre w3 (prodOf step first 4 G0 G1 G2 G3) → Fr h₀ L h (fun y => if y = Str.ofString "products" then some (.ref pA) else m y) → 
    News h₀ L h [(pA, LCg.lst [.ref p0, .ref p1, .ref p2, .ref p3]), (p0, W.listOf w0.toArray k0), (p1, W.listOf w1.toArray k1), (p2, W.listOf w2.toArray k2), (p3, W.listOf w3.toArray k3), (gA, l4 G0 G1 G2 G3 u0 u1 u2 u3 kg), (L + 1 + 1 + 1 + 1 + 1 + 1 + 1 + 1, oc8), (L + 1 + 1 + 1 + 1 + 1 + 1 + 1, oc7), (L + 1 + 1 + 1 + 1 + 1 + 1, oc6), (54, tabObj ps1), (47, tabObj ps2)] → wpAny (model Mine.rw.prog w) (callerA.deeper (envOfC drec.name drec.scope L fa cd)) (execs rest (envOfC drec.name drec.scope L fa cd)) Q E { s with heap := h, toks := tk }) :
  wpAny (model Mine.rw.prog w) (callerA.deeper (envOfC drec.name drec.scope L fa cd)) (execs ((drec.body.drop 15).take 1 ++ rest) (envOfC drec.name drec.scope L fa cd)) Q E s := by
  unfold drec
  dsimp only [List.drop, List.take, List.cons_append, List.nil_append]
  k_with_none
  k_with "execs cons" => (k_here; first | k_gentoks | (k_made; walk_at "execs cons") | ((with_reducible refine execs_consF ?_); intro qz))
  k_with "storeName" => (k_here; (fail_if_success (k_extra "unfolded")); k_dflt (first | (refine' storeX_LF ?F ?N ?_ ?a ?b; (case F => k_asm); (case N => k_asm); (case a => rfl); (case b => rfl); k_whole; intro h' tk' mz F' N'; (try k_sweep)) | (refine' storeX_CF ?F ?N ?c ?U ?d ?_ ?a ?b; (case a => rfl); (case b => rfl); (case F => k_asm); (case N => k_asm); (case c => rfl); (case U => k_updF); (case d => k_asm); k_whole; intro h' o' F' N' d'; (try dsimp only at N'); (try k_sweep))))
  k_with "LeaveF" => (k_dflt (refine' leaveF_ ?k1 ?k2 ?_; (case k1 => k_asm); (case k2 => k_asm); k_whole); intro kF kN; (try ground_anew kF); (try have kX := kFor kF (by k_asm)))
  k_with "LeaveF" => (k_made; walk_at "LeaveF")
  k_with "zUR" => (have hcL9 := cLine_is; omega)
  k_with "zNE" => (refine neN ?_; (try dsimp only); first | with_reducible (first | (refine neA0 (by assumption) ?_; focus ((repeat (first | exact And.left | exact id | refine andR ?_)); done)) | (refine neB0 (by assumption) ?_; focus ((repeat (first | exact And.left | exact id | refine andR ?_)); done)) | (refine neC (by assumption) ?_; focus ((repeat (first | exact And.left | exact id | refine andR ?_)); done)) | (refine neCs (by assumption) ?_; focus ((repeat (first | exact And.left | exact id | refine andR ?_)); done)) | (refine neA1 (by assumption) ?_; focus ((repeat (first | exact And.left | exact id | refine andR ?_)); done)) | (refine neB1 (by assumption) ?_; focus ((repeat (first | exact And.left | exact id | refine andR ?_)); done)) | (refine neA2 (by assumption) ?_; focus ((repeat (first | exact And.left | exact id | refine andR ?_)); done)) | (refine neB2 (by assumption) ?_; focus ((repeat (first | exact And.left | exact id | refine andR ?_)); done)) | (refine neA3 (by assumption) ?_; focus ((repeat (first | exact And.left | exact id | refine andR ?_)); done)) | (refine neB3 (by assumption) ?_; focus ((repeat (first | exact And.left | exact id | refine andR ?_)); done))) | omega)
  k_with "zRM" => (with_reducible first | exact room1 (by assumption) (by assumption) (by decide) | exact room2 (by assumption) (by assumption) (by decide) | exact room3 (by assumption) (by assumption) (by decide) | exact room4 (by assumption) (by assumption) (by decide) | exact room5 (by assumption) (by assumption) (by decide) | exact room0 (by assumption))
  k_with "zALL" => first | assumption | with_reducible (first | (refine nwA0 (by assumption) ?_; focus ((refine andR ?_); (repeat (first | exact id | refine andR ?_)); done)) | (refine nwA1 (by assumption) ?_; focus ((refine andR ?_); (repeat (first | exact id | refine andR ?_)); done)) | (refine nwA2 (by assumption) ?_; focus ((refine andR ?_); (repeat (first | exact id | refine andR ?_)); done)) | (refine nwA3 (by assumption) ?_; focus ((refine andR ?_); (repeat (first | exact id | refine andR ?_)); done)))
  k_with "CompEnd" => (first | (with_unfolding_all refine compEnd0 (by assumption) (by assumption) (by first | assumption | exact ⟨⟨by omega, by omega, by omega⟩, by assumption⟩) (by first | exact True.intro | exact Or.inr ⟨_, by (focus first | ((repeat (first | exact memH | ((fail_if_success (refine nilX ?_)); refine memT ?_))); done) | ((repeat (first | assumption | ((fail_if_success (refine nilX ?_)); refine memT ?_))); done)), rfl, _, rfl⟩) ?_) | (with_unfolding_all refine compEnd1 (by assumption) (by assumption) (by first | assumption | (simp only [AllLt, and_true] at *; omega)) (by first | assumption | (simp only [LCg.Off3, and_true] at *; assumption)) (by first | exact True.intro | exact Or.inr ⟨_, by (focus first | ((repeat (first | exact memH | ((fail_if_success (refine nilX ?_)); refine memT ?_))); done) | ((repeat (first | assumption | ((fail_if_success (refine nilX ?_)); refine memT ?_))); done)), rfl, _, rfl⟩) ?_))
  k_with "CompSrc" => ((rename Fr _ _ _ _ => lF'); (rename News _ _ _ _ => lN'); (rename IsRange _ _ _ _ _ _ _ _ => rgX); (with_unfolding_all refine LCg.CompSrc.range (n := 4) rfl lF' lN' rgX (by decide) rfl (by decide) ?_); clear lF' lN' rgX; intro gH)
  k_with "CompRest" => (first | ((with_unfolding_all refine LCg.CompRest.succ ?_); intro v I oI C oC D m₂ h tk E' hv hC hx lF' lN' off' ne'; (obtain ⟨tv, rfl⟩ := hv); (try (simp only [LCg.Off3, and_true] at off'))) | ((with_unfolding_all refine LCg.CompRest.zero ?_)))
  k_with "call ref" => (k_here; (with_reducible show wpAny _ _ (call (Value.ref 137) _) _ _ _); ((rename Fr _ _ _ _ => lF'); (with_unfolding_all refine' product _ _ _ _ _ _ _ _ _ _ _ _ _ _ _ _ _ _ ?k1 ?k2 ?k3 ?k4 ?k5 ?kK gA step first G0 G1 G2 G3 _ u0 u1 u2 u3 _ _ _ kg ?a1 hg0 hg1 hg2 hg3 hg4 ?a2 ?kd ?ku ?_); (case k1 => with_unfolding_all assumption); (case k2 => with_unfolding_all assumption); (case k3 => with_unfolding_all assumption); (case k4 => with_unfolding_all assumption); (case k5 => with_unfolding_all assumption); (case kK => first | exact rfl | assumption); (case a1 => with_unfolding_all (focus first | ((repeat (first | exact memH | ((fail_if_success (refine nilX ?_)); refine memT ?_))); done) | ((repeat (first | assumption | ((fail_if_success (refine nilX ?_)); refine memT ?_))); done))); (case a2 => decide); (case kd => ktr_room); (case ku => ktr_units); intro pD pV pk h8 tk8 hI8 F8 N8 hl8; (replace F8 := frAs lF' (by with_unfolding_all exact rfl) F8); (replace N8 := newsAs lF' (by with_unfolding_all exact rfl) N8); (have l1 := allLt_of hl8); clear lF' hl8; (try dsimp only); (try k_lt l1); (try k_fold); (try k_sweep)))
  k_steps
  rename Fr _ _ _ _ => lF'
  rename News _ _ _ _ => lN'
  (try simp only [List.nil_append, List.cons_append] at lN')
  refine cont _ ?y0 ?y1 ?y2 ?y3 ?x0 ?x1 ?x2 ?x3 ?v0 ?v1 ?v2 ?v3 _ _ ?i0 ?i1 ?i2 ?i3 lF' ?yN
  case yN => exact fun p hp => lN' p (SubL.mem (by k_subL) p hp)
  case i0 => with_unfolding_all assumption
  case i1 => with_unfolding_all assumption
  case i2 => with_unfolding_all assumption
  case i3 => with_unfolding_all assumption
end ZP7
section ZP8
open PySem PySem.W PySem.Spec PySem.Calls PyProof.Rows
set_option rowWalk.seconds 0
set_option compiler.extract_closed false
set_option maxRecDepth 100000
set_option maxHeartbeats 8000000
set_option pp.deepTerms false
set_option pp.deepTerms.threshold 10
set_option pp.maxSteps 20000
section
variable {prog : Program} {w : World} {A : Around} {E : Value → Shared → Prop} {Q : Flow → Shared → Prop} {s : Shared} {env : Env} {h₀ : Heap} {L : Addr}
noncomputable abbrev endH (h₀ : Heap) (L : Addr) (s : Shared) (news : List (Addr × Obj)) (m₀ : Str → Option Value) (Q : Flow → Shared → Prop) (c : Int × Tok) : Flow → Shared → Prop :=
  KswPost h₀ L s (fun _ : Int × Tok => news) (fun c => [(Str.ofString "half", .int c.1 c.2)]) (fun _ => True) [] m₀ (fun c => 2 ≤ c.1 ∧ c.1 ≤ 9) (fun c => (10 - c.1).toNat) Q c
theorem whileH {test : Expr} {body : List Stmt} {pos : Pos} {m₀ : Str → Option Value} {news : List (Addr × Obj)} {t0 : Tok} {z0 : Int}
    (hz : 2 ≤ z0) (hz9 : z0 ≤ 9) (F : Fr h₀ L s.heap m₀) (N : News h₀ L s.heap news)
    (hn : m₀ (Str.ofString "half") = some (.int z0 t0))
    (turn : ∀ (z : Int) (t : Tok) h tk, 2 ≤ z → z ≤ 9 →
      Fr h₀ L h (fun y => if y = Str.ofString "half" then some (.int z t) else m₀ y) → News h₀ L h news →
      wpAny (model prog w) A (isTrue test env (eval test env)) (fun b s₂ =>
        if b = true then wpAny (model prog w) A (execs body env) (endH h₀ L s news m₀ Q ⟨z, t⟩) E s₂ else Q .next s₂) E { s with heap := h, toks := tk })
    (hE : PassesOwn (model prog w) A env E) :
    wpAny (model prog w) A (exec (.While test body [] pos) env) Q E s := by
  refine ksw_while (fun _ : Int × Tok => news) (fun c => [(Str.ofString "half", .int c.1 c.2)]) (fun _ => True) [] (fun c => 2 ≤ c.1 ∧ c.1 ≤ 9) (fun c => (10 - c.1).toNat) ⟨z0, t0⟩ F N trivial ?_ ⟨hz, hz9⟩ ?_ hE
  · intro p hp
    rw [List.mem_singleton.mp hp]; exact hn
  · rintro ⟨z, t⟩ u h tk _ hp F' N'
    exact turn z t h tk hp.1 hp.2 F' N'
theorem endHw {h' : Heap} {news : List (Addr × Obj)} {m₀ m' : Str → Option Value} {c : Int × Tok} {tk : Nat} {z : Int} {t : Tok}
    (F : Fr h₀ L h' m') (N : News h₀ L h' news) (hn : m' (Str.ofString "half") = some (.int z t))
    (hr : ∀ y, y ≠ Str.ofString "half" → m' y = m₀ y) (hz : 2 ≤ z) (hp : z ≤ 9) (hf : c.1 < z) :
    endH h₀ L s news m₀ Q c .next { s with heap := h', toks := tk } := by
  show KswEnd _ _ _ _ _ _ _ _ _ _ _ _
  refine ksw_end (z, t) F N (fun _ h => h) trivial ?_ ?_ ⟨hz, hp⟩ (by show (10 - z).toNat < (10 - c.1).toNat; omega)
  · intro p hp
    rw [List.mem_singleton.mp hp]; exact hn
  · intro y h1 _
    exact hr y (h1 _ (.head _))
end
theorem frDup {h₀ h : Heap} {L : Addr} {a : Str} {v v' : Option Value} {k : Str → Option Value} (F : Fr h₀ L h (fun y => if y = a then v else if y = a then v' else k y)) : Fr h₀ L h (fun y => if y = a then v else k y) := by
  have e : (fun y => if y = a then v else if y = a then v' else k y) = fun y => if y = a then v else k y := by
    funext y
    by_cases hy : y = a
    · rw [if_pos hy, if_pos hy]
    · rw [if_neg hy, if_neg hy, if_neg hy]
  rw [← e]; exact F
theorem pow9 {z S : Int} (h2 : 2 ≤ z) (h9 : z ≤ 9) (hle : (4 : Int) ^ z.toNat ≤ S + 1) (hS : S ≤ 240000) : z + 1 ≤ 9 := by
  by_cases h : z = 9
  · subst h
    rw [show ((4 : Int) ^ Int.toNat 9) = 262144 from by decide] at hle
    omega
  · omega
theorem up2 {z : Int} (h2 : 2 ≤ z) : 2 ≤ z + 1 := by omega
theorem part_half {w : World} {mean : ExcName → Option Value} {mg mb : Str → Option Value} {h₀ : Heap} {L fa : Addr} {cd : Value} {m : Str → Option Value} {s : Shared} {Q : Flow → Shared → Prop} {E : Value → Shared → Prop}
  {oc6 oc7 oc8 : Obj} {gA pA p0 p1 p2 p3 : Addr} {k3 : Nat} {og o0 o1 o2 : Obj} {w3 : List Value} {W3 : List Int} {ps1 ps2 : Array Value} {rest : List Stmt}
  (B : Below callerA h₀ [] h₀) (X : (Mine.hp w.params).In h₀) (T : Top topProg (looseW Mine.vw Mine.lo ++ (recsOf Mine.vw).map (·.name) ++ (litsOf Mine.vw).map (·.1) ++ (clssOf Mine.vw (looseW Mine.vw Mine.lo)).map (·.name)) mean mg mb h₀) (F : Fr h₀ L s.heap (fun y => if y = Str.ofString "products" then some (.ref pA) else m y))
  (N : News h₀ L s.heap [(pA, LCg.lst [.ref p0, .ref p1, .ref p2, .ref p3]), (p0, o0), (p1, o1), (p2, o2), (p3, W.listOf w3.toArray k3), (gA, og), (L + 1 + 1 + 1 + 1 + 1 + 1 + 1 + 1, oc8), (L + 1 + 1 + 1 + 1 + 1 + 1 + 1, oc7), (L + 1 + 1 + 1 + 1 + 1 + 1, oc6), (54, tabObj ps1), (47, tabObj ps2)])
  (hw : IntsAre w3 W3) (hS0 : 0 ≤ W3.sum) (hS1 : W3.sum ≤ 240000)
  (hE : PassesOwn (model Mine.rw.prog w) (callerA.deeper (envOfC drec.name drec.scope L fa cd)) (envOfC drec.name drec.scope L fa cd) E)
  (cont : ∀ (H : Int) (tH : Tok) (h : Heap) (tk : Nat), 2 ≤ H → H ≤ 9 → W3.sum + 1 < 4 ^ H.toNat → Fr h₀ L h (fun y => if y = Str.ofString "half" then some (.int H tH) else if y = Str.ofString "products" then some (.ref pA) else m y) → 
    News h₀ L h [(pA, LCg.lst [.ref p0, .ref p1, .ref p2, .ref p3]), (p0, o0), (p1, o1), (p2, o2), (p3, W.listOf w3.toArray k3), (gA, og), (L + 1 + 1 + 1 + 1 + 1 + 1 + 1 + 1, oc8), (L + 1 + 1 + 1 + 1 + 1 + 1 + 1, oc7), (L + 1 + 1 + 1 + 1 + 1 + 1, oc6), (54, tabObj ps1), (47, tabObj ps2)] → wpAny (model Mine.rw.prog w) (callerA.deeper (envOfC drec.name drec.scope L fa cd)) (execs rest (envOfC drec.name drec.scope L fa cd)) Q E { s with heap := h, toks := tk }) :
  wpAny (model Mine.rw.prog w) (callerA.deeper (envOfC drec.name drec.scope L fa cd)) (execs ((drec.body.drop 16).take 2 ++ rest) (envOfC drec.name drec.scope L fa cd)) Q E s := by
  unfold drec at hE ⊢
  dsimp only at hE
  dsimp only [List.drop, List.take, List.cons_append, List.nil_append]
  k_with_none
  k_with "execs cons" => (k_here; first | k_gentoks | (k_made; walk_at "execs cons") | ((with_reducible refine execs_consF ?_); intro qz))
  k_with "storeName" => (k_here; (fail_if_success (k_extra "unfolded")); k_dflt (first | (refine' storeX_LF ?F ?N ?_ ?a ?b; (case F => k_asm); (case N => k_asm); (case a => rfl); (case b => rfl); k_whole; intro h' tk' mz F' N'; (try k_sweep)) | (refine' storeX_CF ?F ?N ?c ?U ?d ?_ ?a ?b; (case a => rfl); (case b => rfl); (case F => k_asm); (case N => k_asm); (case c => rfl); (case U => k_updF); (case d => k_asm); k_whole; intro h' o' F' N' d'; (try dsimp only at N'); (try k_sweep))))
  k_with "LeaveF" => (k_dflt (refine' leaveF_ ?k1 ?k2 ?_; (case k1 => k_asm); (case k2 => k_asm); k_whole); intro kF kN; (try ground_anew kF); (try have kX := kFor kF (by k_asm)))
  k_with "LeaveF" => (k_made; walk_at "LeaveF")
  k_with "zUR" => (have hcL9 := cLine_is; omega)
  k_with "zNE" => (refine neN ?_; (try dsimp only); first | with_reducible (first | (refine neA0 (by assumption) ?_; focus ((repeat (first | exact And.left | exact id | refine andR ?_)); done)) | (refine neB0 (by assumption) ?_; focus ((repeat (first | exact And.left | exact id | refine andR ?_)); done)) | (refine neC (by assumption) ?_; focus ((repeat (first | exact And.left | exact id | refine andR ?_)); done)) | (refine neCs (by assumption) ?_; focus ((repeat (first | exact And.left | exact id | refine andR ?_)); done)) | (refine neA1 (by assumption) ?_; focus ((repeat (first | exact And.left | exact id | refine andR ?_)); done)) | (refine neB1 (by assumption) ?_; focus ((repeat (first | exact And.left | exact id | refine andR ?_)); done)) | (refine neA2 (by assumption) ?_; focus ((repeat (first | exact And.left | exact id | refine andR ?_)); done)) | (refine neB2 (by assumption) ?_; focus ((repeat (first | exact And.left | exact id | refine andR ?_)); done)) | (refine neA3 (by assumption) ?_; focus ((repeat (first | exact And.left | exact id | refine andR ?_)); done)) | (refine neB3 (by assumption) ?_; focus ((repeat (first | exact And.left | exact id | refine andR ?_)); done))) | omega)
  k_with "zRM" => (with_reducible first | exact room1 (by assumption) (by assumption) (by decide) | exact room2 (by assumption) (by assumption) (by decide) | exact room3 (by assumption) (by assumption) (by decide) | exact room4 (by assumption) (by assumption) (by decide) | exact room5 (by assumption) (by assumption) (by decide) | exact room0 (by assumption))
  k_with "zALL" => first | assumption | with_reducible (first | (refine nwA0 (by assumption) ?_; focus ((refine andR ?_); (repeat (first | exact id | refine andR ?_)); done)) | (refine nwA1 (by assumption) ?_; focus ((refine andR ?_); (repeat (first | exact id | refine andR ?_)); done)) | (refine nwA2 (by assumption) ?_; focus ((refine andR ?_); (repeat (first | exact id | refine andR ?_)); done)) | (refine nwA3 (by assumption) ?_; focus ((refine andR ?_); (repeat (first | exact id | refine andR ?_)); done)))
  k_with "subscriptTail Name Constant ref int" => (with_unfolding_all ((refine' itemK ?zqk1 ?zqk2 ?zqk3 ?zqk4 ?_ ?zqk6); (case zqk1 => exact News.isList (by assumption) (by (focus first | ((repeat (first | exact memH | ((fail_if_success (refine nilX ?_)); refine memT ?_))); done) | ((repeat (first | assumption | ((fail_if_success (refine nilX ?_)); refine memT ?_))); done)))); (case zqk2 => decide); (case zqk3 => decide); (case zqk4 => with_unfolding_all exact rfl); (case zqk6 => with_unfolding_all rfl); k_whole))
  k_with "call builtin:sum cons nil" => ((with_unfolding_all refine' sumK (by with_unfolding_all rfl) (by assumption) (by assumption) (News.isList (by assumption) (by (focus first | ((repeat (first | exact memH | ((fail_if_success (refine nilX ?_)); refine memT ?_))); done) | ((repeat (first | assumption | ((fail_if_success (refine nilX ?_)); refine memT ?_))); done)))) hw ?_); intro h' tk' t' F' N')
  k_with "exec While" => (k_here; (rename Fr _ _ _ _ => lF'); (rename News _ _ _ _ => lN'); (with_unfolding_all refine' whileH (z0 := 2) (by decide) (by decide) lF' lN' ?hn ?_ hE); (case hn => with_unfolding_all exact rfl); clear lF' lN'; intro z tz h8 tk8 hz2 hz9 F8 N8)
  k_with "exec While Compare cons nil" => (k_here; (rename Fr _ _ _ _ => lF'); (rename News _ _ _ _ => lN'); (with_unfolding_all refine' whileH (z0 := 2) (by decide) (by decide) lF' lN' ?hn ?_ hE); (case hn => with_unfolding_all exact rfl); clear lF' lN'; intro z tz h8 tk8 hz2 hz9 F8 N8)
  k_with "binaryOp Pow int int" => (refine pow_int_small (by omega) (by omega) (by decide) ?_)
  k_with "KswPost nil next" => ((rename Fr _ _ _ _ => lF'); (rename News _ _ _ _ => lN'); (with_unfolding_all refine' endHw lF' lN' ?hn ?hr ?hz ?hp ?hf); (case hn => with_unfolding_all exact rfl); (case hr => (intro y hy; simp +zetaDelta only [if_neg hy])); (case hz => exact up2 hz2); (case hp => exact pow9 hz2 hz9 (by assumption) hS1); (case hf => ((try dsimp only); omega)))
  k_steps
  all_goals (
    rename Fr _ _ _ _ => lF'
    rename News _ _ _ _ => lN'
    exact cont _ tz _ _ hz2 hz9 (Int.not_le.mp (by assumption)) (frDup lF') lN')
end ZP8
section ZP9
open PySem PySem.W PySem.Spec PySem.Calls PyProof.Rows PyProof.V PySem.SeqAt
set_option rowWalk.seconds 0
set_option compiler.extract_closed false
set_option maxRecDepth 100000
set_option maxHeartbeats 8000000
set_option pp.deepTerms false
set_option pp.deepTerms.threshold 10
set_option pp.maxSteps 20000
theorem val_at {a v : Value} {its : Array Value} {i : Nat} (h : its[i]? = some v) (e : its[i]? = some a) : v = a := by rw [e] at h; exact (Option.some.inj h).symm
theorem shaped4 (n0 n1 n2 n3 : List Int) : shaped (.list [.list (n0.map PyData.int), .list (n1.map PyData.int), .list (n2.map PyData.int), .list (n3.map PyData.int)]) = true := by
  have d0 := PySem.W.depthAll_ints n0
  have d1 := PySem.W.depthAll_ints n1
  have d2 := PySem.W.depthAll_ints n2
  have d3 := PySem.W.depthAll_ints n3
  have h2 : PyData.depth (.list [.list (n0.map PyData.int), .list (n1.map PyData.int), .list (n2.map PyData.int), .list (n3.map PyData.int)]) ≤ 64 := by
    simp only [PyData.depth, PyData.depthAll]; omega
  show (PyData.canLay0 _ && decide (PyData.depth _ ≤ 64)) = true
  rw [Bool.and_eq_true]
  exact ⟨by simp only [PyData.canLay0, PyData.canLayAll0, canLayAll0_ints, Bool.and_self], decide_eq_true h2⟩
theorem eq_lists4 {prog : Program} {w : World} {A : Around} {E : Value → Shared → Prop} {s : Shared} {Q : Value → Shared → Prop} {a b a0 a1 a2 a3 b0 b1 b2 b3 : Addr} {v0 v1 v2 v3 u0 u1 u2 u3 : List Value} {n0 n1 n2 n3 : List Int}
    (ha : s.heap.IsList a [Value.ref a0, .ref a1, .ref a2, .ref a3].toArray) (h0 : s.heap.IsList a0 v0.toArray) (h1 : s.heap.IsList a1 v1.toArray) (h2 : s.heap.IsList a2 v2.toArray) (h3 : s.heap.IsList a3 v3.toArray) (i0 : IntsAre v0 n0) (i1 : IntsAre v1 n1) (i2 : IntsAre v2 n2) (i3 : IntsAre v3 n3)
    (hb : s.heap.IsList b [Value.ref b0, .ref b1, .ref b2, .ref b3].toArray) (g0 : s.heap.IsList b0 u0.toArray) (g1 : s.heap.IsList b1 u1.toArray) (g2 : s.heap.IsList b2 u2.toArray) (g3 : s.heap.IsList b3 u3.toArray) (j0 : IntsAre u0 n0) (j1 : IntsAre u1 n1) (j2 : IntsAre u2 n2) (j3 : IntsAre u3 n3)
    (hu : A.units + 64 < cLine) (h : Q (.bool true) s) : wpAny (model prog w) A (compareOp .Eq (.ref a) (.ref b)) Q E s := by
  obtain ⟨oa, ea, ca, ka, da⟩ := ha
  obtain ⟨ob, eb, cb, kb, db⟩ := hb
  have ra := Reads.list ea ca da (ReadsAll.cons (reads_of_ints h0 i0) (ReadsAll.cons (reads_of_ints h1 i1) (ReadsAll.cons (reads_of_ints h2 i2) (ReadsAll.cons (reads_of_ints h3 i3) .nil))))
  have rb := Reads.list eb cb db (ReadsAll.cons (reads_of_ints g0 j0) (ReadsAll.cons (reads_of_ints g1 j1) (ReadsAll.cons (reads_of_ints g2 j2) (ReadsAll.cons (reads_of_ints g3 j3) .nil))))
  refine eq_dataH_same ra rb (shaped4 _ _ _ _) (shaped4 _ _ _ _) hu ?_ ?_
  · simp only [noMix, noMixAll, noMix_ints, Bool.and_self]
  · simp only [PySem.Spec.same, PySem.Spec.sameAll, same_ints, decide_true, Bool.and_self]
    exact h
theorem part_struck {w : World} {mean : ExcName → Option Value} {mg mb : Str → Option Value} {h₀ : Heap} {L fa : Addr} {cd : Value} {m : Str → Option Value} {s : Shared} {Q : Flow → Shared → Prop} {E : Value → Shared → Prop}
  {oc6 oc7 oc8 : Obj} {gA pA p0 p1 p2 p3 : Addr} {kg k0 k1 k2 k3 : Nat} {G0 G1 G2 G3 step first H P : Int} {u0 u1 u2 u3 us uf tH : Tok} {w0 w1 w2 w3 : List Value} {W0 W1 W2 W3 : List Int} {ps1 ps2 : Array Value} {fin : ST} {fu : Nat}
  (B : Below callerA h₀ [] h₀) (X : (Mine.hp w.params).In h₀) (T : Top topProg (looseW Mine.vw Mine.lo ++ (recsOf Mine.vw).map (·.name) ++ (litsOf Mine.vw).map (·.1) ++ (clssOf Mine.vw (looseW Mine.vw Mine.lo)).map (·.name)) mean mg mb h₀) (F : Fr h₀ L s.heap (fun y => if y = Str.ofString "half" then some (.int H tH) else if y = Str.ofString "products" then some (.ref pA) else m y))
  (N : News h₀ L s.heap [(pA, LCg.lst [.ref p0, .ref p1, .ref p2, .ref p3]), (p0, W.listOf w0.toArray k0), (p1, W.listOf w1.toArray k1), (p2, W.listOf w2.toArray k2), (p3, W.listOf w3.toArray k3), (gA, l4 G0 G1 G2 G3 u0 u1 u2 u3 kg), (L + 1 + 1 + 1 + 1 + 1 + 1 + 1 + 1, oc8), (L + 1 + 1 + 1 + 1 + 1 + 1 + 1, oc7), (L + 1 + 1 + 1 + 1 + 1 + 1, oc6), (54, tabObj ps1), (47, tabObj ps2)])
  (e6 : oc6.data = .cell (some (.ref gA))) (e7 : oc7.data = .cell (some (.int step us))) (e8 : oc8.data = .cell (some (.int first uf)))
  (i0 : IntsAre w0 W0) (i1 : IntsAre w1 W1) (i2 : IntsAre w2 W2) (i3 : IntsAre w3 W3) (hl0 : W0.length ≤ 200) (hl1 : W1.length ≤ 200) (hl2 : W2.length ≤ 200) (hl3 : W3.length ≤ 200)
  (hg0 : 1 ≤ G0) (hg1 : G0 ≤ G1) (hg2 : G1 ≤ G2) (hg3 : G2 ≤ G3) (hg4 : G3 ≤ 50)
  (hh1 : 2 ≤ H) (hh2 : H ≤ 12) (hP : (2 : Int) ^ H.toNat = P) (hP1 : 4 ≤ P) (hP2 : P ≤ 4096) (hbb : P * P - 1 ≤ 16777215) (hfin : runS P fu (startS step first G0 G1 G2 G3) = some fin)
  (f0 : fin.n0 = W0.drop 1) (f1 : fin.n1 = W1.drop 1) (f2 : fin.n2 = W2.drop 1) (f3 : fin.n3 = W3.drop 1)
  (ret : ∀ (m1 : Str → Option Value) (h : Heap) (tk : Nat), Fr h₀ L h m1 → News h₀ L h [(54, tabObj ps1), (47, tabObj ps2)] → Q (.ret (.bool true)) { s with heap := h, toks := tk }) :
  wpAny (model Mine.rw.prog w) (callerA.deeper (envOfC drec.name drec.scope L fa cd)) (execs (drec.body.drop 18) (envOfC drec.name drec.scope L fa cd)) Q E s := by
  unfold drec
  dsimp only [List.drop]
  k_with_none
  k_with "execs cons" => (k_here; first | k_gentoks | (k_made; walk_at "execs cons") | ((with_reducible refine execs_consF ?_); intro qz))
  k_with "storeName" => (k_here; (fail_if_success (k_extra "unfolded")); k_dflt (first | (refine' storeX_LF ?F ?N ?_ ?a ?b; (case F => k_asm); (case N => k_asm); (case a => rfl); (case b => rfl); k_whole; intro h' tk' mz F' N'; (try k_sweep)) | (refine' storeX_CF ?F ?N ?c ?U ?d ?_ ?a ?b; (case a => rfl); (case b => rfl); (case F => k_asm); (case N => k_asm); (case c => rfl); (case U => k_updF); (case d => k_asm); k_whole; intro h' o' F' N' d'; (try dsimp only at N'); (try k_sweep))))
  k_with "LeaveF" => (k_dflt (refine' leaveF_ ?k1 ?k2 ?_; (case k1 => k_asm); (case k2 => k_asm); k_whole); intro kF kN; (try ground_anew kF); (try have kX := kFor kF (by k_asm)))
  k_with "LeaveF" => (k_made; walk_at "LeaveF")
  k_with "zUR" => (have hcL9 := cLine_is; omega)
  k_with "zNE" => (refine neN ?_; (try dsimp only); first | with_reducible (first | (refine neA0 (by assumption) ?_; focus ((repeat (first | exact And.left | exact id | refine andR ?_)); done)) | (refine neB0 (by assumption) ?_; focus ((repeat (first | exact And.left | exact id | refine andR ?_)); done)) | (refine neC (by assumption) ?_; focus ((repeat (first | exact And.left | exact id | refine andR ?_)); done)) | (refine neCs (by assumption) ?_; focus ((repeat (first | exact And.left | exact id | refine andR ?_)); done)) | (refine neA1 (by assumption) ?_; focus ((repeat (first | exact And.left | exact id | refine andR ?_)); done)) | (refine neB1 (by assumption) ?_; focus ((repeat (first | exact And.left | exact id | refine andR ?_)); done)) | (refine neA2 (by assumption) ?_; focus ((repeat (first | exact And.left | exact id | refine andR ?_)); done)) | (refine neB2 (by assumption) ?_; focus ((repeat (first | exact And.left | exact id | refine andR ?_)); done)) | (refine neA3 (by assumption) ?_; focus ((repeat (first | exact And.left | exact id | refine andR ?_)); done)) | (refine neB3 (by assumption) ?_; focus ((repeat (first | exact And.left | exact id | refine andR ?_)); done))) | omega)
  k_with "zRM" => (with_reducible first | exact room1 (by assumption) (by assumption) (by decide) | exact room2 (by assumption) (by assumption) (by decide) | exact room3 (by assumption) (by assumption) (by decide) | exact room4 (by assumption) (by assumption) (by decide) | exact room5 (by assumption) (by assumption) (by decide) | exact room0 (by assumption))
  k_with "zALL" => first | assumption | with_reducible (first | (refine nwA0 (by assumption) ?_; focus ((refine andR ?_); (repeat (first | exact id | refine andR ?_)); done)) | (refine nwA1 (by assumption) ?_; focus ((refine andR ?_); (repeat (first | exact id | refine andR ?_)); done)) | (refine nwA2 (by assumption) ?_; focus ((refine andR ?_); (repeat (first | exact id | refine andR ?_)); done)) | (refine nwA3 (by assumption) ?_; focus ((refine andR ?_); (repeat (first | exact id | refine andR ?_)); done)))
  k_with "call ref" => (k_here; (with_reducible show wpAny _ _ (call (Value.ref 149) _) _ _ _); ((rename Fr _ _ _ _ => lF'); (with_unfolding_all refine' struck _ _ _ _ _ _ _ _ _ _ _ _ _ _ _ _ _ _ ?k1 ?k2 ?k3 ?k4 ?k5 ?kK gA step first H G0 G1 G2 G3 u0 u1 u2 u3 _ _ _ kg ?a1 P hh1 hh2 hP hP1 hP2 hbb fu fin hfin ?a2 ?a3 ?a4 ?a5 ?a6 ?a7 ?kd ?ku ?_); (case k1 => with_unfolding_all assumption); (case k2 => with_unfolding_all assumption); (case k3 => with_unfolding_all assumption); (case k4 => with_unfolding_all assumption); (case k5 => with_unfolding_all assumption); (case kK => first | exact rfl | assumption); (case a1 => with_unfolding_all (focus first | ((repeat (first | exact memH | ((fail_if_success (refine nilX ?_)); refine memT ?_))); done) | ((repeat (first | assumption | ((fail_if_success (refine nilX ?_)); refine memT ?_))); done))); (case a2 => omega); (case a3 => omega); (case a4 => omega); (case a5 => omega); (case a6 => omega); (case a7 => omega); (case kd => ktr_room); (case ku => ktr_units); intro S s0 s1 s2 s3 z0 z1 z2 z3 c0 c1 c2 c3 h8 tk8 hz0 hz1 hz2 hz3 F8 N8; (rw [f0] at hz0); (rw [f1] at hz1); (rw [f2] at hz2); (rw [f3] at hz3); (replace F8 := frAs lF' (by with_unfolding_all exact rfl) F8); (replace N8 := newsAs lF' (by with_unfolding_all exact rfl) N8); clear lF'; (try dsimp only); (try k_fold); (try k_sweep)))
  k_with "CompEnd" => (first | (with_unfolding_all refine compEnd0 (by assumption) (by assumption) (by first | assumption | exact ⟨⟨by omega, by omega, by omega⟩, by assumption⟩) (by first | exact True.intro | exact Or.inr ⟨_, by (focus first | ((repeat (first | exact memH | ((fail_if_success (refine nilX ?_)); refine memT ?_))); done) | ((repeat (first | assumption | ((fail_if_success (refine nilX ?_)); refine memT ?_))); done)), rfl, _, rfl⟩) ?_) | (with_unfolding_all refine compEnd1 (by assumption) (by assumption) (by first | assumption | (simp only [AllLt, and_true] at *; omega)) (by first | assumption | (simp only [LCg.Off3, and_true] at *; assumption)) (by first | exact True.intro | exact Or.inr ⟨_, by (focus first | ((repeat (first | exact memH | ((fail_if_success (refine nilX ?_)); refine memT ?_))); done) | ((repeat (first | assumption | ((fail_if_success (refine nilX ?_)); refine memT ?_))); done)), rfl, _, rfl⟩) ?_))
  k_with "CompSrc" => ((rename Fr _ _ _ _ => lF'); (rename News _ _ _ _ => lN'); (with_unfolding_all refine LCg.CompSrc.ledger rfl lF' lN' (its := [Value.ref p0, .ref p1, .ref p2, .ref p3].toArray) (k := 4) (by (focus first | ((repeat (first | exact memH | ((fail_if_success (refine nilX ?_)); refine memT ?_))); done) | ((repeat (first | assumption | ((fail_if_success (refine nilX ?_)); refine memT ?_))); done))) (Nat.le_of_ble_eq_true rfl) ?_); clear lF' lN'; intro gH)
  k_with "CompRest" => (first | ((with_unfolding_all refine LCg.CompRest.succ ?_); intro v I oI C oC D m₂ h tk E' hv hC hx lF' lN' off' ne'; (first | (replace hv := val_at (a := Value.ref p0) hv (by with_unfolding_all rfl)) | (replace hv := val_at (a := Value.ref p1) hv (by with_unfolding_all rfl)) | (replace hv := val_at (a := Value.ref p2) hv (by with_unfolding_all rfl)) | (replace hv := val_at (a := Value.ref p3) hv (by with_unfolding_all rfl))); subst hv; (try (simp only [LCg.Off3, and_true] at off'))) | ((with_unfolding_all refine LCg.CompRest.zero ?_)))
  k_with "compareOp Eq ref ref" => ((rename News _ _ _ _ => lN'); (with_unfolding_all refine eq_lists4 (a0 := s0) (a1 := s1) (a2 := s2) (a3 := s3) (News.isList lN' (by (focus first | ((repeat (first | exact memH | ((fail_if_success (refine nilX ?_)); refine memT ?_))); done) | ((repeat (first | assumption | ((fail_if_success (refine nilX ?_)); refine memT ?_))); done)))) (News.isList lN' (by (focus first | ((repeat (first | exact memH | ((fail_if_success (refine nilX ?_)); refine memT ?_))); done) | ((repeat (first | assumption | ((fail_if_success (refine nilX ?_)); refine memT ?_))); done)))) (News.isList lN' (by (focus first | ((repeat (first | exact memH | ((fail_if_success (refine nilX ?_)); refine memT ?_))); done) | ((repeat (first | assumption | ((fail_if_success (refine nilX ?_)); refine memT ?_))); done)))) (News.isList lN' (by (focus first | ((repeat (first | exact memH | ((fail_if_success (refine nilX ?_)); refine memT ?_))); done) | ((repeat (first | assumption | ((fail_if_success (refine nilX ?_)); refine memT ?_))); done)))) (News.isList lN' (by (focus first | ((repeat (first | exact memH | ((fail_if_success (refine nilX ?_)); refine memT ?_))); done) | ((repeat (first | assumption | ((fail_if_success (refine nilX ?_)); refine memT ?_))); done)))) hz0 hz1 hz2 hz3 (News.isList lN' (by (focus first | ((repeat (first | exact memH | ((fail_if_success (refine nilX ?_)); refine memT ?_))); done) | ((repeat (first | assumption | ((fail_if_success (refine nilX ?_)); refine memT ?_))); done)))) (News.isList lN' (by (focus first | ((repeat (first | exact memH | ((fail_if_success (refine nilX ?_)); refine memT ?_))); done) | ((repeat (first | assumption | ((fail_if_success (refine nilX ?_)); refine memT ?_))); done)))) (News.isList lN' (by (focus first | ((repeat (first | exact memH | ((fail_if_success (refine nilX ?_)); refine memT ?_))); done) | ((repeat (first | assumption | ((fail_if_success (refine nilX ?_)); refine memT ?_))); done)))) (News.isList lN' (by (focus first | ((repeat (first | exact memH | ((fail_if_success (refine nilX ?_)); refine memT ?_))); done) | ((repeat (first | assumption | ((fail_if_success (refine nilX ?_)); refine memT ?_))); done)))) (News.isList lN' (by (focus first | ((repeat (first | exact memH | ((fail_if_success (refine nilX ?_)); refine memT ?_))); done) | ((repeat (first | assumption | ((fail_if_success (refine nilX ?_)); refine memT ?_))); done)))) (by assumption) (by assumption) (by assumption) (by assumption) (by units_room) ?_))
  k_steps
  rename Fr _ _ _ _ => lF'
  rename News _ _ _ _ => lN'
  exact ret _ _ _ lF' (fun p hp => lN' p (SubL.mem (by k_subL) p hp))
end ZP9
section ZT1
open PySem PySem.W PySem.Spec PySem.Calls PyProof.Rows
set_option maxRecDepth 100000
/-! the texts as lists of code points -/
noncomputable def crlfL : List Nat → List Nat
  | [] => []
  | 10 :: r => 13 :: 10 :: crlfL r
  | 13 :: 10 :: r => 13 :: 10 :: crlfL r
  | 13 :: r => 13 :: 10 :: crlfL r
  | c :: r => c :: crlfL r
noncomputable def dotL : Bool → List Nat → List Nat
  | _, [] => []
  | b, c :: r => if b = true ∧ c = 46 then 46 :: 46 :: dotL false r else c :: dotL (c == 10) r
theorem strSlice_hi (l : Option Int) {j : Int} (len : Nat) (h : (len : Int) ≤ j) : Builtin.Str.strSliceIndices l (some j) 1 len = Builtin.Str.strSliceIndices l (some (len : Int)) 1 len := by
  have a : ¬ j < 0 := by omega
  have b : ¬ (len : Int) < 0 := by omega
  have e : min j (len : Int) = len := by omega
  simp [Builtin.Str.strSliceIndices, a, e, b]
theorem slice_nat (x : Str) {a b : Nat} (hab : a ≤ b) (ha : a ≤ x.length) : Txt.slice x (some (a : Int)) (some (b : Int)) = ⟨((x.cps.toList.drop a).take (b - a)).toArray⟩ := by
  by_cases hb : b ≤ x.length
  · exact StrLaws.sliceText_nat x hab hb
  · have e : Txt.slice x (some (a : Int)) (some (b : Int)) = Txt.slice x (some (a : Int)) (some ((x.length : Nat) : Int)) := by
      unfold Txt.slice
      rw [strSlice_hi _ x.length (by omega)]
    rw [e]
    rw [show Txt.slice x (some (a : Int)) (some ((x.length : Nat) : Int)) = _ from StrLaws.sliceText_nat x ha (Nat.le_refl _)]
    have h1 : (x.cps.toList.drop a).length = x.length - a := by simp [Str.length]
    rw [List.take_of_length_le (by omega), List.take_of_length_le (by omega)]
/-- the second machine's finds, as a walk over the list -/
theorem getD_drop {t : Array Nat} {s : Nat} (hs : s < t.size) : t.toList.drop s = t.getD s 0 :: t.toList.drop (s + 1) := by
  have h : s < t.toList.length := by simpa using hs
  rw [List.drop_eq_getElem_cons h]
  simp [Array.getD, hs]
theorem ext_toList (t : Array Nat) (a b : Nat) : (t.extract a b).toList = (t.toList.drop a).take (b - a) := by simp
theorem cat_cons (x : Str) (r : List Str) : (cat (x :: r)).cps.toList = x.cps.toList ++ (cat r).cps.toList := by simp [cat]
theorem pend {t : Array Nat} {d s : Nat} (hd : d ≤ s) (hs : s < t.size) : (t.toList.drop d).take (s + 1 - d) = (t.toList.drop d).take (s - d) ++ [t.getD s 0] := by
  rw [show s + 1 - d = (s - d) + 1 by omega, List.take_add_one, List.getElem?_drop, show d + (s - d) = s by omega]
  simp [Array.getD, hs]
theorem pend_end {t : Array Nat} {d : Nat} : (t.toList.drop d).take (t.size - d) = t.toList.drop d := by
  apply List.take_of_length_le
  simp
noncomputable def tailOf (look : Array Nat → Nat → Option (Nat × Nat)) (t : Array Nat) (rp : Str) (f d : Nat) (o : Option (Nat × Nat)) : List Str := match o with
  | some (a, b) => (if d < a then [⟨t.extract d a⟩] else []) ++ rp :: pieces look t rp f b
  | none => if d < t.size then [⟨t.extract d t.size⟩] else []
theorem pieces_tail (look : Array Nat → Nat → Option (Nat × Nat)) (t : Array Nat) (rp : Str) (f d : Nat) : pieces look t rp (f + 1) d = tailOf look t rp f d (look t d) := by
  rw [pieces]; unfold tailOf; rfl
theorem tail_none {look : Array Nat → Nat → Option (Nat × Nat)} {t : Array Nat} {rp : Str} {f d : Nat} (hd : d ≤ t.size) : (cat (tailOf look t rp f d none)).cps.toList = t.toList.drop d := by
  unfold tailOf
  by_cases h : d < t.size
  · rw [if_pos h, cat_cons, ext_toList, pend_end]; simp [cat]
  · rw [if_neg h]
    have : d = t.size := by omega
    subst this
    simp [cat]
theorem tail_some {look : Array Nat → Nat → Option (Nat × Nat)} {t : Array Nat} {rp : Str} {f d a b : Nat} (hd : d ≤ a) : (cat (tailOf look t rp f d (some (a, b)))).cps.toList = (t.toList.drop d).take (a - d) ++ (rp.cps.toList ++ (cat (pieces look t rp f b)).cps.toList) := by
  unfold tailOf
  by_cases h : d < a
  · simp only [if_pos h, List.cons_append, List.nil_append]
    rw [cat_cons, cat_cons, ext_toList]
  · simp only [if_neg h, List.nil_append]
    rw [cat_cons]
    have : a = d := by omega
    subst this
    simp
theorem line_next {t : Array Nat} {s : Nat} : lineStart t (s + 1) = (t.getD s 0 == 10) := by simp [lineStart]
theorem drop_size (t : Array Nat) : t.toList.drop t.size = [] := List.drop_of_length_le (by simp)
theorem dotL_nil (b : Bool) : dotL b [] = [] := by cases b <;> rfl
theorem look1_lt {t : Array Nat} {s : Nat} (h : s < t.size) : look1 t s = find1 t t.size (t.size - s + 1) s := by unfold look1; rw [if_pos h]
theorem look1_ge {t : Array Nat} {s : Nat} (h : ¬ s < t.size) : look1 t s = none := by unfold look1; rw [if_neg h]
theorem find1_end {t : Array Nat} : ∀ g : Nat, find1 t t.size g t.size = none
  | 0 => rfl
  | g + 1 => by
    unfold find1
    rw [if_neg (fun hc => Nat.lt_irrefl _ hc.1), if_neg (Nat.lt_irrefl _)]
theorem dots_tail (t : Array Nat) : ∀ (f g s d : Nat), t.size < s + g → t.size ≤ s + f → s ≤ t.size → d ≤ s →
    (cat (tailOf look1 t (Str.ofString "..") f d (find1 t t.size g s))).cps.toList = (t.toList.drop d).take (s - d) ++ dotL (lineStart t s) (t.toList.drop s) := by
  have atEnd : ∀ f g s d, s = t.size → d ≤ s → (cat (tailOf look1 t (Str.ofString "..") f d (find1 t t.size g s))).cps.toList = (t.toList.drop d).take (s - d) ++ dotL (lineStart t s) (t.toList.drop s) := by
    rintro f g s d rfl h4
    rw [find1_end, tail_none h4, pend_end, drop_size, dotL_nil, List.append_nil]
  intro f
  induction f with
  | zero => intro g s d h1 h2 h3 h4; exact atEnd _ _ _ _ (by omega) h4
  | succ f ihf =>
    intro g
    induction g with
    | zero => intro s d h1 h2 h3 h4; omega
    | succ g ihg =>
      intro s d h1 h2 h3 h4
      by_cases hs : s < t.size
      · rw [show find1 t t.size (g + 1) s = if s < t.size ∧ lineStart t s = true ∧ t.getD s 0 = 46 then some (s, s + 1) else if s < t.size then find1 t t.size g (s + 1) else none from rfl]
        by_cases hm : s < t.size ∧ lineStart t s = true ∧ t.getD s 0 = 46
        · rw [if_pos hm, tail_some h4]
          congr 1
          rw [getD_drop hs, hm.2.1, hm.2.2]
          have e : (Str.ofString "..").cps.toList = [46, 46] := by decide
          rw [e, pieces_tail]
          show 46 :: 46 :: _ = 46 :: 46 :: dotL false _
          congr 2
          by_cases hn : s + 1 < t.size
          · have := ihf (t.size - (s + 1) + 1) (s + 1) (s + 1) (by omega) (by omega) (by omega) (by omega)
            rw [look1_lt hn]
            refine Eq.trans this ?_
            rw [line_next, hm.2.2]
            simp
          · have hz : s + 1 = t.size := by omega
            rw [look1_ge hn]
            refine Eq.trans (tail_none (by omega)) ?_
            rw [hz, drop_size, dotL_nil]
        · rw [if_neg hm, if_pos hs, ihg (s + 1) d (by omega) (by omega) (by omega) (by omega), pend h4 hs, List.append_assoc]
          congr 1
          rw [getD_drop hs]
          rw [dotL, if_neg (fun hc => hm ⟨hs, hc⟩), line_next]
          rfl
      · exact atEnd _ _ _ _ (by omega) h4
theorem dotd_list (x : Str) : (dotd x).cps.toList = dotL true x.cps.toList := by
  unfold dotd
  rw [pieces_tail]
  by_cases h : 0 < x.cps.size
  · rw [look1_lt h]
    refine Eq.trans (dots_tail x.cps x.cps.size (x.cps.size - 0 + 1) 0 0 (by omega) (by omega) (by omega) (by omega)) ?_
    simp [lineStart]
  · rw [look1_ge h]
    refine Eq.trans (tail_none (Nat.zero_le _)) ?_
    have : x.cps.toList = [] := by
      apply List.eq_nil_of_length_eq_zero
      rw [Array.length_toList]; omega
    simp [this, dotL_nil]
/-! the line ends -/
theorem look2_lt {t : Array Nat} {s : Nat} (h : s < t.size) : look2 t s = find2 t t.size (t.size + 1 - s) s := by unfold look2; rw [if_pos h]
theorem look2_ge {t : Array Nat} {s : Nat} (h : ¬ s < t.size) : look2 t s = none := by unfold look2; rw [if_neg h]
theorem find2_end {t : Array Nat} : ∀ g : Nat, find2 t t.size g t.size = none
  | 0 => rfl
  | g + 1 => by
    unfold find2
    rw [if_neg (Nat.lt_irrefl _)]
theorem crlfL_nil : crlfL [] = [] := by unfold crlfL; rfl
theorem crlfL_10 (r : List Nat) : crlfL (10 :: r) = 13 :: 10 :: crlfL r := by rw [crlfL]
theorem crlfL_1310 (r : List Nat) : crlfL (13 :: 10 :: r) = 13 :: 10 :: crlfL r := by rw [crlfL]
theorem crlfL_13 (c : Nat) (r : List Nat) (h : c ≠ 10) : crlfL (13 :: c :: r) = 13 :: 10 :: crlfL (c :: r) := by
  rw [crlfL]
  intro r' e; injection e with e _; exact h e
theorem crlfL_13e : crlfL [13] = [13, 10] := by rw [crlfL]; · rw [crlfL_nil]
                                                · intro r e; cases e
theorem crlfL_c (c : Nat) (r : List Nat) (h : c ≠ 10) (h' : c ≠ 13) : crlfL (c :: r) = c :: crlfL r := by
  rw [crlfL]
  · exact h
  · rintro r' rfl e; exact h' rfl
  · exact h'
theorem ends_tail (t : Array Nat) : ∀ (f g s d : Nat), t.size < s + g → t.size ≤ s + f → s ≤ t.size → d ≤ s →
    (cat (tailOf look2 t (Str.ofString "\r\n") f d (find2 t t.size g s))).cps.toList = (t.toList.drop d).take (s - d) ++ crlfL (t.toList.drop s) := by
  have atEnd : ∀ f g s d, s = t.size → d ≤ s → (cat (tailOf look2 t (Str.ofString "\r\n") f d (find2 t t.size g s))).cps.toList = (t.toList.drop d).take (s - d) ++ crlfL (t.toList.drop s) := by
    rintro f g s d rfl h4
    rw [find2_end, tail_none h4, pend_end, drop_size, crlfL_nil, List.append_nil]
  have e : (Str.ofString "\r\n").cps.toList = [13, 10] := by decide
  intro f
  induction f with
  | zero => intro g s d h1 h2 h3 h4; exact atEnd _ _ _ _ (by omega) h4
  | succ f ihf =>
    have after : ∀ b, b ≤ t.size → t.size ≤ b + f → (cat (pieces look2 t (Str.ofString "\r\n") (f + 1) b)).cps.toList = crlfL (t.toList.drop b) := by
      intro b hb hf
      rw [pieces_tail]
      by_cases hn : b < t.size
      · rw [look2_lt hn]
        refine Eq.trans (ihf (t.size + 1 - b) b b (by omega) hf hb (Nat.le_refl _)) ?_
        simp
      · rw [look2_ge hn]
        refine Eq.trans (tail_none hb) ?_
        have hz : b = t.size := by omega
        rw [hz, drop_size, crlfL_nil]
    intro g
    induction g with
    | zero => intro s d h1 h2 h3 h4; omega
    | succ g ihg =>
      intro s d h1 h2 h3 h4
      by_cases hs : s < t.size
      · rw [show find2 t t.size (g + 1) s = if s < t.size then (if t.getD s 0 = 10 then some (s, s + 1) else if t.getD s 0 = 13 then (if s + 1 < t.size ∧ t.getD (s + 1) 0 = 10 then some (s, s + 2) else some (s, s + 1)) else find2 t t.size g (s + 1)) else none from rfl, if_pos hs]
        by_cases h10 : t.getD s 0 = 10
        · rw [if_pos h10, tail_some h4, e, after _ (by omega) (by omega), getD_drop hs, h10, crlfL_10]
          rfl
        · rw [if_neg h10]
          by_cases h13 : t.getD s 0 = 13
          · rw [if_pos h13]
            by_cases hn : s + 1 < t.size ∧ t.getD (s + 1) 0 = 10
            · rw [if_pos hn, tail_some h4, e, after _ (by omega) (by omega), getD_drop hs, getD_drop hn.1, h13, hn.2, crlfL_1310]
              rfl
            · rw [if_neg hn, tail_some h4, e, after _ (by omega) (by omega), getD_drop hs, h13]
              congr 1
              by_cases hl : s + 1 < t.size
              · rw [getD_drop hl, crlfL_13 _ _ (fun q => hn ⟨hl, q⟩)]
                rfl
              · have hz : s + 1 = t.size := by omega
                rw [hz, drop_size, crlfL_13e, crlfL_nil]
                rfl
          · rw [if_neg h13, ihg (s + 1) d (by omega) (by omega) (by omega) (by omega), pend h4 hs, List.append_assoc]
            congr 1
            rw [getD_drop hs, crlfL_c _ _ h10 h13]
            rfl
      · exact atEnd _ _ _ _ (by omega) h4
theorem crlfd_list (x : Str) : (crlfd x).cps.toList = crlfL x.cps.toList := by
  unfold crlfd
  rw [pieces_tail]
  by_cases h : 0 < x.cps.size
  · rw [look2_lt h]
    refine Eq.trans (ends_tail x.cps x.cps.size (x.cps.size + 1 - 0) 0 0 (by omega) (by omega) (by omega) (by omega)) ?_
    simp
  · rw [look2_ge h]
    refine Eq.trans (tail_none (Nat.zero_le _)) ?_
    have : x.cps.toList = [] := by
      apply List.eq_nil_of_length_eq_zero
      rw [Array.length_toList]; omega
    simp [this, crlfL_nil]
end ZT1
section ZT2
open PySem PySem.W PySem.Spec PySem.Calls PyProof.Rows
set_option maxRecDepth 100000
noncomputable def lineB (n : Nat) (b : List Nat) : List Nat := List.replicate n 46 ++ (b ++ [13, 10])
noncomputable def linesL (n : Nat) (bs : List (List Nat)) : List Nat := (bs.map (lineB n)).flatten
noncomputable def Clean (b : List Nat) : Prop := ∀ c ∈ b, c ≠ 10 ∧ c ≠ 13 ∧ c ≠ 46
noncomputable def body (R : List Str) : List Nat := (R.map fun s => s.cps.toList).flatten
theorem crlfL_app : ∀ (p r : List Nat), (∀ c ∈ p, c ≠ 10 ∧ c ≠ 13) → crlfL (p ++ r) = p ++ crlfL r
  | [], r, _ => rfl
  | c :: p, r, h => by
    have hc := h c List.mem_cons_self
    rw [List.cons_append, crlfL_c _ _ hc.1 hc.2, crlfL_app p r (fun d hd => h d (List.mem_cons_of_mem _ hd))]
    rfl
theorem dotL_app : ∀ (p r : List Nat), (∀ c ∈ p, c ≠ 10) → dotL false (p ++ r) = p ++ dotL false r
  | [], r, _ => rfl
  | c :: p, r, h => by
    have hc := h c List.mem_cons_self
    rw [List.cons_append, dotL, if_neg (by simp)]
    rw [show (c == 10) = false from by simpa using hc, dotL_app p r (fun d hd => h d (List.mem_cons_of_mem _ hd))]
    rfl
theorem dots_no (n : Nat) (b : List Nat) (hb : Clean b) : ∀ c ∈ List.replicate n 46 ++ b, c ≠ 10 ∧ c ≠ 13 := by
  intro c hc
  rcases List.mem_append.mp hc with hc | hc
  · rw [(List.mem_replicate.mp hc).2]; decide
  · exact ⟨(hb c hc).1, (hb c hc).2.1⟩
theorem crlf_line (n : Nat) (b r : List Nat) (hb : Clean b) : crlfL (lineB n b ++ r) = lineB n b ++ crlfL r := by
  unfold lineB
  rw [← List.append_assoc, List.append_assoc, crlfL_app _ _ (dots_no n b hb)]
  rw [show [13, 10] ++ r = 13 :: 10 :: r from rfl, crlfL_1310]
  simp
theorem crlf_lines (n : Nat) : ∀ bs : List (List Nat), (∀ b ∈ bs, Clean b) → crlfL (linesL n bs) = linesL n bs
  | [], _ => crlfL_nil
  | b :: bs, h => by
    show crlfL (lineB n b ++ linesL n bs) = lineB n b ++ linesL n bs
    rw [crlf_line n b _ (h b List.mem_cons_self), crlf_lines n bs fun c hc => h c (List.mem_cons_of_mem _ hc)]
theorem dot_line (n : Nat) (b r : List Nat) (hb : Clean b) : dotL true (lineB (n + 1) b ++ r) = lineB (n + 2) b ++ dotL true r := by
  unfold lineB
  rw [List.replicate_succ, List.replicate_succ, List.replicate_succ]
  show dotL true (46 :: ((List.replicate n 46 ++ (b ++ [13, 10])) ++ r)) = _
  rw [dotL, if_pos ⟨rfl, rfl⟩]
  rw [show (List.replicate n 46 ++ (b ++ [13, 10])) ++ r = (List.replicate n 46 ++ b) ++ (13 :: 10 :: r) from by simp]
  rw [dotL_app _ _ (fun c hc => (dots_no n b hb c hc).1)]
  rw [show dotL false (13 :: 10 :: r) = 13 :: 10 :: dotL true r from by rw [dotL, if_neg (by simp), dotL, if_neg (by simp)]; rfl]
  simp
theorem dot_lines (n : Nat) : ∀ bs : List (List Nat), (∀ b ∈ bs, Clean b) → dotL true (linesL (n + 1) bs) = linesL (n + 2) bs
  | [], _ => dotL_nil _
  | b :: bs, h => by
    show dotL true (lineB (n + 1) b ++ linesL (n + 1) bs) = lineB (n + 2) b ++ linesL (n + 2) bs
    rw [dot_line n b _ (h b List.mem_cons_self), dot_lines n bs fun c hc => h c (List.mem_cons_of_mem _ hc)]
theorem crlf_first (b0 b1 b2 b3 : List Nat) (h0 : Clean b0) (h1 : Clean b1) (h2 : Clean b2) (h3 : Clean b3) :
    crlfL ((46 :: b0) ++ (10 :: ((46 :: b1) ++ (13 :: ((46 :: b2) ++ (13 :: 10 :: ((46 :: b3) ++ [13]))))))) = linesL 1 [b0, b1, b2, b3] := by
  have cl : ∀ {b : List Nat}, Clean b → ∀ c ∈ 46 :: b, c ≠ 10 ∧ c ≠ 13 := fun hb c hc => dots_no 1 _ hb c hc
  rw [crlfL_app _ _ (cl h0), crlfL_10, crlfL_app _ _ (cl h1)]
  rw [show (46 :: b2) ++ (13 :: 10 :: ((46 :: b3) ++ [13])) = 46 :: (b2 ++ (13 :: 10 :: ((46 :: b3) ++ [13]))) from rfl]
  rw [crlfL_13 _ _ (by decide)]
  rw [show 46 :: (b2 ++ (13 :: 10 :: ((46 :: b3) ++ [13]))) = (46 :: b2) ++ (13 :: 10 :: ((46 :: b3) ++ [13])) from rfl]
  rw [crlfL_app _ _ (cl h2), crlfL_1310, crlfL_app _ _ (cl h3), crlfL_13e]
  simp [linesL, lineB]
theorem joinL (l : List Str) : (Txt.join (Str.ofString "") l).cps.toList = (l.map fun s => s.cps.toList).flatten := by
  have e : ∀ l, Txt.join (Str.ofString "") l = Str.join (Str.ofString "") l := fun l => StrLaws.glued_eq_join _ _
  rw [e]
  induction l with
  | nil => rfl
  | cons x r ih =>
    cases r with
    | nil => simp [Str.join]
    | cons y r =>
      show (x ++ Str.ofString "" ++ Str.join (Str.ofString "") (y :: r)).cps.toList = _
      rw [Str.cps_append, Str.cps_append, Array.toList_append, Array.toList_append, ih]
      simp [show (Str.ofString "").cps.toList = [] from rfl]
theorem textL (R0 R1 R2 R3 : List Str) : (textOf R0 R1 R2 R3).cps.toList = (46 :: body R0) ++ (10 :: ((46 :: body R1) ++ (13 :: ((46 :: body R2) ++ (13 :: 10 :: ((46 :: body R3) ++ [13])))))) := by
  unfold textOf
  rw [joinL]
  have d : (Str.ofString ".").cps.toList = [46] := by decide
  have l0 : (lineS R0 R1 R2 R3 0).cps.toList = 46 :: body R0 ++ [10] := by
    show (Str.ofString "." ++ Txt.join (Str.ofString "") R0 ++ Str.ofString "\n").cps.toList = _
    rw [Str.cps_append, Str.cps_append, Array.toList_append, Array.toList_append, joinL, d]
    rfl
  have l1 : (lineS R0 R1 R2 R3 1).cps.toList = 46 :: body R1 ++ [13] := by
    show (Str.ofString "." ++ Txt.join (Str.ofString "") R1 ++ Str.ofString "\r").cps.toList = _
    rw [Str.cps_append, Str.cps_append, Array.toList_append, Array.toList_append, joinL, d]
    rfl
  have l2 : (lineS R0 R1 R2 R3 2).cps.toList = 46 :: body R2 ++ [13, 10] := by
    show (Str.ofString "." ++ Txt.join (Str.ofString "") R2 ++ Str.ofString "\r\n").cps.toList = _
    rw [Str.cps_append, Str.cps_append, Array.toList_append, Array.toList_append, joinL, d]
    rfl
  have l3 : (lineS R0 R1 R2 R3 3).cps.toList = 46 :: body R3 ++ [13] := by
    show (Str.ofString "." ++ Txt.join (Str.ofString "") R3 ++ Str.ofString "\r").cps.toList = _
    rw [Str.cps_append, Str.cps_append, Array.toList_append, Array.toList_append, joinL, d]
    rfl
  show (lineS R0 R1 R2 R3 0).cps.toList ++ ((lineS R0 R1 R2 R3 1).cps.toList ++ ((lineS R0 R1 R2 R3 2).cps.toList ++ ((lineS R0 R1 R2 R3 3).cps.toList ++ []))) = _
  rw [l0, l1, l2, l3]
  simp
end ZT2
section ZT3
open PySem PySem.W PySem.Spec PySem.Calls PyProof.Rows
set_option maxRecDepth 100000
noncomputable def kL (l : List Nat) : Option Int := signAt ⟨l.toArray⟩
noncomputable def lexL : Nat → List Nat → List Int
  | 0, _ => []
  | f + 1, l => if l = [] then [] else
      if (kL (l.take 3)).isSome then (kL (l.take 3)).getD 0 :: lexL f (l.drop 3)
      else if (kL (l.take 2)).isSome then (kL (l.take 2)).getD 0 :: lexL f (l.drop 2)
      else if (kL (l.take 1)).isSome then (kL (l.take 1)).getD 0 :: lexL f (l.drop 1)
      else 0 :: lexL f (l.drop 2)
theorem slice_k (x : Str) {k z : Nat} (hk : k ≤ x.length) : signAt (Txt.slice x (some (k : Int)) (some ((k : Int) + (z : Int)))) = kL ((x.cps.toList.drop k).take z) := by
  rw [show (k : Int) + (z : Int) = ((k + z : Nat) : Int) by omega, slice_nat x (by omega) hk]
  rw [show k + z - k = z by omega]
  rfl
theorem lx_lex (x : Str) : ∀ (f k : Nat), lx x f (k : Int) = lexL f (x.cps.toList.drop k)
  | 0, _ => rfl
  | f + 1, k => by
    have hlen : x.cps.toList.length = x.length := by simp [Str.length]
    unfold lx lexL
    by_cases hk : k < x.length
    · have hne : ¬ x.cps.toList.drop k = [] := fun e => by
        have := congrArg List.length e
        rw [List.length_drop, hlen] at this
        simp at this; omega
      rw [if_pos (by omega), if_neg hne]
      have s3 := slice_k x (k := k) (z := 3) (by omega)
      have s2 := slice_k x (k := k) (z := 2) (by omega)
      have s1 := slice_k x (k := k) (z := 1) (by omega)
      have e3 : keyAt x (k : Int) ((2 + 1 : Nat) : Int) = (kL ((x.cps.toList.drop k).take 3)).isSome := by unfold keyAt; rw [s3]
      have e2 : keyAt x (k : Int) ((1 + 1 : Nat) : Int) = (kL ((x.cps.toList.drop k).take 2)).isSome := by unfold keyAt; rw [s2]
      have e1 : keyAt x (k : Int) ((0 + 1 : Nat) : Int) = (kL ((x.cps.toList.drop k).take 1)).isSome := by unfold keyAt; rw [s1]
      have hf : fsz x (k : Int) 3 = if (kL ((x.cps.toList.drop k).take 3)).isSome = true then 3 else if (kL ((x.cps.toList.drop k).take 2)).isSome = true then 2 else if (kL ((x.cps.toList.drop k).take 1)).isSome = true then 1 else 0 := by
        unfold fsz; rw [e3]; unfold fsz; rw [e2]; unfold fsz; rw [e1]; unfold fsz; rfl
      rw [hf]
      by_cases h3 : (kL ((x.cps.toList.drop k).take 3)).isSome = true
      · rw [if_pos h3, if_pos h3, if_neg (by decide), s3, show (k : Int) + ((3 : Nat) : Int) = ((k + 3 : Nat) : Int) by omega, lx_lex x f (k + 3), List.drop_drop]
      · rw [if_neg h3, if_neg h3]
        by_cases h2 : (kL ((x.cps.toList.drop k).take 2)).isSome = true
        · rw [if_pos h2, if_pos h2, if_neg (by decide), s2, show (k : Int) + ((2 : Nat) : Int) = ((k + 2 : Nat) : Int) by omega, lx_lex x f (k + 2), List.drop_drop]
        · rw [if_neg h2, if_neg h2]
          by_cases h1 : (kL ((x.cps.toList.drop k).take 1)).isSome = true
          · rw [if_pos h1, if_pos h1, if_neg (by decide), s1, show (k : Int) + ((1 : Nat) : Int) = ((k + 1 : Nat) : Int) by omega, lx_lex x f (k + 1), List.drop_drop]
          · rw [if_neg h1, if_neg h1, if_pos rfl, show (k : Int) + 2 = ((k + 2 : Nat) : Int) by omega, lx_lex x f (k + 2), List.drop_drop]
    · rw [if_neg (by omega), if_pos (List.drop_of_length_le (by omega))]
noncomputable def keysL : List (List Nat) := signs48.map fun p => p.1.cps.toList
theorem assoc_mem : ∀ {l : List (Str × Int)} {s : Str}, (assocS s l).isSome = true → s ∈ l.map (·.1)
  | [], _, h => by simp [assocS] at h
  | (k, n) :: r, s, h => by
    unfold assocS at h
    by_cases hk : k = s
    · rw [hk]; simp
    · rw [if_neg hk] at h
      exact List.mem_cons_of_mem _ (assoc_mem h)
theorem kL_mem {l : List Nat} (h : (kL l).isSome = true) : l ∈ keysL := by
  have := assoc_mem (l := signs48) h
  obtain ⟨p, hp, e⟩ := List.mem_map.mp this
  refine List.mem_map.mpr ⟨p, hp, ?_⟩
  rw [e]
noncomputable def good (l : List Nat) : Bool := (match l with
  | [] => false
  | 46 :: r => r == [] || r == [46, 46]
  | c :: r => c != 13 && (match r with
    | [d, _] => d != 61
    | _ => true))
theorem keys_good : ∀ l ∈ keysL, good l = true := by
  have h : keysL.all good = true := by decide +kernel
  exact fun l hl => List.all_eq_true.mp h l hl
theorem kL_good {l : List Nat} (h : good l = false) : (kL l).isSome = false := by
  cases e : (kL l).isSome with
  | false => rfl
  | true => rw [keys_good l (kL_mem e)] at h; cases h
theorem lex3 {f : Nat} {l : List Nat} {n : Int} (hne : l ≠ []) (h3 : kL (l.take 3) = some n) : lexL (f + 1) l = n :: lexL f (l.drop 3) := by
  rw [lexL, if_neg hne, h3]; rfl
theorem lex2 {f : Nat} {l : List Nat} {n : Int} (hne : l ≠ []) (h3 : good (l.take 3) = false) (h2 : kL (l.take 2) = some n) : lexL (f + 1) l = n :: lexL f (l.drop 2) := by
  rw [lexL, if_neg hne, kL_good h3, h2]; rfl
theorem lex1 {f : Nat} {l : List Nat} {n : Int} (hne : l ≠ []) (h3 : good (l.take 3) = false) (h2 : good (l.take 2) = false) (h1 : kL (l.take 1) = some n) : lexL (f + 1) l = n :: lexL f (l.drop 1) := by
  rw [lexL, if_neg hne, kL_good h3, kL_good h2, h1]; rfl
theorem lex0 {f : Nat} {l : List Nat} (hne : l ≠ []) (h3 : good (l.take 3) = false) (h2 : good (l.take 2) = false) (h1 : good (l.take 1) = false) : lexL (f + 1) l = 0 :: lexL f (l.drop 2) := by
  rw [lexL, if_neg hne, kL_good h3, kL_good h2, kL_good h1]; rfl
theorem lexL_nil : ∀ f, lexL f [] = []
  | 0 => rfl
  | _ + 1 => rfl
theorem k1 : kL [46] = some 23 := by decide +kernel
theorem k3 : kL [46, 46, 46] = some 52 := by decide +kernel
theorem lex_dot3 (f : Nat) (r : List Nat) : lexL (f + 1) (46 :: 46 :: 46 :: r) = 52 :: lexL f r := lex3 (by simp) k3
theorem lex_dot1 (f e : Nat) (r : List Nat) (he : e ≠ 46) : lexL (f + 1) (46 :: e :: r) = 23 :: lexL f (e :: r) := by
  have hb : (e == 46) = false := by simpa using he
  refine lex1 (by simp) ?_ ?_ k1
  · cases r with
    | nil => simp [good, hb, he]
    | cons d r => simp [good, hb, he]
  · simp [good, hb, he]
theorem lex_dot2 (f e : Nat) (r : List Nat) (he : e ≠ 46) : lexL (f + 1) (46 :: 46 :: e :: r) = 23 :: lexL f (46 :: e :: r) := by
  have hb : (e == 46) = false := by simpa using he
  refine lex1 (by simp) ?_ ?_ k1
  · simp [good, hb, he]
  · simp [good]
theorem lex_front {n : Nat} (hn : 1 ≤ n) (hn4 : n ≤ 4) (f e : Nat) (r : List Nat) (he : e ≠ 46) : lexL (f + (frontL (n : Int)).length) (List.replicate (n + 1) 46 ++ e :: r) = frontL (n : Int) ++ lexL f (e :: r) := by
  have : n = 1 ∨ n = 2 ∨ n = 3 ∨ n = 4 := by omega
  rcases this with rfl | rfl | rfl | rfl
  · show lexL (f + 2) (46 :: 46 :: e :: r) = 23 :: 23 :: lexL f (e :: r)
    rw [lex_dot2 (f + 1) e r he, lex_dot1 f e r he]
  · show lexL (f + 1) (46 :: 46 :: 46 :: e :: r) = 52 :: lexL f (e :: r)
    rw [lex_dot3]
  · show lexL (f + 2) (46 :: 46 :: 46 :: 46 :: e :: r) = 52 :: 23 :: lexL f (e :: r)
    rw [lex_dot3, lex_dot1 f e r he]
  · show lexL (f + 3) (46 :: 46 :: 46 :: 46 :: 46 :: e :: r) = 52 :: 23 :: 23 :: lexL f (e :: r)
    rw [lex_dot3, lex_dot2 (f + 1) e r he, lex_dot1 f e r he]
noncomputable def okSign (s : Str) : Bool := (kL s.cps.toList).isSome && s.cps.toList.all (fun c => c != 10 && c != 13 && c != 46) && (match s.cps.toList with
  | [_, b] => b == 61
  | [_, _, _] => true
  | _ => false) && decide (1 ≤ s.length) && decide (s.length ≤ 3)
theorem signs_ok : ∀ s ∈ signs18, okSign s = true := by
  have h : signs18.all okSign = true := by decide +kernel
  exact fun s hs => List.all_eq_true.mp h s hs
theorem kL_sg {s : Str} (h : (kL s.cps.toList).isSome = true) : kL s.cps.toList = some (sg s) := by
  have e : kL s.cps.toList = signAt s := by unfold kL; congr
  rw [e] at h ⊢
  obtain ⟨n, hn⟩ := Option.isSome_iff_exists.mp h
  unfold sg; rw [hn]; rfl
theorem lex_sign {f d : Nat} {s : Str} {r : List Nat} (hs : okSign s = true) : lexL (f + 1) (s.cps.toList ++ d :: r) = sg s :: lexL f (d :: r) := by
  unfold okSign at hs
  simp only [Bool.and_eq_true] at hs
  obtain ⟨⟨⟨⟨hk, ha⟩, hm⟩, _⟩, _⟩ := hs
  have hk' := kL_sg hk
  revert hm ha hk'
  generalize s.cps.toList = l
  intro hm ha hk'
  match l, ha, hm, hk' with
  | [a, b], ha, hm, hk' =>
    have hb : b = 61 := by simpa using hm
    subst hb
    have ha' : (a ≠ 10 ∧ a ≠ 13) ∧ a ≠ 46 := by simpa using (List.all_eq_true.mp ha) a (by simp)
    refine lex2 (by simp) ?_ hk'
    show good [a, 61, d] = false
    unfold good
    split
    · rename_i e; cases e
    · rename_i e; injection e with e _; exact absurd e ha'.2
    · rename_i e; injection e with e1 e2; subst e1; subst e2; simp
  | [a, b, c], _, _, hk' => exact lex3 (by simp) hk'
theorem lex_body : ∀ (R : List Str) (f : Nat) (r : List Nat), (∀ s ∈ R, okSign s = true) → lexL (f + R.length) (body R ++ 13 :: r) = R.map sg ++ lexL f (13 :: r)
  | [], f, r, _ => rfl
  | s :: R, f, r, h => by
    have hs := h s List.mem_cons_self
    have ih := lex_body R f r fun t ht => h t (List.mem_cons_of_mem _ ht)
    have hne : ∃ d r', body R ++ 13 :: r = d :: r' := by
      cases hb : body R ++ 13 :: r with
      | nil => simp at hb
      | cons d r' => exact ⟨d, r', rfl⟩
    obtain ⟨d, r', e⟩ := hne
    show lexL (f + (R.length + 1)) ((s.cps.toList ++ body R) ++ 13 :: r) = sg s :: (R.map sg ++ lexL f (13 :: r))
    rw [List.append_assoc, e, show f + (R.length + 1) = (f + R.length) + 1 by omega, lex_sign hs, ← e, ih]
theorem lex_end (f : Nat) (r : List Nat) : lexL (f + 1) (13 :: 10 :: r) = 0 :: lexL f r := by
  refine lex0 (by simp) ?_ (by simp [good]) (by simp [good])
  cases r with
  | nil => simp [good]
  | cons d r => simp [good]
theorem body_head (R : List Str) (h : ∀ s ∈ R, okSign s = true) (r : List Nat) : ∃ e r', body R ++ 13 :: r = e :: r' ∧ e ≠ 46 := by
  have hc : ∀ c ∈ body R, c ≠ 46 := by
    intro c hc
    obtain ⟨l, hl, hcl⟩ := List.mem_flatten.mp hc
    obtain ⟨s, hs, rfl⟩ := List.mem_map.mp hl
    have := h s hs
    unfold okSign at this
    simp only [Bool.and_eq_true] at this
    have := (List.all_eq_true.mp this.1.1.1.2) c hcl
    simp at this
    exact this.2
  cases hb : body R with
  | nil => exact ⟨13, r, rfl, by decide⟩
  | cons c t => exact ⟨c, t ++ 13 :: r, rfl, hc c (by rw [hb]; simp)⟩
theorem lex_line {n : Nat} (hn : 1 ≤ n) (hn4 : n ≤ 4) (R : List Str) (h : ∀ s ∈ R, okSign s = true) (f : Nat) (r : List Nat) :
    lexL (f + (1 + R.length + (frontL (n : Int)).length)) (lineB (n + 1) (body R) ++ r) = (frontL (n : Int) ++ R.map sg ++ [0]) ++ lexL f r := by
  obtain ⟨e, r', he, hne⟩ := body_head R h (10 :: r)
  have e1 : lineB (n + 1) (body R) ++ r = List.replicate (n + 1) 46 ++ (body R ++ 13 :: 10 :: r) := by simp [lineB]
  rw [e1, he, show f + (1 + R.length + (frontL (n : Int)).length) = (f + 1 + R.length) + (frontL (n : Int)).length by omega, lex_front hn hn4 _ _ _ hne, ← he, lex_body R (f + 1) (10 :: r) h, lex_end]
  simp
theorem lex_lines {n : Nat} (hn : 1 ≤ n) (hn4 : n ≤ 4) (R0 R1 R2 R3 : List Str) (h : ∀ R ∈ [R0, R1, R2, R3], ∀ s ∈ R, okSign s = true) (f : Nat) :
    lexL (f + (R0.length + R1.length + R2.length + R3.length + 4 + 4 * (frontL (n : Int)).length)) (linesL (n + 1) [body R0, body R1, body R2, body R3]) = symsL (frontL (n : Int)) [R0, R1, R2, R3] := by
  have e : linesL (n + 1) [body R0, body R1, body R2, body R3] = lineB (n + 1) (body R0) ++ (lineB (n + 1) (body R1) ++ (lineB (n + 1) (body R2) ++ (lineB (n + 1) (body R3) ++ []))) := by simp [linesL]
  rw [e, show f + (R0.length + R1.length + R2.length + R3.length + 4 + 4 * (frontL (n : Int)).length) = f + (1 + R3.length + (frontL (n : Int)).length) + (1 + R2.length + (frontL (n : Int)).length) + (1 + R1.length + (frontL (n : Int)).length) + (1 + R0.length + (frontL (n : Int)).length) by omega]
  rw [lex_line hn hn4 R0 (h R0 (by simp)), lex_line hn hn4 R1 (h R1 (by simp)), lex_line hn hn4 R2 (h R2 (by simp)), lex_line hn hn4 R3 (h R3 (by simp)), lexL_nil]
  simp [symsL]
end ZT3
section ZT4
open PySem PySem.W PySem.Spec PySem.Calls PyProof.Rows
set_option maxRecDepth 100000
noncomputable def GoodR (R : List Str) : Prop := R.length ≤ 10 ∧ ∀ s ∈ R, s ∈ signs18
theorem GoodR.ok {R : List Str} (h : GoodR R) : ∀ s ∈ R, okSign s = true := fun s hs => signs_ok s (h.2 s hs)
theorem ok_len {s : Str} (h : okSign s = true) : 1 ≤ s.length ∧ s.length ≤ 3 := by
  unfold okSign at h
  simp only [Bool.and_eq_true, decide_eq_true_eq] at h
  exact ⟨h.1.2, h.2⟩
theorem ok_clean {s : Str} (h : okSign s = true) : Clean s.cps.toList := by
  unfold okSign at h
  simp only [Bool.and_eq_true] at h
  intro c hc
  have := (List.all_eq_true.mp h.1.1.1.2) c hc
  simp at this
  exact ⟨this.1.1, this.1.2, this.2⟩
theorem body_clean {R : List Str} (h : ∀ s ∈ R, okSign s = true) : Clean (body R) := by
  intro c hc
  obtain ⟨l, hl, hcl⟩ := List.mem_flatten.mp hc
  obtain ⟨s, hs, rfl⟩ := List.mem_map.mp hl
  exact ok_clean (h s hs) c hcl
theorem body_len : ∀ {R : List Str}, (∀ s ∈ R, okSign s = true) → R.length ≤ (body R).length ∧ (body R).length ≤ 3 * R.length ∧ (R.map (·.length)).sum = (body R).length
  | [], _ => ⟨Nat.le_refl _, Nat.le_refl _, rfl⟩
  | s :: R, h => by
    obtain ⟨h1, h2, h3⟩ := body_len (R := R) fun t ht => h t (List.mem_cons_of_mem _ ht)
    have hs := ok_len (h s List.mem_cons_self)
    have e : (body (s :: R)).length = s.length + (body R).length := by
      show (s.cps.toList ++ body R).length = _
      rw [List.length_append]; simp [Str.length]
    rw [e]
    simp only [List.length_cons, List.map_cons, List.sum_cons]
    omega
theorem sumR {R : List Str} (h : GoodR R) : (R.map (·.length)).sum + R.length ≤ 100 := by
  obtain ⟨h1, h2, h3⟩ := body_len h.ok
  have := h.1
  omega
theorem line_length (n : Nat) (b : List Nat) : (lineB n b).length = n + b.length + 2 := by simp [lineB]; omega
theorem lines_length (n : Nat) (b0 b1 b2 b3 : List Nat) : (linesL n [b0, b1, b2, b3]).length = 4 * n + b0.length + b1.length + b2.length + b3.length + 8 := by
  simp [linesL, line_length]; omega
theorem crlf_text {R0 R1 R2 R3 : List Str} (h0 : GoodR R0) (h1 : GoodR R1) (h2 : GoodR R2) (h3 : GoodR R3) : (crlfd (textOf R0 R1 R2 R3)).cps.toList = linesL 1 [body R0, body R1, body R2, body R3] := by
  rw [crlfd_list, textL, crlf_first _ _ _ _ (body_clean h0.ok) (body_clean h1.ok) (body_clean h2.ok) (body_clean h3.ok)]
theorem bodies_clean {R0 R1 R2 R3 : List Str} (h0 : GoodR R0) (h1 : GoodR R1) (h2 : GoodR R2) (h3 : GoodR R3) : ∀ b ∈ [body R0, body R1, body R2, body R3], Clean b := by
  intro b hb
  simp only [List.mem_cons, List.not_mem_nil, or_false] at hb
  rcases hb with rfl | rfl | rfl | rfl
  · exact body_clean h0.ok
  · exact body_clean h1.ok
  · exact body_clean h2.ok
  · exact body_clean h3.ok
theorem qn_zero (x : Str) : qn 0 x = x := by rw [qn]
theorem qn_succ (n : Nat) (x : Str) : qn (n + 1) x = dotd (crlfd (qn n x)) := by rw [qn]
theorem qn_list {R0 R1 R2 R3 : List Str} (h0 : GoodR R0) (h1 : GoodR R1) (h2 : GoodR R2) (h3 : GoodR R3) (n : Nat) : (qn (n + 1) (textOf R0 R1 R2 R3)).cps.toList = linesL (n + 2) [body R0, body R1, body R2, body R3] := by
  have hb := bodies_clean h0 h1 h2 h3
  have ht := crlf_text h0 h1 h2 h3
  generalize textOf R0 R1 R2 R3 = x at ht ⊢
  induction n with
  | zero => rw [qn_succ, qn_zero, dotd_list, ht, dot_lines 0 _ hb]
  | succ n ih => rw [qn_succ, dotd_list, crlfd_list, ih, crlf_lines _ _ hb, dot_lines (n + 1) _ hb]
theorem qn_size {R0 R1 R2 R3 : List Str} (h0 : GoodR R0) (h1 : GoodR R1) (h2 : GoodR R2) (h3 : GoodR R3) : ∀ i, i ≤ 4 → (qn i (textOf R0 R1 R2 R3)).cps.size ≤ 1000 ∧ (crlfd (qn i (textOf R0 R1 R2 R3))).cps.size ≤ 1000 ∧ (qn i (textOf R0 R1 R2 R3)).length ≤ 1000 := by
  intro i hi
  have l0 := (body_len h0.ok).2.1
  have l1 := (body_len h1.ok).2.1
  have l2 := (body_len h2.ok).2.1
  have l3 := (body_len h3.ok).2.1
  have := h0.1; have := h1.1; have := h2.1; have := h3.1
  cases i with
  | zero =>
    rw [qn_zero]
    have e1 : (textOf R0 R1 R2 R3).cps.size ≤ 1000 := by
      rw [← Array.length_toList, textL]
      simp
      omega
    have e2 : (crlfd (textOf R0 R1 R2 R3)).cps.size ≤ 1000 := by
      rw [← Array.length_toList, crlf_text h0 h1 h2 h3, lines_length]
      omega
    exact ⟨e1, e2, e1⟩
  | succ n =>
    have e1 : (qn (n + 1) (textOf R0 R1 R2 R3)).cps.size ≤ 1000 := by
      rw [← Array.length_toList, qn_list h0 h1 h2 h3, lines_length]
      omega
    have e2 : (crlfd (qn (n + 1) (textOf R0 R1 R2 R3))).cps.size ≤ 1000 := by
      rw [← Array.length_toList, crlfd_list, qn_list h0 h1 h2 h3, crlf_lines _ _ (bodies_clean h0 h1 h2 h3), lines_length]
      omega
    exact ⟨e1, e2, e1⟩
theorem lx_text {R0 R1 R2 R3 : List Str} (h0 : GoodR R0) (h1 : GoodR R1) (h2 : GoodR R2) (h3 : GoodR R3) {n : Nat} (hn : 1 ≤ n) (hn4 : n ≤ 4) :
    lx (qn n (textOf R0 R1 R2 R3)) ((qn n (textOf R0 R1 R2 R3)).length + 5) 0 = symsL (frontL (n : Int)) [R0, R1, R2, R3] := by
  have hl := qn_list h0 h1 h2 h3 (n - 1)
  rw [show n - 1 + 1 = n by omega, show n - 1 + 2 = n + 1 by omega] at hl
  have hlen : (qn n (textOf R0 R1 R2 R3)).length = (linesL (n + 1) [body R0, body R1, body R2, body R3]).length := by rw [← hl]; simp [Str.length]
  have hx := lx_lex (qn n (textOf R0 R1 R2 R3)) ((qn n (textOf R0 R1 R2 R3)).length + 5) 0
  rw [show ((0 : Nat) : Int) = 0 from rfl, List.drop_zero, hl] at hx
  rw [hx]
  have l0 := (body_len h0.ok).1
  have l1 := (body_len h1.ok).1
  have l2 := (body_len h2.ok).1
  have l3 := (body_len h3.ok).1
  have hf : (frontL (n : Int)).length ≤ n + 1 := by
    have : n = 1 ∨ n = 2 ∨ n = 3 ∨ n = 4 := by omega
    rcases this with rfl | rfl | rfl | rfl <;> decide
  have hN : ∃ f, (qn n (textOf R0 R1 R2 R3)).length + 5 = f + (R0.length + R1.length + R2.length + R3.length + 4 + 4 * (frontL (n : Int)).length) := by
    refine ⟨(qn n (textOf R0 R1 R2 R3)).length + 5 - (R0.length + R1.length + R2.length + R3.length + 4 + 4 * (frontL (n : Int)).length), ?_⟩
    rw [hlen, lines_length]
    omega
  obtain ⟨f, hf'⟩ := hN
  rw [hf']
  refine lex_lines hn hn4 R0 R1 R2 R3 ?_ f
  intro R hR
  simp only [List.mem_cons, List.not_mem_nil, or_false] at hR
  rcases hR with rfl | rfl | rfl | rfl
  · exact h0.ok
  · exact h1.ok
  · exact h2.ok
  · exact h3.ok
theorem row_good (x7 c : Int) (k : Nat) (hc : c ≤ 10) : GoodR (rowS x7 c k) := by
  refine ⟨by unfold rowS; simp; omega, fun s hs => ?_⟩
  unfold rowS at hs
  obtain ⟨j, _, rfl⟩ := List.mem_map.mp hs
  have h := mod18 (x7 + 5 * ((0 : Int) + (k : Int)) + 7 * ((0 : Int) + (j : Int)))
  generalize (x7 + 5 * ((0 : Int) + (k : Int)) + 7 * ((0 : Int) + (j : Int))).fmod 18 = z at h
  have hlt : z.toNat < signs18.length := by omega
  rw [List.getD_eq_getElem?_getD, List.getElem?_eq_getElem hlt]
  exact List.getElem_mem hlt
theorem row_len (x7 c : Int) (k : Nat) : (rowS x7 c k).length = c.toNat := by simp [rowS]
/-! the groups -/
theorem grp_run : ∀ (l : List Int) (g : List Int) (c : Int), (∀ x ∈ l, x ≠ 0) → l.foldl grS (g, c) = (g, c + (l.length : Int))
  | [], g, c, _ => by simp
  | x :: l, g, c, h => by
    have hx := h x List.mem_cons_self
    rw [List.foldl_cons]
    have e : grS (g, c) x = (g, c + 1) := by unfold grS; rw [if_neg hx]
    rw [e, grp_run l g (c + 1) fun y hy => h y (List.mem_cons_of_mem _ hy)]
    simp; omega
theorem grp_syms (F : List Int) (hF : ∀ x ∈ F, x ≠ 0) : ∀ (Rs : List (List Str)) (g : List Int), (∀ R ∈ Rs, ∀ s ∈ R, sg s ≠ 0) → (symsL F Rs).foldl grS (g, 0) = (g ++ Rs.map fun R => ((F.length + R.length : Nat) : Int), 0)
  | [], g, _ => by simp [symsL]
  | R :: Rs, g, h => by
    have hR : ∀ x ∈ F ++ R.map sg, x ≠ 0 := by
      intro x hx
      rcases List.mem_append.mp hx with hx | hx
      · exact hF x hx
      · obtain ⟨s, hs, rfl⟩ := List.mem_map.mp hx
        exact h R List.mem_cons_self s hs
    have e : symsL F (R :: Rs) = (F ++ R.map sg) ++ (0 :: symsL F Rs) := by simp [symsL]
    rw [e, List.foldl_append, grp_run _ _ _ hR, List.foldl_cons]
    have e2 : grS (g, 0 + ((F ++ R.map sg).length : Int)) 0 = (g ++ [((F.length + R.length : Nat) : Int)], 0) := by
      unfold grS; rw [if_pos rfl]; simp
    rw [e2, grp_syms F hF Rs _ fun R' hR' => h R' (List.mem_cons_of_mem _ hR')]
    simp
theorem sg_ne : ∀ s ∈ signs18, sg s ≠ 0 := by
  have h : signs18.all (fun s => sg s != 0) = true := by decide +kernel
  intro s hs
  simpa using List.all_eq_true.mp h s hs
theorem front_ne {n : Int} : ∀ x ∈ frontL n, x ≠ 0 := by
  intro x hx
  unfold frontL at hx
  split at hx
  · simp at hx; omega
  split at hx
  · simp at hx; omega
  split at hx
  · simp at hx; omega
  · simp at hx; omega
theorem groups_of {n : Int} {R0 R1 R2 R3 : List Str} (h0 : GoodR R0) (h1 : GoodR R1) (h2 : GoodR R2) (h3 : GoodR R3) :
    (grp (symsL (frontL n) [R0, R1, R2, R3])).1 = [(((frontL n).length + R0.length : Nat) : Int), (((frontL n).length + R1.length : Nat) : Int), (((frontL n).length + R2.length : Nat) : Int), (((frontL n).length + R3.length : Nat) : Int)] := by
  unfold grp
  rw [grp_syms _ front_ne _ _ ?_]
  · rfl
  · intro R hR s hs
    simp only [List.mem_cons, List.not_mem_nil, or_false] at hR
    rcases hR with rfl | rfl | rfl | rfl
    · exact sg_ne s (h0.2 s hs)
    · exact sg_ne s (h1.2 s hs)
    · exact sg_ne s (h2.2 s hs)
    · exact sg_ne s (h3.2 s hs)
end ZT4
section ZLT
open PySem PySem.W PySem.Spec PySem.Calls PyProof.Rows
set_option rowWalk.seconds 0
set_option compiler.extract_closed false
set_option maxRecDepth 100000
set_option maxHeartbeats 8000000
set_option pp.deepTerms false
set_option pp.deepTerms.threshold 10
set_option pp.maxSteps 20000
theorem bodyAt (k n : Nat) : drec.body.drop k = (drec.body.drop k).take n ++ drec.body.drop (k + n) := by
  rw [← List.drop_drop]
  exact (List.take_append_drop n _).symm
theorem news_cons {h₀ h : Heap} {L a : Addr} {o : Obj} {l : List (Addr × Obj)} (h1 : h.get? a = some o ∧ a ≠ L ∧ h₀.get? a = none) (N : News h₀ L h l) : News h₀ L h ((a, o) :: l) := fun p hp => by
  rcases List.mem_cons.mp hp with rfl | hp
  · exact h1
  · exact N p hp
theorem jr4 {R : Nat → List Str} {base nw : List (Addr × Obj)} {ys : List Value} (h : JR R base 4 ys nw) : ∃ a0 a1 a2 a3 v0 v1 v2 v3, ys = [.ref a0, .ref a1, .ref a2, .ref a3] ∧ nw = (a3, LCg.lst v3) :: (a2, LCg.lst v2) :: (a1, LCg.lst v1) :: (a0, LCg.lst v0) :: base ∧
    StrsAre v0 (R 0) ∧ StrsAre v1 (R 1) ∧ StrsAre v2 (R 2) ∧ StrsAre v3 (R 3) ∧ (∀ p ∈ base, p.1 < a0 ∧ p.1 < a1 ∧ p.1 < a2 ∧ p.1 < a3) := by
  obtain ⟨y3, n3, a3, v3, rfl, rfl, s3, l3, y2, n2, a2, v2, rfl, rfl, s2, l2, y1, n1, a1, v1, rfl, rfl, s1, l1, y0, n0, a0, v0, rfl, rfl, s0, l0, rfl, rfl⟩ := h
  exact ⟨a0, a1, a2, a3, v0, v1, v2, v3, rfl, rfl, s0, s1, s2, s3, fun p hp => ⟨l0 p hp, l1 p (.tail _ hp), l2 p (.tail _ (.tail _ hp)), l3 p (.tail _ (.tail _ (.tail _ hp)))⟩⟩
theorem powH {H S : Int} (h2 : 2 ≤ H) (h9 : H ≤ 9) (hS : S + 1 < 4 ^ H.toNat) : ∃ P : Int, (2 : Int) ^ H.toNat = P ∧ 4 ≤ P ∧ P ≤ 4096 ∧ P * P - 1 ≤ 16777215 ∧ S + 1 ≤ P * P - 1 := by
  have hH : H = 2 ∨ H = 3 ∨ H = 4 ∨ H = 5 ∨ H = 6 ∨ H = 7 ∨ H = 8 ∨ H = 9 := by omega
  rcases hH with rfl | rfl | rfl | rfl | rfl | rfl | rfl | rfl
  · refine ⟨4, by decide, by decide, by decide, by decide, ?_⟩
    rw [show (4 : Int) ^ (2 : Int).toNat = 16 from by decide] at hS; omega
  · refine ⟨8, by decide, by decide, by decide, by decide, ?_⟩
    rw [show (4 : Int) ^ (3 : Int).toNat = 64 from by decide] at hS; omega
  · refine ⟨16, by decide, by decide, by decide, by decide, ?_⟩
    rw [show (4 : Int) ^ (4 : Int).toNat = 256 from by decide] at hS; omega
  · refine ⟨32, by decide, by decide, by decide, by decide, ?_⟩
    rw [show (4 : Int) ^ (5 : Int).toNat = 1024 from by decide] at hS; omega
  · refine ⟨64, by decide, by decide, by decide, by decide, ?_⟩
    rw [show (4 : Int) ^ (6 : Int).toNat = 4096 from by decide] at hS; omega
  · refine ⟨128, by decide, by decide, by decide, by decide, ?_⟩
    rw [show (4 : Int) ^ (7 : Int).toNat = 16384 from by decide] at hS; omega
  · refine ⟨256, by decide, by decide, by decide, by decide, ?_⟩
    rw [show (4 : Int) ^ (8 : Int).toNat = 65536 from by decide] at hS; omega
  · refine ⟨512, by decide, by decide, by decide, by decide, ?_⟩
    rw [show (4 : Int) ^ (9 : Int).toNat = 262144 from by decide] at hS; omega
theorem syms_len {F : List Int} {R0 R1 R2 R3 : List Str} (hF : F.length ≤ 3) (h0 : R0.length ≤ 10) (h1 : R1.length ≤ 10) (h2 : R2.length ≤ 10) (h3 : R3.length ≤ 10) : (symsL F [R0, R1, R2, R3]).length < 1000 := by
  simp [symsL]; omega
theorem front_len (n : Int) : (frontL n).length = 1 ∨ (frontL n).length = 2 ∨ (frontL n).length = 3 := by
  unfold frontL
  split
  · exact .inr (.inl rfl)
  split
  · exact .inl rfl
  split
  · exact .inr (.inl rfl)
  · exact .inr (.inr rfl)
theorem good_sign {R : List Str} (h : GoodR R) : R.length ≤ 30 ∧ ∀ a ∈ R, (signAt a).isSome = true := by
  refine ⟨by have := h.1; omega, fun a ha => ?_⟩
  have hs : signs18.all (fun s => (signAt s).isSome) = true := by decide +kernel
  exact List.all_eq_true.mp hs a (h.2 a ha)
theorem fmodR (x : Int) {n : Int} (hn : 0 < n) : 0 ≤ x.fmod n ∧ x.fmod n < n := by
  rw [Int.fmod_eq_emod_of_nonneg _ (Int.le_of_lt hn)]
  exact ⟨Int.emod_nonneg _ (by omega), Int.emod_lt_of_pos _ hn⟩
theorem news_at {h₀ h : Heap} {L a : Addr} {o : Obj} {l : List (Addr × Obj)} (N : News h₀ L h l) (hp : (a, o) ∈ l) : h.get? a = some o ∧ a ≠ L ∧ h₀.get? a = none := N (a, o) hp
theorem news_nil {h₀ h : Heap} {L : Addr} : News h₀ L h [] := fun p hp => by cases hp
theorem prodOf_len {step first m g0 g1 g2 g3 : Int} (hg0 : 1 ≤ g0) (hg1 : g0 ≤ g1) (hg2 : g1 ≤ g2) (hg3 : g2 ≤ g3) (hg4 : g3 ≤ 50) : (prodOf step first m g0 g1 g2 g3).length ≤ 200 := by
  unfold prodOf
  rw [prodT_len]
  have := facL_len (m := m) hg0 hg1 hg2 hg3 hg4
  simp only [List.length_cons, List.length_nil]
  omega
theorem grpI {f : Nat} {R : List Str} {c : Int} (hR : R.length = c.toNat) (hc : 0 ≤ c) : ((f + R.length : Nat) : Int) = (f : Int) + c := by rw [hR]; omega
theorem stepB (x : Int) : 0 ≤ 1 + x.fmod 3 ∧ 1 + x.fmod 3 ≤ 3 := by
  have h := fmodR x (n := 3) (by decide)
  omega
theorem firstB (x : Int) : 0 ≤ x.fmod 6 ∧ x.fmod 6 ≤ 5 := by
  have h := fmodR x (n := 6) (by decide)
  omega
theorem le_c {a b : Int} (h : b = a + 0 ∨ b = a + 1 ∨ b = a + 2) : a ≤ b ∧ b ≤ a + 2 := by
  rcases h with rfl | rfl | rfl
  · exact ⟨by omega, by omega⟩
  · exact ⟨by omega, by omega⟩
  · exact ⟨by omega, by omega⟩
theorem le_d {a b : Int} (h : b = a + 0 ∨ b = a + 1) : a ≤ b ∧ b ≤ a + 1 := by
  rcases h with rfl | rfl
  · exact ⟨by omega, by omega⟩
  · exact ⟨by omega, by omega⟩
structure CB (c0 c1 c2 c3 : Int) : Prop where
  p0 : 0 ≤ c0
  p1 : 0 ≤ c1
  p2 : 0 ≤ c2
  p3 : 0 ≤ c3
  m0 : c0 ≤ 10
  m1 : c1 ≤ 10
  m2 : c2 ≤ 10
  m3 : c3 ≤ 10
  e1 : c0 ≤ c1
  e2 : c1 ≤ c2
  e3 : c2 ≤ c3
theorem cB {c0 c1 c2 c3 : Int} (h0 : c0 = 0 ∨ c0 = 1) (h1 : c1 = c0 + 0 ∨ c1 = c0 + 1 ∨ c1 = c0 + 2) (h2 : c2 = c1 + 0 ∨ c2 = c1 + 1) (h3 : c3 = c2 + 0 ∨ c3 = c2 + 1) : CB c0 c1 c2 c3 := by
  have a0 : 0 ≤ c0 ∧ c0 ≤ 1 := by rcases h0 with rfl | rfl <;> decide
  have a1 := le_c h1
  have a2 := le_d h2
  have a3 := le_d h3
  clear h0 h1 h2 h3
  constructor <;> omega
structure FB (f c0 c1 c2 c3 : Int) : Prop where
  q1 : 1 ≤ f + c0
  q2 : f + c0 ≤ f + c1
  q3 : f + c1 ≤ f + c2
  q4 : f + c2 ≤ f + c3
  q5 : f + c3 ≤ 50
theorem fB {f c0 c1 c2 c3 : Int} (h : f = 1 ∨ f = 2 ∨ f = 3) (c : CB c0 c1 c2 c3) : FB f c0 c1 c2 c3 := by
  have hf : 1 ≤ f ∧ f ≤ 3 := by rcases h with rfl | rfl | rfl <;> decide
  have a := c.p0
  have b := c.m3
  clear h
  exact ⟨by omega, Int.add_le_add_left c.e1 f, Int.add_le_add_left c.e2 f, Int.add_le_add_left c.e3 f, by omega⟩
theorem frontN {n : Int} : (frontL n).length ≤ 3 := by rcases front_len n with h | h | h <;> rw [h] <;> decide
theorem frontI {n : Int} : (((frontL n).length : Nat) : Int) = 1 ∨ (((frontL n).length : Nat) : Int) = 2 ∨ (((frontL n).length : Nat) : Int) = 3 := by rcases front_len n with h | h | h <;> rw [h] <;> decide
theorem sentN (x : Int) : 1 ≤ (1 + x.fmod 4).toNat ∧ (1 + x.fmod 4).toNat ≤ 4 ∧ (((1 + x.fmod 4).toNat : Nat) : Int) = 1 + x.fmod 4 := by
  have h := fmodR x (n := 4) (by decide)
  generalize x.fmod 4 = z at h
  omega
theorem subS (a b : Int) : 1 + a + b - (1 + a) = b := by omega
theorem n4_gt {a L : Nat} (h : L + 1 + 1 + 1 + 1 + 1 + 1 + 1 + 1 < a) : a ≠ L + 1 + 1 + 1 + 1 := by omega
theorem n4_1 (L : Nat) : L + 1 ≠ L + 1 + 1 + 1 + 1 := by omega
theorem n4_5 (L : Nat) : L + 1 + 1 + 1 + 1 + 1 ≠ L + 1 + 1 + 1 + 1 := by omega
theorem n4_6 (L : Nat) : L + 1 + 1 + 1 + 1 + 1 + 1 ≠ L + 1 + 1 + 1 + 1 := by omega
theorem n4_7 (L : Nat) : L + 1 + 1 + 1 + 1 + 1 + 1 + 1 ≠ L + 1 + 1 + 1 + 1 := by omega
theorem n4_8 (L : Nat) : L + 1 + 1 + 1 + 1 + 1 + 1 + 1 + 1 ≠ L + 1 + 1 + 1 + 1 := by omega
theorem n4_lt {a L : Nat} (h : a < L) : a ≠ L + 1 + 1 + 1 + 1 := by omega
theorem h12 {H : Int} (h : H ≤ 9) : H ≤ 12 := by omega
theorem law_tail {w : World} {mean : ExcName → Option Value} {mg mb : Str → Option Value} {h₀ : Heap} {L fa : Addr} {cd : Value} {m : Str → Option Value} {s : Shared} {Q : Flow → Shared → Prop} {E : Value → Shared → Prop}
  {oc1 oc2 oc3 oc4 oc5 oc6 oc7 oc8 : Obj} {dA cA sA : Addr} {x0 x1 x2 x3 x4 x5 x6 x7 c0 c1 c2 c3 : Int} {t0 t1 t2 t3 t4 t5 t6 t7 u0 u1 u2 u3 : Tok} {kd kc ks : Nat} {ss : List Value} {v4 v5 v6 v7 v8 : Option Value}
  (B : Below callerA h₀ [] h₀) (X : (Mine.hp w.params).In h₀) (T : Top topProg (looseW Mine.vw Mine.lo ++ (recsOf Mine.vw).map (·.name) ++ (litsOf Mine.vw).map (·.1) ++ (clssOf Mine.vw (looseW Mine.vw Mine.lo)).map (·.name)) mean mg mb h₀) (F : Fr h₀ L s.heap m)
  (N : News h₀ L s.heap ((sA, W.listOf ss.toArray ks) :: (cA, W.listOf #[.int c0 u0, .int c1 u1, .int c2 u2, .int c3 u3] kc) :: (dA, W.listOf #[.int x0 t0, .int x1 t1, .int x2 t2, .int x3 t3, .int x4 t4, .int x5 t5, .int x6 t6, .int x7 t7] kd) :: (L + 1 + 1 + 1 + 1 + 1 + 1 + 1 + 1, oc8) :: (L + 1 + 1 + 1 + 1 + 1 + 1 + 1, oc7) :: (L + 1 + 1 + 1 + 1 + 1 + 1, oc6) :: (L + 1 + 1 + 1 + 1 + 1, oc5) :: (L + 1 + 1 + 1 + 1, oc4) :: (L + 1 + 1 + 1, oc3) :: (L + 1 + 1, oc2) :: (L + 1, oc1) :: [(54, tabObj #[]), (47, tabObj #[])]))
  (e1 : oc1.data = .cell (some (.ref dA))) (e2 : oc2.data = .cell (some (.ref cA))) (e3 : oc3.data = .cell (some (.ref sA))) (e4 : oc4.data = .cell v4) (e5 : oc5.data = .cell v5) (e6 : oc6.data = .cell v6) (e7 : oc7.data = .cell v7) (e8 : oc8.data = .cell v8)
  (C1 : CodeHd h₀ 58 54) (C2 : CodeHd h₀ 51 47) (hlt : @LT.lt Nat _ (@HAdd.hAdd Nat Nat Nat _ L 8) dA) (h54 : @LT.lt Nat _ 54 L ∧ @LT.lt Nat _ 47 L)
  (hss : StrsAre ss signs18) (hsl : ss.length = 18) (hc0 : c0 = 0 ∨ c0 = 1) (hc1 : c1 = c0 + 0 ∨ c1 = c0 + 1 ∨ c1 = c0 + 2) (hc2 : c2 = c1 + 0 ∨ c2 = c1 + 1) (hc3 : c3 = c2 + 0 ∨ c3 = c2 + 1)
  (hE : PassesOwn (model Mine.rw.prog w) (callerA.deeper (envOfC drec.name drec.scope L fa cd)) (envOfC drec.name drec.scope L fa cd) E)
  (ret : ∀ (m1 : Str → Option Value) (ps1 ps2 : Array Value) (h : Heap) (tk : Nat), Fr h₀ L h m1 → News h₀ L h [(54, tabObj ps1), (47, tabObj ps2)] → Q (.ret (.bool true)) { s with heap := h, toks := tk }) :
  wpAny (model Mine.rw.prog w) (callerA.deeper (envOfC drec.name drec.scope L fa cd)) (execs (drec.body.drop 4) (envOfC drec.name drec.scope L fa cd)) Q E s := by
  have cb := cB hc0 hc1 hc2 hc3
  rw [bodyAt 4 1]
  refine part_rows (news := [(54, tabObj #[]), (47, tabObj #[])]) B X T F N e1 e2 e3 e4 hss hsl ⟨cb.p0, cb.m0⟩ ⟨cb.p1, cb.m1⟩ ⟨cb.p2, cb.m2⟩ ⟨cb.p3, cb.m3⟩ ?_
  intro RA ys nw oc4' ha tka Fa d4 Na hRA off1 off2 hex
  obtain ⟨nw0, hJ, hsub⟩ := hex
  obtain ⟨a0, a1, a2, a3, v0, v1, v2, v3, rfl, rfl, s0, s1, s2, s3, hord⟩ := jr4 hJ
  have s0 : StrsAre v0 (rowS x7 c0 0) := s0
  have s1 : StrsAre v1 (rowS x7 c1 1) := s1
  have s2 : StrsAre v2 (rowS x7 c2 2) := s2
  have s3 : StrsAre v3 (rowS x7 c3 3) := s3
  have g0 := row_good x7 c0 0 cb.m0
  have g1 := row_good x7 c1 1 cb.m1
  have g2 := row_good x7 c2 2 cb.m2
  have g3 := row_good x7 c3 3 cb.m3
  have l0 := row_len x7 c0 0
  have l1 := row_len x7 c1 1
  have l2 := row_len x7 c2 2
  have l3 := row_len x7 c3 3
  generalize rowS x7 c0 0 = R0 at s0 g0 l0
  generalize rowS x7 c1 1 = R1 at s1 g1 l1
  generalize rowS x7 c2 2 = R2 at s2 g2 l2
  generalize rowS x7 c3 3 = R3 at s3 g3 l3
  have o8 := hord (L + 1 + 1 + 1 + 1 + 1 + 1 + 1 + 1, oc8) (by (focus first | ((repeat (first | exact memH | ((fail_if_success (refine nilX ?_)); refine memT ?_))); done) | ((repeat (first | assumption | ((fail_if_success (refine nilX ?_)); refine memT ?_))); done)))
  have r8 : @LT.lt Nat _ (L + 1 + 1 + 1 + 1 + 1 + 1 + 1 + 1) RA := hRA (L + 1 + 1 + 1 + 1 + 1 + 1 + 1 + 1, oc8) (by (focus first | ((repeat (first | exact memH | ((fail_if_success (refine nilX ?_)); refine memT ?_))); done) | ((repeat (first | assumption | ((fail_if_success (refine nilX ?_)); refine memT ?_))); done)))
  have q0 : @LT.lt Nat _ (L + 1 + 1 + 1 + 1 + 1 + 1 + 1 + 1) a0 := o8.1
  have q1 : @LT.lt Nat _ (L + 1 + 1 + 1 + 1 + 1 + 1 + 1 + 1) a1 := o8.2.1
  have q2 : @LT.lt Nat _ (L + 1 + 1 + 1 + 1 + 1 + 1 + 1 + 1) a2 := o8.2.2.1
  have q3 : @LT.lt Nat _ (L + 1 + 1 + 1 + 1 + 1 + 1 + 1 + 1) a3 := o8.2.2.2
  clear o8 hord hRA off1 off2 hJ
  have M : ∀ {a : Addr} {o : Obj}, (a, o) ∈ (a3, LCg.lst v3) :: (a2, LCg.lst v2) :: (a1, LCg.lst v1) :: (a0, LCg.lst v0) :: (sA, W.listOf ss.toArray ks) :: (cA, W.listOf #[.int c0 u0, .int c1 u1, .int c2 u2, .int c3 u3] kc) :: (dA, W.listOf #[.int x0 t0, .int x1 t1, .int x2 t2, .int x3 t3, .int x4 t4, .int x5 t5, .int x6 t6, .int x7 t7] kd) :: (L + 1 + 1 + 1 + 1 + 1 + 1 + 1 + 1, oc8) :: (L + 1 + 1 + 1 + 1 + 1 + 1 + 1, oc7) :: (L + 1 + 1 + 1 + 1 + 1 + 1, oc6) :: (L + 1 + 1 + 1 + 1 + 1, oc5) :: (L + 1 + 1 + 1 + 1, oc4) :: (L + 1 + 1 + 1, oc3) :: (L + 1 + 1, oc2) :: (L + 1, oc1) :: [(54, tabObj #[]), (47, tabObj #[])] → @Ne Nat a (L + 1 + 1 + 1 + 1) → ha.get? a = some o ∧ a ≠ L ∧ h₀.get? a = none := fun {a o} hp hn => Na (a, o) (.tail _ (.tail _ (hsub (a, o) hp hn)))
  have N0 := news_at Na (.head _)
  have N4 := news_at Na (.tail _ (.head _))
  clear Na hsub
  have N1 := (news_cons N0 (news_cons (M (a := a0) (o := LCg.lst v0) (by (focus first | ((repeat (first | exact memH | ((fail_if_success (refine nilX ?_)); refine memT ?_))); done) | ((repeat (first | assumption | ((fail_if_success (refine nilX ?_)); refine memT ?_))); done))) (n4_gt q0)) (news_cons (M (a := a1) (o := LCg.lst v1) (by (focus first | ((repeat (first | exact memH | ((fail_if_success (refine nilX ?_)); refine memT ?_))); done) | ((repeat (first | assumption | ((fail_if_success (refine nilX ?_)); refine memT ?_))); done))) (n4_gt q1)) (news_cons (M (a := a2) (o := LCg.lst v2) (by (focus first | ((repeat (first | exact memH | ((fail_if_success (refine nilX ?_)); refine memT ?_))); done) | ((repeat (first | assumption | ((fail_if_success (refine nilX ?_)); refine memT ?_))); done))) (n4_gt q2)) (news_cons (M (a := a3) (o := LCg.lst v3) (by (focus first | ((repeat (first | exact memH | ((fail_if_success (refine nilX ?_)); refine memT ?_))); done) | ((repeat (first | assumption | ((fail_if_success (refine nilX ?_)); refine memT ?_))); done))) (n4_gt q3)) (news_cons N4 (news_cons (M (a := dA) (o := W.listOf #[.int x0 t0, .int x1 t1, .int x2 t2, .int x3 t3, .int x4 t4, .int x5 t5, .int x6 t6, .int x7 t7] kd) (by (focus first | ((repeat (first | exact memH | ((fail_if_success (refine nilX ?_)); refine memT ?_))); done) | ((repeat (first | assumption | ((fail_if_success (refine nilX ?_)); refine memT ?_))); done))) (n4_gt hlt)) (news_cons (M (a := L + 1) (o := oc1) (by (focus first | ((repeat (first | exact memH | ((fail_if_success (refine nilX ?_)); refine memT ?_))); done) | ((repeat (first | assumption | ((fail_if_success (refine nilX ?_)); refine memT ?_))); done))) (n4_1 L)) (news_cons (M (a := L + 1 + 1 + 1 + 1 + 1 + 1 + 1 + 1) (o := oc8) (by (focus first | ((repeat (first | exact memH | ((fail_if_success (refine nilX ?_)); refine memT ?_))); done) | ((repeat (first | assumption | ((fail_if_success (refine nilX ?_)); refine memT ?_))); done))) (n4_8 L)) (news_cons (M (a := L + 1 + 1 + 1 + 1 + 1 + 1 + 1) (o := oc7) (by (focus first | ((repeat (first | exact memH | ((fail_if_success (refine nilX ?_)); refine memT ?_))); done) | ((repeat (first | assumption | ((fail_if_success (refine nilX ?_)); refine memT ?_))); done))) (n4_7 L)) (news_cons (M (a := L + 1 + 1 + 1 + 1 + 1 + 1) (o := oc6) (by (focus first | ((repeat (first | exact memH | ((fail_if_success (refine nilX ?_)); refine memT ?_))); done) | ((repeat (first | assumption | ((fail_if_success (refine nilX ?_)); refine memT ?_))); done))) (n4_6 L)) (news_cons (M (a := L + 1 + 1 + 1 + 1 + 1) (o := oc5) (by (focus first | ((repeat (first | exact memH | ((fail_if_success (refine nilX ?_)); refine memT ?_))); done) | ((repeat (first | assumption | ((fail_if_success (refine nilX ?_)); refine memT ?_))); done))) (n4_5 L)) (news_cons (M (a := 54) (o := tabObj #[]) (by (focus first | ((repeat (first | exact memH | ((fail_if_success (refine nilX ?_)); refine memT ?_))); done) | ((repeat (first | assumption | ((fail_if_success (refine nilX ?_)); refine memT ?_))); done))) (n4_lt h54.1)) (news_cons (M (a := 47) (o := tabObj #[]) (by (focus first | ((repeat (first | exact memH | ((fail_if_success (refine nilX ?_)); refine memT ?_))); done) | ((repeat (first | assumption | ((fail_if_success (refine nilX ?_)); refine memT ?_))); done))) (n4_lt h54.2)) news_nil))))))))))))))
  clear N0 N4 M
  rw [bodyAt 5 1]
  refine part_text (s := { s with heap := ha, toks := tka }) B X T Fa N1 d4 s0 s1 s2 s3 (sumR g0) (sumR g1) (sumR g2) (sumR g3) ?_
  intro hb tkb tT Fb Nb
  clear Fa N1
  have N2 := (news_cons (news_at Nb (a := dA) (o := W.listOf #[.int x0 t0, .int x1 t1, .int x2 t2, .int x3 t3, .int x4 t4, .int x5 t5, .int x6 t6, .int x7 t7] kd) (by (focus first | ((repeat (first | exact memH | ((fail_if_success (refine nilX ?_)); refine memT ?_))); done) | ((repeat (first | assumption | ((fail_if_success (refine nilX ?_)); refine memT ?_))); done)))) (news_cons (news_at Nb (a := L + 1) (o := oc1) (by (focus first | ((repeat (first | exact memH | ((fail_if_success (refine nilX ?_)); refine memT ?_))); done) | ((repeat (first | assumption | ((fail_if_success (refine nilX ?_)); refine memT ?_))); done)))) (news_cons (news_at Nb (a := RA) (o := LCg.lst [.ref a0, .ref a1, .ref a2, .ref a3]) (by (focus first | ((repeat (first | exact memH | ((fail_if_success (refine nilX ?_)); refine memT ?_))); done) | ((repeat (first | assumption | ((fail_if_success (refine nilX ?_)); refine memT ?_))); done)))) (news_cons (news_at Nb (a := a0) (o := LCg.lst v0) (by (focus first | ((repeat (first | exact memH | ((fail_if_success (refine nilX ?_)); refine memT ?_))); done) | ((repeat (first | assumption | ((fail_if_success (refine nilX ?_)); refine memT ?_))); done)))) (news_cons (news_at Nb (a := a1) (o := LCg.lst v1) (by (focus first | ((repeat (first | exact memH | ((fail_if_success (refine nilX ?_)); refine memT ?_))); done) | ((repeat (first | assumption | ((fail_if_success (refine nilX ?_)); refine memT ?_))); done)))) (news_cons (news_at Nb (a := a2) (o := LCg.lst v2) (by (focus first | ((repeat (first | exact memH | ((fail_if_success (refine nilX ?_)); refine memT ?_))); done) | ((repeat (first | assumption | ((fail_if_success (refine nilX ?_)); refine memT ?_))); done)))) (news_cons (news_at Nb (a := a3) (o := LCg.lst v3) (by (focus first | ((repeat (first | exact memH | ((fail_if_success (refine nilX ?_)); refine memT ?_))); done) | ((repeat (first | assumption | ((fail_if_success (refine nilX ?_)); refine memT ?_))); done)))) (news_cons (news_at Nb (a := L + 1 + 1 + 1 + 1 + 1 + 1 + 1 + 1) (o := oc8) (by (focus first | ((repeat (first | exact memH | ((fail_if_success (refine nilX ?_)); refine memT ?_))); done) | ((repeat (first | assumption | ((fail_if_success (refine nilX ?_)); refine memT ?_))); done)))) (news_cons (news_at Nb (a := L + 1 + 1 + 1 + 1 + 1 + 1 + 1) (o := oc7) (by (focus first | ((repeat (first | exact memH | ((fail_if_success (refine nilX ?_)); refine memT ?_))); done) | ((repeat (first | assumption | ((fail_if_success (refine nilX ?_)); refine memT ?_))); done)))) (news_cons (news_at Nb (a := L + 1 + 1 + 1 + 1 + 1 + 1) (o := oc6) (by (focus first | ((repeat (first | exact memH | ((fail_if_success (refine nilX ?_)); refine memT ?_))); done) | ((repeat (first | assumption | ((fail_if_success (refine nilX ?_)); refine memT ?_))); done)))) (news_cons (news_at Nb (a := L + 1 + 1 + 1 + 1 + 1) (o := oc5) (by (focus first | ((repeat (first | exact memH | ((fail_if_success (refine nilX ?_)); refine memT ?_))); done) | ((repeat (first | assumption | ((fail_if_success (refine nilX ?_)); refine memT ?_))); done)))) (news_cons (news_at Nb (a := L + 1 + 1 + 1 + 1) (o := oc4') (by (focus first | ((repeat (first | exact memH | ((fail_if_success (refine nilX ?_)); refine memT ?_))); done) | ((repeat (first | assumption | ((fail_if_success (refine nilX ?_)); refine memT ?_))); done)))) (news_cons (news_at Nb (a := 54) (o := tabObj #[]) (by (focus first | ((repeat (first | exact memH | ((fail_if_success (refine nilX ?_)); refine memT ?_))); done) | ((repeat (first | assumption | ((fail_if_success (refine nilX ?_)); refine memT ?_))); done)))) (news_cons (news_at Nb (a := 47) (o := tabObj #[]) (by (focus first | ((repeat (first | exact memH | ((fail_if_success (refine nilX ?_)); refine memT ?_))); done) | ((repeat (first | assumption | ((fail_if_success (refine nilX ?_)); refine memT ?_))); done)))) news_nil))))))))))))))
  clear Nb
  rw [bodyAt 6 3]
  refine part_quote (s := { s with heap := hb, toks := tkb }) B X T Fb N2 e1 hE (qn_size g0 g1 g2 g3) ?_
  intro yA vs nn m1 hc tkc tS hY Fc Nc hyA
  clear Fb N2
  have y8 : @LT.lt Nat _ (L + 1 + 1 + 1 + 1 + 1 + 1 + 1 + 1) yA := hyA (L + 1 + 1 + 1 + 1 + 1 + 1 + 1 + 1, oc8) (by (focus first | ((repeat (first | exact memH | ((fail_if_success (refine nilX ?_)); refine memT ?_))); done) | ((repeat (first | assumption | ((fail_if_success (refine nilX ?_)); refine memT ?_))); done)))
  clear hyA
  have hn := lx_text g0 g1 g2 g3 (n := (1 + x4.fmod 4).toNat) (sentN x4).1 (sentN x4).2.1
  rw [(sentN x4).2.2] at hn
  rw [hn] at hY
  clear hn
  have N3 := (news_cons (news_at Nc (a := yA) (o := W.listOf vs.toArray nn) (by (focus first | ((repeat (first | exact memH | ((fail_if_success (refine nilX ?_)); refine memT ?_))); done) | ((repeat (first | assumption | ((fail_if_success (refine nilX ?_)); refine memT ?_))); done)))) (news_cons (news_at Nc (a := RA) (o := LCg.lst [.ref a0, .ref a1, .ref a2, .ref a3]) (by (focus first | ((repeat (first | exact memH | ((fail_if_success (refine nilX ?_)); refine memT ?_))); done) | ((repeat (first | assumption | ((fail_if_success (refine nilX ?_)); refine memT ?_))); done)))) (news_cons (news_at Nc (a := a0) (o := LCg.lst v0) (by (focus first | ((repeat (first | exact memH | ((fail_if_success (refine nilX ?_)); refine memT ?_))); done) | ((repeat (first | assumption | ((fail_if_success (refine nilX ?_)); refine memT ?_))); done)))) (news_cons (news_at Nc (a := a1) (o := LCg.lst v1) (by (focus first | ((repeat (first | exact memH | ((fail_if_success (refine nilX ?_)); refine memT ?_))); done) | ((repeat (first | assumption | ((fail_if_success (refine nilX ?_)); refine memT ?_))); done)))) (news_cons (news_at Nc (a := a2) (o := LCg.lst v2) (by (focus first | ((repeat (first | exact memH | ((fail_if_success (refine nilX ?_)); refine memT ?_))); done) | ((repeat (first | assumption | ((fail_if_success (refine nilX ?_)); refine memT ?_))); done)))) (news_cons (news_at Nc (a := a3) (o := LCg.lst v3) (by (focus first | ((repeat (first | exact memH | ((fail_if_success (refine nilX ?_)); refine memT ?_))); done) | ((repeat (first | assumption | ((fail_if_success (refine nilX ?_)); refine memT ?_))); done)))) (news_cons (news_at Nc (a := dA) (o := W.listOf #[.int x0 t0, .int x1 t1, .int x2 t2, .int x3 t3, .int x4 t4, .int x5 t5, .int x6 t6, .int x7 t7] kd) (by (focus first | ((repeat (first | exact memH | ((fail_if_success (refine nilX ?_)); refine memT ?_))); done) | ((repeat (first | assumption | ((fail_if_success (refine nilX ?_)); refine memT ?_))); done)))) (news_cons (news_at Nc (a := L + 1 + 1 + 1 + 1 + 1 + 1 + 1 + 1) (o := oc8) (by (focus first | ((repeat (first | exact memH | ((fail_if_success (refine nilX ?_)); refine memT ?_))); done) | ((repeat (first | assumption | ((fail_if_success (refine nilX ?_)); refine memT ?_))); done)))) (news_cons (news_at Nc (a := L + 1 + 1 + 1 + 1 + 1 + 1 + 1) (o := oc7) (by (focus first | ((repeat (first | exact memH | ((fail_if_success (refine nilX ?_)); refine memT ?_))); done) | ((repeat (first | assumption | ((fail_if_success (refine nilX ?_)); refine memT ?_))); done)))) (news_cons (news_at Nc (a := L + 1 + 1 + 1 + 1 + 1 + 1) (o := oc6) (by (focus first | ((repeat (first | exact memH | ((fail_if_success (refine nilX ?_)); refine memT ?_))); done) | ((repeat (first | assumption | ((fail_if_success (refine nilX ?_)); refine memT ?_))); done)))) (news_cons (news_at Nc (a := L + 1 + 1 + 1 + 1 + 1) (o := oc5) (by (focus first | ((repeat (first | exact memH | ((fail_if_success (refine nilX ?_)); refine memT ?_))); done) | ((repeat (first | assumption | ((fail_if_success (refine nilX ?_)); refine memT ?_))); done)))) (news_cons (news_at Nc (a := L + 1 + 1 + 1 + 1) (o := oc4') (by (focus first | ((repeat (first | exact memH | ((fail_if_success (refine nilX ?_)); refine memT ?_))); done) | ((repeat (first | assumption | ((fail_if_success (refine nilX ?_)); refine memT ?_))); done)))) (news_cons (news_at Nc (a := L + 1) (o := oc1) (by (focus first | ((repeat (first | exact memH | ((fail_if_success (refine nilX ?_)); refine memT ?_))); done) | ((repeat (first | assumption | ((fail_if_success (refine nilX ?_)); refine memT ?_))); done)))) (news_cons (news_at Nc (a := 54) (o := tabObj #[]) (by (focus first | ((repeat (first | exact memH | ((fail_if_success (refine nilX ?_)); refine memT ?_))); done) | ((repeat (first | assumption | ((fail_if_success (refine nilX ?_)); refine memT ?_))); done)))) (news_cons (news_at Nc (a := 47) (o := tabObj #[]) (by (focus first | ((repeat (first | exact memH | ((fail_if_success (refine nilX ?_)); refine memT ?_))); done) | ((repeat (first | assumption | ((fail_if_success (refine nilX ?_)); refine memT ?_))); done)))) news_nil)))))))))))))))
  clear Nc
  rw [bodyAt 9 2]
  refine part_front (base := h₀) (s := { s with heap := hc, toks := tkc }) B X T Fc N3 C1 C2 ⟨y8, r8, q0, q1, q2, q3, hlt⟩ h54 e5 hE ?_
  intro fA fv kf oc5' m2 ps1 ps2 hd tkd hF d5 Fd Nd f8
  clear Fc N3
  have N4 := (news_cons (news_at Nd (a := fA) (o := W.listOf fv.toArray kf) (by (focus first | ((repeat (first | exact memH | ((fail_if_success (refine nilX ?_)); refine memT ?_))); done) | ((repeat (first | assumption | ((fail_if_success (refine nilX ?_)); refine memT ?_))); done)))) (news_cons (news_at Nd (a := yA) (o := W.listOf vs.toArray nn) (by (focus first | ((repeat (first | exact memH | ((fail_if_success (refine nilX ?_)); refine memT ?_))); done) | ((repeat (first | assumption | ((fail_if_success (refine nilX ?_)); refine memT ?_))); done)))) (news_cons (news_at Nd (a := RA) (o := LCg.lst [.ref a0, .ref a1, .ref a2, .ref a3]) (by (focus first | ((repeat (first | exact memH | ((fail_if_success (refine nilX ?_)); refine memT ?_))); done) | ((repeat (first | assumption | ((fail_if_success (refine nilX ?_)); refine memT ?_))); done)))) (news_cons (news_at Nd (a := a0) (o := LCg.lst v0) (by (focus first | ((repeat (first | exact memH | ((fail_if_success (refine nilX ?_)); refine memT ?_))); done) | ((repeat (first | assumption | ((fail_if_success (refine nilX ?_)); refine memT ?_))); done)))) (news_cons (news_at Nd (a := a1) (o := LCg.lst v1) (by (focus first | ((repeat (first | exact memH | ((fail_if_success (refine nilX ?_)); refine memT ?_))); done) | ((repeat (first | assumption | ((fail_if_success (refine nilX ?_)); refine memT ?_))); done)))) (news_cons (news_at Nd (a := a2) (o := LCg.lst v2) (by (focus first | ((repeat (first | exact memH | ((fail_if_success (refine nilX ?_)); refine memT ?_))); done) | ((repeat (first | assumption | ((fail_if_success (refine nilX ?_)); refine memT ?_))); done)))) (news_cons (news_at Nd (a := a3) (o := LCg.lst v3) (by (focus first | ((repeat (first | exact memH | ((fail_if_success (refine nilX ?_)); refine memT ?_))); done) | ((repeat (first | assumption | ((fail_if_success (refine nilX ?_)); refine memT ?_))); done)))) (news_cons (news_at Nd (a := L + 1 + 1 + 1 + 1 + 1) (o := oc5') (by (focus first | ((repeat (first | exact memH | ((fail_if_success (refine nilX ?_)); refine memT ?_))); done) | ((repeat (first | assumption | ((fail_if_success (refine nilX ?_)); refine memT ?_))); done)))) (news_cons (news_at Nd (a := L + 1 + 1 + 1 + 1) (o := oc4') (by (focus first | ((repeat (first | exact memH | ((fail_if_success (refine nilX ?_)); refine memT ?_))); done) | ((repeat (first | assumption | ((fail_if_success (refine nilX ?_)); refine memT ?_))); done)))) (news_cons (news_at Nd (a := dA) (o := W.listOf #[.int x0 t0, .int x1 t1, .int x2 t2, .int x3 t3, .int x4 t4, .int x5 t5, .int x6 t6, .int x7 t7] kd) (by (focus first | ((repeat (first | exact memH | ((fail_if_success (refine nilX ?_)); refine memT ?_))); done) | ((repeat (first | assumption | ((fail_if_success (refine nilX ?_)); refine memT ?_))); done)))) (news_cons (news_at Nd (a := L + 1 + 1 + 1 + 1 + 1 + 1 + 1 + 1) (o := oc8) (by (focus first | ((repeat (first | exact memH | ((fail_if_success (refine nilX ?_)); refine memT ?_))); done) | ((repeat (first | assumption | ((fail_if_success (refine nilX ?_)); refine memT ?_))); done)))) (news_cons (news_at Nd (a := L + 1 + 1 + 1 + 1 + 1 + 1 + 1) (o := oc7) (by (focus first | ((repeat (first | exact memH | ((fail_if_success (refine nilX ?_)); refine memT ?_))); done) | ((repeat (first | assumption | ((fail_if_success (refine nilX ?_)); refine memT ?_))); done)))) (news_cons (news_at Nd (a := L + 1 + 1 + 1 + 1 + 1 + 1) (o := oc6) (by (focus first | ((repeat (first | exact memH | ((fail_if_success (refine nilX ?_)); refine memT ?_))); done) | ((repeat (first | assumption | ((fail_if_success (refine nilX ?_)); refine memT ?_))); done)))) (news_cons (news_at Nd (a := L + 1) (o := oc1) (by (focus first | ((repeat (first | exact memH | ((fail_if_success (refine nilX ?_)); refine memT ?_))); done) | ((repeat (first | assumption | ((fail_if_success (refine nilX ?_)); refine memT ?_))); done)))) (news_cons (news_at Nd (a := 54) (o := tabObj ps1) (by (focus first | ((repeat (first | exact memH | ((fail_if_success (refine nilX ?_)); refine memT ?_))); done) | ((repeat (first | assumption | ((fail_if_success (refine nilX ?_)); refine memT ?_))); done)))) (news_cons (news_at Nd (a := 47) (o := tabObj ps2) (by (focus first | ((repeat (first | exact memH | ((fail_if_success (refine nilX ?_)); refine memT ?_))); done) | ((repeat (first | assumption | ((fail_if_success (refine nilX ?_)); refine memT ?_))); done)))) news_nil))))))))))))))))
  clear Nd
  have hY2 := hY
  rw [bodyAt 11 1]
  refine part_compare (s := { s with heap := hd, toks := tkd }) B X T Fd N4 d4 d5 s0 s1 s2 s3 hF hY (Nat.le_trans frontN (by decide)) ?_ rfl ?_
  · intro R hR
    simp only [List.mem_cons, List.not_mem_nil, or_false] at hR
    rcases hR with rfl | rfl | rfl | rfl
    · exact good_sign g0
    · exact good_sign g1
    · exact good_sign g2
    · exact good_sign g3
  intro he tke Fe Ne
  clear Fd N4
  have N5 := (news_cons (news_at Ne (a := yA) (o := W.listOf vs.toArray nn) (by (focus first | ((repeat (first | exact memH | ((fail_if_success (refine nilX ?_)); refine memT ?_))); done) | ((repeat (first | assumption | ((fail_if_success (refine nilX ?_)); refine memT ?_))); done)))) (news_cons (news_at Ne (a := dA) (o := W.listOf #[.int x0 t0, .int x1 t1, .int x2 t2, .int x3 t3, .int x4 t4, .int x5 t5, .int x6 t6, .int x7 t7] kd) (by (focus first | ((repeat (first | exact memH | ((fail_if_success (refine nilX ?_)); refine memT ?_))); done) | ((repeat (first | assumption | ((fail_if_success (refine nilX ?_)); refine memT ?_))); done)))) (news_cons (news_at Ne (a := L + 1 + 1 + 1 + 1 + 1 + 1 + 1 + 1) (o := oc8) (by (focus first | ((repeat (first | exact memH | ((fail_if_success (refine nilX ?_)); refine memT ?_))); done) | ((repeat (first | assumption | ((fail_if_success (refine nilX ?_)); refine memT ?_))); done)))) (news_cons (news_at Ne (a := L + 1 + 1 + 1 + 1 + 1 + 1 + 1) (o := oc7) (by (focus first | ((repeat (first | exact memH | ((fail_if_success (refine nilX ?_)); refine memT ?_))); done) | ((repeat (first | assumption | ((fail_if_success (refine nilX ?_)); refine memT ?_))); done)))) (news_cons (news_at Ne (a := L + 1 + 1 + 1 + 1 + 1 + 1) (o := oc6) (by (focus first | ((repeat (first | exact memH | ((fail_if_success (refine nilX ?_)); refine memT ?_))); done) | ((repeat (first | assumption | ((fail_if_success (refine nilX ?_)); refine memT ?_))); done)))) (news_cons (news_at Ne (a := L + 1) (o := oc1) (by (focus first | ((repeat (first | exact memH | ((fail_if_success (refine nilX ?_)); refine memT ?_))); done) | ((repeat (first | assumption | ((fail_if_success (refine nilX ?_)); refine memT ?_))); done)))) (news_cons (news_at Ne (a := 54) (o := tabObj ps1) (by (focus first | ((repeat (first | exact memH | ((fail_if_success (refine nilX ?_)); refine memT ?_))); done) | ((repeat (first | assumption | ((fail_if_success (refine nilX ?_)); refine memT ?_))); done)))) (news_cons (news_at Ne (a := 47) (o := tabObj ps2) (by (focus first | ((repeat (first | exact memH | ((fail_if_success (refine nilX ?_)); refine memT ?_))); done) | ((repeat (first | assumption | ((fail_if_success (refine nilX ?_)); refine memT ?_))); done)))) news_nil))))))))
  clear Ne
  have hG := groups_of (n := 1 + x4.fmod 4) g0 g1 g2 g3
  rw [grpI l0 cb.p0, grpI l1 cb.p1, grpI l2 cb.p2, grpI l3 cb.p3] at hG
  have hfI := frontI (n := 1 + x4.fmod 4)
  have hYl := syms_len (F := frontL (1 + x4.fmod 4)) frontN g0.1 g1.1 g2.1 g3.1
  generalize (((frontL (1 + x4.fmod 4)).length : Nat) : Int) = f at hG hfI
  have fb := fB hfI cb
  rw [bodyAt 12 3]
  refine part_groups (s := { s with heap := he, toks := tke }) B X T Fe N5 ⟨y8, hlt⟩ h54 e1 e6 e7 e8 hY hYl hG ?_
  intro gA kg w0 w1 w2 w3 us uf oc6' oc7' oc8' m3 hf tkf d6 d7 d8 Ff Nf g8
  clear Fe N5
  rw [bodyAt 15 1]
  refine part_products (s := { s with heap := hf, toks := tkf }) B X T Ff Nf g8 h54 d6 d7 d8 fb.q1 fb.q2 fb.q3 fb.q4 fb.q5 ?_
  intro pA p0 p1 p2 p3 k0 k1 k2 k3 z0 z1 z2 z3 hg tkg i0 i1 i2 i3 Fg Ng
  clear Ff Nf
  obtain ⟨hS1, fin, hS0, hrun, f0, f1, f2, f3⟩ := chk_at hfI hc0 hc1 hc2 hc3 (stepB x5) (firstB x6)
  rw [bodyAt 16 2]
  refine part_half (s := { s with heap := hg, toks := tkg }) B X T Fg Ng i3 hS0 hS1 hE ?_
  intro H tH hh tkh h2 h9 hpow Fh Nh
  clear Fg Ng
  obtain ⟨P, hP, hP1, hP2, hP3, hP4⟩ := powH h2 h9 hpow
  exact part_struck (s := { s with heap := hh, toks := tkh }) B X T Fh Nh d6 d7 d8 i0 i1 i2 i3 (prodOf_len fb.q1 fb.q2 fb.q3 fb.q4 fb.q5) (prodOf_len fb.q1 fb.q2 fb.q3 fb.q4 fb.q5) (prodOf_len fb.q1 fb.q2 fb.q3 fb.q4 fb.q5) (prodOf_len fb.q1 fb.q2 fb.q3 fb.q4 fb.q5) fb.q1 fb.q2 fb.q3 fb.q4 fb.q5 h2 (h12 h9) hP hP1 hP2 hP3 (runB_S hP4 12 _ hrun) f0 f1 f2 f3 (fun m1 h tk Fz Nz => ret m1 ps1 ps2 h tk Fz Nz)
end ZLT
section ZLWa
open Lean Elab Tactic Meta PySem PySem.W PySem.Spec PySem.Calls PyProof.Rows
set_option rowWalk.seconds 0
set_option compiler.extract_closed false
set_option maxRecDepth 100000
set_option maxHeartbeats 8000000
set_option pp.deepTerms false
set_option pp.deepTerms.threshold 10
set_option pp.maxSteps 20000
theorem zdL : List.map (fun x : PyData × PyData => x.fst) (exT.map fun p => (PyData.str p.1, p.2)) = List.map PyData.str (signs48.map (·.1)) := by simp [exT, List.map_map, Function.comp_def]
theorem ints1 {ws : List Value} {x : Int} {l : List Int} (h : IntsAre ws (x :: l)) : ∃ t ws', ws = .int x t :: ws' ∧ IntsAre ws' l := by
  cases h with
  | cons x t r => exact ⟨_, _, rfl, r⟩
theorem nel {L i j : Nat} (h : i ≠ j) : L + i ≠ L + j := fun e => h (Nat.add_left_cancel e)
theorem int_cons {vs : List Value} {l : List Int} {n : Nat} (h : IntsAre vs l) (hl : l.length = n + 1) : ∃ x t vs' l', vs = .int x t :: vs' ∧ IntsAre vs' l' ∧ l'.length = n := by
  cases h with
  | nil => cases hl
  | cons x t h => exact ⟨x, t, _, _, rfl, h, Nat.succ.inj hl⟩
theorem int_nil {vs : List Value} {l : List Int} (h : IntsAre vs l) (hl : l.length = 0) : vs = [] := by
  cases h with
  | nil => rfl
  | cons x t h => cases hl
theorem ints8 {ws : List Value} {w : List Int} (h : IntsAre ws (List.take 8 w ++ List.drop ((w.length : Nat) : Int).toNat [0, 1, 0, 1, 0, 0, 0, 3])) :
    ∃ (x0 x1 x2 x3 x4 x5 x6 x7 : Int) (t0 t1 t2 t3 t4 t5 t6 t7 : Tok), ws = [.int x0 t0, .int x1 t1, .int x2 t2, .int x3 t3, .int x4 t4, .int x5 t5, .int x6 t6, .int x7 t7] := by
  have hl : (List.take 8 w ++ List.drop ((w.length : Nat) : Int).toNat [(0 : Int), 1, 0, 1, 0, 0, 0, 3]).length = 8 := by
    rw [List.length_append, List.length_take, List.length_drop, Int.toNat_natCast]
    simp; omega
  obtain ⟨x0, t0, _, _, e0, h0, l0⟩ := int_cons h hl
  obtain ⟨x1, t1, _, _, e1, h1, l1⟩ := int_cons h0 l0
  obtain ⟨x2, t2, _, _, e2, h2, l2⟩ := int_cons h1 l1
  obtain ⟨x3, t3, _, _, e3, h3, l3⟩ := int_cons h2 l2
  obtain ⟨x4, t4, _, _, e4, h4, l4⟩ := int_cons h3 l3
  obtain ⟨x5, t5, _, _, e5, h5, l5⟩ := int_cons h4 l4
  obtain ⟨x6, t6, _, _, e6, h6, l6⟩ := int_cons h5 l5
  obtain ⟨x7, t7, _, _, e7, h7, l7⟩ := int_cons h6 l6
  exact ⟨x0, x1, x2, x3, x4, x5, x6, x7, t0, t1, t2, t3, t4, t5, t6, t7, e0.trans (congrArg _ (e1.trans (congrArg _ (e2.trans (congrArg _ (e3.trans (congrArg _ (e4.trans (congrArg _ (e5.trans (congrArg _ (e6.trans (congrArg _ (e7.trans (congrArg _ (int_nil h7 l7))))))))))))))))⟩
theorem nc_list {xs : Array Value} {k : Nat} : ∀ v, (W.listOf xs k).data ≠ .cell v := fun v e => by unfold W.listOf at e; cases e
theorem nc_tab {ps : Array Value} : ∀ v, (tabObj ps).data ≠ .cell v := fun v e => by unfold tabObj at e; cases e
theorem signs_store {M : Model} {A : Around} {E : Value → Shared → Prop} {s₁ : Shared} {h₀ : Heap} {L D c : Addr} {m : Str → Option Value} {oc : Obj} {nw : List (Addr × Obj)} {env : Env} {x : Str} {v0 : Option Value} {Q : Unit → Shared → Prop} {its : Array Value}
    (F : Fr h₀ L s₁.heap m) (N : News h₀ L s₁.heap nw) (P : NewPlain s₁.heap nw D its) (hD : h₀.get? D = none) (hm : (c, oc) ∈ nw) (e4 : oc.data = .cell v0) (hk : env.scope.kind = .function) (hl : env.kindOf x = some .cell) (hc : env.cells.lookup x = some c)
    (cont : ∀ n oc' h', Fr h₀ L h' m → oc'.data = .cell (some (.ref D)) → (∀ a o, (a, o) ∈ nw → ((∀ v, o.data ≠ .cell v) ∨ @Ne Nat a c) → h'.get? a = some o ∧ a ≠ L ∧ h₀.get? a = none) → (h'.get? c = some oc' ∧ c ≠ L ∧ h₀.get? c = none) → (h'.get? D = some (W.listOf its n) ∧ D ≠ L ∧ h₀.get? D = none) → Q () { s₁ with heap := h' }) :
    wpAny M A (storeName env x (.ref D)) Q E s₁ := by
  obtain ⟨n, ND⟩ := made_enters P F N hD
  have z := N _ hm
  have hcD : D ≠ c := fun e => P.2 _ hm e.symm
  refine wpAny_storeName_cell hk hl hc ⟨oc, z.1, e4⟩ fun h' hc' hs' => ?_
  obtain ⟨oc', ho', hd'⟩ := hc'
  refine cont n oc' h' (F.change hs' z.2.1 z.2.2) hd' (fun a o hp hn => ?_) ⟨ho', z.2⟩ ⟨hs'.extBut _ _ hcD (ND _ List.mem_cons_self).1, (ND _ List.mem_cons_self).2⟩
  have y := N _ hp
  have hne : a ≠ c := by
    rcases hn with hn | hn
    · rintro rfl
      have := y.1.symm.trans z.1
      cases this
      exact hn _ e4
    · exact hn
  exact ⟨hs'.extBut _ _ hne y.1, y.2⟩
theorem fm2 (x : Int) : x.fmod 2 = 0 ∨ x.fmod 2 = 1 := by have := fmodR x (n := 2) (by decide); omega
theorem fm2a (c x : Int) : c + x.fmod 2 = c + 0 ∨ c + x.fmod 2 = c + 1 := by have := fmodR x (n := 2) (by decide); omega
theorem fm3a (c x : Int) : c + x.fmod 3 = c + 0 ∨ c + x.fmod 3 = c + 1 ∨ c + x.fmod 3 = c + 2 := by have := fmodR x (n := 3) (by decide); omega
theorem filter18 : List.filter pz18 (List.map (fun x : Str × Int => x.fst) signs48) = signs18 := rfl
theorem law_walk : WalkO vw lo (XL vw []) (Hook.says (kmHook Mine.hp (2 :: 3 :: 6 :: 11 :: 12 :: 32 :: 34 :: 35 :: 37 :: 38 :: 39 :: 41 :: 42 :: 44 :: 45 :: 46 :: 48 :: 49 :: 51 :: 52 :: 53 :: 55 :: 56 :: 58 :: 59 :: 60 :: 62 :: 63 :: 65 :: 66 :: 67 :: 69 :: 70 :: 72 :: 73 :: 74 :: 75 :: 76 :: 78 :: 79 :: 81 :: 82 :: 83 :: 84 :: 85 :: 87 :: 88 :: 90 :: 91 :: 95 :: 96 :: 100 :: 101 :: 102 :: 104 :: 105 :: 107 :: 108 :: 109 :: 112 :: 114 :: 115 :: 117 :: 118 :: 119 :: 121 :: 122 :: 124 :: 125 :: 126 :: 128 :: 129 :: 131 :: 132 :: 133 :: 136 :: 137 :: 138 :: 140 :: 141 :: 143 :: 144 :: 145 :: 148 :: 149 :: 150 :: 153 :: 154 :: []) hpas [54, 47])) rw.row.toRowW drec [] (fun f vs => PySem.call f vs) := by
  w_on
  unfold Mine.drec
  k_fill
  intro w s₀ s₁ mg mb G Y fa o pm cd doc dV kV ho hd hcd hD hmg hg args vals as hpre hlay hrd hwl hlo
  have KX := km_in_of Y
  km_tabs Y
  have X := (Ground.X G).1
  have V := (Ground.X G).2
  refine Ground.open G ?_
  intro T B D TE TW
  try (refine guard_noD D (by decide +kernel) ?_; clear D)
  km_lay T hmg ho hd cd
  clear hmg
  wrow_args hpre hlay hrd hwl hlo
  all_goals (
    first | refine callC_kw (enter_call ?_) | refine enter_call ?_
    w_top on
    kn_posts
    w_call any ho hd hcd hD T F
    clear hd
    kn_ghosts F T
    k_drop
    skip)
  clear X V B TE TW
  (all_goals try (refine foldAQE ?_; intro az hzd hzu qz ez))
  k_with_none
  k_with "execs cons" => (k_here; first | k_gentoks | (k_made; walk_at "execs cons") | ((with_reducible refine execs_consF ?_); intro qz))
  k_with "storeName" => (k_here; (fail_if_success (k_extra "unfolded")); k_dflt (first | (refine' storeX_LF ?F ?N ?_ ?a ?b; (case F => k_asm); (case N => k_asm); (case a => rfl); (case b => rfl); k_whole; intro h' tk' mz F' N'; (try k_sweep)) | (refine' storeX_CF ?F ?N ?c ?U ?d ?_ ?a ?b; (case a => rfl); (case b => rfl); (case F => k_asm); (case N => k_asm); (case c => rfl); (case U => k_updF); (case d => k_asm); k_whole; intro h' o' F' N' d'; (try dsimp only at N'); (try k_sweep))))
  k_with "LeaveF" => (k_dflt (refine' leaveF_ ?k1 ?k2 ?_; (case k1 => k_asm); (case k2 => k_asm); k_whole); intro kF kN; (try ground_anew kF); (try have kX := kFor kF (by k_asm)))
  k_with "LeaveF" => (k_made; walk_at "LeaveF")
  k_with "zUR" => (have hcL9 := cLine_is; omega)
  k_with "zNE" => (refine neN ?_; (try dsimp only); first | with_reducible (first | (refine neA0 (by assumption) ?_; focus ((repeat (first | exact And.left | exact id | refine andR ?_)); done)) | (refine neB0 (by assumption) ?_; focus ((repeat (first | exact And.left | exact id | refine andR ?_)); done)) | (refine neC (by assumption) ?_; focus ((repeat (first | exact And.left | exact id | refine andR ?_)); done)) | (refine neCs (by assumption) ?_; focus ((repeat (first | exact And.left | exact id | refine andR ?_)); done)) | (refine neA1 (by assumption) ?_; focus ((repeat (first | exact And.left | exact id | refine andR ?_)); done)) | (refine neB1 (by assumption) ?_; focus ((repeat (first | exact And.left | exact id | refine andR ?_)); done)) | (refine neA2 (by assumption) ?_; focus ((repeat (first | exact And.left | exact id | refine andR ?_)); done)) | (refine neB2 (by assumption) ?_; focus ((repeat (first | exact And.left | exact id | refine andR ?_)); done)) | (refine neA3 (by assumption) ?_; focus ((repeat (first | exact And.left | exact id | refine andR ?_)); done)) | (refine neB3 (by assumption) ?_; focus ((repeat (first | exact And.left | exact id | refine andR ?_)); done))) | omega)
  k_with "zRM" => (with_reducible first | exact room1 (by assumption) (by assumption) (by decide) | exact room2 (by assumption) (by assumption) (by decide) | exact room3 (by assumption) (by assumption) (by decide) | exact room4 (by assumption) (by assumption) (by decide) | exact room5 (by assumption) (by assumption) (by decide) | exact room0 (by assumption))
  k_with "zALL" => first | assumption | with_reducible (first | (refine nwA0 (by assumption) ?_; focus ((refine andR ?_); (repeat (first | exact id | refine andR ?_)); done)) | (refine nwA1 (by assumption) ?_; focus ((refine andR ?_); (repeat (first | exact id | refine andR ?_)); done)) | (refine nwA2 (by assumption) ?_; focus ((refine andR ?_); (repeat (first | exact id | refine andR ?_)); done)) | (refine nwA3 (by assumption) ?_; focus ((refine andR ?_); (repeat (first | exact id | refine andR ?_)); done)))
  k_with "zNEL" => first | exact nel (i := 8) (j := 3) (by decide) | exact nel (i := 7) (j := 3) (by decide) | exact nel (i := 6) (j := 3) (by decide) | exact nel (i := 5) (j := 3) (by decide) | exact nel (i := 4) (j := 3) (by decide) | exact nel (i := 2) (j := 3) (by decide) | exact nel (i := 1) (j := 3) (by decide)
  k_with "binaryOp Add ref ref" => (k_here; k_dflt (refine' kmk_add_ints ?zqF ?zqN ?zqa ?zqb ?zqi ?zqj ?_ ?zqz; (case zqF => k_asm); (case zqN => k_asm); (case zqa => exact News.isList (by assumption) (by (focus first | ((repeat (first | exact memH | ((fail_if_success (refine nilX ?_)); refine memT ?_))); done) | ((repeat (first | assumption | ((fail_if_success (refine nilX ?_)); refine memT ?_))); done)))); (case zqb => exact News.isList (by assumption) (by (focus first | ((repeat (first | exact memH | ((fail_if_success (refine nilX ?_)); refine memT ?_))); done) | ((repeat (first | assumption | ((fail_if_success (refine nilX ?_)); refine memT ?_))); done)))); (case zqi => assumption); (case zqj => assumption); (case zqz => (simp only [sizeLine_eq, List.length_append, List.length_take, List.length_drop, List.length_cons, List.length_nil]; omega))); intro D' ws' h' F' N' l1 hI'; (obtain ⟨x0, x1, x2, x3, x4, x5, x6, x7, t0, t1, t2, t3, t4, t5, t6, t7, hws⟩ := ints8 hI'); clear hI'; subst hws; (try k_lt l1); (try k_sweep))
  k_with "subscriptTail Name Constant ref int" => ((with_unfolding_all refine' itemK ?zqk1 ?zqk2 ?zqk3 ?zqk4 ?_ ?zqk6); (case zqk1 => exact News.isList (by assumption) (by (focus first | ((repeat (first | exact memH | ((fail_if_success (refine nilX ?_)); refine memT ?_))); done) | ((repeat (first | assumption | ((fail_if_success (refine nilX ?_)); refine memT ?_))); done)))); (case zqk2 => decide); (case zqk3 => decide); (case zqk4 => with_unfolding_all exact rfl); (case zqk6 => with_unfolding_all rfl); k_whole)
  k_with "subscriptTail Name Name ref int" => ((with_unfolding_all refine' itemK ?zqk1 ?zqk2 ?zqk3 ?zqk4 ?_ ?zqk6); (case zqk1 => exact News.isList (by assumption) (by (focus first | ((repeat (first | exact memH | ((fail_if_success (refine nilX ?_)); refine memT ?_))); done) | ((repeat (first | assumption | ((fail_if_success (refine nilX ?_)); refine memT ?_))); done)))); (case zqk2 => decide); (case zqk3 => decide); (case zqk4 => with_unfolding_all exact rfl); (case zqk6 => with_unfolding_all rfl); k_whole)
  k_with "call builtin:list.append nil" => (k_dflt (refine' append_K ?zqk1 ?zqk2 ?zqk3 ?_ ?zqz; (case zqk1 => k_asm); (case zqk2 => k_asm); (case zqk3 => k_upd); (case zqz => size_fits)); intro h' F' N'; (try k_sweep))
  k_with "subscriptTail Name Slice ref ref" => (k_here; (with_reducible show wpAny _ _ (subscriptTail _ (PySem.Expr.Slice _ _ none _) (Value.ref _) (Value.ref _)) _ _ _); k_dflt (refine' kmk_slice_ints ?zqF ?zqN ?zql ?zqp ?zqq ?zqi ?zqm ?zqc ?_ ?zqs ?zqt ?zqz; (case zqF => k_asm); (case zqN => k_asm); (case zql => kmk_list); (case zqp => kmk_part); (case zqq => kmk_part); (case zqi => l_ints); (case zqm => first | exact kmk_from (by l_ints) (Int.natCast_nonneg _) | exact kmk_upto (by l_ints) (by decide) | kmk_nums); (case zqc => kmk_len); (case zqs => with_unfolding_all rfl); (case zqt => kmk_pure); (case zqz => kmk_size)); intro D' ws' h' F' N' l1 hI' hC' hL'; (try simp only [Int.reduceNeg, Int.neg_neg, Int.reduceToNat] at hI' hC' hL'); (try k_lt l1); (try k_sweep))
  k_with "pyIter ref" => ((with_reducible show wpAny _ _ (pyIter (Value.ref 109)) (CompPost _ _ _ _ _ _ _ _ _) _ _); (rename Frag.In _ _ => xX); (rename Fr _ _ _ _ => lF'); (rename News _ _ _ _ => lN'); (with_unfolding_all refine' srcC_dict (D := exT.map fun p => (PyData.str p.1, p.2)) (as := signs48.map (·.1)) (pz := pz18) ?zd ?zh ?zt lF' lN' ?zg1 ?zg2 ?zg3 ?zz); (case zd => exact zdL); (case zh => exact rfl); (case zt => exact TabAt.ofFr (exTab _ xX) lF'); (case zz => decide +kernel); (case' zg2 => ((intro C a t s2 m2 E2 ha hpa hn2 hm2 ht2 hk2); (have F2 := lF'.keeps hk2); (clear lF'))); (case' zg1 => ((intro C a t s2 m2 E2 ha hn2 hm2 ht2 hk2); (have F2 := lF'.keeps hk2); (clear lF'); (have hal := (signs_len a ha).1); (have hal1 := (signs_len a ha).2); (refine wpAny_tests_one ?_))); (case' zg3 => (clear lF' lN'; (intro D ys h' tk F' N' hDf hDl hNP hYs); (rw [filter18] at hYs); (with_unfolding_all refine' signs_store F' N' hNP hDf (.tail _ (.tail _ (.tail _ (.tail _ (.tail _ (.tail _ (.tail _ (.tail _ (.tail _ (.tail _ (.tail _ (.tail _ (.tail _ (.head _)))))))))))))) ?zss ?zsk ?zsl ?zsc ?_); (case zss => assumption); (case zsk => with_unfolding_all exact rfl); (case zsl => with_unfolding_all exact rfl); (case zsc => with_unfolding_all exact rfl); (intro nX oX hX FX dX hM hNc hND); (clear F' N' hNP); (have NX := (news_cons hND (news_cons (hM _ _ (.tail _ (.tail _ (.tail _ (.head _)))) (.inl nc_list)) (news_cons (hM _ _ (.tail _ (.tail _ (.tail _ (.tail _ (.head _))))) (.inl nc_list)) (news_cons (hM _ _ (.tail _ (.tail _ (.tail _ (.tail _ (.tail _ (.tail _ (.tail _ (.tail _ (.head _))))))))) (.inr (by walk_at "zNEL"))) (news_cons (hM _ _ (.tail _ (.tail _ (.tail _ (.tail _ (.tail _ (.tail _ (.tail _ (.tail _ (.tail _ (.head _)))))))))) (.inr (by walk_at "zNEL"))) (news_cons (hM _ _ (.tail _ (.tail _ (.tail _ (.tail _ (.tail _ (.tail _ (.tail _ (.tail _ (.tail _ (.tail _ (.head _))))))))))) (.inr (by walk_at "zNEL"))) (news_cons (hM _ _ (.tail _ (.tail _ (.tail _ (.tail _ (.tail _ (.tail _ (.tail _ (.tail _ (.tail _ (.tail _ (.tail _ (.head _)))))))))))) (.inr (by walk_at "zNEL"))) (news_cons (hM _ _ (.tail _ (.tail _ (.tail _ (.tail _ (.tail _ (.tail _ (.tail _ (.tail _ (.tail _ (.tail _ (.tail _ (.tail _ (.head _))))))))))))) (.inr (by walk_at "zNEL"))) (news_cons hNc (news_cons (hM _ _ (.tail _ (.tail _ (.tail _ (.tail _ (.tail _ (.tail _ (.tail _ (.tail _ (.tail _ (.tail _ (.tail _ (.tail _ (.tail _ (.tail _ (.head _))))))))))))))) (.inr (by walk_at "zNEL"))) (news_cons (hM _ _ (.tail _ (.tail _ (.tail _ (.tail _ (.tail _ (.tail _ (.tail _ (.tail _ (.tail _ (.tail _ (.tail _ (.tail _ (.tail _ (.tail _ (.tail _ (.head _)))))))))))))))) (.inr (by walk_at "zNEL"))) (news_cons (hM _ _ (.tail _ (.tail _ (.tail _ (.tail _ (.tail _ (.tail _ (.tail _ (.tail _ (.tail _ (.tail _ (.tail _ (.tail _ (.tail _ (.tail _ (.tail _ (.tail _ (.head _))))))))))))))))) (.inl nc_tab)) (news_cons (hM _ _ (.tail _ (.tail _ (.tail _ (.tail _ (.tail _ (.tail _ (.tail _ (.tail _ (.tail _ (.tail _ (.tail _ (.tail _ (.tail _ (.tail _ (.tail _ (.tail _ (.tail _ (.head _)))))))))))))))))) (.inl nc_tab)) news_nil)))))))))))))); (clear hM hNc hND); (with_unfolding_all refine' law_tail (h₀ := ghostOf s₁.heap [(58, 54), (51, 47)]) (L := s₁.heap.objs.size) ?yB ?yX ?yT FX NX ?y1 ?y2 ?y3 ?y4 ?y5 ?y6 ?y7 ?y8 ?yc ?yd ?yl ?yh hYs (hYs.length.trans signs18_len) (fm2 _) (fm3a _ _) (fm2a _ _) (fm2a _ _) ?yE ?yR); (case yB => assumption); (case yX => assumption); (case yT => assumption); (case y1 => assumption); (case y2 => assumption); (case y3 => assumption); (case y4 => assumption); (case y5 => assumption); (case y6 => assumption); (case y7 => assumption); (case y8 => assumption); (case yc => with_unfolding_all assumption); (case yd => with_unfolding_all assumption); (case yl => with_unfolding_all exact l1.2.2.2.1); (case yh => with_unfolding_all assumption); (case yE => passes_own); (clear NX FX); (intro m1 ps1 ps2 hZ tkZ FZ NZ))))
  k_with "eval Name" => (k_here; (with_reducible show wpAny _ _ (eval (PySem.Expr.Name _ _) (compEnv _ _ _)) _ _ _); with_unfolding_all refine ld_builtE (by assumption) (by assumption) (by assumption) (by k_is) (by boot_by_name) (by decide) ?_ (by rfl) (by rfl) (by rfl) (by rfl) (by decide))
  k_with "Keeps" => exact ⟨_, _, rfl, fun _ _ e => e⟩
  k_with "Eq true" => exact pz18_1 (by assumption) (by assumption)
  k_with "Eq false" => exact pz18_2 (by assumption)
  k_with "Eq false" => exact pz18_3 (by assumption)
  k_steps
end ZLWa
end Mine
theorem PySem.Challenge.cw_sn0058_01_holds : PySem.Challenge.rw_sn0058_01.Holds :=
  Mine.hd Mine.law_walk
