import PyProof.Rows.All
import Wide.All
import OpenK.AllK
import Wide.FinOn
import PySem.Challenge.RW_ix0031_01
open PySem PySem.W PyProof.Rows PySem.Calls PySem.Spec
set_option Elab.async false
set_option linter.all false
namespace Mine
noncomputable def hd.view_39 : Program := PySem.W.view PySem.Challenge.pw_ix0031_01 [0, 2, 4, 5, 6, 8, 9, 10, 13, 14, 15, 16, 17, 18, 19, 20, 21, 22, 23, 24, 25]
set_option maxRecDepth 100000 in
noncomputable def hd.heap_39 : Params → Frag := fun P => (fun (rf : Nat → Value) (it : Int → Nat → Value) (st : Str → Nat → Value) (fd : Str → Str → Arguments → FuncBody → Scope → Nat → List (Str × Nat) → Value → Value → Value → Value → Option Nat → Value → Value → Nat → FuncData) (cd : Str → List Value → List Value → Nat → Str → Bool → List Str → List Value → Bool → Option Bool → Bool → ClassData) (ob : Value → Option Nat → Data → Array (Option Value) → Obj) (a0 a6q0 a9q0 a10q0 a10q1 a10q2 a10q3 a10q4 a10q5 a10q6 a10q7 a10q8 a10q9 a10q10 a10q11 a10q12 a10q13 a10q14 a10q15 a10q16 a10q17 a10q18 a10q19 a10q20 a10q21 a10q22 a10q23 a10q24 a10q25 a10q26 a11 a13 a14 a15 a16 a17 a18 a19 a20 a21 a22 a23 a24 a25 : Arguments) (b0 b6q0 b9q0 b10q0 b10q1 b10q2 b10q3 b10q4 b10q5 b10q6 b10q7 b10q8 b10q9 b10q10 b10q11 b10q12 b10q13 b10q14 b10q15 b10q16 b10q17 b10q18 b10q19 b10q20 b10q21 b10q22 b10q23 b10q24 b10q25 b10q26 b11 b13 b14 b15 b16 b17 b18 b19 b20 b21 b22 b23 b24 b25 : List Stmt) (s0 s6q0 s9q0 s10q0 s10q1 s10q2 s10q3 s10q4 s10q5 s10q6 s10q7 s10q8 s10q9 s10q10 s10q11 s10q12 s10q13 s10q14 s10q15 s10q16 s10q17 s10q18 s10q19 s10q20 s10q21 s10q22 s10q23 s10q24 s10q25 s10q26 s11 s13 s14 s15 s16 s17 s18 s19 s20 s21 s22 s23 s24 : Scope) (x0 x1 x2 x3 x4 x5 x6 x7 x8 x9 x10 x11 x12 x13 x14 x15 x16 x17 x18 x19 x20 x21 x22 x23 x24 x25 x26 x27 x28 x29 x30 x31 x32 x33 : Str × NameKind) (u1 : ScopeKind) (u2 u3 : Bool) (u4 : List (Str × Const)) (_ : PySem.Challenge.pw_ix0031_01.main.body = [.FunctionDef _ a0 b0 _ _ _ s0 _ _ _,_,_,_,_,_,.ClassDef _ _ _ [.FunctionDef _ a6q0 b6q0 _ _ _ s6q0 _ _ _] _ _ _ _ _ _ _,_,_,.ClassDef _ _ _ [.FunctionDef _ a9q0 b9q0 _ _ _ s9q0 _ _ _] _ _ _ _ _ _ _,.ClassDef _ _ _ [.FunctionDef _ a10q0 b10q0 _ _ _ s10q0 _ _ _,.FunctionDef _ a10q1 b10q1 _ _ _ s10q1 _ _ _,.FunctionDef _ a10q2 b10q2 _ _ _ s10q2 _ _ _,.FunctionDef _ a10q3 b10q3 _ _ _ s10q3 _ _ _,.FunctionDef _ a10q4 b10q4 _ _ _ s10q4 _ _ _,.FunctionDef _ a10q5 b10q5 _ _ _ s10q5 _ _ _,.FunctionDef _ a10q6 b10q6 _ _ _ s10q6 _ _ _,.FunctionDef _ a10q7 b10q7 _ _ _ s10q7 _ _ _,.FunctionDef _ a10q8 b10q8 _ _ _ s10q8 _ _ _,.FunctionDef _ a10q9 b10q9 _ _ _ s10q9 _ _ _,.FunctionDef _ a10q10 b10q10 _ _ _ s10q10 _ _ _,.FunctionDef _ a10q11 b10q11 _ _ _ s10q11 _ _ _,.FunctionDef _ a10q12 b10q12 _ _ _ s10q12 _ _ _,.FunctionDef _ a10q13 b10q13 _ _ _ s10q13 _ _ _,.FunctionDef _ a10q14 b10q14 _ _ _ s10q14 _ _ _,.FunctionDef _ a10q15 b10q15 _ _ _ s10q15 _ _ _,.FunctionDef _ a10q16 b10q16 _ _ _ s10q16 _ _ _,.FunctionDef _ a10q17 b10q17 _ _ _ s10q17 _ _ _,.FunctionDef _ a10q18 b10q18 _ _ _ s10q18 _ _ _,.FunctionDef _ a10q19 b10q19 _ _ _ s10q19 _ _ _,.FunctionDef _ a10q20 b10q20 _ _ _ s10q20 _ _ _,.FunctionDef _ a10q21 b10q21 _ _ _ s10q21 _ _ _,.FunctionDef _ a10q22 b10q22 _ _ _ s10q22 _ _ _,.FunctionDef _ a10q23 b10q23 _ _ _ s10q23 _ _ _,.FunctionDef _ a10q24 b10q24 _ _ _ s10q24 _ _ _,.FunctionDef _ a10q25 b10q25 _ _ _ s10q25 _ _ _,.FunctionDef _ a10q26 b10q26 _ _ _ s10q26 _ _ _] _ _ _ _ _ _ _,.FunctionDef _ a11 b11 _ _ _ s11 _ _ _,_,.FunctionDef _ a13 b13 _ _ _ s13 _ _ _,.FunctionDef _ a14 b14 _ _ _ s14 _ _ _,.FunctionDef _ a15 b15 _ _ _ s15 _ _ _,.FunctionDef _ a16 b16 _ _ _ s16 _ _ _,.FunctionDef _ a17 b17 _ _ _ s17 _ _ _,.FunctionDef _ a18 b18 _ _ _ s18 _ _ _,.FunctionDef _ a19 b19 _ _ _ s19 _ _ _,.FunctionDef _ a20 b20 _ _ _ s20 _ _ _,.FunctionDef _ a21 b21 _ _ _ s21 _ _ _,.FunctionDef _ a22 b22 _ _ _ s22 _ _ _,.FunctionDef _ a23 b23 _ _ _ s23 _ _ _,.FunctionDef _ a24 b24 _ _ _ s24 _ _ _,.FunctionDef _ a25 b25 _ _ _ ⟨u1, x0 :: x1 :: x2 :: x3 :: x4 :: x5 :: x6 :: x7 :: x8 :: x9 :: x10 :: x11 :: x12 :: x13 :: x14 :: x15 :: x16 :: x17 :: x18 :: x19 :: x20 :: x21 :: x22 :: x23 :: x24 :: x25 :: x26 :: x27 :: x28 :: x29 :: x30 :: x31 :: x32 :: x33 :: [], u2, u3, u4⟩ _ _ _]) => ((nat_lit 2,(ob .none .none (.dict #[⟨PyData.keyHash P "type.__subclasses__.Exception.0",st "type.__subclasses__.Exception.0" 262,it 45 0⟩,⟨PyData.keyHash P "type.__subclasses__.Exception.n",st "type.__subclasses__.Exception.n" 263,it 1 0⟩] 2) #[])) ::
(nat_lit 3,(ob (.type "dict") .none (.dict #[⟨PyData.keyHash P "__name__",st "__name__" 165,st "law_ix0031_01" 661⟩,⟨PyData.keyHash P "__doc__",st "__doc__" 166,.none⟩,⟨PyData.keyHash P "__package__",st "__package__" 167,.none⟩,⟨PyData.keyHash P "__loader__",st "__loader__" 168,.builtin "__main__.__loader__#opaque"⟩,⟨PyData.keyHash P "__spec__",st "__spec__" 169,.none⟩,⟨PyData.keyHash P "__annotations__",st "__annotations__" 170,rf 6⟩,⟨PyData.keyHash P "__builtins__",st "__builtins__" 171,rf 4⟩,⟨PyData.keyHash P "__file__",st "__file__" 173,st "/claim/cut.py" 172⟩,⟨PyData.keyHash P "__cached__",st "__cached__" 174,.none⟩,⟨PyData.keyHash P "_wall",st "_wall" 193,rf 21⟩,⟨PyData.keyHash P "ErrorCodes",st "ErrorCodes" 243,rf 31⟩,⟨PyData.keyHash P "H2Error",st "H2Error" 265,rf 45⟩,⟨PyData.keyHash P "ProtocolError",st "ProtocolError" 283,rf 58⟩,⟨PyData.keyHash P "InvalidSettingsValueError",st "InvalidSettingsValueError" 311,rf 79⟩,⟨PyData.keyHash P "SettingCodes",st "SettingCodes" 347,rf 91⟩,⟨PyData.keyHash P "ChangedSetting",st "ChangedSetting" 380,rf 112⟩,⟨PyData.keyHash P "Settings",st "Settings" 650,rf 338⟩,⟨PyData.keyHash P "_validate_setting",st "_validate_setting" 660,rf 350⟩,⟨PyData.keyHash P "_law_codes",st "_law_codes" 668,rf 357⟩,⟨PyData.keyHash P "_law_values",st "_law_values" 674,rf 364⟩,⟨PyData.keyHash P "_law_fault",st "_law_fault" 682,rf 371⟩,⟨PyData.keyHash P "_law_new",st "_law_new" 691,rf 378⟩,⟨PyData.keyHash P "_law_put",st "_law_put" 702,rf 385⟩,⟨PyData.keyHash P "_law_received",st "_law_received" 712,rf 392⟩,⟨PyData.keyHash P "_law_read",st "_law_read" 720,rf 399⟩,⟨PyData.keyHash P "_law_fits",st "_law_fits" 729,rf 406⟩,⟨PyData.keyHash P "_law_named",st "_law_named" 737,rf 413⟩,⟨PyData.keyHash P "_law_gone",st "_law_gone" 745,rf 420⟩,⟨PyData.keyHash P "_law_now",st "_law_now" 754,rf 427⟩,⟨PyData.keyHash P "_law_alike",st "_law_alike" 760,rf 432⟩,⟨PyData.keyHash P "law",st "law" 766,rf 437⟩] 31) #[])) ::
(nat_lit 15,(ob (.type "tuple") .none (.seq #[] 0) #[])) ::
(nat_lit 17,(ob (.type "tuple") .none (.seq #[st "k" 190] 0) #[])) ::
(nat_lit 18,(ob (.type "tuple") .none (.seq #[] 0) #[])) ::
(nat_lit 20,(ob (.type "code") .none (.fields #[st "_wall" 187,st "_wall" 188,st "/claim/cut.py" 189,it 1 0,it 1 0,it 0 0,it 0 0,it 3 0,rf 15,.bool true,it 181 0,rf 16,.none,rf 17,rf 18,rf 19,it 191 0,it 1 0,st "/claim/cut.py" 192]) #[])) ::
(nat_lit 21,(ob (.type "function") .none (.func (fd "_wall" "_wall" a0 (.stmts b0) s0 3 [] .none .none .none (st "__main__" 164) .none (rf 20) .none 0)) #[])) ::
(nat_lit 29,(ob (.type "tuple") .none (.seq #[] 0) #[])) ::
(nat_lit 30,(ob (.type "dict") .none (.dict #[⟨PyData.keyHash P "__module__",st "__module__" 203,st "h2.errors" 194⟩,⟨PyData.keyHash P "__firstlineno__",st "__firstlineno__" 207,it 5 206⟩,⟨PyData.keyHash P "NO_ERROR",st "NO_ERROR" 209,it 0 208⟩,⟨PyData.keyHash P "PROTOCOL_ERROR",st "PROTOCOL_ERROR" 211,it 1 210⟩,⟨PyData.keyHash P "INTERNAL_ERROR",st "INTERNAL_ERROR" 213,it 2 212⟩,⟨PyData.keyHash P "FLOW_CONTROL_ERROR",st "FLOW_CONTROL_ERROR" 215,it 3 214⟩,⟨PyData.keyHash P "SETTINGS_TIMEOUT",st "SETTINGS_TIMEOUT" 217,it 4 216⟩,⟨PyData.keyHash P "STREAM_CLOSED",st "STREAM_CLOSED" 219,it 5 218⟩,⟨PyData.keyHash P "FRAME_SIZE_ERROR",st "FRAME_SIZE_ERROR" 221,it 6 220⟩,⟨PyData.keyHash P "REFUSED_STREAM",st "REFUSED_STREAM" 223,it 7 222⟩,⟨PyData.keyHash P "CANCEL",st "CANCEL" 225,it 8 224⟩,⟨PyData.keyHash P "COMPRESSION_ERROR",st "COMPRESSION_ERROR" 227,it 9 226⟩,⟨PyData.keyHash P "CONNECT_ERROR",st "CONNECT_ERROR" 229,it 10 228⟩,⟨PyData.keyHash P "ENHANCE_YOUR_CALM",st "ENHANCE_YOUR_CALM" 231,it 11 230⟩,⟨PyData.keyHash P "INADEQUATE_SECURITY",st "INADEQUATE_SECURITY" 233,it 12 232⟩,⟨PyData.keyHash P "HTTP_1_1_REQUIRED",st "HTTP_1_1_REQUIRED" 235,it 13 234⟩,⟨PyData.keyHash P "__static_attributes__",st "__static_attributes__" 236,rf 29⟩,⟨PyData.keyHash P "__dict__",st "__dict__" 238,rf 32⟩,⟨PyData.keyHash P "__weakref__",st "__weakref__" 240,rf 33⟩,⟨PyData.keyHash P "__doc__",st "__doc__" 241,.none⟩] 4) #[])) ::
(nat_lit 31,(ob (.type "type") .none (.cls (cd "ErrorCodes" [.type "object"] [rf 31,.type "object"] 30 "ErrorCodes" true [] [] false .none false)) (#[.none,.none,.some (st "ErrorCodes" 196),.some (st "ErrorCodes" 204),.some (.builtin "object.__new__"),.some (.bool true)]))) ::
(nat_lit 32,(ob (.type "getset_descriptor") .none (.fields #[st "__dict__" 237,rf 31,.builtin "function.__dict__",.builtin "function.__dict__#set"]) #[])) ::
(nat_lit 33,(ob (.type "getset_descriptor") .none (.fields #[st "__weakref__" 239,rf 31,.builtin "ExceptionGroup.__weakref__",.none]) #[])) ::
(nat_lit 36,(ob (.type "tuple") .none (.seq #[.type "Exception"] 0) #[])) ::
(nat_lit 43,(ob (.type "tuple") .none (.seq #[] 0) #[])) ::
(nat_lit 44,(ob (.type "dict") .none (.dict #[⟨PyData.keyHash P "__module__",st "__module__" 253,st "h2.exceptions" 244⟩,⟨PyData.keyHash P "__firstlineno__",st "__firstlineno__" 257,it 21 256⟩,⟨PyData.keyHash P "__static_attributes__",st "__static_attributes__" 258,rf 43⟩,⟨PyData.keyHash P "__weakref__",st "__weakref__" 260,rf 46⟩,⟨PyData.keyHash P "__doc__",st "__doc__" 261,.none⟩] 3) #[])) ::
(nat_lit 45,(ob (.type "type") .none (.cls (cd "H2Error" [.type "Exception"] [rf 45,.type "Exception",.type "BaseException",.type "object"] 44 "H2Error" true [] [rf 58] false .none false)) (#[.some (rf 36),.none,.some (st "H2Error" 246),.some (st "H2Error" 254),.some (.builtin "Exception.__new__"),.some (.bool true)]))) ::
(nat_lit 46,(ob (.type "getset_descriptor") .none (.fields #[st "__weakref__" 259,rf 45,.builtin "ExceptionGroup.__weakref__",.none]) #[])) ::
(nat_lit 49,(ob (.type "tuple") .none (.seq #[rf 45] 0) #[])) ::
(nat_lit 56,(ob (.type "tuple") .none (.seq #[] 0) #[])) ::
(nat_lit 57,(ob (.type "dict") .none (.dict #[⟨PyData.keyHash P "__module__",st "__module__" 273,st "h2.exceptions" 244⟩,⟨PyData.keyHash P "__firstlineno__",st "__firstlineno__" 277,it 23 276⟩,⟨PyData.keyHash P "error_code",st "error_code" 279,it 1 210⟩,⟨PyData.keyHash P "__static_attributes__",st "__static_attributes__" 280,rf 56⟩,⟨PyData.keyHash P "__doc__",st "__doc__" 281,.none⟩] 2) #[])) ::
(nat_lit 58,(ob (.type "type") .none (.cls (cd "ProtocolError" [rf 45] [rf 58,rf 45,.type "Exception",.type "BaseException",.type "object"] 57 "ProtocolError" true [] [rf 79] false .none false)) (#[.some (rf 49),.none,.some (st "ProtocolError" 266),.some (st "ProtocolError" 274),.some (.builtin "Exception.__new__"),.some (.bool true)]))) ::
(nat_lit 61,(ob (.type "tuple") .none (.seq #[rf 58] 0) #[])) ::
(nat_lit 64,(ob (.type "cell") .none (.cell (.some (rf 79))) #[])) ::
(nat_lit 69,(ob (.type "tuple") .none (.seq #[rf 64] 0) #[])) ::
(nat_lit 70,(ob (.type "tuple") .none (.seq #[st "__class__" 299] 0) #[])) ::
(nat_lit 72,(ob (.type "tuple") .none (.seq #[st "self" 300,st "msg" 301,st "error_code" 302] 0) #[])) ::
(nat_lit 73,(ob (.type "tuple") .none (.seq #[] 0) #[])) ::
(nat_lit 75,(ob (.type "code") .none (.fields #[st "__init__" 296,st "InvalidSettingsValueError.__init__" 297,st "/claim/cut.py" 298,it 27 0,it 3 0,it 0 0,it 0 0,it 3 0,rf 70,.bool true,it 181 0,rf 71,.none,rf 72,rf 73,rf 74,it 303 0,it 27 0,st "/claim/cut.py" 304]) #[])) ::
(nat_lit 76,(ob (.type "function") .none (.func (fd "__init__" "InvalidSettingsValueError.__init__" a6q0 (.stmts b6q0) s6q0 3 [("__class__",64)] .none .none .none (st "h2.exceptions" 244) .none (rf 75) (rf 69) 0)) #[])) ::
(nat_lit 77,(ob (.type "tuple") .none (.seq #[st "error_code" 306] 0) #[])) ::
(nat_lit 78,(ob (.type "dict") .none (.dict #[⟨PyData.keyHash P "__module__",st "__module__" 291,st "h2.exceptions" 244⟩,⟨PyData.keyHash P "__firstlineno__",st "__firstlineno__" 295,it 25 294⟩,⟨PyData.keyHash P "__init__",st "__init__" 305,rf 76⟩,⟨PyData.keyHash P "__static_attributes__",st "__static_attributes__" 307,rf 77⟩,⟨PyData.keyHash P "__doc__",st "__doc__" 309,.none⟩] 3) #[])) ::
(nat_lit 79,(ob (.type "type") .none (.cls (cd "InvalidSettingsValueError" [rf 58] [rf 79,rf 58,rf 45,.type "Exception",.type "BaseException",.type "object"] 78 "InvalidSettingsValueError" true [] [] false .none false)) (#[.some (rf 61),.none,.some (st "InvalidSettingsValueError" 284),.some (st "InvalidSettingsValueError" 292),.some (.builtin "Exception.__new__"),.some (.bool true)]))) ::
(nat_lit 89,(ob (.type "tuple") .none (.seq #[] 0) #[])) ::
(nat_lit 90,(ob (.type "dict") .none (.dict #[⟨PyData.keyHash P "__module__",st "__module__" 321,st "h2.settings" 312⟩,⟨PyData.keyHash P "__firstlineno__",st "__firstlineno__" 325,it 31 324⟩,⟨PyData.keyHash P "HEADER_TABLE_SIZE",st "HEADER_TABLE_SIZE" 327,it 1 326⟩,⟨PyData.keyHash P "ENABLE_PUSH",st "ENABLE_PUSH" 329,it 2 328⟩,⟨PyData.keyHash P "MAX_CONCURRENT_STREAMS",st "MAX_CONCURRENT_STREAMS" 331,it 3 330⟩,⟨PyData.keyHash P "INITIAL_WINDOW_SIZE",st "INITIAL_WINDOW_SIZE" 333,it 4 332⟩,⟨PyData.keyHash P "MAX_FRAME_SIZE",st "MAX_FRAME_SIZE" 335,it 5 334⟩,⟨PyData.keyHash P "MAX_HEADER_LIST_SIZE",st "MAX_HEADER_LIST_SIZE" 337,it 6 336⟩,⟨PyData.keyHash P "ENABLE_CONNECT_PROTOCOL",st "ENABLE_CONNECT_PROTOCOL" 339,it 8 338⟩,⟨PyData.keyHash P "__static_attributes__",st "__static_attributes__" 340,rf 89⟩,⟨PyData.keyHash P "__dict__",st "__dict__" 342,rf 92⟩,⟨PyData.keyHash P "__weakref__",st "__weakref__" 344,rf 93⟩,⟨PyData.keyHash P "__doc__",st "__doc__" 345,.none⟩] 4) #[])) ::
(nat_lit 91,(ob (.type "type") .none (.cls (cd "SettingCodes" [.type "object"] [rf 91,.type "object"] 90 "SettingCodes" true [] [] false .none false)) (#[.none,.none,.some (st "SettingCodes" 314),.some (st "SettingCodes" 322),.some (.builtin "object.__new__"),.some (.bool true)]))) ::
(nat_lit 92,(ob (.type "getset_descriptor") .none (.fields #[st "__dict__" 341,rf 91,.builtin "function.__dict__",.builtin "function.__dict__#set"]) #[])) ::
(nat_lit 93,(ob (.type "getset_descriptor") .none (.fields #[st "__weakref__" 343,rf 91,.builtin "ExceptionGroup.__weakref__",.none]) #[])) ::
(nat_lit 103,(ob (.type "tuple") .none (.seq #[] 0) #[])) ::
(nat_lit 105,(ob (.type "tuple") .none (.seq #[st "self" 363,st "setting" 364,st "original_value" 365,st "new_value" 366] 0) #[])) ::
(nat_lit 106,(ob (.type "tuple") .none (.seq #[] 0) #[])) ::
(nat_lit 108,(ob (.type "code") .none (.fields #[st "__init__" 360,st "ChangedSetting.__init__" 361,st "/claim/cut.py" 362,it 41 0,it 4 0,it 0 0,it 0 0,it 3 0,rf 103,.bool true,it 181 0,rf 104,.none,rf 105,rf 106,rf 107,it 367 0,it 41 0,st "/claim/cut.py" 368]) #[])) ::
(nat_lit 109,(ob (.type "function") .none (.func (fd "__init__" "ChangedSetting.__init__" a9q0 (.stmts b9q0) s9q0 3 [] .none .none .none (st "h2.settings" 312) .none (rf 108) .none 0)) #[])) ::
(nat_lit 110,(ob (.type "tuple") .none (.seq #[st "new_value" 370,st "original_value" 371,st "setting" 372] 0) #[])) ::
(nat_lit 111,(ob (.type "dict") .none (.dict #[⟨PyData.keyHash P "__module__",st "__module__" 355,st "h2.settings" 312⟩,⟨PyData.keyHash P "__firstlineno__",st "__firstlineno__" 359,it 39 358⟩,⟨PyData.keyHash P "__init__",st "__init__" 369,rf 109⟩,⟨PyData.keyHash P "__static_attributes__",st "__static_attributes__" 373,rf 110⟩,⟨PyData.keyHash P "__dict__",st "__dict__" 375,rf 113⟩,⟨PyData.keyHash P "__weakref__",st "__weakref__" 377,rf 114⟩,⟨PyData.keyHash P "__doc__",st "__doc__" 378,.none⟩] 4) #[])) ::
(nat_lit 112,(ob (.type "type") .none (.cls (cd "ChangedSetting" [.type "object"] [rf 112,.type "object"] 111 "ChangedSetting" true [] [] false .none false)) (#[.none,.none,.some (st "ChangedSetting" 348),.some (st "ChangedSetting" 356),.some (.builtin "object.__new__"),.some (.bool true)]))) ::
(nat_lit 113,(ob (.type "getset_descriptor") .none (.fields #[st "__dict__" 374,rf 112,.builtin "function.__dict__",.builtin "function.__dict__#set"]) #[])) ::
(nat_lit 114,(ob (.type "getset_descriptor") .none (.fields #[st "__weakref__" 376,rf 112,.builtin "ExceptionGroup.__weakref__",.none]) #[])) ::
(nat_lit 124,(ob (.type "tuple") .none (.seq #[.bool true,.none] 0) #[])) ::
(nat_lit 125,(ob (.type "tuple") .none (.seq #[] 0) #[])) ::
(nat_lit 127,(ob (.type "tuple") .none (.seq #[st "self" 396,st "client" 397,st "initial_values" 398,st "key" 399,st "value" 400,st "invalid" 401,st "msg" 402] 0) #[])) ::
(nat_lit 128,(ob (.type "tuple") .none (.seq #[] 0) #[])) ::
(nat_lit 130,(ob (.type "code") .none (.fields #[st "__init__" 393,st "Settings.__init__" 394,st "/claim/cut.py" 395,it 47 0,it 3 0,it 0 0,it 0 0,it 3 0,rf 125,.bool true,it 181 0,rf 126,.none,rf 127,rf 128,rf 129,it 403 0,it 47 0,st "/claim/cut.py" 404]) #[])) ::
(nat_lit 131,(ob (.type "function") .none (.func (fd "__init__" "Settings.__init__" a10q0 (.stmts b10q0) s10q0 3 [] (rf 124) .none .none (st "h2.settings" 312) .none (rf 130) .none 0)) #[])) ::
(nat_lit 132,(ob (.type "tuple") .none (.seq #[] 0) #[])) ::
(nat_lit 134,(ob (.type "tuple") .none (.seq #[st "self" 409,st "changed_settings" 410,st "k" 411,st "v" 412,st "old_setting" 413,st "new_setting" 414] 0) #[])) ::
(nat_lit 135,(ob (.type "tuple") .none (.seq #[] 0) #[])) ::
(nat_lit 137,(ob (.type "code") .none (.fields #[st "acknowledge" 406,st "Settings.acknowledge" 407,st "/claim/cut.py" 408,it 58 0,it 1 0,it 0 0,it 0 0,it 3 0,rf 132,.bool true,it 181 0,rf 133,.none,rf 134,rf 135,rf 136,it 415 0,it 58 0,st "/claim/cut.py" 416]) #[])) ::
(nat_lit 138,(ob (.type "function") .none (.func (fd "acknowledge" "Settings.acknowledge" a10q1 (.stmts b10q1) s10q1 3 [] .none .none .none (st "h2.settings" 312) .none (rf 137) .none 0)) #[])) ::
(nat_lit 139,(ob (.type "tuple") .none (.seq #[] 0) #[])) ::
(nat_lit 141,(ob (.type "tuple") .none (.seq #[st "self" 421] 0) #[])) ::
(nat_lit 142,(ob (.type "tuple") .none (.seq #[] 0) #[])) ::
(nat_lit 144,(ob (.type "code") .none (.fields #[st "header_table_size" 418,st "Settings.header_table_size" 419,st "/claim/cut.py" 420,it 67 0,it 1 0,it 0 0,it 0 0,it 3 0,rf 139,.bool true,it 181 0,rf 140,.none,rf 141,rf 142,rf 143,it 422 0,it 67 0,st "/claim/cut.py" 423]) #[])) ::
(nat_lit 145,(ob (.type "function") .none (.func (fd "header_table_size" "Settings.header_table_size" a10q2 (.stmts b10q2) s10q2 3 [] .none .none .none (st "h2.settings" 312) .none (rf 144) .none 0)) #[])) ::
(nat_lit 148,(ob (.type "tuple") .none (.seq #[] 0) #[])) ::
(nat_lit 150,(ob (.type "tuple") .none (.seq #[st "self" 430,st "value" 431] 0) #[])) ::
(nat_lit 151,(ob (.type "tuple") .none (.seq #[] 0) #[])) ::
(nat_lit 153,(ob (.type "code") .none (.fields #[st "header_table_size" 427,st "Settings.header_table_size" 428,st "/claim/cut.py" 429,it 71 0,it 2 0,it 0 0,it 0 0,it 3 0,rf 148,.bool true,it 181 0,rf 149,.none,rf 150,rf 151,rf 152,it 432 0,it 71 0,st "/claim/cut.py" 433]) #[])) ::
(nat_lit 154,(ob (.type "function") .none (.func (fd "header_table_size" "Settings.header_table_size" a10q3 (.stmts b10q3) s10q3 3 [] .none .none .none (st "h2.settings" 312) .none (rf 153) .none 0)) #[])) ::
(nat_lit 155,(ob (.type "property") .none (.fields #[rf 145,rf 154,.none,.none,st "header_table_size" 425,.bool false]) #[])) ::
(nat_lit 156,(ob (.type "tuple") .none (.seq #[] 0) #[])) ::
(nat_lit 158,(ob (.type "tuple") .none (.seq #[st "self" 439] 0) #[])) ::
(nat_lit 159,(ob (.type "tuple") .none (.seq #[] 0) #[])) ::
(nat_lit 161,(ob (.type "code") .none (.fields #[st "enable_push" 436,st "Settings.enable_push" 437,st "/claim/cut.py" 438,it 75 0,it 1 0,it 0 0,it 0 0,it 3 0,rf 156,.bool true,it 181 0,rf 157,.none,rf 158,rf 159,rf 160,it 440 0,it 75 0,st "/claim/cut.py" 441]) #[])) ::
(nat_lit 162,(ob (.type "function") .none (.func (fd "enable_push" "Settings.enable_push" a10q4 (.stmts b10q4) s10q4 3 [] .none .none .none (st "h2.settings" 312) .none (rf 161) .none 0)) #[])) ::
(nat_lit 165,(ob (.type "tuple") .none (.seq #[] 0) #[])) ::
(nat_lit 167,(ob (.type "tuple") .none (.seq #[st "self" 448,st "value" 449] 0) #[])) ::
(nat_lit 168,(ob (.type "tuple") .none (.seq #[] 0) #[])) ::
(nat_lit 170,(ob (.type "code") .none (.fields #[st "enable_push" 445,st "Settings.enable_push" 446,st "/claim/cut.py" 447,it 79 0,it 2 0,it 0 0,it 0 0,it 3 0,rf 165,.bool true,it 181 0,rf 166,.none,rf 167,rf 168,rf 169,it 450 0,it 79 0,st "/claim/cut.py" 451]) #[])) ::
(nat_lit 171,(ob (.type "function") .none (.func (fd "enable_push" "Settings.enable_push" a10q5 (.stmts b10q5) s10q5 3 [] .none .none .none (st "h2.settings" 312) .none (rf 170) .none 0)) #[])) ::
(nat_lit 172,(ob (.type "property") .none (.fields #[rf 162,rf 171,.none,.none,st "enable_push" 443,.bool false]) #[])) ::
(nat_lit 173,(ob (.type "tuple") .none (.seq #[] 0) #[])) ::
(nat_lit 175,(ob (.type "tuple") .none (.seq #[st "self" 457] 0) #[])) ::
(nat_lit 176,(ob (.type "tuple") .none (.seq #[] 0) #[])) ::
(nat_lit 178,(ob (.type "code") .none (.fields #[st "initial_window_size" 454,st "Settings.initial_window_size" 455,st "/claim/cut.py" 456,it 83 0,it 1 0,it 0 0,it 0 0,it 3 0,rf 173,.bool true,it 181 0,rf 174,.none,rf 175,rf 176,rf 177,it 458 0,it 83 0,st "/claim/cut.py" 459]) #[])) ::
(nat_lit 179,(ob (.type "function") .none (.func (fd "initial_window_size" "Settings.initial_window_size" a10q6 (.stmts b10q6) s10q6 3 [] .none .none .none (st "h2.settings" 312) .none (rf 178) .none 0)) #[])) ::
(nat_lit 182,(ob (.type "tuple") .none (.seq #[] 0) #[])) ::
(nat_lit 184,(ob (.type "tuple") .none (.seq #[st "self" 466,st "value" 467] 0) #[])) ::
(nat_lit 185,(ob (.type "tuple") .none (.seq #[] 0) #[])) ::
(nat_lit 187,(ob (.type "code") .none (.fields #[st "initial_window_size" 463,st "Settings.initial_window_size" 464,st "/claim/cut.py" 465,it 87 0,it 2 0,it 0 0,it 0 0,it 3 0,rf 182,.bool true,it 181 0,rf 183,.none,rf 184,rf 185,rf 186,it 468 0,it 87 0,st "/claim/cut.py" 469]) #[])) ::
(nat_lit 188,(ob (.type "function") .none (.func (fd "initial_window_size" "Settings.initial_window_size" a10q7 (.stmts b10q7) s10q7 3 [] .none .none .none (st "h2.settings" 312) .none (rf 187) .none 0)) #[])) ::
(nat_lit 189,(ob (.type "property") .none (.fields #[rf 179,rf 188,.none,.none,st "initial_window_size" 461,.bool false]) #[])) ::
(nat_lit 190,(ob (.type "tuple") .none (.seq #[] 0) #[])) ::
(nat_lit 192,(ob (.type "tuple") .none (.seq #[st "self" 475] 0) #[])) ::
(nat_lit 193,(ob (.type "tuple") .none (.seq #[] 0) #[])) ::
(nat_lit 195,(ob (.type "code") .none (.fields #[st "max_frame_size" 472,st "Settings.max_frame_size" 473,st "/claim/cut.py" 474,it 91 0,it 1 0,it 0 0,it 0 0,it 3 0,rf 190,.bool true,it 181 0,rf 191,.none,rf 192,rf 193,rf 194,it 476 0,it 91 0,st "/claim/cut.py" 477]) #[])) ::
(nat_lit 196,(ob (.type "function") .none (.func (fd "max_frame_size" "Settings.max_frame_size" a10q8 (.stmts b10q8) s10q8 3 [] .none .none .none (st "h2.settings" 312) .none (rf 195) .none 0)) #[])) ::
(nat_lit 199,(ob (.type "tuple") .none (.seq #[] 0) #[])) ::
(nat_lit 201,(ob (.type "tuple") .none (.seq #[st "self" 484,st "value" 485] 0) #[])) ::
(nat_lit 202,(ob (.type "tuple") .none (.seq #[] 0) #[])) ::
(nat_lit 204,(ob (.type "code") .none (.fields #[st "max_frame_size" 481,st "Settings.max_frame_size" 482,st "/claim/cut.py" 483,it 95 0,it 2 0,it 0 0,it 0 0,it 3 0,rf 199,.bool true,it 181 0,rf 200,.none,rf 201,rf 202,rf 203,it 486 0,it 95 0,st "/claim/cut.py" 487]) #[])) ::
(nat_lit 205,(ob (.type "function") .none (.func (fd "max_frame_size" "Settings.max_frame_size" a10q9 (.stmts b10q9) s10q9 3 [] .none .none .none (st "h2.settings" 312) .none (rf 204) .none 0)) #[])) ::
(nat_lit 206,(ob (.type "property") .none (.fields #[rf 196,rf 205,.none,.none,st "max_frame_size" 479,.bool false]) #[])) ::
(nat_lit 207,(ob (.type "tuple") .none (.seq #[] 0) #[])) ::
(nat_lit 209,(ob (.type "tuple") .none (.seq #[st "self" 493] 0) #[])) ::
(nat_lit 210,(ob (.type "tuple") .none (.seq #[] 0) #[])) ::
(nat_lit 212,(ob (.type "code") .none (.fields #[st "max_concurrent_streams" 490,st "Settings.max_concurrent_streams" 491,st "/claim/cut.py" 492,it 99 0,it 1 0,it 0 0,it 0 0,it 3 0,rf 207,.bool true,it 181 0,rf 208,.none,rf 209,rf 210,rf 211,it 494 0,it 99 0,st "/claim/cut.py" 495]) #[])) ::
(nat_lit 213,(ob (.type "function") .none (.func (fd "max_concurrent_streams" "Settings.max_concurrent_streams" a10q10 (.stmts b10q10) s10q10 3 [] .none .none .none (st "h2.settings" 312) .none (rf 212) .none 0)) #[])) ::
(nat_lit 216,(ob (.type "tuple") .none (.seq #[] 0) #[])) ::
(nat_lit 218,(ob (.type "tuple") .none (.seq #[st "self" 502,st "value" 503] 0) #[])) ::
(nat_lit 219,(ob (.type "tuple") .none (.seq #[] 0) #[])) ::
(nat_lit 221,(ob (.type "code") .none (.fields #[st "max_concurrent_streams" 499,st "Settings.max_concurrent_streams" 500,st "/claim/cut.py" 501,it 103 0,it 2 0,it 0 0,it 0 0,it 3 0,rf 216,.bool true,it 181 0,rf 217,.none,rf 218,rf 219,rf 220,it 504 0,it 103 0,st "/claim/cut.py" 505]) #[])) ::
(nat_lit 222,(ob (.type "function") .none (.func (fd "max_concurrent_streams" "Settings.max_concurrent_streams" a10q11 (.stmts b10q11) s10q11 3 [] .none .none .none (st "h2.settings" 312) .none (rf 221) .none 0)) #[])) ::
(nat_lit 223,(ob (.type "property") .none (.fields #[rf 213,rf 222,.none,.none,st "max_concurrent_streams" 497,.bool false]) #[])) ::
(nat_lit 224,(ob (.type "tuple") .none (.seq #[] 0) #[])) ::
(nat_lit 226,(ob (.type "tuple") .none (.seq #[st "self" 511] 0) #[])) ::
(nat_lit 227,(ob (.type "tuple") .none (.seq #[] 0) #[])) ::
(nat_lit 229,(ob (.type "code") .none (.fields #[st "max_header_list_size" 508,st "Settings.max_header_list_size" 509,st "/claim/cut.py" 510,it 107 0,it 1 0,it 0 0,it 0 0,it 3 0,rf 224,.bool true,it 181 0,rf 225,.none,rf 226,rf 227,rf 228,it 512 0,it 107 0,st "/claim/cut.py" 513]) #[])) ::
(nat_lit 230,(ob (.type "function") .none (.func (fd "max_header_list_size" "Settings.max_header_list_size" a10q12 (.stmts b10q12) s10q12 3 [] .none .none .none (st "h2.settings" 312) .none (rf 229) .none 0)) #[])) ::
(nat_lit 233,(ob (.type "tuple") .none (.seq #[] 0) #[])) ::
(nat_lit 235,(ob (.type "tuple") .none (.seq #[st "self" 520,st "value" 521] 0) #[])) ::
(nat_lit 236,(ob (.type "tuple") .none (.seq #[] 0) #[])) ::
(nat_lit 238,(ob (.type "code") .none (.fields #[st "max_header_list_size" 517,st "Settings.max_header_list_size" 518,st "/claim/cut.py" 519,it 111 0,it 2 0,it 0 0,it 0 0,it 3 0,rf 233,.bool true,it 181 0,rf 234,.none,rf 235,rf 236,rf 237,it 522 0,it 111 0,st "/claim/cut.py" 523]) #[])) ::
(nat_lit 239,(ob (.type "function") .none (.func (fd "max_header_list_size" "Settings.max_header_list_size" a10q13 (.stmts b10q13) s10q13 3 [] .none .none .none (st "h2.settings" 312) .none (rf 238) .none 0)) #[])) ::
(nat_lit 240,(ob (.type "property") .none (.fields #[rf 230,rf 239,.none,.none,st "max_header_list_size" 515,.bool false]) #[])) ::
(nat_lit 241,(ob (.type "tuple") .none (.seq #[] 0) #[])) ::
(nat_lit 243,(ob (.type "tuple") .none (.seq #[st "self" 529] 0) #[])) ::
(nat_lit 244,(ob (.type "tuple") .none (.seq #[] 0) #[])) ::
(nat_lit 246,(ob (.type "code") .none (.fields #[st "enable_connect_protocol" 526,st "Settings.enable_connect_protocol" 527,st "/claim/cut.py" 528,it 115 0,it 1 0,it 0 0,it 0 0,it 3 0,rf 241,.bool true,it 181 0,rf 242,.none,rf 243,rf 244,rf 245,it 530 0,it 115 0,st "/claim/cut.py" 531]) #[])) ::
(nat_lit 247,(ob (.type "function") .none (.func (fd "enable_connect_protocol" "Settings.enable_connect_protocol" a10q14 (.stmts b10q14) s10q14 3 [] .none .none .none (st "h2.settings" 312) .none (rf 246) .none 0)) #[])) ::
(nat_lit 250,(ob (.type "tuple") .none (.seq #[] 0) #[])) ::
(nat_lit 252,(ob (.type "tuple") .none (.seq #[st "self" 538,st "value" 539] 0) #[])) ::
(nat_lit 253,(ob (.type "tuple") .none (.seq #[] 0) #[])) ::
(nat_lit 255,(ob (.type "code") .none (.fields #[st "enable_connect_protocol" 535,st "Settings.enable_connect_protocol" 536,st "/claim/cut.py" 537,it 119 0,it 2 0,it 0 0,it 0 0,it 3 0,rf 250,.bool true,it 181 0,rf 251,.none,rf 252,rf 253,rf 254,it 540 0,it 119 0,st "/claim/cut.py" 541]) #[])) ::
(nat_lit 256,(ob (.type "function") .none (.func (fd "enable_connect_protocol" "Settings.enable_connect_protocol" a10q15 (.stmts b10q15) s10q15 3 [] .none .none .none (st "h2.settings" 312) .none (rf 255) .none 0)) #[])) ::
(nat_lit 257,(ob (.type "property") .none (.fields #[rf 247,rf 256,.none,.none,st "enable_connect_protocol" 533,.bool false]) #[])) ::
(nat_lit 258,(ob (.type "tuple") .none (.seq #[] 0) #[])) ::
(nat_lit 260,(ob (.type "tuple") .none (.seq #[st "self" 547,st "key" 548,st "val" 549] 0) #[])) ::
(nat_lit 261,(ob (.type "tuple") .none (.seq #[] 0) #[])) ::
(nat_lit 263,(ob (.type "code") .none (.fields #[st "__getitem__" 544,st "Settings.__getitem__" 545,st "/claim/cut.py" 546,it 123 0,it 2 0,it 0 0,it 0 0,it 3 0,rf 258,.bool true,it 181 0,rf 259,.none,rf 260,rf 261,rf 262,it 550 0,it 123 0,st "/claim/cut.py" 551]) #[])) ::
(nat_lit 264,(ob (.type "function") .none (.func (fd "__getitem__" "Settings.__getitem__" a10q16 (.stmts b10q16) s10q16 3 [] .none .none .none (st "h2.settings" 312) .none (rf 263) .none 0)) #[])) ::
(nat_lit 265,(ob (.type "tuple") .none (.seq #[] 0) #[])) ::
(nat_lit 267,(ob (.type "tuple") .none (.seq #[st "self" 556,st "key" 557,st "value" 558,st "invalid" 559,st "msg" 560,st "items" 561] 0) #[])) ::
(nat_lit 268,(ob (.type "tuple") .none (.seq #[] 0) #[])) ::
(nat_lit 270,(ob (.type "code") .none (.fields #[st "__setitem__" 553,st "Settings.__setitem__" 554,st "/claim/cut.py" 555,it 129 0,it 3 0,it 0 0,it 0 0,it 3 0,rf 265,.bool true,it 181 0,rf 266,.none,rf 267,rf 268,rf 269,it 562 0,it 129 0,st "/claim/cut.py" 563]) #[])) ::
(nat_lit 271,(ob (.type "function") .none (.func (fd "__setitem__" "Settings.__setitem__" a10q17 (.stmts b10q17) s10q17 3 [] .none .none .none (st "h2.settings" 312) .none (rf 270) .none 0)) #[])) ::
(nat_lit 272,(ob (.type "tuple") .none (.seq #[] 0) #[])) ::
(nat_lit 274,(ob (.type "tuple") .none (.seq #[st "self" 568,st "setting" 569,st "value" 570,st "invalid" 571,st "msg" 572] 0) #[])) ::
(nat_lit 275,(ob (.type "tuple") .none (.seq #[] 0) #[])) ::
(nat_lit 277,(ob (.type "code") .none (.fields #[st "validate_received_setting" 565,st "Settings.validate_received_setting" 566,st "/claim/cut.py" 567,it 141 0,it 3 0,it 0 0,it 0 0,it 3 0,rf 272,.bool true,it 181 0,rf 273,.none,rf 274,rf 275,rf 276,it 573 0,it 141 0,st "/claim/cut.py" 574]) #[])) ::
(nat_lit 278,(ob (.type "function") .none (.func (fd "validate_received_setting" "Settings.validate_received_setting" a10q18 (.stmts b10q18) s10q18 3 [] .none .none .none (st "h2.settings" 312) .none (rf 277) .none 0)) #[])) ::
(nat_lit 279,(ob (.type "tuple") .none (.seq #[] 0) #[])) ::
(nat_lit 281,(ob (.type "tuple") .none (.seq #[st "self" 579,st "key" 580] 0) #[])) ::
(nat_lit 282,(ob (.type "tuple") .none (.seq #[] 0) #[])) ::
(nat_lit 284,(ob (.type "code") .none (.fields #[st "__delitem__" 576,st "Settings.__delitem__" 577,st "/claim/cut.py" 578,it 147 0,it 2 0,it 0 0,it 0 0,it 3 0,rf 279,.bool true,it 181 0,rf 280,.none,rf 281,rf 282,rf 283,it 581 0,it 147 0,st "/claim/cut.py" 582]) #[])) ::
(nat_lit 285,(ob (.type "function") .none (.func (fd "__delitem__" "Settings.__delitem__" a10q19 (.stmts b10q19) s10q19 3 [] .none .none .none (st "h2.settings" 312) .none (rf 284) .none 0)) #[])) ::
(nat_lit 286,(ob (.type "tuple") .none (.seq #[] 0) #[])) ::
(nat_lit 288,(ob (.type "tuple") .none (.seq #[st "self" 587,st "key" 588] 0) #[])) ::
(nat_lit 289,(ob (.type "tuple") .none (.seq #[] 0) #[])) ::
(nat_lit 291,(ob (.type "code") .none (.fields #[st "__iter__" 584,st "Settings.__iter__" 585,st "/claim/cut.py" 586,it 150 0,it 1 0,it 0 0,it 0 0,it 35 0,rf 286,.bool true,it 181 0,rf 287,.none,rf 288,rf 289,rf 290,it 589 0,it 150 0,st "/claim/cut.py" 590]) #[])) ::
(nat_lit 292,(ob (.type "function") .none (.func (fd "__iter__" "Settings.__iter__" a10q20 (.stmts b10q20) s10q20 3 [] .none .none .none (st "h2.settings" 312) .none (rf 291) .none 0)) #[])) ::
(nat_lit 293,(ob (.type "tuple") .none (.seq #[] 0) #[])) ::
(nat_lit 295,(ob (.type "tuple") .none (.seq #[st "self" 595] 0) #[])) ::
(nat_lit 296,(ob (.type "tuple") .none (.seq #[] 0) #[])) ::
(nat_lit 298,(ob (.type "code") .none (.fields #[st "__len__" 592,st "Settings.__len__" 593,st "/claim/cut.py" 594,it 154 0,it 1 0,it 0 0,it 0 0,it 3 0,rf 293,.bool true,it 181 0,rf 294,.none,rf 295,rf 296,rf 297,it 596 0,it 154 0,st "/claim/cut.py" 597]) #[])) ::
(nat_lit 299,(ob (.type "function") .none (.func (fd "__len__" "Settings.__len__" a10q21 (.stmts b10q21) s10q21 3 [] .none .none .none (st "h2.settings" 312) .none (rf 298) .none 0)) #[])) ::
(nat_lit 300,(ob (.type "tuple") .none (.seq #[] 0) #[])) ::
(nat_lit 302,(ob (.type "tuple") .none (.seq #[st "self" 602,st "key" 603] 0) #[])) ::
(nat_lit 303,(ob (.type "tuple") .none (.seq #[] 0) #[])) ::
(nat_lit 305,(ob (.type "code") .none (.fields #[st "__contains__" 599,st "Settings.__contains__" 600,st "/claim/cut.py" 601,it 157 0,it 2 0,it 0 0,it 0 0,it 3 0,rf 300,.bool true,it 181 0,rf 301,.none,rf 302,rf 303,rf 304,it 604 0,it 157 0,st "/claim/cut.py" 605]) #[])) ::
(nat_lit 306,(ob (.type "function") .none (.func (fd "__contains__" "Settings.__contains__" a10q22 (.stmts b10q22) s10q22 3 [] .none .none .none (st "h2.settings" 312) .none (rf 305) .none 0)) #[])) ::
(nat_lit 307,(ob (.type "tuple") .none (.seq #[.none] 0) #[])) ::
(nat_lit 308,(ob (.type "tuple") .none (.seq #[] 0) #[])) ::
(nat_lit 310,(ob (.type "tuple") .none (.seq #[st "self" 610,st "key" 611,st "default" 612] 0) #[])) ::
(nat_lit 311,(ob (.type "tuple") .none (.seq #[] 0) #[])) ::
(nat_lit 313,(ob (.type "code") .none (.fields #[st "get" 607,st "Settings.get" 608,st "/claim/cut.py" 609,it 165 0,it 3 0,it 0 0,it 0 0,it 3 0,rf 308,.bool true,it 181 0,rf 309,.none,rf 310,rf 311,rf 312,it 613 0,it 165 0,st "/claim/cut.py" 614]) #[])) ::
(nat_lit 314,(ob (.type "function") .none (.func (fd "get" "Settings.get" a10q23 (.stmts b10q23) s10q23 3 [] (rf 307) .none .none (st "h2.settings" 312) .none (rf 313) .none 0)) #[])) ::
(nat_lit 315,(ob (.type "tuple") .none (.seq #[] 0) #[])) ::
(nat_lit 317,(ob (.type "tuple") .none (.seq #[st "self" 619,st "other" 620] 0) #[])) ::
(nat_lit 318,(ob (.type "tuple") .none (.seq #[] 0) #[])) ::
(nat_lit 320,(ob (.type "code") .none (.fields #[st "update" 616,st "Settings.update" 617,st "/claim/cut.py" 618,it 171 0,it 2 0,it 0 0,it 0 0,it 3 0,rf 315,.bool true,it 181 0,rf 316,.none,rf 317,rf 318,rf 319,it 621 0,it 171 0,st "/claim/cut.py" 622]) #[])) ::
(nat_lit 321,(ob (.type "function") .none (.func (fd "update" "Settings.update" a10q24 (.stmts b10q24) s10q24 3 [] .none .none .none (st "h2.settings" 312) .none (rf 320) .none 0)) #[])) ::
(nat_lit 322,(ob (.type "tuple") .none (.seq #[] 0) #[])) ::
(nat_lit 324,(ob (.type "tuple") .none (.seq #[st "self" 627,st "other" 628] 0) #[])) ::
(nat_lit 325,(ob (.type "tuple") .none (.seq #[] 0) #[])) ::
(nat_lit 327,(ob (.type "code") .none (.fields #[st "__eq__" 624,st "Settings.__eq__" 625,st "/claim/cut.py" 626,it 174 0,it 2 0,it 0 0,it 0 0,it 3 0,rf 322,.bool true,it 181 0,rf 323,.none,rf 324,rf 325,rf 326,it 629 0,it 174 0,st "/claim/cut.py" 630]) #[])) ::
(nat_lit 328,(ob (.type "function") .none (.func (fd "__eq__" "Settings.__eq__" a10q25 (.stmts b10q25) s10q25 3 [] .none .none .none (st "h2.settings" 312) .none (rf 327) .none 0)) #[])) ::
(nat_lit 329,(ob (.type "tuple") .none (.seq #[] 0) #[])) ::
(nat_lit 331,(ob (.type "tuple") .none (.seq #[st "self" 635,st "other" 636] 0) #[])) ::
(nat_lit 332,(ob (.type "tuple") .none (.seq #[] 0) #[])) ::
(nat_lit 334,(ob (.type "code") .none (.fields #[st "__ne__" 632,st "Settings.__ne__" 633,st "/claim/cut.py" 634,it 179 0,it 2 0,it 0 0,it 0 0,it 3 0,rf 329,.bool true,it 181 0,rf 330,.none,rf 331,rf 332,rf 333,it 637 0,it 179 0,st "/claim/cut.py" 638]) #[])) ::
(nat_lit 335,(ob (.type "function") .none (.func (fd "__ne__" "Settings.__ne__" a10q26 (.stmts b10q26) s10q26 3 [] .none .none .none (st "h2.settings" 312) .none (rf 334) .none 0)) #[])) ::
(nat_lit 336,(ob (.type "tuple") .none (.seq #[st "_client" 640,st "_settings" 641] 0) #[])) ::
(nat_lit 337,(ob (.type "dict") .none (.dict #[⟨PyData.keyHash P "__module__",st "__module__" 388,st "h2.settings" 312⟩,⟨PyData.keyHash P "__firstlineno__",st "__firstlineno__" 392,it 45 391⟩,⟨PyData.keyHash P "__init__",st "__init__" 405,rf 131⟩,⟨PyData.keyHash P "acknowledge",st "acknowledge" 417,rf 138⟩,⟨PyData.keyHash P "header_table_size",st "header_table_size" 425,rf 155⟩,⟨PyData.keyHash P "enable_push",st "enable_push" 443,rf 172⟩,⟨PyData.keyHash P "initial_window_size",st "initial_window_size" 461,rf 189⟩,⟨PyData.keyHash P "max_frame_size",st "max_frame_size" 479,rf 206⟩,⟨PyData.keyHash P "max_concurrent_streams",st "max_concurrent_streams" 497,rf 223⟩,⟨PyData.keyHash P "max_header_list_size",st "max_header_list_size" 515,rf 240⟩,⟨PyData.keyHash P "enable_connect_protocol",st "enable_connect_protocol" 533,rf 257⟩,⟨PyData.keyHash P "__getitem__",st "__getitem__" 552,rf 264⟩,⟨PyData.keyHash P "__setitem__",st "__setitem__" 564,rf 271⟩,⟨PyData.keyHash P "validate_received_setting",st "validate_received_setting" 575,rf 278⟩,⟨PyData.keyHash P "__delitem__",st "__delitem__" 583,rf 285⟩,⟨PyData.keyHash P "__iter__",st "__iter__" 591,rf 292⟩,⟨PyData.keyHash P "__len__",st "__len__" 598,rf 299⟩,⟨PyData.keyHash P "__contains__",st "__contains__" 606,rf 306⟩,⟨PyData.keyHash P "get",st "get" 615,rf 314⟩,⟨PyData.keyHash P "update",st "update" 623,rf 321⟩,⟨PyData.keyHash P "__eq__",st "__eq__" 631,rf 328⟩,⟨PyData.keyHash P "__ne__",st "__ne__" 639,rf 335⟩,⟨PyData.keyHash P "__static_attributes__",st "__static_attributes__" 642,rf 336⟩,⟨PyData.keyHash P "__dict__",st "__dict__" 644,rf 339⟩,⟨PyData.keyHash P "__weakref__",st "__weakref__" 646,rf 340⟩,⟨PyData.keyHash P "__doc__",st "__doc__" 647,.none⟩,⟨PyData.keyHash P "__hash__",st "__hash__" 648,.none⟩] 5) #[])) ::
(nat_lit 338,(ob (.type "type") .none (.cls (cd "Settings" [.type "object"] [rf 338,.type "object"] 337 "Settings" true [] [] false .none false)) (#[.none,.none,.some (st "Settings" 381),.some (st "Settings" 389),.some (.builtin "object.__new__"),.some (.bool true)]))) ::
(nat_lit 339,(ob (.type "getset_descriptor") .none (.fields #[st "__dict__" 643,rf 338,.builtin "function.__dict__",.builtin "function.__dict__#set"]) #[])) ::
(nat_lit 340,(ob (.type "getset_descriptor") .none (.fields #[st "__weakref__" 645,rf 338,.builtin "ExceptionGroup.__weakref__",.none]) #[])) ::
(nat_lit 343,(ob (.type "dict") .none (.dict #[⟨PyData.keyHash P "client",st "client" 651,.none⟩] 1) #[])) ::
(nat_lit 344,(ob (.type "tuple") .none (.seq #[] 0) #[])) ::
(nat_lit 346,(ob (.type "tuple") .none (.seq #[st "setting" 655,st "value" 656,st "client" 657] 0) #[])) ::
(nat_lit 347,(ob (.type "tuple") .none (.seq #[] 0) #[])) ::
(nat_lit 349,(ob (.type "code") .none (.fields #[st "_validate_setting" 652,st "_validate_setting" 653,st "/claim/cut.py" 654,it 183 0,it 2 0,it 0 0,it 1 0,it 3 0,rf 344,.bool true,it 181 0,rf 345,.none,rf 346,rf 347,rf 348,it 658 0,it 183 0,st "/claim/cut.py" 659]) #[])) ::
(nat_lit 350,(ob (.type "function") .none (.func (fd "_validate_setting" "_validate_setting" a11 (.stmts b11) s11 3 [] .none (rf 343) .none (st "h2.settings" 312) .none (rf 349) .none 0)) #[])) ::
(nat_lit 351,(ob (.type "tuple") .none (.seq #[] 0) #[])) ::
(nat_lit 353,(ob (.type "tuple") .none (.seq #[] 0) #[])) ::
(nat_lit 354,(ob (.type "tuple") .none (.seq #[] 0) #[])) ::
(nat_lit 356,(ob (.type "code") .none (.fields #[st "_law_codes" 663,st "_law_codes" 664,st "/claim/cut.py" 665,it 200 0,it 0 0,it 0 0,it 0 0,it 3 0,rf 351,.bool true,it 181 0,rf 352,.none,rf 353,rf 354,rf 355,it 666 0,it 200 0,st "/claim/cut.py" 667]) #[])) ::
(nat_lit 357,(ob (.type "function") .none (.func (fd "_law_codes" "_law_codes" a13 (.stmts b13) s13 3 [] .none .none .none (st "law_ix0031_01" 661) .none (rf 356) .none 0)) #[])) ::
(nat_lit 358,(ob (.type "tuple") .none (.seq #[] 0) #[])) ::
(nat_lit 360,(ob (.type "tuple") .none (.seq #[] 0) #[])) ::
(nat_lit 361,(ob (.type "tuple") .none (.seq #[] 0) #[])) ::
(nat_lit 363,(ob (.type "code") .none (.fields #[st "_law_values" 669,st "_law_values" 670,st "/claim/cut.py" 671,it 202 0,it 0 0,it 0 0,it 0 0,it 3 0,rf 358,.bool true,it 181 0,rf 359,.none,rf 360,rf 361,rf 362,it 672 0,it 202 0,st "/claim/cut.py" 673]) #[])) ::
(nat_lit 364,(ob (.type "function") .none (.func (fd "_law_values" "_law_values" a14 (.stmts b14) s14 3 [] .none .none .none (st "law_ix0031_01" 661) .none (rf 363) .none 0)) #[])) ::
(nat_lit 365,(ob (.type "tuple") .none (.seq #[] 0) #[])) ::
(nat_lit 367,(ob (.type "tuple") .none (.seq #[st "code" 678,st "value" 679] 0) #[])) ::
(nat_lit 368,(ob (.type "tuple") .none (.seq #[] 0) #[])) ::
(nat_lit 370,(ob (.type "code") .none (.fields #[st "_law_fault" 675,st "_law_fault" 676,st "/claim/cut.py" 677,it 204 0,it 2 0,it 0 0,it 0 0,it 3 0,rf 365,.bool true,it 181 0,rf 366,.none,rf 367,rf 368,rf 369,it 680 0,it 204 0,st "/claim/cut.py" 681]) #[])) ::
(nat_lit 371,(ob (.type "function") .none (.func (fd "_law_fault" "_law_fault" a15 (.stmts b15) s15 3 [] .none .none .none (st "law_ix0031_01" 661) .none (rf 370) .none 0)) #[])) ::
(nat_lit 372,(ob (.type "tuple") .none (.seq #[] 0) #[])) ::
(nat_lit 374,(ob (.type "tuple") .none (.seq #[st "client" 686,st "first" 687,st "error" 688] 0) #[])) ::
(nat_lit 375,(ob (.type "tuple") .none (.seq #[] 0) #[])) ::
(nat_lit 377,(ob (.type "code") .none (.fields #[st "_law_new" 683,st "_law_new" 684,st "/claim/cut.py" 685,it 214 0,it 2 0,it 0 0,it 0 0,it 3 0,rf 372,.bool true,it 181 0,rf 373,.none,rf 374,rf 375,rf 376,it 689 0,it 214 0,st "/claim/cut.py" 690]) #[])) ::
(nat_lit 378,(ob (.type "function") .none (.func (fd "_law_new" "_law_new" a16 (.stmts b16) s16 3 [] .none .none .none (st "law_ix0031_01" 661) .none (rf 377) .none 0)) #[])) ::
(nat_lit 379,(ob (.type "tuple") .none (.seq #[] 0) #[])) ::
(nat_lit 381,(ob (.type "tuple") .none (.seq #[st "settings" 695,st "code" 696,st "value" 697,st "named" 698,st "error" 699] 0) #[])) ::
(nat_lit 382,(ob (.type "tuple") .none (.seq #[] 0) #[])) ::
(nat_lit 384,(ob (.type "code") .none (.fields #[st "_law_put" 692,st "_law_put" 693,st "/claim/cut.py" 694,it 219 0,it 4 0,it 0 0,it 0 0,it 3 0,rf 379,.bool true,it 181 0,rf 380,.none,rf 381,rf 382,rf 383,it 700 0,it 219 0,st "/claim/cut.py" 701]) #[])) ::
(nat_lit 385,(ob (.type "function") .none (.func (fd "_law_put" "_law_put" a17 (.stmts b17) s17 3 [] .none .none .none (st "law_ix0031_01" 661) .none (rf 384) .none 0)) #[])) ::
(nat_lit 386,(ob (.type "tuple") .none (.seq #[] 0) #[])) ::
(nat_lit 388,(ob (.type "tuple") .none (.seq #[st "settings" 706,st "code" 707,st "value" 708,st "error" 709] 0) #[])) ::
(nat_lit 389,(ob (.type "tuple") .none (.seq #[] 0) #[])) ::
(nat_lit 391,(ob (.type "code") .none (.fields #[st "_law_received" 703,st "_law_received" 704,st "/claim/cut.py" 705,it 242 0,it 3 0,it 0 0,it 0 0,it 3 0,rf 386,.bool true,it 181 0,rf 387,.none,rf 388,rf 389,rf 390,it 710 0,it 242 0,st "/claim/cut.py" 711]) #[])) ::
(nat_lit 392,(ob (.type "function") .none (.func (fd "_law_received" "_law_received" a18 (.stmts b18) s18 3 [] .none .none .none (st "law_ix0031_01" 661) .none (rf 391) .none 0)) #[])) ::
(nat_lit 393,(ob (.type "tuple") .none (.seq #[] 0) #[])) ::
(nat_lit 395,(ob (.type "tuple") .none (.seq #[st "settings" 716,st "code" 717] 0) #[])) ::
(nat_lit 396,(ob (.type "tuple") .none (.seq #[] 0) #[])) ::
(nat_lit 398,(ob (.type "code") .none (.fields #[st "_law_read" 713,st "_law_read" 714,st "/claim/cut.py" 715,it 248 0,it 2 0,it 0 0,it 0 0,it 3 0,rf 393,.bool true,it 181 0,rf 394,.none,rf 395,rf 396,rf 397,it 718 0,it 248 0,st "/claim/cut.py" 719]) #[])) ::
(nat_lit 399,(ob (.type "function") .none (.func (fd "_law_read" "_law_read" a19 (.stmts b19) s19 3 [] .none .none .none (st "law_ix0031_01" 661) .none (rf 398) .none 0)) #[])) ::
(nat_lit 400,(ob (.type "tuple") .none (.seq #[] 0) #[])) ::
(nat_lit 402,(ob (.type "tuple") .none (.seq #[st "rows" 724,st "code" 725,st "value" 726] 0) #[])) ::
(nat_lit 403,(ob (.type "tuple") .none (.seq #[] 0) #[])) ::
(nat_lit 405,(ob (.type "code") .none (.fields #[st "_law_fits" 721,st "_law_fits" 722,st "/claim/cut.py" 723,it 253 0,it 3 0,it 0 0,it 0 0,it 3 0,rf 400,.bool true,it 181 0,rf 401,.none,rf 402,rf 403,rf 404,it 727 0,it 253 0,st "/claim/cut.py" 728]) #[])) ::
(nat_lit 406,(ob (.type "function") .none (.func (fd "_law_fits" "_law_fits" a20 (.stmts b20) s20 3 [] .none .none .none (st "law_ix0031_01" 661) .none (rf 405) .none 0)) #[])) ::
(nat_lit 407,(ob (.type "tuple") .none (.seq #[] 0) #[])) ::
(nat_lit 409,(ob (.type "tuple") .none (.seq #[st "settings" 733,st "code" 734] 0) #[])) ::
(nat_lit 410,(ob (.type "tuple") .none (.seq #[] 0) #[])) ::
(nat_lit 412,(ob (.type "code") .none (.fields #[st "_law_named" 730,st "_law_named" 731,st "/claim/cut.py" 732,it 261 0,it 2 0,it 0 0,it 0 0,it 3 0,rf 407,.bool true,it 181 0,rf 408,.none,rf 409,rf 410,rf 411,it 735 0,it 261 0,st "/claim/cut.py" 736]) #[])) ::
(nat_lit 413,(ob (.type "function") .none (.func (fd "_law_named" "_law_named" a21 (.stmts b21) s21 3 [] .none .none .none (st "law_ix0031_01" 661) .none (rf 412) .none 0)) #[])) ::
(nat_lit 414,(ob (.type "tuple") .none (.seq #[] 0) #[])) ::
(nat_lit 416,(ob (.type "tuple") .none (.seq #[st "settings" 741,st "code" 742] 0) #[])) ::
(nat_lit 417,(ob (.type "tuple") .none (.seq #[] 0) #[])) ::
(nat_lit 419,(ob (.type "code") .none (.fields #[st "_law_gone" 738,st "_law_gone" 739,st "/claim/cut.py" 740,it 271 0,it 2 0,it 0 0,it 0 0,it 3 0,rf 414,.bool true,it 181 0,rf 415,.none,rf 416,rf 417,rf 418,it 743 0,it 271 0,st "/claim/cut.py" 744]) #[])) ::
(nat_lit 420,(ob (.type "function") .none (.func (fd "_law_gone" "_law_gone" a22 (.stmts b22) s22 3 [] .none .none .none (st "law_ix0031_01" 661) .none (rf 419) .none 0)) #[])) ::
(nat_lit 421,(ob (.type "tuple") .none (.seq #[] 0) #[])) ::
(nat_lit 423,(ob (.type "tuple") .none (.seq #[st "rows" 749,st "places" 750,st "code" 751] 0) #[])) ::
(nat_lit 424,(ob (.type "tuple") .none (.seq #[] 0) #[])) ::
(nat_lit 426,(ob (.type "code") .none (.fields #[st "_law_now" 746,st "_law_now" 747,st "/claim/cut.py" 748,it 277 0,it 3 0,it 0 0,it 0 0,it 3 0,rf 421,.bool true,it 181 0,rf 422,.none,rf 423,rf 424,rf 425,it 752 0,it 277 0,st "/claim/cut.py" 753]) #[])) ::
(nat_lit 427,(ob (.type "function") .none (.func (fd "_law_now" "_law_now" a23 (.stmts b23) s23 3 [] .none .none .none (st "law_ix0031_01" 661) .none (rf 426) .none 0)) #[])) ::
(nat_lit 428,(ob (.type "tuple") .none (.seq #[] 0) #[])) ::
(nat_lit 431,(ob (.type "code") .none (.fields #[st "_law_alike" 755,st "_law_alike" 756,st "/claim/cut.py" 757,it 279 0,it 4 0,it 0 0,it 0 0,it 3 0,rf 428,.bool true,it 181 0,rf 429,.none,.none,.none,rf 430,it 758 0,it 279 0,st "/claim/cut.py" 759]) #[])) ::
(nat_lit 432,(ob (.type "function") .none (.func (fd "_law_alike" "_law_alike" a24 (.stmts b24) s24 3 [] .none .none .none (st "law_ix0031_01" 661) .none (rf 431) .none 0)) #[])) ::
(nat_lit 433,(ob (.type "tuple") .none (.seq #[] 0) #[])) ::
(nat_lit 436,(ob (.type "code") .none (.fields #[st "law" 761,st "law" 762,st "/claim/cut.py" 763,it 296 0,it 1 0,it 0 0,it 0 0,it 3 0,rf 433,.bool true,it 181 0,rf 434,.none,.none,.none,rf 435,it 764 0,it 296 0,st "/claim/cut.py" 765]) #[])) ::
(nat_lit 437,(ob (.type "function") .none (.func (fd "law" "law" a25 (.stmts b25) (⟨u1, x0 :: x1 :: x2 :: x3 :: x4 :: x5 :: x6 :: x7 :: x8 :: x9 :: x10 :: x11 :: x12 :: x13 :: x14 :: x15 :: x16 :: x17 :: x18 :: x19 :: x20 :: x21 :: x22 :: x23 :: x24 :: x25 :: x26 :: x27 :: x28 :: x29 :: x30 :: x31 :: x32 :: x33 :: [], u2, u3, u4⟩) 3 [] .none .none .none (st "law_ix0031_01" 661) .none (rf 436) .none 0)) #[])) :: [] : List (Nat × Obj))) Value.ref Value.int Value.str FuncData.mk ClassData.mk Obj.mk _ _ _ _ _ _ _ _ _ _ _ _ _ _ _ _ _ _ _ _ _ _ _ _ _ _ _ _ _ _ _ _ _ _ _ _ _ _ _ _ _ _ _ _ _ _ _ _ _ _ _ _ _ _ _ _ _ _ _ _ _ _ _ _ _ _ _ _ _ _ _ _ _ _ _ _ _ _ _ _ _ _ _ _ _ _ _ _ _ _ _ _ _ _ _ _ _ _ _ _ _ _ _ _ _ _ _ _ _ _ _ _ _ _ _ _ _ _ _ _ _ _ _ _ _ _ _ _ _ _ _ _ _ _ _ _ _ _ _ _ _ _ _ _ _ _ _ _ _ _ _ _ _ _ _ _ _ _ _ _ _ _ _ _ _ _ _ _ _ rfl
noncomputable def hd.adr : List Addr := [2, 3, 15, 17, 18, 20, 21, 29, 30, 31, 32, 33, 36, 43, 44, 45, 46, 49, 56, 57, 58, 61, 64, 69, 70, 72, 73, 75, 76, 77, 78, 79, 89, 90, 91, 92, 93, 103, 105, 106, 108, 109, 110, 111, 112, 113, 114, 124, 125, 127, 128, 130, 131, 132, 134, 135, 137, 138, 139, 141, 142, 144, 145, 148, 150, 151, 153, 154, 155, 156, 158, 159, 161, 162, 165, 167, 168, 170, 171, 172, 173, 175, 176, 178, 179, 182, 184, 185, 187, 188, 189, 190, 192, 193, 195, 196, 199, 201, 202, 204, 205, 206, 207, 209, 210, 212, 213, 216, 218, 219, 221, 222, 223, 224, 226, 227, 229, 230, 233, 235, 236, 238, 239, 240, 241, 243, 244, 246, 247, 250, 252, 253, 255, 256, 257, 258, 260, 261, 263, 264, 265, 267, 268, 270, 271, 272, 274, 275, 277, 278, 279, 281, 282, 284, 285, 286, 288, 289, 291, 292, 293, 295, 296, 298, 299, 300, 302, 303, 305, 306, 307, 308, 310, 311, 313, 314, 315, 317, 318, 320, 321, 322, 324, 325, 327, 328, 329, 331, 332, 334, 335, 336, 337, 338, 339, 340, 343, 344, 346, 347, 349, 350, 351, 353, 354, 356, 357, 358, 360, 361, 363, 364, 365, 367, 368, 370, 371, 372, 374, 375, 377, 378, 379, 381, 382, 384, 385, 386, 388, 389, 391, 392, 393, 395, 396, 398, 399, 400, 402, 403, 405, 406, 407, 409, 410, 412, 413, 414, 416, 417, 419, 420, 421, 423, 424, 426, 427, 428, 431, 432, 433, 436, 437]
theorem hd.adr_ok : ∀ P, hd.adr = (hd.heap_39 P).map (·.1) := fun P => by kernel_rfl
noncomputable def runBy (thr : Thread → Bool) (ok : Thread → Bool) (st : SharedT → Thread → Option (SharedT × Thread)) : Nat → SharedT → Thread → Option SharedT
  | 0, _, _ => none
  | n + 1, s, t => match thr t with
    | true => some s
    | false => match ok t with
      | false => none
      | true => match st s t with
        | some r => runBy thr ok st n r.1 r.2
        | none => none
theorem runBy_of {p : Program} {w : World} {m : Nat} {ann : Option Value} : ∀ {n : Nat} {s s' : SharedT} {t : Thread}, runBy through (stepOk m ann) (stepT (denote treeTable) p w) n s t = some s' → topRun treeTable p w m ann n s.abs t = some s'.abs
  | 0, _, _, _, h => by cases h
  | n + 1, s, s', t, h => by
    unfold runBy at h
    unfold topRun
    cases ht : through t with
    | true => rw [ht] at h; cases h; rfl
    | false =>
      rw [ht] at h
      cases hk : stepOk m ann t with
      | false => rw [hk] at h; cases h
      | true =>
        rw [hk] at h
        cases hs : stepT (denote treeTable) p w s t with
        | none => rw [hs] at h; cases h
        | some r => obtain ⟨s₂, t₂⟩ := r; rw [hs] at h; dsimp only; rw [stepT_spec hs]; exact runBy_of h
noncomputable def topChk (p : Program) (h₀ : Heap) (s : Shared) : Bool := staticsOk (importedModules p.main.body) h₀ s.heap && namesBound p s.heap && gensDone s && laidKept h₀ s.heap
noncomputable def getT (T : BT) (n a : Nat) : Option Obj := match Nat.blt a n with
  | true => match T.get a with
    | some o => alive o
    | none => none
  | false => none
theorem getT_ok {T : BT} {n a : Nat} {L : Life} {o : Obj} (h : getT T n a = some o) : (absHeap T n L).get? a = some o := by
  unfold getT at h
  split at h
  · rename_i hb
    split at h
    · rename_i g
      exact (abs_get (Nat.blt_eq ▸ hb) g).trans h
    · cases h
  · cases h
theorem map_gets {f g : Nat → Option Obj} (k : ∀ a o, f a = some o → g a = some o) : ∀ {as : List Nat} {l : Frag}, as.map f = l.map (fun p => some p.2) → as.map g = l.map fun p => some p.2
  | [], [], _ => rfl
  | [], _ :: _, h => by cases h
  | _ :: _, [], h => by cases h
  | a :: as, p :: l, h => by
    rw [List.map_cons, List.map_cons] at h ⊢
    injection h with h1 h2
    rw [k a _ h1, map_gets k h2]
theorem left_tree {p q : Program} {loose : List Str} {Xt : Shared → Bool} {K : Params → Frag} {as : List Addr} {e : ∀ P, as = (K P).map (·.1)} {N : Nat} {g0 : Bool} {T₀ : Params → BT} {n₀ : Nat} {L₀ : Life} {gs₀ : Array GenState} {d₀ : Drawn} {k₀ : Nat} {m₀ : Nat} {ann : Option Value} {M : Nat}
    (open_ : ∀ w : World, (fencedOpening treeTable p w N).map (fun s => (s.heap, s.gens, s.drawn, s.toks)) = some (boot_heap w.params, gs₀, d₀, k₀))
    (hT : ∀ P, boot_heap P = absHeap (T₀ P) n₀ L₀)
    (size : ∀ w : World, ((boot_heap w.params).isNs mainGlobals && gs₀.size == 0, (boot_heap w.params).objs.size, (boot_heap w.params).nsMap mainGlobals "__annotations__") = (true, m₀, ann))
    (le : Nat.ble M N = true)
    (run : ∀ w : World, (fun os => (runBy through (stepOk m₀ ann) (stepT (denote treeTable) p w) M ⟨T₀ w.params, n₀, L₀, gs₀, d₀, k₀, os⟩ (topStub p)).map fun s =>
        (topChk p (boot_heap w.params) s.abs, openSeen q loose (importedModules p.main.body) Xt g0 s.abs, as.map (getT s.tree s.n))) = fun _ => some (true, openGood q loose, (K w.params).map fun p => some p.2)) : LeftO p q loose Xt (Hook.obs (kHook K as e)) (Hook.val (kHook K as e)) N g0 := fun w => by
  obtain ⟨⟨h, gs, d, k, os⟩, e, e'⟩ := Option.map_eq_some_iff.mp (open_ w)
  obtain ⟨rfl, rfl, rfl, rfl⟩ : h = boot_heap w.params ∧ gs = gs₀ ∧ d = d₀ ∧ k = k₀ := by simpa using e'
  obtain ⟨z1, z2, z3⟩ : _ ∧ _ ∧ _ := by simpa only [Prod.mk.injEq] using size w
  obtain ⟨s₁, r, l⟩ := Option.map_eq_some_iff.mp (congrFun (run w) os)
  obtain ⟨l1, l2, l3⟩ : _ ∧ _ ∧ _ := by simpa only [Prod.mk.injEq] using l
  have r := topRun_mono (N - M) _ _ _ _ (runBy_of r)
  rw [show M + (N - M) = N by have := Nat.le_of_ble_eq_true le; omega] at r
  have ha : (SharedT.mk (T₀ w.params) n₀ L₀ gs d k os).abs = ⟨boot_heap w.params, gs, d, k, os⟩ := by
    rw [hT]; rfl
  rw [ha] at r
  have t : topFrom treeTable p w N ⟨boot_heap w.params, gs, d, k, os⟩ = some s₁.abs := by
    unfold topFrom
    dsimp only
    rw [z1, z2, z3, r]
    show (match topChk p (boot_heap w.params) s₁.abs with | true => _ | false => _) = _
    rw [l1]
  unfold openEnds
  rw [e]
  show (topFrom treeTable p w N _).map _ = _
  rw [t]
  exact congrArg some (Prod.ext l2 (map_gets (fun a o x => getT_ok x) l3))
noncomputable def bootT (P : Params) : BT := (.node (boot_o_0 P) (.node (boot_o_1 P) (.node (boot_o_3 P) (.node (boot_o_7 P) .nil .nil) .nil) (.node (boot_o_5 P) (.node (boot_o_9 P) .nil .nil) .nil)) (.node (boot_o_2 P) (.node (boot_o_4 P) (.node (boot_o_8 P) .nil .nil) .nil) (.node (boot_o_6 P) (.node (boot_o_10 P) .nil .nil) .nil)))
theorem bootT_ok (P : Params) : boot_heap P = absHeap (bootT P) 11 {} := by kernel_rfl
theorem boot_size (w : World) : ((boot_heap w.params).isNs mainGlobals && (Array.mk [] : Array GenState).size == 0, (boot_heap w.params).objs.size, (boot_heap w.params).nsMap mainGlobals "__annotations__") = (true, 11, some (.ref 6)) := by kernel_rfl
theorem open_ok (w : World) : (fencedOpening treeTable PySem.Challenge.pw_ix0031_01 w 8238).map (fun s => (s.heap, s.gens, s.drawn, s.toks)) = some (boot_heap w.params, Array.mk [], boot_drawn, boot_toks) := boot_open (by kernel_rfl) (by decide +kernel) (fun s => by kernel_rfl) w
set_option maxRecDepth 100000 in
set_option maxHeartbeats 8000000 in
theorem headL : LeftO Challenge.rw_ix0031_01.row.prog hd.view_39 [Str.ofString "ErrorCodes", Str.ofString "ProtocolError", Str.ofString "SettingCodes", Str.ofString "Settings", Str.ofString "_validate_setting"] (fun s => xlAt hd.view_39 [] s && recOk (RowW.records (OpenRow.toRowW Challenge.rw_ix0031_01.row)) s) (Hook.obs (kHook hd.heap_39 hd.adr hd.adr_ok)) (Hook.val (kHook hd.heap_39 hd.adr hd.adr_ok)) 8238 true :=
  left_tree (T₀ := bootT) (n₀ := 11) (L₀ := {}) (gs₀ := Array.mk []) (d₀ := boot_drawn) (k₀ := boot_toks) (m₀ := 11) (ann := some (.ref 6)) (M := 8238) open_ok bootT_ok boot_size rfl (fun w => by
    rw [PySem.W.Fast.te2368527892694137696, PySem.W.Fast.te4187177175401517315, PySem.W.Fast.te5923862056798008813, PySem.W.Fast.te6613529449190102663, PySem.W.Fast.te10156331382660048174, PySem.W.Fast.te11892475500146522536, PySem.W.Fast.te14364793385576792824]
    kernel_rfl)
theorem hide {P : Prop} (h : ∀ G : Prop, (P → G) → G) : P := h P id
noncomputable abbrev Led := List (Addr × Obj)
noncomputable abbrev Row := List (Option Int)
noncomputable abbrev Sgs := List (Int × Row)
inductive OV : Option Int → Value → Prop
  | none : OV none .none
  | int {i : Int} {t : Tok} : OV (some i) (.int i t)
inductive RowV : Row → List Value → Prop
  | nil : RowV [] []
  | cons {r : Option Int} {rs : Row} {v : Value} {vs : List Value} : OV r v → RowV rs vs → RowV (r :: rs) (v :: vs)
theorem RowV.length {row : Row} {vs : List Value} (h : RowV row vs) : vs.length = row.length := by
  induction h with
  | nil => rfl
  | cons _ _ ih => simp [ih]
theorem RowV.at {row : Row} {vs : List Value} (h : RowV row vs) : ∀ {i : Nat} {r : Option Int}, row[i]? = some r → ∃ v, vs[i]? = some v ∧ OV r v := by
  induction h with
  | nil => intro i r e; simp at e
  | @cons r₀ rs v vs hv _ ih =>
    intro i r e
    cases i with
    | zero => simp only [List.getElem?_cons_zero, Option.some.injEq] at e; subst e; exact ⟨v, rfl, hv⟩
    | succ i => simp only [List.getElem?_cons_succ] at e ⊢; exact ih e
theorem RowV.snoc {row : Row} {vs : List Value} (h : RowV row vs) {r : Option Int} {v : Value} (hv : OV r v) : RowV (row ++ [r]) (vs ++ [v]) := by
  induction h with
  | nil => exact .cons hv .nil
  | cons h1 _ ih => exact .cons h1 ih
noncomputable def RowObj (row : Row) (o : Obj) : Prop := ∃ vs n, o = W.listOf (List.toArray vs) n ∧ RowV row vs
inductive ListsL : Sgs → List (Int × Value) → Led → Prop
  | nil : ListsL [] [] []
  | cons {k : Int} {row : Row} {o : Obj} {a : Addr} {σ : Sgs} {kvs : List (Int × Value)} {ls : Led} : RowObj row o → ListsL σ kvs ls → ListsL ((k, row) :: σ) ((k, .ref a) :: kvs) ((a, o) :: ls)
noncomputable def look {α : Type} (σ : List (Int × α)) (k : Int) : Option α := (σ.find? fun kv => kv.1 = k).map (·.2)
theorem look_cons {α : Type} (k' : Int) (row : α) (σ : List (Int × α)) (k : Int) : look ((k', row) :: σ) k = if k' = k then some row else look σ k := by
  by_cases e : k' = k <;> simp [look, e]
noncomputable def cur (σ : Sgs) (k : Int) : Option Int := match look σ k with
  | some (r :: _) => r
  | _ => none
theorem cur_none {σ : Sgs} {k : Int} (h : look σ k = none) : cur σ k = none := by simp [cur, h]
theorem cur_some {σ : Sgs} {k : Int} {r : Option Int} {rs : Row} (h : look σ k = some (r :: rs)) : cur σ k = r := by simp [cur, h]
theorem valueAt_cons {K : Type} [DecidableEq K] (k' : K) (v : Value) (kvs : List (K × Value)) (k : K) : valueAt ((k', v) :: kvs) k = if k' = k then some v else valueAt kvs k := by
  by_cases e : k' = k <;> simp [valueAt, e]
theorem ListsL.look_some {σ : Sgs} {kvs : List (Int × Value)} {ls : Led} (H : ListsL σ kvs ls) {k : Int} {row : Row} (h : look σ k = some row) : ∃ a o, valueAt kvs k = some (.ref a) ∧ (a, o) ∈ ls ∧ RowObj row o := by
  induction H with
  | nil => cases h
  | @cons k' row' o a σ kvs ls ho _ ih =>
    rw [look_cons] at h
    rw [valueAt_cons]
    by_cases e : k' = k
    · rw [if_pos e] at h ⊢; cases h; exact ⟨a, o, rfl, .head _, ho⟩
    · rw [if_neg e] at h ⊢
      (refine hide fun G__ k__ => ?_; obtain ⟨a, o, h1, h2, h3⟩ := ih h; refine k__ ?_; clear k__ G__)
      exact ⟨a, o, h1, .tail _ h2, h3⟩
theorem ListsL.look_none {σ : Sgs} {kvs : List (Int × Value)} {ls : Led} (H : ListsL σ kvs ls) {k : Int} (h : look σ k = none) : valueAt kvs k = none := by
  induction H with
  | nil => rfl
  | @cons k' row' o a σ kvs ls ho _ ih =>
    rw [look_cons] at h
    rw [valueAt_cons]
    by_cases e : k' = k
    · rw [if_pos e] at h; cases h
    · rw [if_neg e] at h ⊢; exact ih h
theorem ListsL.keys {σ : Sgs} {kvs : List (Int × Value)} {ls : Led} (H : ListsL σ kvs ls) : kvs.map (·.1) = σ.map (·.1) := by
  induction H with
  | nil => rfl
  | cons _ _ ih => simp [ih]
noncomputable def Fit (σ : Sgs) : Prop := σ.length ≤ 1000 ∧ ∀ k row, look σ k = some row → row.length ≤ 1000
structure DicL (w : World) (d : Addr) (σ : Sgs) (news : Led) (od : Obj) (kvs : List (Int × Value)) (ls : Led) : Prop where
  body : (d, od) ∈ news
  isd : od.IsDictOf (intKind Challenge.rw_ix0031_01.row.prog w) kvs
  lists : ListsL σ kvs ls
  lsin : ∀ p ∈ ls, p ∈ news
  low : (d == sysModules) = false
  ne : ∀ k row, look σ k = some row → row ≠ []
  nd : (ls.map (·.1)).Nodup
  fit : Fit σ
structure SetL (w : World) (x : Addr) (c : Bool) (σ : Sgs) (news : Led) (dx d : Addr) (t1 t2 : Tok) (n : Nat) (od : Obj) (kvs : List (Int × Value)) (ls : Led) : Prop where
  inst : (x, instObj 338 dx) ∈ news
  dict : (dx, dictOf [⟨PyData.keyHash w.params (Str.ofString "_client"), .str (Str.ofString "_client") t1, .bool c⟩, ⟨PyData.keyHash w.params (Str.ofString "_settings"), .str (Str.ofString "_settings") t2, .ref d⟩] n) ∈ news
  sep : dx ≠ d
  dic : DicL w d σ news od kvs ls
inductive IntsL : List (Int × Int) → List (Int × Value) → Prop
  | nil : IntsL [] []
  | cons {k p : Int} {t : Tok} {π : List (Int × Int)} {kvs : List (Int × Value)} : IntsL π kvs → IntsL ((k, p) :: π) ((k, .int p t) :: kvs)
theorem IntsL.look_some {π : List (Int × Int)} {kvs : List (Int × Value)} (H : IntsL π kvs) {k p : Int} (h : look π k = some p) : ∃ t, valueAt kvs k = some (.int p t) := by
  induction H with
  | nil => cases h
  | @cons k' p' t π kvs _ ih =>
    rw [look_cons] at h
    rw [valueAt_cons]
    by_cases e : k' = k
    · rw [if_pos e] at h ⊢; cases h; exact ⟨t, rfl⟩
    · rw [if_neg e] at h ⊢; exact ih h
structure DicI (w : World) (d : Addr) (π : List (Int × Int)) (news : Led) (od : Obj) (kvs : List (Int × Value)) : Prop where
  body : (d, od) ∈ news
  isd : od.IsDictOf (intKind Challenge.rw_ix0031_01.row.prog w) kvs
  nums : IntsL π kvs
  low : (d == sysModules) = false
section
variable {w : World} {A : Around} {E : Value → Shared → Prop} {s : Shared} {h₀ : Heap} {L : Addr} {m : Str → Option Value} {news : Led} {d : Addr} {od : Obj} {kvs : List (Int × Value)} {σ : Sgs} {π : List (Int × Int)} {ls : Led} {k : Int} {t : Tok}
theorem DicL.at (H : DicL w d σ news od kvs ls) (N : News h₀ L s.heap news) : s.heap.DictOf (intKind Challenge.rw_ix0031_01.row.prog w) d kvs := Heap.dictOf_iff.mpr ⟨od, (N _ H.body).1, H.isd⟩
theorem DicI.at (H : DicI w d π news od kvs) (N : News h₀ L s.heap news) : s.heap.DictOf (intKind Challenge.rw_ix0031_01.row.prog w) d kvs := Heap.dictOf_iff.mpr ⟨od, (N _ H.body).1, H.isd⟩
theorem item_rows {value slice : Expr} {Q : Value → Shared → Prop} (N : News h₀ L s.heap news) (H : DicL w d σ news od kvs ls) (hh : A.handled = none)
    (h1 : ∀ row a vs n, look σ k = some row → (a, W.listOf (List.toArray vs) n) ∈ news → RowV row vs → Q (.ref a) { s with toks := s.toks + 1 })
    (h3 : look σ k = none → ∀ h' e, Heap.NewExc s.heap h' e "KeyError" → E (.ref e) { s with heap := h', toks := s.toks + 1 })
    (hsub : subscripted slice false (.ref d) (.int k t) = operate [.ref d, .int k t] (getItem (.ref d) (.int k t)) := by with_unfolding_all rfl) :
    wpAny (model Challenge.rw_ix0031_01.row.prog w) A (subscriptTail value slice (.ref d) (.int k t)) Q E s := by
  have hd := H.at N
  cases hq : look σ k with
  | some row =>
    (refine hide fun G__ k__ => ?_; obtain ⟨a, o, e1, e2, vs, n, rfl, hr⟩ := H.lists.look_some hq; refine k__ ?_; clear k__ G__)
    exact tail_any hd.typeIs slot_dict_getitem.lookup (wpAny_getItem_of (intKind_is _ w k t) hd.mapOf e1 (h1 row a vs n hq (H.lsin _ e2) hr)) hsub
  | none => exact tail_any hd.typeIs slot_dict_getitem.lookup (wpAny_getItem_missing_of (intKind_is _ w k t) H.low hh hd.mapOf (H.lists.look_none hq) (h3 hq)) hsub
theorem item_sgs {value slice : Expr} {Q : Value → Shared → Prop} (N : News h₀ L s.heap news) (H : DicL w d σ news od kvs ls) (hh : A.handled = none)
    (h1 : ∀ rs a vs n, look σ k = some (none :: rs) → (a, W.listOf (List.toArray (Value.none :: vs)) n) ∈ news → RowV rs vs → Q (.ref a) { s with toks := s.toks + 1 })
    (h2 : ∀ i u rs a vs n, look σ k = some (some i :: rs) → (a, W.listOf (List.toArray (Value.int i u :: vs)) n) ∈ news → RowV rs vs → Q (.ref a) { s with toks := s.toks + 1 })
    (h3 : look σ k = none → ∀ h' e, Heap.NewExc s.heap h' e "KeyError" → E (.ref e) { s with heap := h', toks := s.toks + 1 })
    (hsub : subscripted slice false (.ref d) (.int k t) = operate [.ref d, .int k t] (getItem (.ref d) (.int k t)) := by with_unfolding_all rfl) :
    wpAny (model Challenge.rw_ix0031_01.row.prog w) A (subscriptTail value slice (.ref d) (.int k t)) Q E s := by
  refine item_rows N H hh (fun row a vs n hq hm hr => ?_) h3 hsub
  cases hr with
  | nil => exact absurd rfl (H.ne _ _ hq)
  | cons hv hr => cases hv with
    | none => exact h1 _ a _ n hq hm hr
    | int => exact h2 _ _ _ a _ n hq hm hr
theorem item_ints {value slice : Expr} {p : Int} {Q : Value → Shared → Prop} (N : News h₀ L s.heap news) (H : DicI w d π news od kvs) (hq : look π k = some p)
    (h1 : ∀ u, Q (.int p u) { s with toks := s.toks + 1 })
    (hsub : subscripted slice false (.ref d) (.int k t) = operate [.ref d, .int k t] (getItem (.ref d) (.int k t)) := by with_unfolding_all rfl) :
    wpAny (model Challenge.rw_ix0031_01.row.prog w) A (subscriptTail value slice (.ref d) (.int k t)) Q E s := by
  have hd := H.at N
  obtain ⟨u, e⟩ := H.nums.look_some hq
  exact tail_any hd.typeIs slot_dict_getitem.lookup (wpAny_getItem_of (intKind_is _ w k t) hd.mapOf e (h1 u)) hsub
theorem ListsL.isSome (H : ListsL σ kvs ls) (k : Int) : (valueAt kvs k).isSome = (look σ k).isSome := by
  cases hq : look σ k with
  | some row => obtain ⟨a, o, e, _⟩ := H.look_some hq; rw [e]; rfl
  | none => rw [H.look_none hq]; rfl
theorem in_rows {Q : Value → Shared → Prop} (N : News h₀ L s.heap news) (H : DicL w d σ news od kvs ls)
    (h1 : look σ k = none → Q (.bool false) { s with toks := s.toks + 1 }) (h2 : ∀ row, look σ k = some row → Q (.bool true) { s with toks := s.toks + 1 }) : wpAny (model Challenge.rw_ix0031_01.row.prog w) A (compareOp .In (.int k t) (.ref d)) Q E s :=
  wpAny_in_of (intKind_is _ w k t) H.low (H.at N).mapOf (by
    rw [H.lists.isSome]
    cases hq : look σ k with
    | none => exact h1 hq
    | some row => exact h2 row hq)
theorem notin_rows {Q : Value → Shared → Prop} (N : News h₀ L s.heap news) (H : DicL w d σ news od kvs ls)
    (h1 : look σ k = none → Q (.bool true) { s with toks := s.toks + 1 }) (h2 : ∀ row, look σ k = some row → Q (.bool false) { s with toks := s.toks + 1 }) : wpAny (model Challenge.rw_ix0031_01.row.prog w) A (compareOp .NotIn (.int k t) (.ref d)) Q E s :=
  wpAny_notIn_of (intKind_is _ w k t) H.low (H.at N).mapOf (by
    rw [H.lists.isSome]
    cases hq : look σ k with
    | none => exact h1 hq
    | some row => exact h2 row hq)
theorem item_led {value slice : Expr} {a : Addr} {its : List Value} {n : Nat} {k : Int} {u : Tok} {v : Value} {Q : Value → Shared → Prop} (N : News h₀ L s.heap news) (hm : (a, W.listOf its.toArray n) ∈ news)
    (h0 : 0 ≤ k) (hhi : k < 2 ^ 63) (hx : its[k.toNat]? = some v) (h : Q v s)
    (hs : subscripted slice false (.ref a) (.int k u) = operate [.ref a, .int k u] (getItem (.ref a) (.int k u)) := by with_unfolding_all rfl) :
    wpAny (model Challenge.rw_ix0031_01.row.prog w) A (subscriptTail value slice (.ref a) (.int k u)) Q E s :=
  have hL : s.heap.IsList a its.toArray := ⟨_, (N _ hm).1, rfl, n, rfl⟩
  tail_any hL.typeIs slot_list_getitem.lookup (wpAny_getItem_list hL h0 hhi (by simpa using hx) h) hs
theorem item_ledN {value slice : Expr} {a : Addr} {its : List Value} {n i : Nat} {u : Tok} {v : Value} {Q : Value → Shared → Prop} (N : News h₀ L s.heap news) (hm : (a, W.listOf its.toArray n) ∈ news)
    (hhi : i < 2 ^ 60) (hx : its[i]? = some v) (h : Q v s)
    (hs : subscripted slice false (.ref a) (.int (i : Int) u) = operate [.ref a, .int (i : Int) u] (getItem (.ref a) (.int (i : Int) u)) := by with_unfolding_all rfl) :
    wpAny (model Challenge.rw_ix0031_01.row.prog w) A (subscriptTail value slice (.ref a) (.int (i : Int) u)) Q E s :=
  item_led N hm (by omega) (by omega) (by simpa using hx) h hs
noncomputable def Tells (ρ : Sgs) (π : List (Int × Int)) (now : Int → Option Int) : Prop := ∀ k, match look ρ k with
  | some row => ∃ i : Nat, look π k = some (i : Int) ∧ i < 2 ^ 60 ∧ row[i]? = some (now k)
  | none => now k = none
theorem Tells.none {ρ : Sgs} {π : List (Int × Int)} {now : Int → Option Int} (H : Tells ρ π now) {k : Int} (h : look ρ k = none) : OV (now k) .none := by
  have := H k; rw [h] at this; rw [this]; exact .none
theorem Tells.some {ρ : Sgs} {π : List (Int × Int)} {now : Int → Option Int} (H : Tells ρ π now) {k : Int} {row : Row} (h : look ρ k = some row) : ∃ i : Nat, look π k = some (i : Int) ∧ i < 2 ^ 60 ∧ row[i]? = some (now k) := by
  have := H k; rw [h] at this; exact this
end
theorem ov_cur_none {σ : Sgs} {k : Int} (h : look σ k = none) : OV (cur σ k) .none := by rw [cur_none h]; exact .none
theorem ov_cur_none' {σ : Sgs} {k : Int} {rs : Row} (h : look σ k = some (none :: rs)) : OV (cur σ k) .none := by rw [cur_some h]; exact .none
theorem ov_cur_int {σ : Sgs} {k i : Int} {t : Tok} {rs : Row} (h : look σ k = some (some i :: rs)) : OV (cur σ k) (.int i t) := by rw [cur_some h]; exact .int
structure Cx (w : World) (A₀ : Around) (base : Heap) (outer : List Env) (loose : List Str) (mean : ExcName → Option Value) (mg mb : Str → Option Value) (h₀ : Heap) (L : Addr) (m : Str → Option Value) (news : Led) (h : Heap) : Prop where
  B : Below A₀ base outer h₀
  F : Fr h₀ L h m
  N : News h₀ L h news
  X : (hd.heap_39 w.params).In h₀
  T : Top hd.view_39 loose mean mg mb h₀
  D : KtsDicts (outer.filterMap (·.frame)) h₀
  XB : (hd.heap_39 w.params).In base
  TB : Top hd.view_39 loose mean mg mb base
@[reducible] noncomputable def kA (dp un : Nat) (gd : Option (List Code)) (env : Env) (outer : List Env) : Around := { handled := none, depth := dp, frames := some (env :: outer), guards := gd, units := un }
theorem fresh_ledger {h₀ h : Heap} {L : Addr} {news : Led} (N : News h₀ L h news) {b : Addr} {o : Obj} (e : h₀.get? b = some o) : b ∉ news.map (·.1) := fun q => by
  obtain ⟨p, hp, rfl⟩ := List.mem_map.mp q
  rw [(N p hp).2.2] at e; cases e
theorem enterS {w : World} {A₀ A : Around} {s : Shared} {base h₀ : Heap} {env : Env} {outer : List Env} {L : Addr} {m mg mb : Str → Option Value} {loose : List Str} {mean : ExcName → Option Value} {news : Led}
    {R : Result → Shared → Prop} {name qual : Str} {params : Arguments} {body : List Stmt} {scope : Scope} {dV kV doc pm cdv ct oc : Value} {an od : Option Addr} {osl : Array (Option Value)} {f : Addr} {args : Args} {binds : List (Str × Value)}
    (C : Cx w A₀ base outer loose mean mg mb h₀ L m news s.heap) (hA : A.frames = some (env :: outer)) (hf : env.frame = some L) (hke : env.scope.kind = .function)
    (ho : (hd.heap_39 w.params).lookup f = some ⟨oc, od, .func (fnOf name qual params body scope dV kV doc pm an cdv ct), osl⟩) (hcd : codeIn (hd.heap_39 w.params) cdv qual = true) (hroom : A.depth < recursionLimit)
    (hbind : BindsTo s (fnOf name qual params body scope dV kV doc pm an cdv ct) args binds) (hloc : ∀ y ∈ binds, scope.names.lookup y.1 = some .local)
    (h : ∀ g L' h₁, Fr h₀ L g m → Fr g L' h₁ (fun y => binds.reverse.lookup y) → News g L' h₁ news → Below A base (env :: outer) g → (hd.heap_39 w.params).In g → Top hd.view_39 loose mean mg mb g → KtsDicts ((env :: outer).filterMap (·.frame)) g → (hd.heap_39 w.params).In base → Top hd.view_39 loose mean mg mb base →
      wpAny (model Challenge.rw_ix0031_01.row.prog w) (A.deeper (envOf qual scope L' f cdv)) (execs body (envOf qual scope L' f cdv))
        (fun fl s' => LeaveS ((env :: outer).filterMap (·.frame)) A₀ base outer (hd.heap_39 w.params) hd.view_39 loose mean mg mb h₀ h₀ L m g R (match fl with | .ret v => v | _ => .none) s')
        (fun e s' => wpAny (model Challenge.rw_ix0031_01.row.prog w) (A.deeper (envOf qual scope L' f cdv)) (leaving (envOf qual scope L' f cdv) e) (fun _ s'' => R (.error e) s'') (fun e' s'' => R (.error e') s'') s')
        { s with heap := h₁, toks := s.toks + binds.length })
    (hco : scope.isCoroutine = false) (hgen : scope.isGenerator = false) (hk : scope.kind = .function)
    (hcell : ∀ x ∈ scope.names, x.2 ≠ .cell) : codeAny (model Challenge.rw_ix0031_01.row.prog w) A (.call (.ref f) args) R s := by
  obtain ⟨B, F, N, X₀, T, D, XB, TB⟩ := C
  have X := X₀.keeps F.keep
  refine codeAny_call_def (fd := fnOf name qual params body scope dV kV doc pm an cdv ct) (body := body) (binds := binds) hroom (X _ _ ho) rfl (T.nolimit.keeps F.keep) (codeRec_of X hcd) rfl hbind hcell hloc (fun h₁ hns hk₁ => ?_) hco hgen hk
  (refine hide fun G__ k__ => ?_; obtain ⟨oL, es, ep, hL, hLd, hLk, hLf⟩ := F.ns; refine k__ ?_; clear k__ G__)
  have nL : L ∉ news.map (·.1) := fun q => by
    obtain ⟨p, hp, e⟩ := List.mem_map.mp q
    exact (N p hp).2.1 e
  have st : h₀.StaysIn (hideAll s.heap (news.map (·.1))) := fun b o e => hideAll_get _ (F.keep b o e) (fresh_ledger N e)
  have hLg := hideAll_get (news.map (·.1)) hL nL
  have nsOf : ∀ (sl : Array (Option Value)) (h' : Heap), h'.get? L = some { oL with slots := sl } → h'.Ns L m := fun sl h' e => ⟨_, es, ep, e, hLd, hLk, hLf⟩
  have nL₀ : h₀.get? L = none := kts_self F
  have nLb : base.get? L = none := by
    cases q : base.get? L with
    | none => rfl
    | some o => rw [B.stays L o q] at nL₀; cases nL₀
  have G : Below A base (env :: outer) (hideAll s.heap (news.map (·.1))) := by
    refine ⟨hA, fun b o e => st b o (B.stays b o e), Heap.FunFrames.cons (by rw [hke]; decide) hf ⟨oL, es, ep, hLg, hLd, hLk, hLf⟩ nLb (B.frames.of_keeps fun b o e _ => ⟨o, st b o e, rfl⟩)⟩
  have memf : ∀ b, b ∈ (env :: outer).filterMap (·.frame) → b = L ∨ b ∈ outer.filterMap (·.frame) := fun b hb => by
    rw [List.filterMap_cons, hf] at hb
    exact List.mem_cons.mp hb
  refine wpAny_mono (h _ s.heap.objs.size h₁ ⟨nsOf oL.slots _ hLg, st, F.above⟩ ⟨hns, fun b o e => hk₁ b o (of_hideAll _ e), Nat.le_of_eq (hideAll_size _ _)⟩
    (fun p hp => ⟨hk₁ _ _ (N p hp).1, Nat.ne_of_lt (Heap.lt_size (N p hp).1), hideAll_none _ (List.mem_map_of_mem hp)⟩) G (X₀.keeps st) (T.keeps st) (fun b hb => by
      rcases memf b hb with rfl | hb
      · exact ⟨oL, es, ep, hLg, hLd⟩
      · (refine hide fun G__ k__ => ?_; obtain ⟨o, es', n', ho', hd'⟩ := D b hb; refine k__ ?_; clear k__ G__)
        exact ⟨o, es', n', st b o ho', hd'⟩) XB TB) (fun fl s' hl => ?_) fun _ _ y => y
  rcases hl with ⟨L', m', news', F', N', k⟩ | ⟨g', L', m', news', T', F', N', k⟩
  · refine k ⟨nsOf oL.slots _ (F'.keep _ _ hLg), fun b o e => F'.keep b o (st b o e), F.above⟩ fun p hp => ⟨(N' p hp).1, fun q => ?_, ?_⟩
    · have := (N' p hp).2.2; rw [q, hLg] at this; cases this
    · cases q : h₀.get? p.1 with
      | none => rfl
      | some o => have := (N' p hp).2.2; rw [st _ _ q] at this; cases this
  · obtain ⟨sl, hs⟩ := T'.up hLg
    obtain ⟨T₁, S₁⟩ := kts_turn_at (h := s'.heap) (fs := outer.filterMap (·.frame)) (g := h₀)
      (fun b hb => by
        obtain ⟨_, o, ho', _⟩ := B.frames.mem hb
        exact ⟨o, ho'⟩)
      (fun b o e nm => F'.keep b o (T'.other b o (st b o e) (fun q => by
        rcases memf b q with z | z
        · rw [z, nL₀] at e; cases e
        · exact nm z)))
      (fun b o e _ => by
        obtain ⟨sl', hs'⟩ := T'.up (st b o e)
        exact ⟨sl', F'.keep _ _ hs'⟩)
    have B₃ : Below A₀ base outer (ktsHeap s'.heap (outer.filterMap (·.frame)) h₀) := ⟨B.stack, fun b o e => T₁.other b o (B.stays b o e) (fun hm => by
      rw [(B.frames.mem hm).1] at e; cases e), B.frames.of_keeps fun b o e _ => by
      obtain ⟨sl', hs'⟩ := T₁.up e
      exact ⟨_, hs', rfl⟩⟩
    refine k _ T₁ ⟨nsOf sl _ (F'.keep _ _ hs), S₁, by rw [T₁.size]; exact F.above⟩ (fun p hp => ⟨(N' p hp).1, fun q => ?_, ?_⟩) B₃ (XB.keeps B₃.stays) (TB.keeps B₃.stays) (D.turn T₁)
    · have := (N' p hp).2.2; rw [q, hs] at this; cases this
    · refine T₁.none_ _ ?_
      cases q : h₀.get? p.1 with
      | none => rfl
      | some o =>
        obtain ⟨sl', hs'⟩ := T'.up (st _ _ q)
        have := (N' p hp).2.2
        rw [hs'] at this; cases this
noncomputable def RetQ (Q : Flow → Shared → Prop) (fl : Flow) (s : Shared) : Prop := Q fl s
noncomputable def RetR (R : Result → Shared → Prop) (r : Result) (s : Shared) : Prop := R r s
theorem enterG {w : World} {A₀ A : Around} {s : Shared} {base h₀ : Heap} {env : Env} {outer : List Env} {L : Addr} {m mg mb : Str → Option Value} {loose : List Str} {mean : ExcName → Option Value} {news : Led}
    {R : Result → Shared → Prop} {name qual : Str} {params : Arguments} {body : List Stmt} {scope : Scope} {dV kV doc pm cdv ct oc : Value} {an od : Option Addr} {osl : Array (Option Value)} {f : Addr} {args : Args} {binds : List (Str × Value)}
    (C : Cx w A₀ base outer loose mean mg mb h₀ L m news s.heap) (hA : A.frames = some (env :: outer)) (hf : env.frame = some L) (hke : env.scope.kind = .function)
    (ho : (hd.heap_39 w.params).lookup f = some ⟨oc, od, .func (fnOf name qual params body scope dV kV doc pm an cdv ct), osl⟩) (hcd : codeIn (hd.heap_39 w.params) cdv qual = true) (hroom : A.depth < recursionLimit)
    (hbind : BindsTo s (fnOf name qual params body scope dV kV doc pm an cdv ct) args binds) (hloc : ∀ y ∈ binds, scope.names.lookup y.1 = some .local)
    (h : ∀ g L' h₁, Fr h₀ L g m → Fr g L' h₁ (fun y => binds.reverse.lookup y) → News g L' h₁ news → Below A base (env :: outer) g → (hd.heap_39 w.params).In g → Top hd.view_39 loose mean mg mb g → KtsDicts ((env :: outer).filterMap (·.frame)) g → (hd.heap_39 w.params).In base → Top hd.view_39 loose mean mg mb base →
      ∀ (QQ : Flow → Shared → Prop) (RR : Result → Shared → Prop), (∀ fl s', LeaveS ((env :: outer).filterMap (·.frame)) A₀ base outer (hd.heap_39 w.params) hd.view_39 loose mean mg mb h₀ h₀ L m g R (match fl with | .ret v => v | _ => .none) s' → RetQ QQ fl s') → (∀ e s', R (.error e) s' → RetR RR (.error e) s') →
      wpAny (model Challenge.rw_ix0031_01.row.prog w) (A.deeper (envOf qual scope L' f cdv)) (execs body (envOf qual scope L' f cdv)) (RetQ QQ) (fun e s' => wpAny (model Challenge.rw_ix0031_01.row.prog w) (A.deeper (envOf qual scope L' f cdv)) (leaving (envOf qual scope L' f cdv) e) (fun _ s'' => RetR RR (.error e) s'') (fun e' s'' => RetR RR (.error e') s'') s') { s with heap := h₁, toks := s.toks + binds.length })
    (hco : scope.isCoroutine = false) (hgen : scope.isGenerator = false) (hk : scope.kind = .function)
    (hcell : ∀ x ∈ scope.names, x.2 ≠ .cell) : codeAny (model Challenge.rw_ix0031_01.row.prog w) A (.call (.ref f) args) R s :=
  enterS C hA hf hke ho hcd hroom hbind hloc (fun g L' h₁ x1 x2 x3 x4 x5 x6 x7 x8 x9 => h g L' h₁ x1 x2 x3 x4 x5 x6 x7 x8 x9 _ R (fun _ _ x => x) (fun _ _ x => x)) hco hgen hk hcell
noncomputable def GRel (a b : Array GenState) : Prop := (∀ (i : Nat) x, a[i]? = some x → b[i]? = some x) ∧ (AllBare a → AllBare b)
theorem GRel.refl (a : Array GenState) : GRel a a := ⟨fun _ _ h => h, id⟩
theorem GRel.trans {a b c : Array GenState} (h : GRel a b) (k : GRel b c) : GRel a c := ⟨fun i x e => k.1 i x (h.1 i x e), fun e => k.2 (h.2 e)⟩
noncomputable def Back (w : World) (A₀ : Around) (base : Heap) (outer : List Env) (loose : List Str) (mean : ExcName → Option Value) (mg mb : Str → Option Value) (h₀ : Heap) (L : Addr) (m : Str → Option Value) (Ret : Value → Led → Prop) (s : Shared) (Q : Value → Shared → Prop) : Prop :=
  ∀ v news' h' gn' tk' h₀', KtsTurn (outer.filterMap (·.frame)) h₀ h₀' → GRel s.gens gn' → Cx w A₀ base outer loose mean mg mb h₀' L m news' h' → Ret v news' → Q v { s with heap := h', gens := gn', toks := tk' }
noncomputable def Spec (w : World) (f : Value) (args : List Value) (kw : List (Str × Value)) (need : Nat) (news : Led) (Ret : Value → Led → Prop) : Prop :=
  ∀ (dp un : Nat) (gd : Option (List Code)) (env : Env) (outer : List Env) (A₀ : Around) (base h₀ : Heap) (L : Addr) (m mg mb : Str → Option Value) (loose : List Str) (mean : ExcName → Option Value) (s : Shared) (Q E : Value → Shared → Prop),
    Cx w A₀ base outer loose mean mg mb h₀ L m news s.heap → env.frame = some L → env.scope.kind = .function → dp + need < recursionLimit → un + 8 * need < cLine →
    Back w A₀ base outer loose mean mg mb h₀ L m Ret s Q →
    wpAny (model Challenge.rw_ix0031_01.row.prog w) (kA dp un gd env outer) (call f args kw) Q E s
theorem back {w : World} {A₀ : Around} {base : Heap} {outer : List Env} {loose : List Str} {mean : ExcName → Option Value} {mg mb : Str → Option Value} {h₀ h₀' h' : Heap} {L : Addr} {m : Str → Option Value} {Ret : Value → Led → Prop} {s : Shared} {Q : Value → Shared → Prop} {v : Value} {news' : Led} {tk' : Nat} {gn' : Array GenState}
    (H : Back w A₀ base outer loose mean mg mb h₀ L m Ret s Q) (F : Fr h₀' L h' m) (N : News h₀' L h' news') (R : Ret v news') (T : KtsTurn (outer.filterMap (·.frame)) h₀ h₀') (B : Below A₀ base outer h₀') (X : (hd.heap_39 w.params).In h₀') (P : Top hd.view_39 loose mean mg mb h₀') (D : KtsDicts (outer.filterMap (·.frame)) h₀')
    (XB : (hd.heap_39 w.params).In base) (TB : Top hd.view_39 loose mean mg mb base) (GG : GRel s.gens gn') : Q v { s with heap := h', gens := gn', toks := tk' } := H v news' h' gn' tk' h₀' T GG ⟨B, F, N, X, P, D, XB, TB⟩ R
theorem backR {w : World} {A₀ : Around} {base : Heap} {outer : List Env} {loose : List Str} {mean : ExcName → Option Value} {mg mb : Str → Option Value} {h₀ h₀' h' : Heap} {L : Addr} {m : Str → Option Value} {Ret : Value → Prop} {s : Shared} {Q : Value → Shared → Prop} {v : Value} {news news' : Led} {tk' : Nat} {gn' : Array GenState}
    (H : Back w A₀ base outer loose mean mg mb h₀ L m (fun v n' => n' = news ∧ Ret v) s Q) (F : Fr h₀' L h' m) (N : News h₀' L h' news') (S : ∀ p ∈ news, p ∈ news') (R : Ret v) (T : KtsTurn (outer.filterMap (·.frame)) h₀ h₀') (B : Below A₀ base outer h₀') (X : (hd.heap_39 w.params).In h₀') (P : Top hd.view_39 loose mean mg mb h₀') (D : KtsDicts (outer.filterMap (·.frame)) h₀')
    (XB : (hd.heap_39 w.params).In base) (TB : Top hd.view_39 loose mean mg mb base) (GG : GRel s.gens gn') : Q v { s with heap := h', gens := gn', toks := tk' } := H v news h' gn' tk' h₀' T GG ⟨B, F, fun p hp => N p (S p hp), X, P, D, XB, TB⟩ ⟨rfl, R⟩
@[reducible] noncomputable def SpecR (w : World) (f : Value) (args : List Value) (kw : List (Str × Value)) (need : Nat) (news : Led) (P : Value → Prop) : Prop := Spec w f args kw need news fun v n' => n' = news ∧ P v
theorem Spec.use {w : World} {A A₀ : Around} {base h₀ : Heap} {env : Env} {outer : List Env} {loose : List Str} {mean : ExcName → Option Value} {mg mb : Str → Option Value} {L : Addr} {m : Str → Option Value} {s : Shared} {Q E : Value → Shared → Prop} {f : Value} {args : List Value} {kw : List (Str × Value)} {need dp un : Nat} {gd : Option (List Code)} {news : Led} {Ret : Value → Led → Prop}
    (S : Spec w f args kw need news Ret) (hA : A = kA dp un gd env outer) (B : Below A₀ base outer h₀) (F : Fr h₀ L s.heap m) (N : News h₀ L s.heap news) (X : (hd.heap_39 w.params).In h₀) (T : Top hd.view_39 loose mean mg mb h₀) (D : KtsDicts (outer.filterMap (·.frame)) h₀) (XB : (hd.heap_39 w.params).In base) (TB : Top hd.view_39 loose mean mg mb base)
    (hf : env.frame = some L) (hke : env.scope.kind = .function) (hdp : dp + need < recursionLimit) (hun : un + 8 * need < cLine)
    (h : ∀ v news' h' gn' tk' h₀', Ret v news' → KtsTurn (outer.filterMap (·.frame)) h₀ h₀' → Fr h₀' L h' m → News h₀' L h' news' → Below A₀ base outer h₀' → (hd.heap_39 w.params).In h₀' → Top hd.view_39 loose mean mg mb h₀' → KtsDicts (outer.filterMap (·.frame)) h₀' → (hd.heap_39 w.params).In h' → GRel s.gens gn' → Q v { s with heap := h', gens := gn', toks := tk' }) :
    wpAny (model Challenge.rw_ix0031_01.row.prog w) A (call f args kw) Q E s := by
  subst hA
  exact S dp un gd env outer A₀ base h₀ L m mg mb loose mean s Q E ⟨B, F, N, X, T, D, XB, TB⟩ hf hke hdp hun fun v n' h' g' t' h₀' hT hG C R => h v n' h' g' t' h₀' R hT C.F C.N C.B C.X C.T C.D (C.X.keeps C.F.keep) hG
theorem SpecR.use {w : World} {A A₀ : Around} {base h₀ : Heap} {env : Env} {outer : List Env} {loose : List Str} {mean : ExcName → Option Value} {mg mb : Str → Option Value} {L : Addr} {m : Str → Option Value} {s : Shared} {Q E : Value → Shared → Prop} {f : Value} {args : List Value} {kw : List (Str × Value)} {need dp un : Nat} {gd : Option (List Code)} {news : Led} {Ret : Value → Prop}
    (S : SpecR w f args kw need news Ret) (hA : A = kA dp un gd env outer) (B : Below A₀ base outer h₀) (F : Fr h₀ L s.heap m) (N : News h₀ L s.heap news) (X : (hd.heap_39 w.params).In h₀) (T : Top hd.view_39 loose mean mg mb h₀) (D : KtsDicts (outer.filterMap (·.frame)) h₀) (XB : (hd.heap_39 w.params).In base) (TB : Top hd.view_39 loose mean mg mb base)
    (hf : env.frame = some L) (hke : env.scope.kind = .function) (hdp : dp + need < recursionLimit) (hun : un + 8 * need < cLine)
    (h : ∀ v h' gn' tk' h₀', Ret v → KtsTurn (outer.filterMap (·.frame)) h₀ h₀' → Fr h₀' L h' m → News h₀' L h' news → Below A₀ base outer h₀' → (hd.heap_39 w.params).In h₀' → Top hd.view_39 loose mean mg mb h₀' → KtsDicts (outer.filterMap (·.frame)) h₀' → (hd.heap_39 w.params).In h' → GRel s.gens gn' → Q v { s with heap := h', gens := gn', toks := tk' }) :
    wpAny (model Challenge.rw_ix0031_01.row.prog w) A (call f args kw) Q E s := by
  subst hA
  refine S dp un gd env outer A₀ base h₀ L m mg mb loose mean s Q E ⟨B, F, N, X, T, D, XB, TB⟩ hf hke hdp hun fun v n' h' g' t' h₀' hT hG C R => ?_
  obtain ⟨e, R⟩ := R
  subst e
  exact h v h' g' t' h₀' R hT C.F C.N C.B C.X C.T C.D (C.X.keeps C.F.keep) hG
theorem roomA {a d j c need R : Nat} (h : d + need < R) (e : a = d + j) (b : Nat.ble (j + c) need = true) : a + c < R := by
  subst e
  have := Nat.le_of_ble_eq_true b
  omega
theorem roomB {a d j need R : Nat} (h : d + need < R) (e : a = d + j) (b : Nat.ble j need = true) : a < R := by
  subst e
  have := Nat.le_of_ble_eq_true b
  omega
theorem any2t {a b c : Int} (h : ([a, b].any fun x => x == c) = true) : c = a ∨ c = b := by
  simp only [List.any_cons, List.any_nil, Bool.or_false, Bool.or_eq_true, beq_iff_eq] at h
  exact h.imp Eq.symm Eq.symm
theorem any2f {a b c : Int} (h : ([a, b].any fun x => x == c) = false) : c ≠ a ∧ c ≠ b := by
  simp only [List.any_cons, List.any_nil, Bool.or_false, Bool.or_eq_false_iff, beq_eq_false_iff_ne] at h
  exact ⟨Ne.symm h.1, Ne.symm h.2⟩
theorem SetL.mono {w : World} {x : Addr} {c : Bool} {σ : Sgs} {news news' : Led} {dx d : Addr} {t1 t2 : Tok} {n : Nat} {od : Obj} {kvs : List (Int × Value)} {ls : Led} (H : SetL w x c σ news dx d t1 t2 n od kvs ls) (h : ∀ p ∈ news, p ∈ news') : SetL w x c σ news' dx d t1 t2 n od kvs ls :=
  ⟨h _ H.inst, h _ H.dict, H.sep, ⟨h _ H.dic.body, H.dic.isd, H.dic.lists, fun p hp => h _ (H.dic.lsin p hp), H.dic.low, H.dic.ne, H.dic.nd, H.dic.fit⟩⟩
theorem DicL.mono {w : World} {d : Addr} {σ : Sgs} {news news' : Led} {od : Obj} {kvs : List (Int × Value)} {ls : Led} (H : DicL w d σ news od kvs ls) (h : ∀ p ∈ news, p ∈ news') : DicL w d σ news' od kvs ls :=
  ⟨h _ H.body, H.isd, H.lists, fun p hp => h _ (H.lsin p hp), H.low, H.ne, H.nd, H.fit⟩
theorem DicI.mono {w : World} {d : Addr} {π : List (Int × Int)} {news news' : Led} {od : Obj} {kvs : List (Int × Value)} (H : DicI w d π news od kvs) (h : ∀ p ∈ news, p ∈ news') : DicI w d π news' od kvs := ⟨h _ H.body, H.isd, H.nums, H.low⟩
noncomputable def putR {α : Type} (σ : List (Int × α)) (k : Int) (row : α) : List (Int × α) :=
  if σ.any (fun p => p.1 = k) then σ.map (fun p => if p.1 = k then (p.1, row) else p) else σ ++ [(k, row)]
noncomputable def dropR {α : Type} (σ : List (Int × α)) (k : Int) : List (Int × α) := σ.filter fun p => decide (p.1 ≠ k)
theorem look_nil {α : Type} (k : Int) : look ([] : List (Int × α)) k = none := rfl
theorem look_any {α : Type} (σ : List (Int × α)) (k : Int) : (look σ k).isSome = σ.any (fun p => p.1 = k) := by
  induction σ with
  | nil => rfl
  | cons p σ ih =>
    obtain ⟨j, row⟩ := p
    rw [look_cons, List.any_cons]
    by_cases e : j = k
    · simp [e]
    · simp only [e, if_false, decide_false, Bool.false_or]; exact ih
theorem look_none_any {α : Type} {σ : List (Int × α)} {k : Int} (h : look σ k = none) : σ.any (fun p => p.1 = k) = false := by rw [← look_any, h]; rfl
theorem look_some_any {α : Type} {σ : List (Int × α)} {k : Int} {r : α} (h : look σ k = some r) : σ.any (fun p => p.1 = k) = true := by rw [← look_any, h]; rfl
theorem look_map {α : Type} (σ : List (Int × α)) (k j : Int) (row : α) : look (σ.map fun p => if p.1 = k then (p.1, row) else p) j = if j = k then (look σ j).map fun _ => row else look σ j := by
  induction σ with
  | nil => simp [look_nil]
  | cons p σ ih =>
    obtain ⟨i, r⟩ := p
    rw [List.map_cons]
    by_cases e : i = k
    · simp only [e, if_true]
      rw [look_cons, look_cons, ih]
      by_cases q : k = j
      · subst q; simp
      · have : ¬ j = k := fun h => q h.symm
        simp [q, this]
    · simp only [e, if_false]
      rw [look_cons, look_cons, ih]
      by_cases q : i = j
      · subst q; simp [e]
      · simp [q]
theorem look_append {α : Type} (σ τ : List (Int × α)) (j : Int) : look (σ ++ τ) j = (look σ j).or (look τ j) := by
  induction σ with
  | nil => simp [look_nil]
  | cons p σ ih =>
    obtain ⟨i, r⟩ := p
    rw [List.cons_append, look_cons, look_cons, ih]
    by_cases q : i = j <;> simp [q]
theorem look_put {α : Type} (σ : List (Int × α)) (k j : Int) (row : α) : look (putR σ k row) j = if j = k then some row else look σ j := by
  unfold putR
  cases h : σ.any (fun p => p.1 = k) with
  | true =>
    rw [if_pos rfl, look_map]
    by_cases e : j = k
    · subst e
      rw [if_pos rfl, if_pos rfl]
      have := look_any σ j
      rw [h] at this
      cases q : look σ j with
      | none => rw [q] at this; cases this
      | some r => rfl
    · rw [if_neg e, if_neg e]
  | false =>
    rw [if_neg (by decide), look_append, look_cons]
    by_cases e : j = k
    · subst e
      have := look_any σ j
      rw [h] at this
      cases q : look σ j with
      | none => simp
      | some r => rw [q] at this; cases this
    · have e' : ¬ k = j := fun h => e h.symm
      simp [e, e', look_nil]
theorem look_drop {α : Type} (σ : List (Int × α)) (k j : Int) : look (dropR σ k) j = if j = k then none else look σ j := by
  unfold dropR
  induction σ with
  | nil => simp [look_nil]
  | cons p σ ih =>
    obtain ⟨i, r⟩ := p
    rw [List.filter_cons]
    by_cases e : i = k
    · subst e
      simp only [ne_eq, not_true, decide_false, Bool.false_eq_true, if_false]
      rw [ih, look_cons]
      by_cases q : j = i
      · simp [q]
      · have : ¬ i = j := fun h => q h.symm
        simp [q, this]
    · simp only [ne_eq, e, not_false_eq_true, decide_true, if_true]
      rw [look_cons, look_cons, ih]
      by_cases q : i = j
      · subst q; simp [e]
      · simp [q]
theorem put_length {α : Type} (σ : List (Int × α)) (k : Int) (row : α) : (putR σ k row).length ≤ σ.length + 1 := by
  unfold putR
  split <;> simp
theorem ListsL.any {σ : Sgs} {kvs : List (Int × Value)} {ls : Led} (H : ListsL σ kvs ls) (k : Int) : kvs.any (fun p => p.1 = k) = σ.any (fun p => p.1 = k) := by
  induction H with
  | nil => rfl
  | cons _ _ ih => rw [List.any_cons, List.any_cons, ih]
theorem ListsL.addrs {σ : Sgs} {kvs : List (Int × Value)} {ls : Led} (H : ListsL σ kvs ls) : kvs.map (·.2) = ls.map fun p => .ref p.1 := by
  induction H with
  | nil => rfl
  | cons _ _ ih => simp [ih]
theorem ListsL.append {σ τ : Sgs} {kvs kws : List (Int × Value)} {ls ms : Led} (H : ListsL σ kvs ls) (J : ListsL τ kws ms) : ListsL (σ ++ τ) (kvs ++ kws) (ls ++ ms) := by
  induction H with
  | nil => exact J
  | cons ho _ ih => exact .cons ho ih
theorem map_none {α : Type} {σ : List (Int × α)} {k : Int} (f : α) (h : k ∉ σ.map (·.1)) : σ.map (fun p => if p.1 = k then (p.1, f) else p) = σ := by
  induction σ with
  | nil => rfl
  | cons p σ ih =>
    simp only [List.map_cons, List.mem_cons, not_or] at h
    rw [List.map_cons, ih h.2, if_neg (fun e => h.1 e.symm)]
theorem ListsL.putNew {σ : Sgs} {kvs : List (Int × Value)} {ls : Led} (H : ListsL σ kvs ls) (hk : (σ.map (·.1)).Nodup) (nd : (ls.map (·.1)).Nodup) {k : Int} {row : Row} {a : Addr} {o : Obj} (ho : RowObj row o) (ha : a ∉ ls.map (·.1)) :
    ∃ ls', ListsL (putR σ k row) (stored kvs k (.ref a)) ls' ∧ (ls'.map (·.1)).Nodup ∧ ∀ p ∈ ls', p = (a, o) ∨ p ∈ ls := by
  unfold putR stored
  rw [H.any]
  cases hs : σ.any (fun p => p.1 = k) with
  | false =>
    rw [if_neg (by decide), if_neg (by decide)]
    refine ⟨ls ++ [(a, o)], H.append (.cons ho .nil), ?_, fun p hp => ?_⟩
    · rw [List.map_append, List.nodup_append]
      refine ⟨nd, by simp, fun x hx y hy e => ?_⟩
      simp only [List.map_cons, List.map_nil, List.mem_singleton] at hy
      subst hy; subst e; exact ha hx
    · rcases List.mem_append.mp hp with h | h
      · exact .inr h
      · exact .inl (List.mem_singleton.mp h)
  | true =>
    rw [if_pos rfl, if_pos rfl]
    clear hs
    induction H with
    | nil => exact ⟨[], .nil, by simp, fun _ h => nomatch h⟩
    | @cons j r q b σ kvs ls hq Ht ih =>
      simp only [List.map_cons, List.nodup_cons] at hk nd
      simp only [List.map_cons, List.mem_cons, not_or] at ha
      by_cases e : j = k
      · subst e
        have e2 : j ∉ kvs.map (·.1) := by rw [Ht.keys]; exact hk.1
        simp only [List.map_cons, if_true]
        rw [map_none row hk.1, map_none (Value.ref a) e2]
        exact ⟨(a, o) :: ls, .cons ho Ht, by simp only [List.map_cons, List.nodup_cons]; exact ⟨ha.2, nd.2⟩, fun p hp => by
          rcases List.mem_cons.mp hp with h | h
          · exact .inl h
          · exact .inr (.tail _ h)⟩
      · obtain ⟨ls', h1, h2, h3⟩ := ih hk.2 nd.2 ha.2
        simp only [List.map_cons, e, if_false]
        refine ⟨(b, q) :: ls', .cons hq h1, ?_, fun p hp => ?_⟩
        · simp only [List.map_cons, List.nodup_cons]
          refine ⟨fun hm => ?_, h2⟩
          obtain ⟨p, hp, hpb⟩ := List.mem_map.mp hm
          rcases h3 p hp with h | h
          · rw [h] at hpb; exact ha.1 hpb
          · exact nd.1 (hpb ▸ List.mem_map_of_mem h)
        · rcases List.mem_cons.mp hp with h | h
          · exact .inr (h ▸ .head _)
          · rcases h3 p h with h | h
            · exact .inl h
            · exact .inr (.tail _ h)
theorem ListsL.upd {σ : Sgs} {kvs : List (Int × Value)} {ls : Led} (H : ListsL σ kvs ls) (hk : (σ.map (·.1)).Nodup) (nd : (ls.map (·.1)).Nodup) {k : Int} {row : Row} {a : Addr} {o : Obj} (ho : RowObj row o) (hv : valueAt kvs k = some (.ref a)) :
    ∃ ls', ListsL (putR σ k row) kvs ls' ∧ ls'.map (·.1) = ls.map (·.1) ∧ ∀ p ∈ ls', p = (a, o) ∨ (p ∈ ls ∧ p.1 ≠ a) := by
  have hs : σ.any (fun p => p.1 = k) = true := by
    cases q : look σ k with
    | none => rw [H.look_none q] at hv; cases hv
    | some r => exact look_some_any q
  unfold putR
  rw [if_pos hs]
  clear hs
  induction H with
  | nil => cases hv
  | @cons j r q b σ kvs ls hq Ht ih =>
    simp only [List.map_cons, List.nodup_cons] at hk nd
    rw [valueAt_cons] at hv
    by_cases e : j = k
    · subst e
      rw [if_pos rfl] at hv
      cases hv
      simp only [List.map_cons, if_true]
      rw [map_none row hk.1]
      refine ⟨(a, o) :: ls, .cons ho Ht, by simp, fun p hp => ?_⟩
      rcases List.mem_cons.mp hp with h | h
      · exact .inl h
      · exact .inr ⟨.tail _ h, fun z => nd.1 (z ▸ List.mem_map_of_mem h)⟩
    · rw [if_neg e] at hv
      obtain ⟨ls', h1, h2, h3⟩ := ih hk.2 nd.2 hv
      simp only [List.map_cons, e, if_false]
      refine ⟨(b, q) :: ls', .cons hq h1, by simp [h2], fun p hp => ?_⟩
      have hab : b ≠ a := fun z => by
        subst z
        have : Value.ref b ∈ kvs.map (·.2) := by
          unfold valueAt at hv
          obtain ⟨kv, hf, e2⟩ := Option.map_eq_some_iff.mp hv
          exact e2 ▸ List.mem_map_of_mem (List.mem_of_find?_eq_some hf)
        rw [Ht.addrs] at this
        obtain ⟨u, hu, e3⟩ := List.mem_map.mp this
        cases e3
        exact nd.1 (List.mem_map_of_mem hu)
      rcases List.mem_cons.mp hp with h | h
      · subst h; exact .inr ⟨.head _, hab⟩
      · rcases h3 p h with h | h
        · exact .inl h
        · exact .inr ⟨.tail _ h.1, h.2⟩
theorem ListsL.drop {σ : Sgs} {kvs : List (Int × Value)} {ls : Led} (H : ListsL σ kvs ls) (k : Int) : ∃ ls', ListsL (dropR σ k) (without kvs k) ls' ∧ (ls'.map (·.1)).Sublist (ls.map (·.1)) ∧ ∀ p ∈ ls', p ∈ ls := by
  unfold dropR without
  induction H with
  | nil => exact ⟨[], .nil, .refl _, fun _ h => h⟩
  | @cons j r q b σ kvs ls hq Ht ih =>
    obtain ⟨ls', h1, h2, h3⟩ := ih
    rw [List.filter_cons, List.filter_cons]
    by_cases e : j = k
    · simp only [ne_eq, e, not_true, decide_false, Bool.false_eq_true, if_false]
      exact ⟨ls', h1, h2.trans (List.sublist_cons_self _ _), fun p hp => .tail _ (h3 p hp)⟩
    · simp only [ne_eq, e, not_false_eq_true, decide_true, if_true]
      refine ⟨(b, q) :: ls', .cons hq h1, by simpa using h2, fun p hp => ?_⟩
      rcases List.mem_cons.mp hp with h | h
      · exact h ▸ .head _
      · exact .tail _ (h3 p h)
noncomputable def KD {α : Type} : Sem α → Prop
  | .pure _ => True
  | .raise _ => True
  | .unsupported _ => True
  | .finish _ => True
  | .rule _ k => KD (k ())
  | .at _ k => KD (k ())
  | .load _ _ k => ∀ o, KD (k o)
  | .update _ _ f k => (∀ o, (f o).dict = o.dict ∧ (f o).isFreed = o.isFreed) ∧ KD (k ())
  | .loadIfAlive _ k => ∀ o, KD (k o)
  | .point _ k => KD (k ())
  | .register _ _ => True
  | .alloc _ k => ∀ a, KD (k a)
  | .fresh k => ∀ t, KD (k t)
  | .ask k => ∀ x, KD (k x)
  | .choose _ _ _ => False
  | .os _ _ _ => False
  | .call _ _ _ _ _ => False
  | .handled _ k => ∀ x, KD (k x)
  | .newGen _ _ => False
  | .genState _ _ => False
  | .resume _ _ _ _ => False
  | .yield _ _ _ _ => True
  | .stack k => ∀ x, KD (k x)
  | .fork _ _ => True
  | .thread k => ∀ x, KD (k x)
  | .await _ _ _ _ _ => True
theorem KD.bind {α β : Type} {m : Sem α} {f : α → Sem β} (h : KD m) (hf : ∀ a, KD (f a)) : KD (m >>= f) := by
  show KD (m.bind f)
  induction m <;> first
    | exact hf _
    | trivial
    | (rename_i ih; exact ih () h)
    | (rename_i ih; exact fun x => ih x (h x))
    | (rename_i ih; exact ⟨h.1, ih () h.2⟩)
theorem KD.pure {α : Type} {a : α} : KD (Pure.pure a : Sem α) := trivial
theorem KD.load {a : Addr} {p : Option Value} : KD (loadPart a p) := fun _ => trivial
noncomputable def KeepsDict (h h' : Heap) : Prop := ∀ b o, h.get? b = some o → ∃ o', h'.get? b = some o' ∧ o'.dict = o.dict
theorem KeepsDict.refl (h : Heap) : KeepsDict h h := fun _ o e => ⟨o, e, rfl⟩
theorem KeepsDict.trans {h₁ h₂ h₃ : Heap} (x : KeepsDict h₁ h₂) (y : KeepsDict h₂ h₃) : KeepsDict h₁ h₃ := fun b o e =>
  let ⟨o', e', d'⟩ := x b o e; let ⟨o'', e'', d''⟩ := y b o' e'; ⟨o'', e'', d''.trans d'⟩
theorem KeepsDict.push (h : Heap) (x : Obj) : KeepsDict h (h.push x) := fun b o e => ⟨o, Heap.get?_push_of_some _ e, rfl⟩
theorem KeepsDict.update (h : Heap) (a : Addr) (f : Obj → Obj) (hf : ∀ o, (f o).dict = o.dict ∧ (f o).isFreed = o.isFreed) : KeepsDict h (h.update a f) := fun b o e => by
  by_cases q : a = b
  · subst q
    refine ⟨f o, Heap.get?_update_self f e ?_, (hf o).1⟩
    rw [(hf o).2]
    exact (Heap.get?_some_iff.mp e).2
  · exact ⟨o, (Heap.get?_update_other h f q).trans e, rfl⟩
theorem wp_KD {α : Type} {M : Model} {Γ : PySem.Ctx} (t : Sem α) : ∀ {Q : α → Pos → Shared → Prop} {E : Value → Pos → Shared → Prop} {p : Pos} {s : Shared}, KD t → Sem.wp M Γ t Q E p s →
    Sem.wp M Γ t (fun a p' s' => Q a p' s' ∧ KeepsDict s.heap s'.heap) (fun e p' s' => E e p' s' ∧ KeepsDict s.heap s'.heap) p s := by
  induction t with
  | pure a => intro Q E p s _ h; exact ⟨h, .refl _⟩
  | raise e => intro Q E p s _ h; exact ⟨h, .refl _⟩
  | rule tag k ih => intro Q E p s d h; exact ih () d h
  | «at» p' k ih => intro Q E p s d h; exact ih () d h
  | load a part k ih => intro Q E p s d h; obtain ⟨o, ho, h⟩ := h; exact ⟨o, ho, ih o (d o) h⟩
  | update a part f k ih =>
    intro Q E p s d h
    refine ⟨h.1, ?_⟩
    have k1 := KeepsDict.update s.heap a f d.1
    exact Sem.wp_mono M Γ _ (fun a p s' x => ⟨x.1, k1.trans x.2⟩) (fun a p s' x => ⟨x.1, k1.trans x.2⟩) _ _ (ih () d.2 h.2)
  | loadIfAlive a k ih => intro Q E p s d h; exact ih _ (d _) h
  | point l k ih => intro Q E p s d h; exact ih () d h
  | alloc o k ih =>
    intro Q E p s d h
    have k1 := KeepsDict.push s.heap o
    exact Sem.wp_mono M Γ _ (fun a p s' x => ⟨x.1, k1.trans x.2⟩) (fun a p s' x => ⟨x.1, k1.trans x.2⟩) _ _ (ih _ (d _) h)
  | fresh k ih => intro Q E p s d h; exact ih _ (d _) h
  | ask k ih => intro Q E p s d h; exact ih _ (d _) h
  | handled own k ih => intro Q E p s d h; exact ih _ (d _) h
  | stack k ih => intro Q E p s d h; exact ih _ (d _) h
  | thread k ih => intro Q E p s d h; exact ih _ (d _) h
  | _ => intro Q E p s d h; first | exact d.elim | exact absurd h (by simp [Sem.wp])
theorem wpAny_KD {α : Type} {M : Model} {A : Around} {t : Sem α} {Q : α → Shared → Prop} {E : Value → Shared → Prop} {s : Shared} (h : wpAny M A t Q E s) (d : KD t) :
    wpAny M A t (fun a s' => Q a s' ∧ KeepsDict s.heap s'.heap) (fun e s' => E e s' ∧ KeepsDict s.heap s'.heap) s := fun Γ p hΓ => wp_KD t d (h Γ p hΓ)
theorem KD.mapFields {f : Array Value → Array Value} (o : Obj) : (Obj.mapFields f o).dict = o.dict ∧ (Obj.mapFields f o).isFreed = o.isFreed := by
  obtain ⟨c, d, dt, sl⟩ := o
  cases dt <;> exact ⟨rfl, rfl⟩
theorem KD.fieldsOf {v : Value} : KD (PySem.fieldsOf v) := by
  unfold PySem.fieldsOf
  split
  · refine KD.bind KD.load fun o => ?_
    split <;> trivial
  · trivial
theorem KD.field {v : Value} {i : Nat} : KD (PySem.field v i) := by
  unfold PySem.field
  refine KD.bind KD.fieldsOf fun vs => ?_
  split <;> trivial
theorem KD.setField {v : Value} {i : Nat} {x : Value} : KD (PySem.setField v i x) := by
  unfold PySem.setField
  split
  · unfold updateField
    refine KD.bind KD.load fun o => ?_
    split
    · split
      · exact ⟨fun o => KD.mapFields o, trivial⟩
      · trivial
    · trivial
  · trivial
theorem KD.setFlight {e : Value} {fr : Option Addr} : KD (PySem.setFlight e fr) := by
  unfold PySem.setFlight
  refine KD.bind KD.field fun tb => ?_
  split
  · exact KD.setField
  · trivial
theorem KD.newTb {vs : List Value} : KD (newFields "traceback" vs) := by
  unfold newFields newObj
  dsimp only
  split
  · trivial
  · exact fun a => trivial
theorem KD.frameOf {env : Env} : KD (PySem.frameOf env) := by
  unfold PySem.frameOf frameEnvs
  refine KD.bind (KD.bind (fun x => KD.pure) fun _ => KD.pure) fun l => ?_
  have rd : ∀ l : List Env, KD (readyFrames l) := by
    intro l
    induction l with
    | nil => trivial
    | cons env outer ih =>
      unfold readyFrames
      split
      · refine KD.bind KD.load fun o => ?_
        split
        · trivial
        · refine KD.bind ?_ fun im => KD.bind ?_ fun bk => KD.bind (m := update _ _) ⟨fun o => ⟨rfl, by obtain ⟨c, d, dt, sl⟩ := o; cases dt <;> rfl⟩, trivial⟩ fun _ => ih
          · unfold behindIsImport
            split
            · trivial
            · split
              · trivial
              · exact KD.bind KD.field fun _ => KD.pure
          · unfold keptBack
            split
            · split
              · trivial
              · refine KD.bind ?_ fun _ => KD.pure
                unfold underTheClaimsCaller
                exact KD.bind (fun _ => trivial) fun _ => KD.pure
            · trivial
      · trivial
  refine KD.bind ?_ fun r => ?_
  · unfold frameObject
    split
    · trivial
    · exact KD.bind (rd _) fun _ => KD.pure
  · split <;> trivial
theorem KD.noteFrame {e : Value} {env : Env} : KD (PySem.noteFrame e env) := by
  unfold PySem.noteFrame
  split
  · refine KD.bind KD.field fun hd => ?_
    have last : ∀ f b, KD (do PySem.setField e 1 (← EntryCells.newEntry hd (← PySem.frameOf env) .none (rawInt f) .none (← entryPlaceOf f b))) := fun f b => by
      refine KD.bind KD.frameOf fun fr => KD.bind ?_ fun pl => KD.bind KD.newTb fun x => KD.setField
      unfold entryPlaceOf
      refine KD.bind (fun _ => trivial) fun acts => ?_
      split <;> trivial
    split
    · refine KD.bind KD.field fun z => ?_
      split
      · trivial
      · exact KD.bind KD.setField fun _ => last _ _
    · exact last _ _
  · trivial
theorem KD.leaving {env : Env} {e : Value} : KD (PySem.leaving env e) := KD.bind KD.noteFrame fun _ => KD.setFlight
@[reducible] noncomputable def errDict (w : World) (r : Int) (tk tr : Tok) (n : Nat) : Obj := dictOf [⟨PyData.keyHash w.params (Str.ofString "error_code"), .str (Str.ofString "error_code") tk, .int r tr⟩] n
inductive Err (w : World) (base G : Heap) (l : List Env) (e : Addr) (r : Int) (news : Led) (h : Heap) : Prop
  | mk : ∀ t vs de tk tr n, (RaisedS base G l e (.ref 79) t vs news h) → (G.UpToSlots h) → ((∃ oe, h.get? e = some oe ∧ oe.dict = some de)) → ((de, errDict w r tk tr n) ∈ news) → Err w base G l e r news h
section
variable {M : Model} {A : Around} {E : Value → Shared → Prop} {s : Shared} {base : Heap} {env : Env} {outer l : List Env} {L e : Addr} {cls a0 : Value} {Q : Unit → Shared → Prop}
theorem looksD (hfr : A.frames = some (env :: outer)) (hf : env.frame = some L) (hfl : Heap.FlyingW base (env :: outer) e cls a0 s.heap)
    (hQ : ∀ h', Heap.HeldW base (env :: outer) e cls a0 L h' → s.heap.UpToSlots h' → KeepsDict s.heap h' → Q () { s with heap := h' }) : wpAny M A (noteFrame (.ref e) env) Q E s :=
  wpAny_mono (wpAny_KD (wpAny_looks_onW hfr hf hfl (Q := fun _ s' => ∃ h', s' = { s with heap := h' } ∧ Heap.HeldW base (env :: outer) e cls a0 L h' ∧ s.heap.UpToSlots h') (E := E) fun h' a b => ⟨h', rfl, a, b⟩) KD.noteFrame)
    (fun _ s' x => by obtain ⟨⟨h', rfl, a, b⟩, k⟩ := x; exact hQ h' a b k) fun _ _ x => x.1
theorem landsD (hh : Heap.HeldW base l e cls a0 L s.heap)
    (hQ : ∀ h', Heap.FlyingW base l e cls a0 h' → s.heap.UpToSlots h' → KeepsDict s.heap h' → Q () { s with heap := h' }) : wpAny M A (setFlight (.ref e) none) Q E s :=
  wpAny_mono (wpAny_KD (wpAny_landsW hh (Q := fun _ s' => ∃ h', s' = { s with heap := h' } ∧ Heap.FlyingW base l e cls a0 h' ∧ s.heap.UpToSlots h') (E := E) fun h' a b => ⟨h', rfl, a, b⟩) KD.setFlight)
    (fun _ s' x => by obtain ⟨⟨h', rfl, a, b⟩, k⟩ := x; exact hQ h' a b k) fun _ _ x => x.1
theorem landsAgainD (hh : Heap.FlyingW base l e cls a0 s.heap)
    (hQ : ∀ h', Heap.FlyingW base l e cls a0 h' → s.heap.UpToSlots h' → KeepsDict s.heap h' → Q () { s with heap := h' }) : wpAny M A (setFlight (.ref e) none) Q E s :=
  wpAny_mono (wpAny_KD (lands_againW hh (Q := fun _ s' => ∃ h', s' = { s with heap := h' } ∧ Heap.FlyingW base l e cls a0 h' ∧ s.heap.UpToSlots h') (E := E) fun h' a b => ⟨h', rfl, a, b⟩) KD.setFlight)
    (fun _ s' x => by obtain ⟨⟨h', rfl, a, b⟩, k⟩ := x; exact hQ h' a b k) fun _ _ x => x.1
end
section
variable {M : Model} {A : Around} {E : Value → Shared → Prop} {w : World} {s' : Shared} {base g g₂ : Heap} {outer : List Env} {L a e t de : Addr} {m : Str → Option Value} {name : Str} {scope : Scope} {cd : Value} {Q : Unit → Shared → Prop} {news : Led} {r : Int} {tk tr : Tok} {n : Nat} {vs : List Value} {sl : Array (Option Value)}
theorem leaveErr (K : Below A base outer g) (F : Fr g L s'.heap m) (N : News g L s'.heap news)
    (he : s'.heap.get? e = some ⟨.ref 79, some de, .fields #[.ref t, .none, .none, .none, .bool false, .none], sl⟩) (ht : s'.heap.TupAt t vs) (ge : g.get? e = none) (gt : g.get? t = none) (hne : ∀ p ∈ news, p.1 ≠ e ∧ p.1 ≠ t) (hde : (de, errDict w r tk tr n) ∈ news)
    (hQ : ∀ h', Err w base g outer e r news h' → Q () { s' with heap := h' }) (hk : scope.kind = .function := by rfl) :
    wpAny M (A.deeper (envOf name scope L a cd)) (leaving (envOf name scope L a cd) (.ref e)) Q E s' := by
  have K' := K.push (name := name) (a := a) (cd := cd) F hk
  have hfs : ∀ b, b ∈ (envOf name scope L a cd :: outer).filterMap (·.frame) → b ≠ e := fun b hb q => by
    (refine hide fun G__ k__ => ?_; obtain ⟨o, ho, hd⟩ := (K'.frames.mem hb).2; refine k__ ?_; clear k__ G__)
    rw [q, he] at ho; cases ho
    exact hd _ rfl
  have hin : ∀ env ∈ (envOf name scope L a cd :: outer), ∀ b, env.frame = some b → b ∈ e :: t :: (envOf name scope L a cd :: outer).filterMap (·.frame) := fun env he b hb => .tail _ (.tail _ (List.mem_filterMap.mpr ⟨env, he, hb⟩))
  have be : base.get? e = none := fresh_of_stays K.stays ge
  have bt : base.get? t = none := fresh_of_stays K.stays gt
  have st : base.StaysIn (hideAll s'.heap (e :: t :: (envOf name scope L a cd :: outer).filterMap (·.frame))) := fun b o q => hideAll_get _ (K'.stays b o q) fun hm => by
    rcases List.mem_cons.mp hm with rfl | hm
    · rw [be] at q; cases q
    rcases List.mem_cons.mp hm with rfl | hm
    · rw [bt] at q; cases q
    · rw [(K'.frames.mem hm).1] at q; cases q
  have sg : ∀ b o, g.get? b = some o → b ∉ outer.filterMap (·.frame) → (hideAll s'.heap (e :: t :: (envOf name scope L a cd :: outer).filterMap (·.frame))).get? b = some o := fun b o q nm => hideAll_get _ (F.keep b o q) fun hm => by
    rcases List.mem_cons.mp hm with rfl | hm
    · rw [ge] at q; cases q
    rcases List.mem_cons.mp hm with rfl | hm
    · rw [gt] at q; cases q
    rcases kts_mem hm with z | z
    · rw [z, kts_self F] at q
      cases q
    · exact nm z
  have hl : ∀ q ∈ news, (hideAll s'.heap (e :: t :: (envOf name scope L a cd :: outer).filterMap (·.frame))).get? q.1 = some q.2 ∧ g.get? q.1 = none ∧ base.get? q.1 = none := fun q hq => by
    refine ⟨hideAll_get _ (N q hq).1 fun hm => ?_, (N q hq).2.2, fresh_of_stays K.stays (N q hq).2.2⟩
    rcases List.mem_cons.mp hm with z | hm
    · exact (hne q hq).1 z
    rcases List.mem_cons.mp hm with z | hm
    · exact (hne q hq).2 z
    (refine hide fun G__ k__ => ?_; obtain ⟨env, he, hf⟩ := List.mem_filterMap.mp hm; refine k__ ?_; clear k__ G__)
    rcases List.mem_cons.mp he with rfl | he
    · exact (N q hq).2.1 (Option.some.inj hf).symm
    · (refine hide fun G__ k__ => ?_; obtain ⟨o, ho, _⟩ := (K.frames.mem (List.mem_filterMap.mpr ⟨env, he, hf⟩)).2; refine k__ ?_; clear k__ G__)
      rw [(N q hq).2.2] at ho; cases ho
  refine wpAny_mono (wpAny_KD (wpAny_leaving_firstW (base := hideAll s'.heap (e :: t :: (envOf name scope L a cd :: outer).filterMap (·.frame))) (Q := fun _ s₂ => ∃ h', s₂ = { s' with heap := h' } ∧ Heap.LeftW (hideAll s'.heap (e :: t :: (envOf name scope L a cd :: outer).filterMap (·.frame))) (envOf name scope L a cd :: outer) e (.ref 79) (.ref t) s'.heap h') (E := E)
    K'.stack (funFrames_hide K'.frames hin) rfl he (fun b o q => of_hideAll _ q) (hideAll_none _ (.head _)) rfl rfl rfl fun h' x => ⟨h', rfl, x⟩) KD.leaving) (fun _ s₂ x => ?_) fun _ _ x => x.1
  (refine hide fun G__ k__ => ?_; obtain ⟨⟨h', rfl, x1, ⟨_, _, x2⟩, x3, x4⟩, k⟩ := x; refine k__ ?_; clear k__ G__)
  refine hQ h' ⟨t, vs, de, tk, tr, n, ⟨⟨_, st, sg, hl, ⟨x1, hideAll_none _ (.head _), x2, x3⟩, hideAll_none _ (.tail _ (.head _))⟩, ht.of_slots x4⟩, (Heap.UpToSlots.of_keeps F.keep).trans x4, ?_, hde⟩
  (refine hide fun G__ k__ => ?_; obtain ⟨o', h1, h2⟩ := k _ _ he; refine k__ ?_; clear k__ G__)
  exact ⟨o', h1, h2⟩
theorem leaveErrOn (K : Below A base outer g) (F : Fr g L g₂ m) (R : Err w base g₂ (envOf name scope L a cd :: outer) e r news s'.heap) (hQ : ∀ h', Err w base g outer e r news h' → Q () { s' with heap := h' }) :
    wpAny M (A.deeper (envOf name scope L a cd)) (leaving (envOf name scope L a cd) (.ref e)) Q E s' := by
  (refine hide fun G__ k__ => ?_; obtain ⟨t, vs, de, tk, tr, n, R, U, ⟨oe, he, hd⟩, hm⟩ := R; refine k__ ?_; clear k__ G__)
  refine wpAny_mono (wpAny_KD (leave_onS (Q := fun _ s₂ => ∃ h', s₂ = { s' with heap := h' } ∧ RaisedS base g outer e (.ref 79) t vs news h' ∧ g.UpToSlots h') (E := E) K F R U fun h' a _ b => ⟨h', rfl, a, b⟩) KD.leaving) (fun _ s₂ x => ?_) fun _ _ x => x.1
  (refine hide fun G__ k__ => ?_; obtain ⟨⟨h', rfl, a, b⟩, k⟩ := x; refine k__ ?_; clear k__ G__)
  (refine hide fun G__ k__ => ?_; obtain ⟨o', h1, h2⟩ := k _ _ he; refine k__ ?_; clear k__ G__)
  exact hQ h' ⟨t, vs, de, tk, tr, n, a, b, ⟨o', h1, h2.trans hd⟩, hm⟩
end
section
variable {prog : Program} {w : World} {A₀ : Around} {E : Value → Shared → Prop} {s' : Shared} {base G g g₀ : Heap} {outer : List Env} {L a e : Addr} {m : Str → Option Value} {name : Str} {scope : Scope} {cd : Value} {n : Str} {b₀ : Stmt} {suite : List Stmt} {pos np : Pos} {rest : List ExceptHandler} {Q : Flow → Shared → Prop} {news : Led}
  {KF : Frag} {p : Program} {loose : List Str} {mean : ExcName → Option Value} {mg mb : Str → Option Value} {x : Str} {r : Int}
theorem caughtErr (R : Err w base G (envOf name scope L a cd :: outer) e r news s'.heap) (F : Fr g L G m) (K : Below A₀ base outer g) (XB : KF.In base) (TB : Top p loose mean mg mb base)
    (D : KtsDicts (outer.filterMap (·.frame)) g) (T0 : KtsTurn (outer.filterMap (·.frame)) g₀ g)
    (q : ktsIn KF 79 "BaseException" = true) (ex : nsIn KF mainGlobals x = some (some (.ref 79)))
    (k : ∀ h' g' tk ws sl de t1 t2 n', KtsTurn (outer.filterMap (·.frame)) g₀ g' → Fr g' L h' (fun y => if y = n then some (.ref e) else m y) → News g' L h' ((e, ⟨.ref 79, some de, .fields ws, sl⟩) :: (de, errDict w r t1 t2 n') :: news) → Below A₀ base outer g' → KF.In g' → Top p loose mean mg mb g' → KtsDicts (outer.filterMap (·.frame)) g' →
      wpAny (model prog w) ((A₀.deeper (envOf name scope L a cd)).mark (some (.ref e))) (execs (b₀ :: suite) (envOf name scope L a cd))
        (fun f s₄ => wpAny (model prog w) (A₀.deeper (envOf name scope L a cd)) (do bindName (envOf name scope L a cd) n .none; unbindBehindTheSuite (envOf name scope L a cd) n pos) (fun _ s₅ => Q f s₅) E s₄)
        (AsSuiteRaised (model prog w) ((A₀.deeper (envOf name scope L a cd)).mark (some (.ref e))) (envOf name scope L a cd) n pos (notedBy (model prog w) ((A₀.deeper (envOf name scope L a cd)).mark (some (.ref e))) (envOf name scope L a cd) (cameBackBy (model prog w) (A₀.deeper (envOf name scope L a cd)) (envOf name scope L a cd) E)))
        { s' with heap := h', toks := tk })
    (hk : scope.kind = .function := by rfl) (hlo : (envOf name scope L a cd).kindOf n = some .local := by rfl) (hx : (envOf name scope L a cd).kindOf x = some .globalImplicit := by rfl) (hd : (x == ("__debug__" : Str)) = false := by decide) :
    wpAny (model prog w) (A₀.deeper (envOf name scope L a cd)) (noteFrame (.ref e) (envOf name scope L a cd))
      (fun _ s₂ => wpAny (model prog w) (A₀.deeper (envOf name scope L a cd)) (setFlight (.ref e) none) (fun _ s₃ =>
        wpAny (model prog w) (A₀.deeper (envOf name scope L a cd)) (handleBy (.ref e) (envOf name scope L a cd) (.ExceptHandler (some (.Name x np)) (some n) (b₀ :: suite) pos :: rest)) Q E s₃) E s₂) E s' := by
  (refine hide fun G__ k__ => ?_; obtain ⟨t, vs, de, t1, t2, n', ⟨⟨B, hB, hBG, hl, hfl, hnew⟩, htup⟩, hsm, ⟨oe, he, hde⟩, hmem⟩ := R; refine k__ ?_; clear k__ G__)
  have hL : B.get? L = none := by
    (refine hide fun G__ k__ => ?_; obtain ⟨_, ⟨L', _, hf, hn', _⟩, _⟩ := hfl.2.2.1; refine k__ ?_; clear k__ G__)
    obtain rfl : L = L' := Option.some.inj hf
    exact hn'
  refine looksD (Around.frames_deeper K.stack) rfl hfl fun h₄ hheld₄ hsm₄ kd₄ => ?_
  refine landsD hheld₄ fun h₅ hheld hsm₅' kd₅ => ?_
  have hsm₅ := hsm₄.trans hsm₅'
  (refine hide fun G__ k__ => ?_; obtain ⟨g₅, T₅, F₅, K₅⟩ := kts_ground K F hBG hheld.1 (hsm.trans hsm₅); refine k__ ?_; clear k__ G__)
  have X₅ : KF.In g₅ := XB.keeps K₅.stays
  have P₅ : TopRead p loose mg mb g₅ := topRead_of (TB.keeps K₅.stays)
  (refine hide fun G__ k__ => ?_; obtain ⟨ob, hob, hobc⟩ := hheld.there; refine k__ ?_; clear k__ G__)
  (refine hide fun G__ k__ => ?_; obtain ⟨nm, q', N, bs, bm, hdct, sn, sub, ab, col, dd, k0, k1, k2, k3, k5, newId, hC, hbase, hbT⟩ := kts_cls X₅ q; refine k__ ?_; clear k__ G__)
  have hC₅ := F₅.keep _ _ hC
  refine wpAny_handleBy_cons (codeAny_handlers_test (name_K F₅ X₅ P₅ ex ?_ hk hx hd)) (by intro q; cases q)
  refine wpAny_excMatches_sub_self hC₅ hob hobc hbase (codeAny_handlers_suite_as ?_)
  refine landsAgainD hheld fun h₆ hfl₆ hsm₆ kd₆ => ?_
  (refine hide fun G__ k__ => ?_; obtain ⟨g₆, T₆, F₆, K₆⟩ := kts_ground K F hBG hfl₆.1 ((hsm.trans hsm₅).trans hsm₆); refine k__ ?_; clear k__ G__)
  (refine hide fun G__ k__ => ?_; obtain ⟨oe', ws, hoe, hoec, hoed, hoe0⟩ := hfl₆.first; refine k__ ?_; clear k__ G__)
  (refine hide fun G__ k__ => ?_; obtain ⟨oe'', h1, h2⟩ := ((kd₄.trans kd₅).trans kd₆) _ _ he; refine k__ ?_; clear k__ G__)
  rw [hoe] at h1
  cases h1
  have ne₆ : g₆.get? e = none := T₆.none_ _ (kts_fresh F hBG hfl₆.2.1 fun o ho m => by
    (refine hide fun G__ k__ => ?_; obtain ⟨_, o', ho', hd⟩ := K.frames.mem m; refine k__ ?_; clear k__ G__)
    rw [ho] at ho'
    cases ho'
    obtain ⟨sl, hs⟩ := ((hsm.trans hsm₅).trans hsm₆) _ _ (F.keep _ _ ho) hd
    rw [hoe] at hs
    cases hs
    exact hd _ hoed)
  have Nl : News g₆ L h₆ news := fun q hq => ⟨hfl₆.1 _ _ (hl q hq).1, (fun z => by have := (hl q hq).1; rw [z, hL] at this; cases this), T₆.none_ _ (kts_none F.keep (hl q hq).2.1)⟩
  have N₆ := News.more F₆ Nl hoe (fun es n q => by rw [hoed] at q; cases q) ne₆
  have X₆ : KF.In g₆ := XB.keeps K₆.stays
  have P₆ : Top p loose mean mg mb g₆ := TB.keeps K₆.stays
  have D₆ : KtsDicts (outer.filterMap (·.frame)) g₆ := D.turn T₆
  obtain ⟨c, d, dt, sl⟩ := oe'
  simp only at hoec hoed h2
  subst hoec hoed
  rw [h2, hde] at N₆
  refine stN F₆ N₆ (fun h₇ F₇ N₇ => ?_) hk hlo
  refine k h₇ g₆ _ ws sl de t1 t2 n' (T0.trans T₆) F₇ (fun p hp => ?_) K₆ X₆ P₆ D₆
  rcases List.mem_cons.mp hp with rfl | hp
  · exact N₇ _ (.head _)
  rcases List.mem_cons.mp hp with rfl | hp
  · exact N₇ _ (.tail _ hmem)
  · exact N₇ _ (.tail _ hp)
end
set_option maxRecDepth 100000
theorem wd_get : Slot "wrapper_descriptor" "__get__" "wrapper_descriptor.__get__" := .of (owner := "wrapper_descriptor") (n := "__get__") (by rw [typeLookup_type, builtinLookup_eq_fast]; kernel_rfl) (by decide +kernel) (by decide +kernel) (by decide +kernel)
  (by first | exact .inl (by decide +kernel) | exact .inr (by decide +kernel)) (by rw [isSubtype_type]; kernel_rfl)
theorem wd_entry : entryFor table "wrapper_descriptor.__get__" = some Builtin.«wrapper_descriptor.__get__» := entryFor_of_tree (by kernel_rfl)
theorem wd_args (a b c : Value) : argsOk "wrapper_descriptor.__get__" ⟨[a, b, c], []⟩ := by unfold argsOk; kernel_rfl
theorem wd_type : typeOf (.builtin "Exception.__init__") = pure (.type "wrapper_descriptor") := by show builtinType _ = _; rw [builtinType_eq_fast]; kernel_rfl
theorem wd_kind : builtinKind "wrapper_descriptor.__get__" = some .slot := by decide +kernel
theorem wd_split : splitId "wrapper_descriptor.__get__" = some ("wrapper_descriptor", "__get__") := by decide +kernel
theorem wd_sub : isSubtype (.type "wrapper_descriptor") (.type "wrapper_descriptor") = pure true := by rw [isSubtype_type]; kernel_rfl
theorem wd_inst : isInstance (.builtin "Exception.__init__") (.type "wrapper_descriptor") = pure true := by unfold isInstance; rw [wd_type]; exact wd_sub
section
variable {prog : Program} {w : World} {M : Model} {A : Around} {E : Value → Shared → Prop} {h : Heap} {g : Array GenState} {d : Drawn} {t : Nat} {os : OsState}
theorem superB_ga {so D x C : Addr} {l₀ l : List Value} {K : Frag} {name : Str} {tk : Tok} {Q : Fin → Shared → Prop}
    (hso : h.get? so = some { cls := .type "super", dict := none, data := .fields #[.ref D, .ref x, .ref C], slots := #[] }) (hno : Looks (model prog w) h (opaqueClassAbove (.ref C)) none)
    (hC : Looks (model prog w) h (mroOf (.ref C)) l₀) (hl : (l₀.dropWhile (· != .ref D)).drop 1 = l) (X : K.In h)
    (hf : alongIn K name l = some (some (.builtin "Exception.__init__"))) (hxC : x ≠ C) (hn : (name == ("__class__" : Str)) = false) {od : Option Addr} {dat : Data} {sl : Array (Option Value)} (hx : h.get? x = some ⟨.ref C, od, dat, sl⟩) (hs : Looks (model prog w) h (isSubtype (.ref C) (.type "Exception")) true)
    (hq : Q (.done (.ret (.ref h.objs.size))) ⟨h.push { cls := .type "method-wrapper", data := .fields #[.builtin "Exception.__init__", .ref x] }, g, d, t, os⟩) :
    wpAny (model prog w) A (Builtin.«super.__getattribute__» ⟨[.ref so, .str name tk], []⟩) Q E ⟨h, g, d, t, os⟩ := by
  have hlk := wd_get.lookup
  have hne : (Value.ref x == Value.ref C) = false := by simp [hxC]
  have hTf := wd_type
  have hdt : ({ cls := .type "super", dict := none, data := .fields #[.ref D, .ref x, .ref C], slots := #[] } : Obj).data = .fields #[.ref D, .ref x, .ref C] := rfl
  have f0 : (#[.ref D, .ref x, .ref C] : Array Value)[0]? = some (.ref D) := rfl
  have f1 : (#[.ref D, .ref x, .ref C] : Array Value)[1]? = some (.ref x) := rfl
  have f2 : (#[.ref D, .ref x, .ref C] : Array Value)[2]? = some (.ref C) := rfl
  unfold Builtin.«super.__getattribute__»
  repeat (first
    | (with_reducible refine wpAny_field hso hdt f0 ?_) | (with_reducible refine wpAny_field hso hdt f1 ?_) | (with_reducible refine wpAny_field hso hdt f2 ?_)
    | (with_reducible refine ks_wpAny_notOpaque hno ?_)
    | (with_reducible refine Looks.at hC ?_; rw [hl])
    | (refine ks_forIn_along X (fun _ _ => rfl) rfl ?_ hf)
    | (with_reducible refine wpAny_of_eq hTf ?_)
    | (with_reducible refine ⟨_, rfl, ?_⟩)
    | (simp only [hn, hne, Bool.or_false, Bool.false_eq_true, if_false])
    | wp_step
    | dsimp only)
  refine codeAny_call_builtin wd_get.plain wd_entry (@check_slot (model prog w) _ _ _ "wrapper_descriptor.__get__" "wrapper_descriptor" "__get__" (.builtin "Exception.__init__") [.ref x, .ref C] [] _ wd_kind wd_split (Looks.of_pure wd_inst) (wd_args _ _ _) ?_)
  unfold Builtin.«wrapper_descriptor.__get__»
  have ho : ".".intercalate (("Exception.__init__".cutAt '.').dropLast) = "Exception" := by decide +kernel
  repeat (first
    | (with_reducible refine wpAny_loadPart_at hx ?_)
    | (rw [ho]; with_reducible refine Looks.at hs ?_)
    | wp_step
    | dsimp only)
  all_goals exact hq
theorem superB_getMethod {so D x C : Addr} {l₀ l : List Value} {K : Frag} {name : Str} {pl : Sem Bool} {Q : Value × List Value → Shared → Prop}
    (hso : h.get? so = some { cls := .type "super", dict := none, data := .fields #[.ref D, .ref x, .ref C], slots := #[] }) (hno : Looks (model prog w) h (opaqueClassAbove (.ref C)) none)
    (hC : Looks (model prog w) h (mroOf (.ref C)) l₀) (hl : (l₀.dropWhile (· != .ref D)).drop 1 = l) (X : K.In h)
    (hf : alongIn K name l = some (some (.builtin "Exception.__init__"))) (hxC : x ≠ C) (hn : (name == ("__class__" : Str)) = false) {od : Option Addr} {dat : Data} {sl : Array (Option Value)} (hx : h.get? x = some ⟨.ref C, od, dat, sl⟩) (hs : Looks (model prog w) h (isSubtype (.ref C) (.type "Exception")) true)
    (hq : Q (.ref h.objs.size, []) ⟨h.push { cls := .type "method-wrapper", data := .fields #[.builtin "Exception.__init__", .ref x] }, g, d, t + 1, os⟩) :
    wpAny (model prog w) A (getMethod (.ref so) name pl) Q E ⟨h, g, d, t, os⟩ := by
  have hlk := F.ks_slot_super_ga.lookup
  have hcan := F.ks_canon_super_ga
  have hT : ∀ t', (⟨h, g, d, t', os⟩ : Shared).TypeIs (.ref so) "super" := fun _ => ⟨_, hso, rfl⟩
  unfold getMethod
  refine wpAny_bind (wpAny_specialOf (hT _) hlk ?_)
  show wpAny _ _ (if (Manifest.canonical "super.__getattribute__" != "object.__getattribute__") = true then _ else _) _ _ _
  rw [if_pos hcan]
  unfold getAttr getAttrBy
  refine wpAny_bind (wpAny_bind (wpAny_mkText (wpAny_holding (wpAny_bind (wpAny_typeOf (hT _) (wpAny_bind (wpAny_of_eq hlk ?_)))))))
  show wpAny _ _ (getAttrByItsOwn (.ref so) (.str name t) (.type "super") (.builtin "super.__getattribute__") true false) _ _ _
  unfold getAttrByItsOwn hookBefore callGetattribute boundAndCalled
  refine wpAny_bind (wpAny_of_eq (show (if onTheHeap (.type "super") then typeLookup (.type "super") "__getattr__" else pure none) = pure none from rfl) ?_)
  refine wpAny_bind (wpAny_attempt (wpAny_holding ?_))
  show wpAny _ _ (bindSpecial (.builtin "super.__getattribute__") (.ref so) >>= _) _ _ _
  refine wpAny_bind (wpAny_of_eq (F.ks_slot_super_ga.bind _) ?_)
  refine wpAny_mono (Q := fun v s' => v = .ref h.objs.size ∧ s' = ⟨h.push { cls := .type "method-wrapper", data := .fields #[.builtin "Exception.__init__", .ref x] }, g, d, t + 1, os⟩) (E := fun _ _ => False)
    (wpAny_call_entry F.ks_slot_super_ga (hT _) F.ks_entry_super_ga (superB_ga hso hno hC hl X hf hxC hn hx hs ⟨_, rfl, rfl, rfl⟩) (F.ks_gaArgs_super _ _)) (fun v s' hv => ?_) fun _ _ z => z.elim
  obtain ⟨rfl, rfl⟩ := hv
  exact wpAny_pure (wpAny_pure hq)
end
@[reducible] noncomputable def wrapObj (x : Addr) : Obj := { cls := .type "method-wrapper", data := .fields #[.builtin "Exception.__init__", .ref x] }
section
variable {prog : Program} {w : World} {A : Around} {E : Value → Shared → Prop} {s : Shared} {h₀ : Heap} {L : Addr} {m : Str → Option Value} {news : Led} {K : Frag} {x so D C : Addr}
theorem superB_method {name : Str} {pl : Sem Bool} {Q : Value × List Value → Shared → Prop} {od : Option Addr} {dat : Data} {sl : Array (Option Value)} (F : Fr h₀ L s.heap m) (X₀ : K.In h₀) (N : News h₀ L s.heap news) (hso : (so, ks_superObj D x C) ∈ news) (hx : (x, (⟨.ref C, od, dat, sl⟩ : Obj)) ∈ news) (ho : nsIn K cStatics "thirdparty.any" = some none)
    (hm : ks_superIn K C D name = some (some (.builtin "Exception.__init__"))) (hs : mroIn K C (.type "Exception") = some true) (hn : (name == ("__class__" : Str)) = false) (hd : ∀ c, dat ≠ .cls c)
    (h : ∀ q h', Fr h₀ L h' m → News h₀ L h' ((q, wrapObj x) :: news) → (∀ p ∈ news, p.1 < q) → Q (.ref q, []) { s with heap := h', toks := s.toks + 1 }) : wpAny (model prog w) A (getMethod (.ref so) name pl) Q E s := by
  have X : K.In s.heap := X₀.keeps F.keep
  (refine hide fun G__ k__ => ?_; obtain ⟨hh, g, d, t, os⟩ := s; refine k__ ?_; clear k__ G__)
  cases hc : clsIn K C with
  | none => unfold ks_superIn at hm; rw [hc] at hm; cases hm
  | some cd =>
    unfold ks_superIn at hm
    rw [hc] at hm
    have hxC : x ≠ C := by
      rintro rfl
      unfold clsIn at hc
      split at hc
      · rename_i c d cd' sl ho
        have e := X _ _ ho
        have e2 := (N _ hx).1
        dsimp only at e e2
        rw [e2] at e
        cases e
        exact hd _ rfl
      · cases hc
    refine superB_getMethod (N _ hso).1 (looks_opaque X ho) (l₀ := cd.mro) ?_ rfl X hm hxC hn (N _ hx).1 (looks_mroIn X hs) ?_
    · exact fun A Q E s k q => wpAny_bind ((looks_clsIn X hc) A _ E s k (wpAny_pure q))
    · obtain ⟨F', N', l'⟩ := ks_newsPush (s := ⟨hh, g, d, t, os⟩) (o := wrapObj x) F N rfl (Heap.get?_push_at rfl rfl) (fun b o e => Heap.get?_push_of_some _ e)
      exact h _ _ F' N' l'
end
set_option maxRecDepth 100000
noncomputable def wrL (news : Led) (a : Addr) (o : Obj) : Led := (a, o) :: news.filter fun p => p.1 != a
theorem wrL.keep {news : Led} {a : Addr} {o : Obj} {p : Addr × Obj} (h : p ∈ news) (hne : p.1 ≠ a) : p ∈ wrL news a o := .tail _ (List.mem_filter.mpr ⟨h, by simp [hne]⟩)
theorem wrL.back {news : Led} {a : Addr} {o : Obj} {p : Addr × Obj} (h : p ∈ wrL news a o) : p = (a, o) ∨ (p ∈ news ∧ p.1 ≠ a) := by
  rcases List.mem_cons.mp h with h | h
  · exact .inl h
  · obtain ⟨h1, h2⟩ := List.mem_filter.mp h
    exact .inr ⟨h1, by simpa using h2⟩
theorem News.wr {h₀ h h' : Heap} {L a : Addr} {news : Led} {o o' : Obj} (N : News h₀ L h news) (hm : (a, o) ∈ news) (hs : Heap.SameBut a h h') (ho : h'.get? a = some o') : News h₀ L h' (wrL news a o') := fun p hp => by
  rcases wrL.back hp with rfl | ⟨h1, h2⟩
  · exact ⟨ho, (N _ hm).2⟩
  · exact ⟨(hs.2 _ h2).trans (N p h1).1, (N p h1).2⟩
theorem led_ne {h₀ h : Heap} {L a b : Addr} {news : Led} {o p : Obj} (N : News h₀ L h news) (h1 : (a, o) ∈ news) (h2 : (b, p) ∈ news) (hne : o ≠ p) : a ≠ b := fun e => by
  subst e
  have := (N _ h1).1.symm.trans (N _ h2).1
  exact hne (Option.some.inj this)
theorem led_eq {h₀ h : Heap} {L a : Addr} {news : Led} {o p : Obj} (N : News h₀ L h news) (h1 : (a, o) ∈ news) (h2 : (a, p) ∈ news) : o = p := Option.some.inj ((N _ h1).1.symm.trans (N _ h2).1)
theorem cls_ne {o p : Obj} (h : o.cls ≠ p.cls) : o ≠ p := fun e => h (congrArg Obj.cls e)
@[reducible] noncomputable def excObj (od : Option Addr) (t : Addr) : Obj := ⟨.ref 79, od, .fields #[.ref t, .none, .none, .none, .bool false, .none], #[]⟩
@[reducible] noncomputable def tupObj (vs : List Value) : Obj := { cls := .type "tuple", data := .seq vs.toArray }
section
variable {prog : Program} {w : World} {A : Around} {E : Value → Shared → Prop} {s : Shared} {h₀ : Heap} {L : Addr} {m mg mb : Str → Option Value} {news : Led} {K : Frag} {x q t : Addr}
theorem call_wrap {v : Value} {Q : Value → Shared → Prop} (F : Fr h₀ L s.heap m) (X₀ : K.In h₀) (N : News h₀ L s.heap news) (hq : (q, wrapObj x) ∈ news) (hx : (x, excObj none t) ∈ news) (hk : ktsIn K 79 "Exception" = true)
    (h : ∀ t' h', Fr h₀ L h' m → News h₀ L h' ((t', tupObj [v]) :: wrL news x (excObj none t')) → (∀ p ∈ news, p.1 < t') → Q .none { s with heap := h' }) :
    wpAny (model prog w) A (call (.ref q) [v]) Q E s := by
  have X : K.In s.heap := X₀.keeps F.keep
  have FE := PySem.F.excBase_Exception
  (refine hide fun G__ k__ => ?_; obtain ⟨nm, qn, Nn, bs, bm, hdct, sn, sub, ab, col, dd, k0, k1, k2, k3, k5, newId, hC, hbase, hbT⟩ := kts_cls X hk; refine k__ ?_; clear k__ G__)
  have hcB : (Value.ref 79 :: bm).contains (.type "Exception") = true := by rw [List.contains_cons, hbT, Bool.or_true]
  (refine hide fun G__ k__ => ?_; obtain ⟨hh, g, d, tk, os⟩ := s; refine k__ ?_; clear k__ G__)
  have he := (N _ hx).1
  dsimp only at he hC
  have fin : Q .none ⟨(hh.push (tupObj [v])).update x (Obj.mapFields (·.setIfInBounds 0 (.ref hh.objs.size))), g, d, tk, os⟩ := by
    have hp := Heap.get?_push_of_some (tupObj [v]) he
    have hs : Heap.SameBut x (hh.push (tupObj [v])) ((hh.push (tupObj [v])).update x (Obj.mapFields (·.setIfInBounds 0 (.ref hh.objs.size)))) := Heap.SameBut.update ..
    have F1 := F.push (tupObj [v])
    have N1 := N.push F (tupObj [v])
    have hx1 : (x, excObj none t) ∈ (hh.objs.size, tupObj [v]) :: news := .tail _ hx
    have ho : ((hh.push (tupObj [v])).update x (Obj.mapFields (·.setIfInBounds 0 (.ref hh.objs.size)))).get? x = some (excObj none hh.objs.size) := Heap.get?_update_self _ hp rfl
    have hlt : ∀ p ∈ news, p.1 < hh.objs.size := fun p hp => Heap.lt_size (N p hp).1
    refine h hh.objs.size _ (F1.change hs (N1 _ hx1).2.1 (N1 _ hx1).2.2) (fun p hp => ?_) hlt
    refine (News.wr N1 hx1 hs ho) p ?_
    rcases List.mem_cons.mp hp with rfl | hp
    · exact wrL.keep (.head _) (Nat.ne_of_gt (hlt _ hx))
    · rcases wrL.back hp with rfl | ⟨h1, h2⟩
      · exact .head _
      · exact wrL.keep (.tail _ h1) h2
  refine wpAny_call (codeAny_of_tree ?_)
  show wpAny _ A.in1 (callAny (.ref q) _) _ _ _
  unfold callAny
  refine wpAny_bind (wpAny_load (N _ hq).1 ?_)
  dsimp only
  repeat (first | (with_reducible refine wpAny_loadPart_at he ?_) | with_reducible refine wpAny_loadPart_at hC ?_ | (with_reducible refine wpAny_isSubtype_exc hC ?_; rw [hcB]) | wp_step)
  refine ⟨Code.quiet_builtin _ (by decide +kernel), codeAny_builtin FE.initEntry ?_⟩
  rw [Around.under_plain (by kernel_rfl) (by first | rfl | kernel_rfl | decide +kernel)]
  show wpAny _ _ (Builtin.«BaseException.__init__» ⟨[.ref x, v], []⟩) _ _ _
  unfold Builtin.«BaseException.__init__»
  wp_walk
  all_goals exact fin
end
theorem put_put {α : Type} (σ : List (Int × α)) (k : Int) (r1 r2 : α) : putR (putR σ k r1) k r2 = putR σ k r2 := by
  have h1 : (putR σ k r1).any (fun p => p.1 = k) = true := look_some_any (r := r1) (by rw [look_put, if_pos rfl])
  rw [putR, if_pos h1]
  unfold putR
  cases h : σ.any (fun p => p.1 = k) with
  | true =>
    rw [if_pos rfl, if_pos rfl, List.map_map]
    refine List.map_congr_left fun p _ => ?_
    by_cases e : p.1 = k <;> simp [e]
  | false =>
    rw [if_neg (by decide), if_neg (by decide), List.map_append, map_none r2 (fun hm => ?_)]
    · simp
    · obtain ⟨p, hp, e⟩ := List.mem_map.mp hm
      have : σ.any (fun p => p.1 = k) = true := List.any_eq_true.mpr ⟨p, hp, by simp [e]⟩
      rw [h] at this; cases this
theorem value_stored (kvs : List (Int × Value)) (k : Int) (v : Value) : valueAt (stored kvs k v) k = some v := by
  show look (putR kvs k v) k = some v
  rw [look_put, if_pos rfl]
theorem put_keys {α : Type} {σ : List (Int × α)} {k : Int} {row : α} (h : (look σ k).isSome = true) : (putR σ k row).map (·.1) = σ.map (·.1) := by
  unfold putR
  rw [← look_any, h, if_pos rfl, List.map_map]
  refine List.map_congr_left fun p _ => ?_
  by_cases e : p.1 = k <;> simp [e]
theorem ListsL.objs {σ : Sgs} {kvs : List (Int × Value)} {ls : Led} (H : ListsL σ kvs ls) {p : Addr × Obj} (hp : p ∈ ls) : ∃ row, RowObj row p.2 := by
  induction H with
  | nil => cases hp
  | cons ho _ ih =>
    rcases List.mem_cons.mp hp with z | z
    · rw [z]; exact ⟨_, ho⟩
    · exact ih z
noncomputable def newRow (σ : Sgs) (k v : Int) : Row := match look σ k with
  | some row => row ++ [some v]
  | none => [none, some v]
section
variable {w : World} {A : Around} {E : Value → Shared → Prop} {s : Shared} {h₀ : Heap} {L : Addr} {m : Str → Option Value} {big : Led} {d a x dx : Addr} {od : Obj} {kvs : List (Int × Value)} {σ : Sgs} {ls : Led} {k : Int} {t t1 t2 : Tok} {c : Bool} {n nn : Nat} {its : List Value} {row : Row} {r : Option Int} {v : Value}
theorem DicL.keysNd (H : DicL w d σ big od kvs ls) : (σ.map (·.1)).Nodup := by
  (refine hide fun G__ k__ => ?_; obtain ⟨es, ep, _, _, _, _, hn⟩ := H.isd; refine k__ ?_; clear k__ G__)
  rw [← H.lists.keys]; exact hn
theorem DicL.klen (H : DicL w d σ big od kvs ls) : kvs.length ≤ 1000 := by
  have := congrArg List.length H.lists.keys
  simp only [List.length_map] at this
  rw [this]; exact H.fit.1
theorem DicL.len_at (H : DicL w d σ big od kvs ls) {k : Int} {row : Row} {vs : List Value} (hq : look σ k = some row) (hr : RowV row vs) : vs.length ≤ 1000 := by rw [hr.length]; exact H.fit.2 _ _ hq
theorem DicL.body_ne (H : DicL w d σ big od kvs ls) {h : Heap} (N : News h₀ L h big) {p : Addr × Obj} (hp : p ∈ ls) : d ≠ p.1 := by
  (refine hide fun G__ k__ => ?_; obtain ⟨es, ep, hx, hd, _⟩ := H.isd; refine k__ ?_; clear k__ G__)
  intro e
  have h1 := (N _ H.body).1
  have h2 := (N _ (H.lsin p hp)).1
  dsimp only at h1
  rw [e, h2] at h1
  have h3 : p.2 = od := Option.some.inj h1
  (refine hide fun G__ k__ => ?_; obtain ⟨row, vs, nn, h5, _⟩ := H.lists.objs hp; refine k__ ?_; clear k__ G__)
  rw [← h3, h5] at hd
  cases hd
theorem append_led {Q : Value → Shared → Prop} (F : Fr h₀ L s.heap m) (N : News h₀ L s.heap big) (hm : (a, W.listOf its.toArray nn) ∈ big) (hsz : its.length ≤ 1000)
    (h : ∀ h', Fr h₀ L h' m → News h₀ L h' (wrL big a (W.listOf (its ++ [v]).toArray (nn + 1))) → Q .none { s with heap := h' }) :
    wpAny (model Challenge.rw_ix0031_01.row.prog w) A (call (.builtin "list.append") [.ref a, v]) Q E s := by
  refine append_at (hsz := by rw [List.size_toArray, sizeLine_eq]; omega) (N _ hm).1 fun h' hs ho => ?_
  refine h h' (F.change hs (N _ hm).2.1 (N _ hm).2.2) ?_
  have e : its.toArray.push v = (its ++ [v]).toArray := by simp
  rw [e] at ho
  exact News.wr N hm hs ho
theorem append_row {Q : Value → Shared → Prop} (F : Fr h₀ L s.heap m) (N : News h₀ L s.heap big) (H : SetL w x c σ big dx d t1 t2 n od kvs ls) (hv : valueAt kvs k = some (.ref a)) (hq : look σ k = some row) (hm : (a, W.listOf its.toArray nn) ∈ big) (hr : RowV row its) (ho : OV r v) (hfit : Fit (putR σ k (row ++ [r])))
    (h : ∀ h' n' ls', Fr h₀ L h' m → News h₀ L h' n' → SetL w x c (putR σ k (row ++ [r])) n' dx d t1 t2 n od kvs ls' → ls'.map (·.1) = ls.map (·.1) → (∀ p ∈ big, p.1 ≠ a → p ∈ n') → Q .none { s with heap := h' }) :
    wpAny (model Challenge.rw_ix0031_01.row.prog w) A (call (.builtin "list.append") [.ref a, v]) Q E s := by
  refine append_led F N hm (H.dic.len_at hq hr) fun h' F' N' => ?_
  obtain ⟨ls', g1, g2, g3⟩ := H.dic.lists.upd H.dic.keysNd H.dic.nd (row := row ++ [r]) (o := W.listOf (its ++ [v]).toArray (nn + 1)) ⟨_, _, rfl, hr.snoc ho⟩ hv
  (refine hide fun G__ k__ => ?_; obtain ⟨es, ep, hx, hd, _⟩ := id H.dic.isd; refine k__ ?_; clear k__ G__)
  have n1 : x ≠ a := led_ne N H.inst hm (cls_ne (by intro q; cases q))
  have n2 : dx ≠ a := led_ne N H.dict hm (cls_ne (by show Value.type "dict" ≠ Value.type "list"; decide))
  have n3 : d ≠ a := led_ne N H.dic.body hm (fun q => by rw [q] at hd; cases hd)
  refine h h' _ ls' F' N' ⟨wrL.keep H.inst n1, wrL.keep H.dict n2, H.sep, ⟨wrL.keep H.dic.body n3, H.dic.isd, g1, fun p hp => ?_, H.dic.low, fun j rw' hj => ?_, by rw [g2]; exact H.dic.nd, hfit⟩⟩ g2 fun p hp hne => wrL.keep hp hne
  · rcases g3 p hp with z | z
    · rw [z]; exact .head _
    · exact wrL.keep (H.dic.lsin p z.1) z.2
  · rw [look_put] at hj
    by_cases e : j = k
    · rw [if_pos e] at hj; cases hj; simp
    · rw [if_neg e] at hj; exact H.dic.ne _ _ hj
theorem store_row {Q : Unit → Shared → Prop} (F : Fr h₀ L s.heap m) (N : News h₀ L s.heap big) (H : SetL w x c σ big dx d t1 t2 n od kvs ls) (hm : (a, W.listOf its.toArray nn) ∈ big) (hr : RowV row its) (hne : row ≠ []) (hna : a ∉ ls.map (·.1)) (hfit : Fit (putR σ k row))
    (h : ∀ h' n' od' kvs' ls', Fr h₀ L h' m → News h₀ L h' n' → SetL w x c (putR σ k row) n' dx d t1 t2 n od' kvs' ls' → (a, W.listOf its.toArray nn) ∈ n' → valueAt kvs' k = some (.ref a) → (∀ p ∈ big, p.1 ≠ d → p ∈ n') → (∀ q ∈ ls', q.1 = a ∨ q ∈ ls) → Q () { s with heap := h', toks := s.toks + 1 }) :
    wpAny (model Challenge.rw_ix0031_01.row.prog w) A (setItem (.ref d) (.int k t) (.ref a)) Q E s := by
  refine wpAny_setItem_pairs (knd := intKind Challenge.rw_ix0031_01.row.prog w) (intKind_is _ w k t) (H.dic.at N) (fun h' hd' hs => ?_) (by have := H.dic.klen; rw [sizeLine_eq]; omega)
  obtain ⟨od', ho', hi'⟩ := Heap.dictOf_iff.mp hd'
  have F' := F.change hs (N _ H.dic.body).2.1 (N _ H.dic.body).2.2
  have N' := News.wr N H.dic.body hs ho'
  obtain ⟨ls', g1, g2, g3⟩ := H.dic.lists.putNew H.dic.keysNd H.dic.nd (k := k) (row := row) (a := a) (o := W.listOf its.toArray nn) ⟨_, _, rfl, hr⟩ hna
  (refine hide fun G__ k__ => ?_; obtain ⟨es, ep, hx, hd, _⟩ := id H.dic.isd; refine k__ ?_; clear k__ G__)
  have n1 : x ≠ d := led_ne N H.inst H.dic.body (fun q => by rw [← q] at hd; cases hd)
  have n2 : a ≠ d := led_ne N hm H.dic.body (fun q => by rw [← q] at hd; cases hd)
  have n3 : dx ≠ d := H.sep
  refine h h' _ od' _ ls' F' N' ⟨wrL.keep H.inst n1, wrL.keep H.dict n3, H.sep, ⟨.head _, hi', g1, fun p hp => ?_, H.dic.low, fun j rw' hj => ?_, g2, hfit⟩⟩ (wrL.keep hm n2) (value_stored _ _ _) (fun p hp hne => wrL.keep hp hne) fun q hq => ?_
  · rcases g3 p hp with z | z
    · rw [z]; exact wrL.keep hm n2
    · exact wrL.keep (H.dic.lsin p z) (Ne.symm (H.dic.body_ne N z))
  · rw [look_put] at hj
    by_cases e : j = k
    · rw [if_pos e] at hj; cases hj; exact hne
    · rw [if_neg e] at hj; exact H.dic.ne _ _ hj
  · rcases g3 q hq with z | z
    · rw [z]; exact .inl rfl
    · exact .inr z
end
section
variable {w : World} {A : Around} {E : Value → Shared → Prop} {s : Shared} {h₀ : Heap} {L : Addr} {m : Str → Option Value} {news big n1 n2 : Led} {d a x dx : Addr} {od : Obj} {kvs : List (Int × Value)} {σ : Sgs} {ls : Led} {k : Int} {t t1 t2 : Tok} {c : Bool} {n : Nat} {row : Row} {v : Int}
theorem item_rowsV {value slice : Expr} {Q : Value → Shared → Prop} (N : News h₀ L s.heap news) (H : DicL w d σ news od kvs ls) (hh : A.handled = none)
    (h1 : ∀ row a vs n, look σ k = some row → (a, W.listOf (List.toArray vs) n) ∈ news → RowV row vs → valueAt kvs k = some (.ref a) → a ∈ ls.map (·.1) → Q (.ref a) { s with toks := s.toks + 1 })
    (h3 : look σ k = none → ∀ h' e, Heap.NewExc s.heap h' e "KeyError" → E (.ref e) { s with heap := h', toks := s.toks + 1 })
    (hsub : subscripted slice false (.ref d) (.int k t) = operate [.ref d, .int k t] (getItem (.ref d) (.int k t)) := by with_unfolding_all rfl) :
    wpAny (model Challenge.rw_ix0031_01.row.prog w) A (subscriptTail value slice (.ref d) (.int k t)) Q E s := by
  have hd := H.at N
  cases hq : look σ k with
  | some row =>
    (refine hide fun G__ k__ => ?_; obtain ⟨a, o, e1, e2, vs, n, rfl, hr⟩ := H.lists.look_some hq; refine k__ ?_; clear k__ G__)
    exact tail_any hd.typeIs slot_dict_getitem.lookup (wpAny_getItem_of (intKind_is _ w k t) hd.mapOf e1 (h1 row a vs n hq (H.lsin _ e2) hr e1 (List.mem_map_of_mem (f := fun p : Addr × Obj => p.1) e2))) hsub
  | none => exact tail_any hd.typeIs slot_dict_getitem.lookup (wpAny_getItem_missing_of (intKind_is _ w k t) H.low hh hd.mapOf (H.lists.look_none hq) (h3 hq)) hsub
theorem newRow_some (h : look σ k = some row) : newRow σ k v = row ++ [some v] := by simp [newRow, h]
theorem newRow_none (h : look σ k = none) : newRow σ k v = [none, some v] := by simp [newRow, h]
theorem fit1 (h : look σ k = some row) (f : Fit (putR σ k (newRow σ k v))) : Fit (putR σ k (row ++ [some v])) := by rw [newRow_some h] at f; exact f
theorem fit2 (h : look σ k = none) (f : Fit (putR σ k (newRow σ k v))) : Fit (putR (putR σ k [none]) k ([none] ++ [some v])) := by rw [put_put]; rw [newRow_none h] at f; exact f
theorem fit0 (h : look σ k = none) (f : Fit (putR σ k (newRow σ k v))) : Fit (putR σ k [none]) := by
  rw [newRow_none h] at f
  refine ⟨?_, fun j r hj => ?_⟩
  · have := f.1
    unfold putR at this ⊢
    rw [look_none_any h] at this ⊢
    simpa using this
  · rw [look_put] at hj
    by_cases e : j = k
    · rw [if_pos e] at hj; cases hj; decide
    · rw [if_neg e] at hj
      exact f.2 j r (by rw [look_put, if_neg e]; exact hj)
theorem fresh_row {od : Obj} (H : DicL w d σ news od kvs ls) (l : ∀ p ∈ news, p.1 < a) : a ∉ ls.map (·.1) := fun hm => by
  obtain ⟨p, hp, e⟩ := List.mem_map.mp hm
  exact Nat.lt_irrefl _ (e ▸ l p (H.lsin p hp))
inductive Stored (w : World) (x : Addr) (c : Bool) (σ' : Sgs) (news n' : Led) (dx d : Addr) (t1 t2 : Tok) (n : Nat) (ls : Led) : Prop
  | mk : ∀ od' kvs' ls', (SetL w x c σ' n' dx d t1 t2 n od' kvs' ls') → ((∀ p ∈ news, p.1 ≠ d → p.1 ∉ ls.map (·.1) → p ∈ n')) → (∀ q ∈ ls', q.1 ∈ ls.map (·.1) ∨ ∀ p ∈ news, p.1 < q.1) → Stored w x c σ' news n' dx d t1 t2 n ls
theorem ret1 {od : Obj} {kvs : List (Int × Value)} {ls' : Led} (hq : look σ k = some row) (H : SetL w x c (putR σ k (row ++ [some v])) n1 dx d t1 t2 n od kvs ls') (e : ls'.map (·.1) = ls.map (·.1)) (hal : a ∈ ls.map (·.1)) (hk : ∀ p ∈ news, p.1 ≠ a → p ∈ n1) :
    Stored w x c (putR σ k (newRow σ k v)) news n1 dx d t1 t2 n ls := by
  refine ⟨od, kvs, ls', by rw [newRow_some hq]; exact H, fun p hp _ hn => hk p hp (fun z => hn (z ▸ hal)), fun q hq => .inl ?_⟩
  rw [← e]; exact List.mem_map_of_mem hq
theorem ret2 {od : Obj} {kvs : List (Int × Value)} {ls1 ls2 : Led} (hq : look σ k = none) (H : SetL w x c (putR (putR σ k [none]) k ([none] ++ [some v])) n2 dx d t1 t2 n od kvs ls2) (e : ls2.map (·.1) = ls1.map (·.1)) (h1 : ∀ q ∈ ls1, q.1 = a ∨ q ∈ ls)
    (k2 : ∀ p ∈ n1, p.1 ≠ a → p ∈ n2) (k1 : ∀ p ∈ news, p.1 ≠ d → p ∈ n1) (l : ∀ p ∈ news, p.1 < a) :
    Stored w x c (putR σ k (newRow σ k v)) news n2 dx d t1 t2 n ls := by
  refine ⟨od, kvs, ls2, by rw [newRow_none hq, ← put_put σ k [none]]; exact H, fun p hp hd _ => k2 p (k1 p hp hd) (Nat.ne_of_lt (l p hp)), fun q hq => ?_⟩
  have : q.1 ∈ ls1.map (·.1) := by rw [← e]; exact List.mem_map_of_mem hq
  obtain ⟨p, hp, z⟩ := List.mem_map.mp this
  rcases h1 p hp with y | y
  · exact .inr fun u hu => by rw [← z, y]; exact l u hu
  · exact .inl (z ▸ List.mem_map_of_mem y)
end
theorem drop_sub {α : Type} (σ : List (Int × α)) (k : Int) : (dropR σ k).length ≤ σ.length := List.length_filter_le _ _
section
variable {w : World} {A : Around} {E : Value → Shared → Prop} {s : Shared} {h₀ : Heap} {L : Addr} {m : Str → Option Value} {news big n1 n2 : Led} {d a x dx : Addr} {od : Obj} {kvs : List (Int × Value)} {σ : Sgs} {ls : Led} {k : Int} {t t1 t2 : Tok} {c : Bool} {n : Nat} {row : Row} {v : Int}
theorem del_row {Q : Unit → Shared → Prop} (F : Fr h₀ L s.heap m) (N : News h₀ L s.heap big) (H : SetL w x c σ big dx d t1 t2 n od kvs ls) (hh : A.handled = none)
    (h : ∀ row h' n' od' kvs' ls', look σ k = some row → Fr h₀ L h' m → News h₀ L h' n' → SetL w x c (dropR σ k) n' dx d t1 t2 n od' kvs' ls' → (∀ p ∈ big, p.1 ≠ d → p ∈ n') → (∀ q ∈ ls', q ∈ ls) → Q () { s with heap := h', toks := s.toks + 1 })
    (h3 : look σ k = none → ∀ h' e, Heap.NewExc s.heap h' e "KeyError" → E (.ref e) { s with heap := h', toks := s.toks + 1 }) :
    wpAny (model Challenge.rw_ix0031_01.row.prog w) A (delItem (.ref d) (.int k t)) Q E s := by
  have hD := H.dic.at N
  unfold delItem
  try with_reducible refine wpAny_holding ?_
  refine wpAny_bind (wpAny_sequenceKey hD.typeIs (by decide) ?_)
  cases hq : look σ k with
  | some row =>
    obtain ⟨a, o, e1, _⟩ := H.dic.lists.look_some hq
    refine wpAny_bind (wpAny_callSpecial?_slot (name := Str.ofString "__delitem__") hD.typeIs PySem.F.slot_dict_delitem
      (call_meetsIn PySem.F.slot_dict_delitem hD.typeIs PySem.F.entry_dict_delitem (PySem.F.args_dict_delitem_2 _ _) (meets_dict_delitem_pairs (intKind Challenge.rw_ix0031_01.row.prog w) d (intKind_is _ w k t)) ⟨kvs, hD, (by have := H.dic.klen; rw [sizeLine_eq]; omega), by rw [e1]; rfl, fun h' hmm hs => ?_⟩))
    obtain ⟨od', ho', hi'⟩ := Heap.dictOf_iff.mp hmm
    (refine hide fun G__ k__ => ?_; obtain ⟨es, ep, hx, hd, _⟩ := id H.dic.isd; refine k__ ?_; clear k__ G__)
    have b1 : x ≠ d := led_ne N H.inst H.dic.body (fun q => by rw [← q] at hd; cases hd)
    obtain ⟨ls', g1, g2, g3⟩ := H.dic.lists.drop k
    refine wpAny_pure (h row h' _ od' _ ls' hq (F.change hs (N _ H.dic.body).2.1 (N _ H.dic.body).2.2) (News.wr N H.dic.body hs ho') ⟨wrL.keep H.inst b1, wrL.keep H.dict H.sep, H.sep, ⟨.head _, hi', g1, fun p hp => ?_, H.dic.low, fun j r hj => ?_, H.dic.nd.sublist g2, ⟨Nat.le_trans (drop_sub σ k) H.dic.fit.1, fun j r hj => ?_⟩⟩⟩ (fun p hp hne => wrL.keep hp hne) g3)
    · exact wrL.keep (H.dic.lsin p (g3 p hp)) (Ne.symm (H.dic.body_ne N (g3 p hp)))
    · rw [look_drop] at hj
      by_cases e : j = k
      · rw [if_pos e] at hj; cases hj
      · rw [if_neg e] at hj; exact H.dic.ne _ _ hj
    · rw [look_drop] at hj
      by_cases e : j = k
      · rw [if_pos e] at hj; cases hj
      · rw [if_neg e] at hj; exact H.dic.fit.2 _ _ hj
  | none =>
    refine wpAny_bind (wpAny_callSpecial?_slot (name := Str.ofString "__delitem__") hD.typeIs PySem.F.slot_dict_delitem
      (call_meetsIn PySem.F.slot_dict_delitem hD.typeIs PySem.F.entry_dict_delitem (PySem.F.args_dict_delitem_2 _ _) (meets_dict_delitem_missing (intKind Challenge.rw_ix0031_01.row.prog w) d (intKind_is _ w k t) H.dic.low) ⟨hh, kvs, hD, H.dic.lists.look_none hq, fun h' e hx => h3 hq h' e hx⟩))
end
theorem fits_log {a : Int} (h : a.natAbs < 2 ^ 60) : a.natAbs.log2 < 1920 := by
  by_cases z : a.natAbs = 0
  · rw [z]; decide
  · exact Nat.lt_trans ((Nat.log2_lt z).mpr h) (by decide)
theorem all_ne_lt {news : Led} {d : Addr} (h : ∀ p ∈ news, p.1 < d) : ∀ p ∈ news, p.1 ≠ d := fun p hp => Nat.ne_of_lt (h p hp)
theorem all_ne_allLt {news : Led} {d : Addr} (h : AllLt d news) : ∀ p ∈ news, p.1 ≠ d := by
  induction news with
  | nil => exact fun _ h => nomatch h
  | cons q r ih =>
    intro p hp
    rcases List.mem_cons.mp hp with rfl | hp
    · exact Nat.ne_of_lt h.1
    · exact ih h.2 p hp
local macro_rules | `(tactic| ktr_rel) => `(tactic| k_extra "@ktr_rel")
local macro_rules | `(tactic| k_units) => `(tactic| k_extra "@k_units")
local macro_rules | `(tactic| k_room) => `(tactic| k_extra "@k_room")
local macro_rules | `(tactic| k_mem) => `(tactic| k_extra "@k_mem")
local macro_rules | `(tactic| k_inst) => `(tactic| k_extra "@k_inst")
local macro_rules | `(tactic| kts_caught) => `(tactic| k_extra "@kts_caught")
local macro_rules | `(tactic| kwd_less) => `(tactic| k_extra "@kwd_less")
local macro_rules | `(tactic| kwd_rel) => `(tactic| k_extra "@kwd_rel")
local macro_rules | `(tactic| tb_rel) => `(tactic| k_extra "@tb_rel")
local macro_rules | `(tactic| tb_start) => `(tactic| k_extra "@tb_start")
local macro_rules | `(tactic| k_in) => `(tactic| k_extra "@k_in")
local macro_rules | `(tactic| k_all) => `(tactic| k_extra "@k_all")
local macro_rules | `(tactic| walk_at $s:str) => `(tactic| k_extra $s)
open Builtin Builtin.ObjectAttr
set_option maxRecDepth 100000
noncomputable def excOver : List Value → Bool
  | .ref _ :: r => excOver r
  | l => l == [.type "Exception", .type "BaseException", .type "object"]
theorem refuse_exc (self : Value) : ∀ {l : List Value}, excOver l = true → refuseLoop self "__setattr__" l = pure ()
  | .ref c :: r, e => by rw [refuseLoop_ref]; exact refuse_exc self e
  | [], e => by exact absurd e (by decide)
  | .type n :: r, e => by
    have e' : (Value.type n :: r) = [.type "Exception", .type "BaseException", .type "object"] := by simpa [excOver] using e
    rw [e']
    exact PySem.F.store_Exception.passes self
  | .none :: r, e => by simp [excOver] at e
  | .bool b :: r, e => by simp [excOver] at e
  | .int i t :: r, e => by simp [excOver] at e
  | .float x t :: r, e => by simp [excOver] at e
  | .str x t :: r, e => by simp [excOver] at e
  | .bytes x t :: r, e => by simp [excOver] at e
  | .builtin x :: r, e => by simp [excOver] at e
  | .ellipsis :: r, e => by simp [excOver] at e
  | .notImplemented :: r, e => by simp [excOver] at e
noncomputable def excOverIn (K : Frag) (C : Addr) : Bool := (clsIn K C).any fun cd => excOver cd.mro && cd.mro.contains (.type "object") && cd.hasDict
section
variable {prog : Program} {w : World} {A : Around} {E : Value → Shared → Prop} {s : Shared} {h₀ : Heap} {L : Addr} {m mg mb : Str → Option Value} {news : Led} {K : Frag} {x t : Addr}
theorem set_exc {r : Int} {tr : Tok} {Q : Unit → Shared → Prop} (F : Fr h₀ L s.heap m) (X₀ : K.In h₀) (N : News h₀ L s.heap news) (hx : (x, excObj none t) ∈ news)
    (hs : findIn K (.ref 79) "__setattr__" = some (some (.builtin "object.__setattr__"))) (hp : excOverIn K 79 = true) (ht : takerIn K 79 "error_code" = some none)
    (h : ∀ de tk n h', Fr h₀ L h' m → News h₀ L h' ((de, errDict w r tk tr n) :: wrL news x (excObj (some de) t)) → (∀ p ∈ news, p.1 < de) → Q () { s with heap := h', toks := s.toks + 2 }) :
    wpAny (model prog w) A (setAttr (.ref x) "error_code" (.int r tr)) Q E s := by
  have X : K.In s.heap := X₀.keeps F.keep
  have I : InstAt s.heap x (excObj none t) 79 none := ⟨(N _ hx).1, rfl, rfl, trivial⟩
  refine set_plain X I hs ?_
  have SF := PySem.F.store_object
  obtain ⟨cd, hc, ho⟩ := any_some hp
  simp only [Bool.and_eq_true] at ho
  obtain ⟨⟨ho, hob⟩, hhd⟩ := ho
  have ne : cd.mro.isEmpty = false := by cases q : cd.mro with | nil => rw [q] at ho; exact absurd ho (by decide) | cons _ _ => rfl
  have sub : Looks (model prog w) s.heap (isInstance (.ref x) (.type "object")) true := I.type.andThen (looks_mroIn X (by unfold mroIn; rw [hc, Option.bind_some, if_neg (by rw [ne]; decide), hob]))
  refine codeAny_call_builtin SF.slot.plain SF.entry (@check_slot (model prog w) _ _ _ "object.__setattr__" "object" "__setattr__" (.ref x) [.str "error_code" s.toks, .int r tr] [] _ SF.kind SF.split sub (SF.args (.ref x) (.str "error_code" s.toks) (.int r tr)) ?_)
  obtain ⟨attr, ha, hr⟩ := Option.bind_eq_some_iff.mp ht
  have hm : Looks (model prog w) s.heap (mroOf (.ref 79)) cd.mro := (looks_clsIn X hc).andThen .now
  have L3 : Looks (model prog w) s.heap (storeTaker? attr) none := by
    cases attr with
    | none => cases hr; exact .now
    | some a =>
      obtain ⟨b, hb, hbb⟩ := Option.map_eq_some_iff.mp hr
      refine (looks_takesIn X hb).andThen ?_
      cases b with
      | false => exact .now
      | true => cases hbb
  obtain ⟨hh, g, d, tk, os⟩ := s
  dsimp only at *
  rw [osa_eq, refuse_eq]
  refine wpAny_bind (wpAny_bind (I.type.here (wpAny_bind (hm.here ?_))))
  rw [refuse_exc _ ho]
  refine wpAny_pure (wpAny_bind (I.type.here (wpAny_bind ((looks_findIn X ha).here (wpAny_bind (L3.here ?_))))))
  dsimp only
  have he := (N _ hx).1
  dsimp only at he
  unfold storeInOwnDict ownStreamTells ownDictForStores instanceDict
  refine wpAny_bind (wpAny_pure ?_)
  rw [if_neg (by decide)]
  refine wpAny_bind (wpAny_bind (wpAny_loadPart he (wpAny_bind ((looks_clsIn X hc).here ?_))))
  rw [hhd]
  dsimp only
  rw [if_neg (by decide), if_neg (by simp [typeHasDict])]
  have hxs : x ≠ hh.objs.size := Nat.ne_of_lt (Heap.lt_size he)
  have hx₁ : (hh.push emptyDict).get? x = some (excObj none t) := Heap.get?_push_of_some _ he
  refine wpAny_bind (wpAny_alloc' ?_)
  refine wpAny_bind (wpAny_update' hx₁ ?_)
  refine wpAny_pure ?_
  have F1 := F.push emptyDict
  have N1 := N.push F emptyDict
  have hlt : ∀ p ∈ news, p.1 < hh.objs.size := fun p hp => Heap.lt_size (N p hp).1
  have hx1 : (x, excObj none t) ∈ (hh.objs.size, emptyDict) :: news := .tail _ hx
  have hs2 : Heap.SameBut x (hh.push emptyDict) ((hh.push emptyDict).update x fun o => { cls := o.cls, dict := some hh.objs.size, data := o.data, slots := o.slots }) := Heap.SameBut.update ..
  have ho2 : ((hh.push emptyDict).update x fun o => { cls := o.cls, dict := some hh.objs.size, data := o.data, slots := o.slots }).get? x = some (excObj (some hh.objs.size) t) := Heap.get?_update_self _ hx₁ rfl
  have F2 := F1.change hs2 (N1 _ hx1).2.1 (N1 _ hx1).2.2
  have N2 := News.wr N1 hx1 hs2 ho2
  have hd2 : (hh.objs.size, emptyDict) ∈ wrL ((hh.objs.size, emptyDict) :: news) x (excObj (some hh.objs.size) t) := wrL.keep (.head _) (Ne.symm hxs)
  show wpAny _ _ (storeInDict hh.objs.size (.str "error_code" tk) "error_code" (.int r tr)) _ _ _
  unfold storeInDict newKeyGuard nsSet
  refine wpAny_bind (wpAny_pure (wpAny_bind ?_))
  refine wpAny_bind (wpAny_bind (wpAny_askSetting (wpAny_pure (wpAny_bind (wpAny_mkText (wpAny_bind (wpAny_loadPart (N2 _ hd2).1 ?_)))))))
  dsimp only
  have hput : Obj.putName "error_code" (PyData.keyHash w.params "error_code") (.str "error_code" (tk + 1)) (.int r tr) emptyDict = errDict w r (tk + 1) tr 1 := by rw [show emptyDict = dictOf [] 0 from rfl, putName_dict]; rfl
  have hs3 : Heap.SameBut hh.objs.size ((hh.push emptyDict).update x fun o => { cls := o.cls, dict := some hh.objs.size, data := o.data, slots := o.slots }) (((hh.push emptyDict).update x fun o => { cls := o.cls, dict := some hh.objs.size, data := o.data, slots := o.slots }).update hh.objs.size (Obj.putName "error_code" (PyData.keyHash w.params "error_code") (.str "error_code" (tk + 1)) (.int r tr))) := Heap.SameBut.update ..
  have ho3 : (((hh.push emptyDict).update x fun o => { cls := o.cls, dict := some hh.objs.size, data := o.data, slots := o.slots }).update hh.objs.size (Obj.putName "error_code" (PyData.keyHash w.params "error_code") (.str "error_code" (tk + 1)) (.int r tr))).get? hh.objs.size = some (errDict w r (tk + 1) tr 1) := by
    rw [← hput]
    exact Heap.get?_update_self _ (N2 _ hd2).1 (by rw [hput]; rfl)
  rw [aRefKeyMayBeTheName_at, if_neg (by simp)]
  refine wpAny_updatePart (N2 _ hd2).1 ?_
  refine wpAny_bind (wpAny_lookBehind ho3 (pastItsLine_dict (by rw [sizeLine_eq, List.size_toArray, List.length_singleton]; decide)) ?_)
  refine wpAny_pure ?_
  show Q () _
  refine h hh.objs.size (tk + 1) 1 _ (F2.change hs3 (N2 _ hd2).2.1 (N2 _ hd2).2.2) (fun p hp => ?_) hlt
  refine (News.wr N2 hd2 hs3 ho3) p ?_
  rcases List.mem_cons.mp hp with rfl | hp
  · exact .head _
  · rcases wrL.back hp with rfl | ⟨h1, h2⟩
    · exact wrL.keep (.head _) hxs
    · exact wrL.keep (wrL.keep (.tail _ h1) h2) (Nat.ne_of_lt (hlt _ h1))
end
theorem words_all : True := by
  k_with_none
  k_with "@k_all" => first | exact all_ne_lt (by assumption) | exact all_ne_allLt (by assumption) | exact all_ne_allLt (by assumption : _ ∧ AllLt _ _).2 | exact all_ne_allLt (by assumption : _ ∧ _ ∧ AllLt _ _).2.2 | exact all_ne_allLt (by assumption : _ ∧ _ ∧ _ ∧ AllLt _ _).2.2.2 | exact all_ne_allLt (by assumption : _ ∧ _ ∧ _ ∧ _ ∧ AllLt _ _).2.2.2.2 | exact all_ne_allLt (by assumption : _ ∧ _ ∧ _ ∧ _ ∧ _ ∧ AllLt _ _).2.2.2.2.2 | exact all_ne_allLt (by assumption : _ ∧ _ ∧ _ ∧ _ ∧ _ ∧ _ ∧ AllLt _ _).2.2.2.2.2.2
  k_with "@k_in" => first | assumption | (refine' Frag.In.keeps ?kxa_a1 (Fr.keep ?kxb_a1); (case kxb_a1 => k_asm); (case kxa_a1 => assumption))
  k_with "@tb_start" => (refine wpAny_call ?_; have cF := Cx.F (by assumption); k_dflt (refine' enterG ?C_n ?kA_n ?kf_n ?kk_n ?k6_n ?k7_n ?k8_n ?k9_n ?kB_n ?_ ?c2_n ?c3_n ?c4_n ?c5_n; (case C_n => assumption); (case kA_n => exact rfl); (case kf_n => assumption); (case kk_n => assumption); (case k6_n => k_is); (case k7_n => k_is); (case k8_n => k_room); (case k9_n => first | exact BindsTo.of_eq rfl | exact binds_K (by k_in) rfl (by k_is) rfl rfl rfl | (refine' kp_binds ?kx_n ?ke_n; (case kx_n => k_in); (case ke_n => exact fun _ => rfl))); (case kB_n => exact locs rfl); (case c2_n => exact rfl); (case c3_n => exact rfl); (case c4_n => exact rfl); (case c5_n => decide); k_whole; intro g' L' h' FG' F' N' B' X' T' D' XB' TB' QQ RR hQQ hRR; (try dsimp only); (try k_lift B'); (try k_fold)))
  k_with "@tb_rel" => ((try dsimp only); refine' back ?H_Y ?F_Y ?N_Y ?R_Y ?T_Y ?B_Y ?X_Y ?TT_Y ?D_Y ?XB_Y ?TB_Y ?GG_Y; (case H_Y => assumption); (case F_Y => k_asm); (case N_Y => k_asm); (case T_Y => first | assumption | exact KtsTurn.refl); (case B_Y => first | assumption | exact Cx.B (by assumption)); (case X_Y => first | assumption | exact Cx.X (by assumption)); (case TT_Y => first | assumption | exact Cx.T (by assumption)); (case D_Y => first | assumption | exact Cx.D (by assumption)); (case XB_Y => first | assumption | exact Cx.XB (by assumption)); (case TB_Y => first | assumption | exact Cx.TB (by assumption)); (case R_Y => ktr_rel); (case GG_Y => first | exact GRel.refl _ | assumption))
  k_with "@kwd_rel" => ((try dsimp only); refine' backR ?H_R ?F_R ?N_R ?S_R ?R_R ?T_R ?B_R ?X_R ?TT_R ?D_R ?XB_R ?TB_R ?GG_R; (case H_R => assumption); (case F_R => k_asm); (case N_R => k_asm); (case S_R => (intro p hp; repeat' (first | exact hp | refine List.Mem.tail _ ?_ | exact (by assumption : ∀ p ∈ _, p ∈ _) _ hp))); (case T_R => first | assumption | exact KtsTurn.refl); (case B_R => first | assumption | exact Cx.B (by assumption)); (case X_R => first | assumption | exact Cx.X (by assumption)); (case TT_R => first | assumption | exact Cx.T (by assumption)); (case D_R => first | assumption | exact Cx.D (by assumption)); (case XB_R => first | assumption | exact Cx.XB (by assumption)); (case TB_R => first | assumption | exact Cx.TB (by assumption)); (case R_R => ktr_rel); (case GG_R => first | exact GRel.refl _ | assumption))
  k_with "execs cons" => ((try k_gentoks); (with_reducible refine wpAny_execs_cons ?_); (try dsimp only); (try k_fold))
  k_with "RetQ" => (refine hQQ _ _ ?_)
  k_with "RetR" => (refine hRR _ _ ?_; (try dsimp only))
  k_with "@k_room" => (with_reducible rename (_ : Nat) < recursionLimit => hrm; k_dflt (first | exact roomA (j := 0) hrm rfl rfl | exact roomB (j := 0) hrm rfl rfl | exact roomA (j := 1) hrm rfl rfl | exact roomB (j := 1) hrm rfl rfl | exact roomA (j := 2) hrm rfl rfl | exact roomB (j := 2) hrm rfl rfl | exact roomA (j := 3) hrm rfl rfl | exact roomB (j := 3) hrm rfl rfl | exact roomA (j := 4) hrm rfl rfl | exact roomB (j := 4) hrm rfl rfl | exact roomA (j := 5) hrm rfl rfl | exact roomB (j := 5) hrm rfl rfl | exact roomA (j := 6) hrm rfl rfl | exact roomB (j := 6) hrm rfl rfl | exact roomA (j := 7) hrm rfl rfl | exact roomB (j := 7) hrm rfl rfl | exact roomA (j := 8) hrm rfl rfl | exact roomB (j := 8) hrm rfl rfl))
  k_with "@k_units" => (with_reducible rename (_ : Nat) < cLine => hrm; k_dflt (first | exact roomA (j := 0) hrm rfl rfl | exact roomB (j := 0) hrm rfl rfl | exact roomA (j := 1) hrm rfl rfl | exact roomB (j := 1) hrm rfl rfl | exact roomA (j := 2) hrm rfl rfl | exact roomB (j := 2) hrm rfl rfl | exact roomA (j := 3) hrm rfl rfl | exact roomB (j := 3) hrm rfl rfl | exact roomA (j := 4) hrm rfl rfl | exact roomB (j := 4) hrm rfl rfl | exact roomA (j := 5) hrm rfl rfl | exact roomB (j := 5) hrm rfl rfl | exact roomA (j := 6) hrm rfl rfl | exact roomB (j := 6) hrm rfl rfl | exact roomA (j := 7) hrm rfl rfl | exact roomB (j := 7) hrm rfl rfl | exact roomA (j := 8) hrm rfl rfl | exact roomB (j := 8) hrm rfl rfl | exact roomA (j := 9) hrm rfl rfl | exact roomB (j := 9) hrm rfl rfl | exact roomA (j := 10) hrm rfl rfl | exact roomB (j := 10) hrm rfl rfl | exact roomA (j := 11) hrm rfl rfl | exact roomB (j := 11) hrm rfl rfl | exact roomA (j := 12) hrm rfl rfl | exact roomB (j := 12) hrm rfl rfl | exact roomA (j := 13) hrm rfl rfl | exact roomB (j := 13) hrm rfl rfl | exact roomA (j := 14) hrm rfl rfl | exact roomB (j := 14) hrm rfl rfl | exact roomA (j := 15) hrm rfl rfl | exact roomB (j := 15) hrm rfl rfl | exact roomA (j := 16) hrm rfl rfl | exact roomB (j := 16) hrm rfl rfl | exact roomA (j := 17) hrm rfl rfl | exact roomB (j := 17) hrm rfl rfl))
  k_with "subscriptTail" => (k_here; (with_reducible show wpAny _ _ (subscriptTail _ _ (Value.ref _) (Value.int _ _)) _ _ _); (refine' item_led ?k1_ax ?k2_ax ?k3_ax ?k4_ax ?k5_ax ?_ ?k8_ax; (case k1_ax => k_asm); (case k2_ax => k_mem); (case k3_ax => decide); (case k4_ax => decide); (case k5_ax => rfl); (case k8_ax => with_unfolding_all rfl); k_whole))
  k_with "subscriptTail" => (guard_hyp g0; ((k_here; (with_reducible show wpAny _ _ (subscriptTail _ _ (Value.ref _) (Value.int _ _)) _ _ _); (refine' item_sgs ?k1_an ?k2_an ?k7_an (fun rs a vs n hrow hmem hrv => ?_) (fun i u rs a vs n hrow hmem hrv => ?_) (fun hq h' e' x' => ?_) ?k8_an; (case k1_an => k_asm); (case k2_an => exact SetL.dic (by assumption)); (case k7_an => rfl); (case k8_an => with_unfolding_all rfl)))))
  k_with "compareOp In int ref" => (guard_hyp g0; ((k_here; (refine' in_rows ?k1_aK ?k2_aK (fun hq => ?_) (fun row hq => ?_); (case k1_aK => k_asm); (case k2_aK => assumption)))))
  k_with "compareOp NotIn int ref" => (guard_hyp g0; ((k_here; (refine' notin_rows ?k1_aL ?k2_aL (fun hq => ?_) (fun row hq => ?_); (case k1_aL => k_asm); (case k2_aL => assumption)))))
  k_with "exec Raise some none" => (k_here; (with_reducible show wpAny _ _ (exec (Stmt.Raise (some (Expr.Name ("KeyError" : Str) _)) none _) _) _ _ _); (with_reducible rename Fr _ _ _ _ => kF); k_dflt (refine' Raise_classB ?hh_ao excClass_KeyError ?hs_ao ?hx_ao ?_; (case hh_ao => rfl); (case hs_ao => (rw [isSubtype_type]; kernel_rfl)); (case hx_ao => (refine' name_B kF ?k1_ao ?k2_ao ?k3_ao ?k4_ao ?k5_ao ?_; (case k1_ao => k_asm); (case k2_ao => k_asm); (case k3_ao => k_is); (case k4_ao => boot_by_name); (case k5_ao => decide); exact ⟨rfl, rfl⟩)); k_whole); intro h' e' x')
  k_with "newList" => ((first | guard_hyp hT17_1 | guard_hyp hT10_2); ((k_here; k_dflt (refine' newList_K ?k1_aQ ?k2_aQ (fun l' h' F' N' l1 => ?_) ?z_aQ; (case k1_aQ => k_asm); (case k2_aQ => k_asm); (case z_aQ => size_fits)))))
  k_with "@k_mem" => (guard_hyp g1; (((repeat' (first | assumption | exact List.Mem.head _ | refine List.Mem.tail _ ?_)); done)))
  k_with "subscriptTail" => (guard_hyp g2; ((k_here; (with_reducible show wpAny _ _ (subscriptTail _ _ (Value.ref _) (Value.int _ _)) _ _ _); (refine' item_sgs ?k1_an ?k2_an ?k7_an (fun rs a vs n hrow hmem hrv => ?_) (fun i u rs a vs n hrow hmem hrv => ?_) (fun hq h' e' x' => ?_) ?k8_an; (case k1_an => k_asm); (case k2_an => first | exact SetL.dic (by assumption) | exact (SetL.mono (by assumption) (by intro p hp; repeat' (first | exact hp | refine List.Mem.tail _ ?_))).dic); (case k7_an => rfl); (case k8_an => with_unfolding_all rfl)))))
  k_with "subscriptTail" => (k_here; (with_reducible show wpAny _ _ (subscriptTail _ _ (Value.ref _) (Value.int (Nat.cast _) _)) _ _ _); (refine' item_ledN ?k1_aD ?k2_aD ?k3_aD ?k4_aD ?_ ?k8_aD; (case k1_aD => k_asm); (case k2_aD => k_mem); (case k3_aD => assumption); (case k4_aD => assumption); (case k8_aD => with_unfolding_all rfl); k_whole))
  k_with "subscriptTail" => (guard_hyp g0; ((k_here; (with_reducible show wpAny _ _ (subscriptTail _ _ (Value.ref _) (Value.int _ _)) _ _ _); (refine' item_ints ?k1_ap ?k2_ap ?k3_ap (fun u => ?_) ?k8_ap; (case k1_ap => k_asm); (case k2_ap => assumption); (case k3_ap => assumption); (case k8_ap => with_unfolding_all rfl)))))
  k_with "subscriptTail" => (guard_hyp g0; ((k_here; (with_reducible show wpAny _ _ (subscriptTail _ _ (Value.ref _) (Value.int _ _)) _ _ _); (refine' item_rows ?k1_G ?k2_G ?k3_G (fun row a vs n hq hm hr => ?_) ?h2_G ?k8_G; (case k1_G => k_asm); (case k2_G => assumption); (case k3_G => rfl); (case h2_G => (intro e; rename look _ _ = some _ => hz; rw [e] at hz; cases hz)); (case k8_G => with_unfolding_all rfl)); (try (obtain ⟨i, hi, hib, hv⟩ := Tells.some (by assumption) (by assumption); obtain ⟨v, hx, hov⟩ := RowV.at (by assumption) hv)))))
  k_with "compareOp In int ref" => (guard_hyp g2; ((k_here; (refine' in_rows ?k1_aK ?k2_aK (fun hq => ?_) (fun row hq => ?_); (case k1_aK => k_asm); (case k2_aK => first | assumption | exact DicL.mono (by assumption) (by intro p hp; repeat' (first | exact hp | refine List.Mem.tail _ ?_)))))))
  k_with "compareOp NotIn int ref" => (guard_hyp g2; ((k_here; (refine' notin_rows ?k1_aL ?k2_aL (fun hq => ?_) (fun row hq => ?_); (case k1_aL => k_asm); (case k2_aL => first | assumption | exact DicL.mono (by assumption) (by intro p hp; repeat' (first | exact hp | refine List.Mem.tail _ ?_)))))))
  k_with "subscriptTail" => (guard_hyp g2; ((k_here; (with_reducible show wpAny _ _ (subscriptTail _ _ (Value.ref _) (Value.int _ _)) _ _ _); (refine' item_ints ?k1_ap ?k2_ap ?k3_ap (fun u => ?_) ?k8_ap; (case k1_ap => k_asm); (case k2_ap => first | assumption | exact DicI.mono (by assumption) (by intro p hp; repeat' (first | exact hp | refine List.Mem.tail _ ?_))); (case k3_ap => assumption); (case k8_ap => with_unfolding_all rfl)))))
  k_with "subscriptTail" => (guard_hyp g3; ((k_here; (with_reducible show wpAny _ _ (subscriptTail _ _ (Value.ref _) (Value.int _ _)) _ _ _); (refine' item_rows ?k1_G ?k2_G ?k3_G (fun row a vs n hq hm hr => ?_) ?h2_G ?k8_G; (case k1_G => k_asm); (case k2_G => first | assumption | exact DicL.mono (by assumption) (by intro p hp; repeat' (first | exact hp | refine List.Mem.tail _ ?_))); (case k3_G => rfl); (case h2_G => (intro e; rename look _ _ = some _ => hz; rw [e] at hz; cases hz)); (case k8_G => with_unfolding_all rfl)); (try (obtain ⟨i, hi, hib, hv⟩ := Tells.some (by assumption) (by assumption); obtain ⟨v, hx, hov⟩ := RowV.at (by assumption) hv)))))
  k_with "eval Dict" => ((first | guard_hyp hT20 | guard_hyp hT21 | guard_hyp hT28); ((k_here; k_dflt (refine' kdn_eval (knd := PySem.intKind _ _) ?F_o ?N_o ?b_o ?a_o ?l_o ?e_o ?n_o ?_; (case F_o => k_asm); (case N_o => k_asm); (case b_o => exact Top.nolimit (by k_asm)); (case a_o => rfl); (case l_o => rfl); (case e_o => exact List.cons_ne_nil _ _); (case n_o => exact Nat.le_of_ble_eq_true rfl)); intro d' h' o' F' N' l1 lo' hd'; (try k_lt l1))))
  k_with "call ref" => ((first | guard_hyp hT6_2 | guard_hyp hT26); ((k_here; (with_reducible show wpAny _ _ (call (Value.ref 314) _ _) _ _ _); k_dflt (refine' SpecR.use (c_get _ _ _ _ _ _ _ _ _ _ _ _ _ ?H_K _ _ _) ?hA_K ?B_K ?F_K ?N_K ?X_K ?T_K ?D_K ?XB_K ?TB_K ?hf_K ?hke_K ?hdp_K ?hun_K (fun v h' gn' tk' g' hR kT kF kN kB kX₀ kP kD kX kG => ?_); (case F_K => k_asm); (case N_K => k_asm); (case H_K => assumption); (case hA_K => exact rfl); (case B_K => k_asm); (case X_K => k_asm); (case T_K => k_asm); (case D_K => assumption); (case XB_K => assumption); (case TB_K => assumption); (case hf_K => exact rfl); (case hke_K => exact rfl); (case hdp_K => k_room); (case hun_K => k_units)); (try dsimp only); (try k_lift kB); (try k_fold))))
  k_with "@start0" => ((first | guard_hyp hT26 | guard_hyp hT18_2); ((have cF := Cx.F (by assumption); k_dflt (refine' enterG ?C_f ?kA_f ?kf_f ?kk_f ?k6_f ?k7_f ?k8_f ?k9_f ?kB_f ?_ ?c2_f ?c3_f ?c4_f ?c5_f; (case C_f => assumption); (case kA_f => exact rfl); (case kf_f => assumption); (case kk_f => assumption); (case k6_f => k_is); (case k7_f => k_is); (case k8_f => k_room); (case k9_f => first | exact BindsTo.of_eq rfl | exact binds_K (by k_in) rfl (by k_is) rfl rfl rfl | (refine' kp_binds ?kx_f ?ke_f; (case kx_f => k_in); (case ke_f => exact fun _ => rfl))); (case kB_f => exact locs rfl); (case c2_f => exact rfl); (case c3_f => exact rfl); (case c4_f => exact rfl); (case c5_f => decide); k_whole; intro g' L' h' FG' F' N' B' X' T' D' XB' TB' QQ RR hQQ hRR; (try dsimp only); (try k_lift B'); (try k_fold)))))
  k_with "@end0" => ((first | guard_hyp hT26 | guard_hyp hT18_2); (((try dsimp only); refine' backC ?H_z ?F_z ?N_z ?R_z ?T_z ?B_z ?X_z ?TT_z ?D_z ?XB_z ?TB_z ?GG_z; (case H_z => assumption); (case F_z => k_asm); (case N_z => k_asm); (case T_z => first | assumption | exact KtsTurn.refl); (case B_z => first | assumption | exact Cx.B (by assumption)); (case X_z => first | assumption | exact Cx.X (by assumption)); (case TT_z => first | assumption | exact Cx.T (by assumption)); (case D_z => first | assumption | exact Cx.D (by assumption)); (case XB_z => first | assumption | exact Cx.XB (by assumption)); (case TB_z => first | assumption | exact Cx.TB (by assumption)); (case R_z => ktr_rel); (case GG_z => first | exact GRel.refl _ | assumption))))
  k_with "@ktr_rel" => ((first | guard_hyp hT18_1 | guard_hyp hT16_1); (exact ⟨_, rfl⟩))
  k_with "SeamEnd" => (guard_hyp g4; ((dsimp only [SeamEnd])))
  k_with "LoopEnd" => (guard_hyp g5; ((dsimp only [LoopEnd])))
  k_with "EndC" => ((first | guard_hyp hT27 | guard_hyp hT45); ((refine' EndC.intro ?F_v ?N_v ?T_v ?B_v ?X_v ?TT_v ?D_v ?XB_v ?TB_v ?GG_v ?J_v; (case F_v => k_asm); (case N_v => k_asm); (case T_v => first | assumption | exact KtsTurn.refl); (case B_v => first | assumption | exact Cx.B (by assumption)); (case X_v => first | assumption | exact Cx.X (by assumption)); (case TT_v => first | assumption | exact Cx.T (by assumption)); (case D_v => assumption); (case XB_v => assumption); (case TB_v => assumption); (case GG_v => first | exact GRel.refl _ | assumption | exact GRel.trans hG (by assumption)); (case J_v => k_extra "@J"))))
  k_with "eval ListComp" => ((first | guard_hyp hT27 | guard_hyp hT41 | guard_hyp hT42); ((k_here; k_dflt (refine' comp_cx ?cl_aR ?kd_aR ?nm_aR ?_; (case cl_aR => with_unfolding_all rfl); (case kd_aR => rfl); (case nm_aR => decide)))))
  k_with "eval Name" => ((first | guard_hyp hT27 | guard_hyp hT31 | guard_hyp hT37 | guard_hyp hT41 | guard_hyp hT42 | guard_hyp hT45); ((k_here; (with_reducible show wpAny _ _ (eval (Expr.Name _ _) (compEnvC _ _ _ _)) _ _ _); k_dflt (refine' wpAny_Name (wpAny_loadName_local ?hk_aS ?hl_aS (hNs.ns ((by assumption : News _ _ _ _) _ hCc).1) hmx ?_) ?hd_aS; (case hk_aS => rfl); (case hl_aS => rfl); (case hd_aS => decide)))))
  k_with "compareOp IsNot" => ((first | guard_hyp hT27 | guard_hyp hT45); ((k_here; k_dflt (refine' ov_isnot ?a_ba ?_; (case a_ba => assumption)))))
  k_with "@ld" => (guard_hyp g6; (first | (refine' Ld.loc ?F_f ?v_f ?k_f ?l_f ?d_f; (case l_f => rfl); (case F_f => k_asm); (case k_f => rfl); (case v_f => first | rfl | assumption); (case d_f => decide)) | (refine' Ld.cel ?N_f ?c_f ?m_f ?o_f ?k_f ?l_f ?d_f; (case l_f => rfl); (case c_f => rfl); (case N_f => k_asm); (case m_f => k_mem); (case o_f => k_asm); (case k_f => rfl); (case d_f => decide)) | (refine' Ld.com ?N_f hCc hNs hmx ?k_f ?l_f ?d_f; (case l_f => rfl); (case N_f => k_asm); (case k_f => rfl); (case d_f => decide)) | (refine' Ld.glo ?F_f ?X_f ?T_f ?e_f ?k_f ?x_f ?d_f; (case x_f => rfl); (case F_f => k_asm); (case X_f => k_asm); (case T_f => k_asm); (case e_f => k_is); (case k_f => rfl); (case d_f => decide)) | (refine' Ld.gloC ?F_f ?X_f ?T_f ?e_f ?k_f ?x_f ?d_f; (case x_f => rfl); (case F_f => k_asm); (case X_f => k_asm); (case T_f => k_asm); (case e_f => k_is); (case k_f => rfl); (case d_f => decide))))
  k_with "eval Call" => (guard_hyp g6; ((k_here; (with_reducible show wpAny _ _ (eval (Expr.Call (Expr.Name _ _) [] [] _) _) _ _ _); k_dflt (refine' call_n0 ?f_z ?X_z ?k_z  ?_; (case f_z => k_extra "@ld"); (case X_z => k_in); (case k_z => k_is);  k_whole))))
  k_with "eval Call" => (guard_hyp g6; ((k_here; (with_reducible show wpAny _ _ (eval (Expr.Call (Expr.Name _ _) [Expr.Name _ _] [] _) _) _ _ _); k_dflt (refine' call_n1 ?f_x ?X_x ?k_x ?a_x ?_; (case f_x => k_extra "@ld"); (case X_x => k_in); (case k_x => k_is); (case a_x => k_extra "@ld"); k_whole))))
  k_with "eval Call" => (guard_hyp g6; ((k_here; (with_reducible show wpAny _ _ (eval (Expr.Call (Expr.Name _ _) [Expr.Name _ _, Expr.Name _ _] [] _) _) _ _ _); k_dflt (refine' call_n2 ?f_au ?X_au ?k_au ?a_au ?b_au ?_; (case f_au => k_extra "@ld"); (case X_au => k_in); (case k_au => k_is); (case a_au => k_extra "@ld"); (case b_au => k_extra "@ld"); k_whole))))
  k_with "eval Call" => (guard_hyp g6; ((k_here; (with_reducible show wpAny _ _ (eval (Expr.Call (Expr.Name _ _) [Expr.Name _ _, Expr.Name _ _, Expr.Name _ _] [] _) _) _ _ _); k_dflt (refine' call_n3 ?f_ad ?X_ad ?k_ad ?a_ad ?b_ad ?c_ad ?_; (case f_ad => k_extra "@ld"); (case X_ad => k_in); (case k_ad => k_is); (case a_ad => k_extra "@ld"); (case b_ad => k_extra "@ld"); (case c_ad => k_extra "@ld"); k_whole))))
  k_with "eval Call" => (guard_hyp g6; ((k_here; (with_reducible show wpAny _ _ (eval (Expr.Call (Expr.Name _ _) [Expr.Name _ _, Expr.Name _ _, Expr.Name _ _, Expr.Name _ _] [] _) _) _ _ _); k_dflt (refine' call_n4 ?f_aq ?X_aq ?k_aq ?a_aq ?b_aq ?c_aq ?d2_aq ?_; (case f_aq => k_extra "@ld"); (case X_aq => k_in); (case k_aq => k_is); (case a_aq => k_extra "@ld"); (case b_aq => k_extra "@ld"); (case c_aq => k_extra "@ld"); (case d2_aq => k_extra "@ld"); k_whole))))
  k_with "call ref" => ((first | guard_hyp hT10_1 | guard_hyp hT21); ((k_here; (with_reducible show wpAny _ _ (call (Value.ref 350) _ _) _ _ _); k_dflt (refine' SpecR.use (c_valid _ _ _ _ _ _) ?hA_S ?B_S ?F_S ?N_S ?X_S ?T_S ?D_S ?XB_S ?TB_S ?hf_S ?hke_S ?hdp_S ?hun_S (fun v h' gn' tk' g' hR kT kF kN kB kX₀ kP kD kX kG => ?_); (case F_S => k_asm); (case N_S => k_asm); skip; (case hA_S => exact rfl); (case B_S => k_asm); (case X_S => k_asm); (case T_S => k_asm); (case D_S => assumption); (case XB_S => assumption); (case TB_S => assumption); (case hf_S => exact rfl); (case hke_S => exact rfl); (case hdp_S => k_room); (case hun_S => k_units); (all_goals (try (have kT2 := KtsTurn.trans (by assumption) kT; clear kT))); (all_goals (try (have kG2 := GRel.trans (by assumption) kG; clear kG))); obtain ⟨r', t', he, hr⟩ := hR; subst he; (try dsimp only); (try k_lift kB); (try k_fold)))))
  k_with "exec Raise some none" => ((first | guard_hyp hT10_1 | guard_hyp hT21 | guard_hyp hT8_1); ((k_here; (with_reducible show wpAny _ _ (exec (Stmt.Raise (some (Expr.Call (Expr.Name ((Str.ofString "InvalidSettingsValueError")) _) _ _ _)) none _) _) _ _ _); k_dflt (refine' Raise79 ?X_aT ?hm_aT ?hh_aT ?_; (case X_aT => k_asm); (case hm_aT => exact mk79_ok _); (case hh_aT => rfl); k_whole))))
  k_with "call ref" => ((first | guard_hyp hT10_1 | guard_hyp hT21 | guard_hyp hT8_1); ((k_here; (with_reducible show wpAny _ _ (call (Value.ref 79) _ _) _ _ _); k_dflt (refine' Spec.use (c_make79 _ _ _ _ _ _) ?hA_T ?B_T ?F_T ?N_T ?X_T ?T_T ?D_T ?XB_T ?TB_T ?hf_T ?hke_T ?hdp_T ?hun_T (fun v n' h' gn' tk' g' hR kT kF kN kB kX₀ kP kD kX kG => ?_); (case F_T => k_asm); (case N_T => k_asm); (case hA_T => exact rfl); (case B_T => k_asm); (case X_T => k_asm); (case T_T => k_asm); (case D_T => assumption); (case XB_T => assumption); (case TB_T => assumption); (case hf_T => exact rfl); (case hke_T => exact rfl); (case hdp_T => k_room); (case hun_T => k_units); (all_goals (try (have kT2 := KtsTurn.trans (by assumption) kT; clear kT))); (all_goals (try (have kG2 := GRel.trans (by assumption) kG; clear kG))); obtain ⟨e', n'', he, hM, hk⟩ := hR; subst he; obtain ⟨de, t', tk1, tr1, n1, nn, ho, ht, ge, gt, hN, hne, hde, hkp⟩ := thrown hM hk kN; refine ⟨_, _, _, Eq.refl _, kX, ho, ?_⟩; (try dsimp only); (try k_lift kB); (try k_fold)))))
  k_with "leaving ref" => ((first | guard_hyp hT10_1 | guard_hyp hT21 | guard_hyp hT8_1); ((k_here; k_dflt (refine' leaveErr ?K_ag ?F_ag ?N_ag ?he_ag ?ht_ag ?ge_ag ?gt_ag ?hne_ag ?hde_ag (fun h' kR => ?_) ?hk_ag; (case F_ag => k_asm); (case he_ag => assumption); (case ht_ag => assumption); (case hde_ag => assumption); (case N_ag => assumption); (case K_ag => assumption); (case ge_ag => assumption); (case gt_ag => assumption); (case hne_ag => assumption); (case hk_ag => rfl); k_whole))))
  k_with "leaving ref" => ((first | guard_hyp hT10_1 | guard_hyp hT21 | guard_hyp hT8_1 | guard_hyp hT14_1); ((k_here; k_dflt (refine' leaveErrOn ?K_aU ?F_aU ?R_aU (fun h' kR => ?_); (case R_aU => assumption); (case F_aU => k_asm); (case K_aU => assumption); k_whole))))
  k_with "formatField int" => ((first | guard_hyp hT10_1 | guard_hyp hT21 | guard_hyp hT8_1); ((k_here; (refine wpAny_formatField_int (fits_log (by assumption)) ?_); (try dsimp only))))
  k_with "@kwd_less" => ((first | guard_hyp hT10_1 | guard_hyp hT21 | guard_hyp hT8_1); (((try dsimp only); refine' backE ?H_ar ?R_ar ?T_ar ?F_ar ?hf_ar ?B_ar ?X_ar ?GG_ar; (case H_ar => assumption); (case R_ar => assumption); (case T_ar => first | assumption | exact KtsTurn.refl); (case F_ar => assumption); (case hf_ar => assumption); (case B_ar => exact Cx.B (by assumption)); (case X_ar => first | exact ⟨by assumption, by assumption, by assumption⟩ | ktr_rel); (case GG_ar => first | exact GRel.refl _ | assumption))))
  k_with "exec For Tuple Call" => ((first | guard_hyp hT21 | guard_hyp hT24); ((k_here; k_dflt (refine' For_cx ?_))))
  k_with "getMethod ref" => ((first | guard_hyp hT21 | guard_hyp hT24); ((k_here; (with_reducible show wpAny _ _ (getMethod (Value.ref _) (PySem.Str.ofString "items") _) _ _ _); k_dflt (refine' items_method ?N_aV ?m_aV ?d_aV ?_; (case N_aV => k_asm); (case m_aV => (repeat' (first | assumption | refine List.Mem.tail _ ?_))); (case d_aV => assumption)))))
  k_with "call builtin:dict.items" => ((first | guard_hyp hT21 | guard_hyp hT24); ((k_here; k_dflt (refine' items_call ?F_aE ?N_aE ?m_aE ?d_aE ?lo_aE (fun v' h' F' N' l1 => ?_); (case F_aE => k_asm); (case N_aE => k_asm); (case m_aE => (repeat' (first | assumption | refine List.Mem.tail _ ?_))); (case d_aE => assumption); (case lo_aE => assumption)))))
  k_with "EndC" => (guard_hyp g7; ((refine' EndC.intro ?F_v ?N_v ?T_v ?B_v ?X_v ?TT_v ?D_v ?XB_v ?TB_v ?GG_v ?J_v; (case F_v => k_asm); (case N_v => k_asm); (case T_v => first | assumption | exact KtsTurn.refl); (case B_v => first | assumption | exact Cx.B (by assumption)); (case X_v => first | assumption | exact Cx.X (by assumption)); (case TT_v => first | assumption | exact Cx.T (by assumption)); (case D_v => assumption); (case XB_v => assumption); (case TB_v => assumption); (case GG_v => first | exact GRel.refl _ | assumption); (case J_v => k_extra "@J"))))
  k_with "newList" => ((first | guard_hyp hT21 | guard_hyp hT38 | guard_hyp hT39 | guard_hyp hT28); ((k_here; k_dflt (refine' newList_K ?k1_aW ?k2_aW (fun l' h' F' N' l1 => ?_) ?z_aW; (case k1_aW => k_asm); (case k2_aW => k_asm); (case z_aW => size_fits); have l1a := l1; (try k_lt l1)))))
  k_with "noteFrame ref" => ((first | guard_hyp hT9_1 | guard_hyp hT22 | guard_hyp hT12_1 | guard_hyp hT13_1); ((k_here; (rename Err _ _ _ _ _ _ _ _ => rsX); kts_caught)))
  k_with "@kts_caught" => ((first | guard_hyp hT9_1 | guard_hyp hT22 | guard_hyp hT12_1 | guard_hyp hT13_1); ((k_dflt (refine' caughtErr ?R_ak ?F_ak ?K_ak ?XB_ak ?TB_ak ?D_ak ?T0_ak ?q_ak ?ex_ak (fun h' g' tk' ws sl de t1 t2 n' T' F' N' K' X' P' D' => ?_); (case R_ak => assumption); (case F_ak => assumption); (case K_ak => assumption); (case XB_ak => assumption); (case TB_ak => assumption); (case D_ak => assumption); (case T0_ak => first | assumption | exact KtsTurn.refl); (case q_ak => kts_isx); (case ex_ak => k_is)); (try k_lift K'); (try k_sweep))))
  k_with "getAttr ref" => ((first | guard_hyp hT9_2 | guard_hyp hT22 | guard_hyp hT12_2 | guard_hyp hT13_2); ((k_here; k_dflt (refine' get_err ?k1_ah ?k2_ah ?k3_ah ?k4_ah ?k5_ah ?k6_ah ?k7_ah ?_; (case k1_ah => k_in); (case k2_ah => refine' inst_err ?N_ah ?h1_ah ?h2_ah; (case N_ah => k_asm); (case h1_ah => exact .head _); (case h2_ah => exact .tail _ (.head _))); (case k3_ah => k_is); (case k4_ah => k_is); (case k5_ah => k_is); (case k6_ah => exact findObj_own (by k_is) (by k_is) (by k_is) look_err); (case k7_ah => k_handed); k_whole))))
  k_with "subscriptTail" => (guard_hyp g8; ((k_here; (with_reducible show wpAny _ _ (subscriptTail _ _ (Value.ref _) (Value.int _ _)) _ _ _); (refine' item_rows ?k1_G ?k2_G ?k3_G (fun row a vs n hq hm hr => ?_) ?h2_G ?k8_G; (case k1_G => k_asm); (case k2_G => first | assumption | exact DicL.mono (by assumption) (by intro p hp; repeat' (first | exact hp | refine List.Mem.tail _ ?_))); (case k3_G => rfl); (case h2_G => (intro e; rename look _ _ = some _ => hz; rw [e] at hz; cases hz)); (case k8_G => with_unfolding_all rfl)); (try ((refine hide fun G__ k__ => ?_; obtain ⟨i, hi, hib, hv⟩ := Tells.some (by assumption) (by assumption); refine k__ ?_; clear k__ G__); (refine hide fun G__ k__ => ?_; obtain ⟨v, hx, hov⟩ := RowV.at (by assumption) hv; refine k__ ?_; clear k__ G__))))))
  k_with "@ktr_rel" => ((first | guard_hyp hT25 | guard_hyp hT25b); (exact ⟨_, rfl, by assumption⟩))
  k_with "call ref" => ((first | guard_hyp hT12_1 | guard_hyp hT14_1 | guard_hyp hT13_1); ((k_here; (with_reducible show wpAny _ _ (call (Value.ref 271) _ _) _ _ _); k_dflt (refine' SpecX.use (c_setitem _ _ _ _ _ _ _ _ _ _ _ _ _ ?H_A _ _ _ _ ?hk_A ?hv_A ?hft_A) ?hA_A ?B_A ?F_A ?N_A ?X_A ?T_A ?D_A ?XB_A ?TB_A ?hf_A ?hke_A ?hdp_A ?hun_A (fun v n' h' gn' tk' g' hR kT kF kN kB kX₀ kP kD kX kG => ?_) (fun e' r' n' h' gn' tk' G' g' hR kT kF kB kD kR kG => ?_); (case F_A => k_asm); (case N_A => k_asm); (case H_A => first | assumption | exact SetL.mono (by assumption) (by intro p hp; repeat' (first | exact hp | refine List.Mem.tail _ ?_))); (case hk_A => first | assumption | decide); (case hv_A => assumption); (case hft_A => assumption); (case hA_A => exact rfl); (case B_A => k_asm); (case X_A => k_asm); (case T_A => k_asm); (case D_A => assumption); (case XB_A => assumption); (case TB_A => assumption); (case hf_A => exact rfl); (case hke_A => exact rfl); (case hdp_A => k_room); (case hun_A => k_units); (all_goals (try (have kT2 := KtsTurn.trans (by assumption) kT; clear kT))); (all_goals (try (have kG2 := GRel.trans (by assumption) kG; clear kG))); have hR1 := hR.1; have hR2 := hR.2.1; have hR3 := hR.2.2; subst hR1; rotate_left; obtain ⟨hr1, hr2, hr3⟩ := hR; rotate_right; (try dsimp only); (try k_lift kB); (try k_fold)))))
  k_with "eval DictComp" => ((first | guard_hyp hT31 | guard_hyp hT37 | guard_hyp hT45); ((k_here; k_dflt (refine' comp_cxD ?cl_e ?kd_e ?nm_e ?_; (case cl_e => with_unfolding_all rfl); (case kd_e => rfl); (case nm_e => decide)))))
  k_with "call ref" => ((first | guard_hyp hT32 | guard_hyp hT35); ((k_here; (with_reducible show wpAny _ _ (call (Value.ref 432) _ _) _ _ _); k_dflt (refine' SpecR.use (c_alike _ _ _ _ _ _ _ _ _ _ _ _ _ hM.sets _ _ _ _ (cur _) _ _ _ _ _ hM.rows hM.pls ?HT_e _ _ (fun _ => rfl) ?hk_e ?hs_e ?hr_e ?hb_e) ?hA_e ?B_e ?F_e ?N_e ?X_e ?T_e ?D_e ?XB_e ?TB_e ?hf_e ?hke_e ?hdp_e ?hun_e (fun v h' gn' tk' g' hR kT kF kN kB kX₀ kP kD kX kG => ?_); (case F_e => k_asm); (case N_e => k_asm); (case HT_e => exact iv.tells (by omega)); (case hk_e => exact iv.same); (case hs_e => (have hz := iv.sl; omega)); (case hr_e => (have hz := iv.rl; omega)); (case hb_e => first | decide | exact codes_small _ (by assumption)); (case hA_e => exact rfl); (case B_e => k_asm); (case X_e => k_asm); (case T_e => k_asm); (case D_e => assumption); (case XB_e => assumption); (case TB_e => assumption); (case hf_e => exact rfl); (case hke_e => exact rfl); (case hdp_e => k_room); (case hun_e => k_units); (all_goals (try (have kT2 := KtsTurn.trans (by assumption) kT; clear kT))); (all_goals (try (have kG2 := GRel.trans (by assumption) kG; clear kG))); subst hR; (try dsimp only); (try k_lift kB); (try k_fold)))))
  k_with "exec For Name Subscript cons nil" => ((first | guard_hyp hT33 | guard_hyp hT47); ((k_here; k_dflt (refine' For_cx ?_ (hE := hE)))))
  k_with "@ev" => ((first | guard_hyp hT34 | guard_hyp hT36 | guard_hyp hT38 | guard_hyp hT43 | guard_hyp hT28); (first | exact EvV.int | (refine' EvV.loc ?F_y ?v_y ?P_y ?k_y ?l_y ?d_y; (case l_y => rfl); (case F_y => k_asm); (case v_y => first | rfl | assumption); (case P_y => first | exact ⟨_, rfl⟩ | exact rfl); (case k_y => rfl); (case d_y => decide)) | (refine' EvV.cel ?N_y ?c_y ?m_y ?o_y ?P_y ?k_y ?l_y ?d_y; (case l_y => rfl); (case c_y => rfl); (case N_y => k_asm); (case m_y => k_mem); (case o_y => k_asm); (case P_y => first | exact ⟨_, rfl⟩ | exact rfl); (case k_y => rfl); (case d_y => decide)) | (refine' EvV.com ?N_y hCc hNs hmx ?P_y ?k_y ?l_y ?d_y; (case l_y => rfl); (case N_y => k_asm); (case P_y => first | exact ⟨_, rfl⟩ | exact rfl); (case k_y => rfl); (case d_y => decide)) | (refine' EvV.mod ?_ ?_ ?_ <;> (try k_extra "@ev"); all_goals decide) | (refine' EvV.fdiv ?_ ?_ ?_ ?_ <;> (try k_extra "@ev"); all_goals decide) | (refine' EvV.pow ?_ ?_ ?_ ?_ ?_ ?_ <;> (try k_extra "@ev"); all_goals (first | decide | rfl)) | (refine' EvV.sub ?_ ?_ <;> (try k_extra "@ev"); done) | (refine' EvV.add ?_ ?_ <;> (try k_extra "@ev"); done)))
  k_with "eval BinOp" => ((first | guard_hyp hT34 | guard_hyp hT36 | guard_hyp hT38 | guard_hyp hT43 | guard_hyp hT28); ((k_here; (with_reducible show wpAny _ _ (eval (Expr.BinOp _ _ _ _) _) _ _ _); k_dflt (refine' EvV.use ?e_L (fun u t' => ?_); (case e_L => k_extra "@ev")))))
  k_with "eval Compare" => ((first | guard_hyp hT34 | guard_hyp hT36 | guard_hyp hT38 | guard_hyp hT43 | guard_hyp hT28); ((k_here; (with_reducible show wpAny _ _ (eval (Expr.Compare _ [_] [_] _) _) _ _ _); k_dflt (refine' EvV.useB (EvV.cmp ?a_aM ?b_aM ?o_aM ?m_aM) (fun t' => ?_); (case a_aM => k_extra "@ev"); (case b_aM => k_extra "@ev"); (case o_aM => rfl); (case m_aM => with_unfolding_all rfl)); (try dsimp only [cmpI]))))
  k_with "isTrue Compare" => ((first | guard_hyp hT34 | guard_hyp hT36 | guard_hyp hT38 | guard_hyp hT43 | guard_hyp hT28); ((k_here; (with_reducible show wpAny _ _ (isTrue (Expr.Compare _ [_] [_] _) _ _) _ _ _); k_dflt (refine' EvV.truth ?a_B ?b_B ?o_B ?m_B (fun t' => ?_); (case a_B => k_extra "@ev"); (case b_B => k_extra "@ev"); (case o_B => rfl); (case m_B => with_unfolding_all rfl)); (try dsimp only [cmpI]))))
  k_with "call ref" => ((first | guard_hyp hT36 | guard_hyp hT38 | guard_hyp hT28); ((k_here; (with_reducible show wpAny _ _ (call (Value.ref 371) _ _) _ _ _); k_dflt (refine' SpecR.use (c_fault _ _ _ _ _ _) ?hA_l ?B_l ?F_l ?N_l ?X_l ?T_l ?D_l ?XB_l ?TB_l ?hf_l ?hke_l ?hdp_l ?hun_l (fun v h' gn' tk' g' hR kT kF kN kB kX₀ kP kD kX kG => ?_); (case F_l => k_asm); (case N_l => k_asm); skip; (case hA_l => exact rfl); (case B_l => k_asm); (case X_l => k_asm); (case T_l => k_asm); (case D_l => assumption); (case XB_l => assumption); (case TB_l => assumption); (case hf_l => exact rfl); (case hke_l => exact rfl); (case hdp_l => k_room); (case hun_l => k_units); (all_goals (try (have kT2 := KtsTurn.trans (by assumption) kT; clear kT))); (all_goals (try (have kG2 := GRel.trans (by assumption) kG; clear kG))); obtain ⟨fr, tr, he, hfr⟩ := hR; subst he; (try dsimp only); (try k_lift kB); (try k_fold)))))
  k_with "call ref" => ((first | guard_hyp hT30 | guard_hyp hT28); ((k_here; (with_reducible show wpAny _ _ (call (Value.ref 338) _ _) _ _ _); k_dflt (refine' SpecX.use (c_newF _ _ _ _ init _ _ ?H_e ?hb_e ?hl_e) ?hA_e ?B_e ?F_e ?N_e ?X_e ?T_e ?D_e ?XB_e ?TB_e ?hf_e ?hke_e ?hdp_e ?hun_e (fun v n' h' gn' tk' g' hR kT kF kN kB kX₀ kP kD kX kG => ?_) (fun e' r' n' h' gn' tk' G' g' hR kT kF kB kD kR kG => ?_); (case F_e => k_asm); (case N_e => k_asm); (case H_e => exact hFD1); (case hb_e => exact hsm); (case hl_e => exact Nat.le_trans hil (by decide)); (case hA_e => exact rfl); (case B_e => k_asm); (case X_e => k_asm); (case T_e => k_asm); (case D_e => assumption); (case XB_e => assumption); (case TB_e => assumption); (case hf_e => exact rfl); (case hke_e => exact rfl); (case hdp_e => k_room); (case hun_e => k_units); (all_goals (try (have kT2 := KtsTurn.trans (by assumption) kT; clear kT))); (all_goals (try (have kG2 := GRel.trans (by assumption) kG; clear kG))); skip; rotate_left; obtain ⟨hr1, hr2, hr3⟩ := hR; rotate_right; (try dsimp only); (try k_lift kB); (try k_fold)))))
  k_with "exec For Name Call cons nil" => ((first | guard_hyp hT40 | guard_hyp hT47); ((k_here; k_dflt (refine' For_cx ?_ (hE := hE)))))
  k_with "call builtin:sorted" => ((first | guard_hyp hT41 | guard_hyp hT42); ((k_here; k_dflt (refine' sorted_keys ?F_m ?N_m rfl hA.tm hA.tdict hA.tlo ?l_m (fun S vss ks2 cS h' tk2 F' N' l1 hI' hp' ho' => ?_); (case F_m => k_asm); (case N_m => k_asm); (case l_m => (have e1 := congrArg List.length hA.tl.keys; have e2 := (due_perm hsn hkσ).length_eq; simp only [List.length_map] at e1; rw [← hτ] at e2; omega))); have hk2 : ks2 = τ.map (·.1) := (by rw [hτ]; exact due_sorted hsn hkσ hko (by rw [← hA.tl.keys]; exact hp') ho'); subst hk2; have hAs := hA.up (fun p hp => List.Mem.tail (S, W.listOf (List.toArray vss) cS) hp))))
  k_with "subscriptTail" => ((first | guard_hyp hT41 | guard_hyp hT42); ((k_here; k_dflt (refine' item_val ?N_w htm2 hAs.tdict hv9 ?_ ?s_w; (case N_w => k_asm); (case s_w => with_unfolding_all rfl)); (try dsimp only))))
  k_with "getAttr ref" => ((first | guard_hyp hT41 | guard_hyp hT42); ((k_here; k_dflt (refine' get_own ?k1_k ?k2_k ?k3_k ?k4_k ?k5_k ?k6_k ?k7_k ?k8_k ?k9_k ?_; (case k1_k => k_asm); (case k2_k => k_asm); (case k3_k => k_inst); (case k4_k => k_is); (case k5_k => k_is); (case k6_k => k_is); (case k7_k => k_is); (case k8_k => k_get); (case k9_k => first | exact OV.handed hw0 | exact OV.handed hw1 | k_handed); k_whole))))
  trivial
set_option maxRecDepth 100000
section
variable {prog : Program} {w : World} {A : Around} {E : Value → Shared → Prop} {s : Shared} {h₀ : Heap} {L : Addr} {m mg mb : Str → Option Value} {news : Led} {K : Frag} {x q t : Addr}
theorem call_wrapN {v : Value} {Q : Value → Shared → Prop} (F : Fr h₀ L s.heap m) (X₀ : K.In h₀) (N : News h₀ L s.heap news) (hq : (q, wrapObj x) ∈ news) (hx : (x, excObj none t) ∈ news) (hk : ktsIn K 79 "Exception" = true)
    (h : ∀ t' h' n', Fr h₀ L h' m → News h₀ L h' n' → (x, excObj none t') ∈ n' → (t', tupObj [v]) ∈ n' → (∀ p ∈ news, p.1 ≠ x → p ∈ n') → (∀ p ∈ news, p.1 ≠ t') → Q .none { s with heap := h' }) :
    wpAny (model prog w) A (call (.ref q) [v]) Q E s :=
  call_wrap F X₀ N hq hx hk fun t' h' F' N' l => h t' h' _ F' N' (.tail _ (.head _)) (.head _) (fun _ hp hne => .tail _ (wrL.keep hp hne)) fun p hp => Nat.ne_of_lt (l p hp)
theorem set_excN {r : Int} {tr : Tok} {Q : Unit → Shared → Prop} (F : Fr h₀ L s.heap m) (X₀ : K.In h₀) (N : News h₀ L s.heap news) (hx : (x, excObj none t) ∈ news)
    (hs : findIn K (.ref 79) "__setattr__" = some (some (.builtin "object.__setattr__"))) (hp : excOverIn K 79 = true) (ht : takerIn K 79 "error_code" = some none)
    (h : ∀ de tk n h' n', Fr h₀ L h' m → News h₀ L h' n' → (x, excObj (some de) t) ∈ n' → (de, errDict w r tk tr n) ∈ n' → (∀ p ∈ news, p.1 ≠ x → p ∈ n') → Q () { s with heap := h', toks := s.toks + 2 }) :
    wpAny (model prog w) A (setAttr (.ref x) "error_code" (.int r tr)) Q E s :=
  set_exc F X₀ N hx hs hp ht fun de tk n h' F' N' _ => h de tk n h' _ F' N' (.tail _ (.head _)) (.head _) fun _ hp hne => .tail _ (wrL.keep hp hne)
theorem inst_exc {h₀ h : Heap} {L e t : Addr} {news : Led} (N : News h₀ L h news) (h1 : (e, excObj none t) ∈ news) : InstAt h e (excObj none t) 79 none := ⟨(N _ h1).1, rfl, rfl, trivial⟩
noncomputable def WrapP (q x : Addr) (h : Heap) : Prop := h.get? q = some (wrapObj x)
theorem keeps_wrap {M : Model} {q x : Addr} (h : Heap) (X : WrapP q x h) : ∃ k, (k = Keeper.frame ∨ k = Keeper.machine ∨ k = Keeper.boundFrame) ∧ Looks M h (keeperOf (.ref q)) k := ⟨.machine, .inr (.inl rfl), (Looks.ld (part := none) X).andThen .now⟩
theorem callWith_wrap {env : Env} {pos : Pos} {first : List Value} {q x : Addr} {e : Expr} {rest : List Expr} {Q : Value → Shared → Prop} (_N : News h₀ L s.heap news) (_q : (q, wrapObj x) ∈ news) (h : wpAny (model prog w) A (spliced (backTo pos (starEach (e :: rest) env))) (fun vs s₁ => WrapP q x s₁.heap ∧ wpAny (model prog w) A (call (.ref q) (first ++ vs)) Q E s₁) E s)
    (he : starEach (e :: rest) env = (false, eval e env) :: starEach rest env := by rfl) (hplain : (backTo pos (starEach rest env)).any (·.1) = false := by rfl) :
    wpAny (model prog w) A (callWith pos (.ref q) first (backTo pos (starEach (e :: rest) env)) []) Q E s := by
  rw [he] at h ⊢
  exact callWith_of (by show ((false || (backTo pos (starEach rest env)).any (·.1)) || false) = false; rw [hplain]; rfl) keeps_wrap (evalArgs_plain h)
inductive Made (w : World) (e : Addr) (r : Int) (vs : List Value) (news news' : Led) : Prop
  | mk : ∀ de t' tk tr n, ((e, excObj (some de) t') ∈ news') → ((t', tupObj vs) ∈ news') → ((de, errDict w r tk tr n) ∈ news') → (∀ p ∈ news, p.1 ≠ t' ∧ (p.1 ≠ e → p ∈ news')) → Made w e r vs news news'
theorem made_of {w : World} {n1 n2 : Led} {q1 q2 : Addr × Obj} {h h' : Heap} {L e t' de : Addr} {r : Int} {vs : List Value} {tk tr : Tok} {n : Nat} (k1 : ∀ p ∈ q1 :: q2 :: news, p.1 ≠ e → p ∈ n1) (k3 : ∀ p ∈ q1 :: q2 :: news, p.1 ≠ t') (h1 : (e, excObj none t') ∈ n1) (h2 : (t', tupObj vs) ∈ n1) (N1 : News h L h' n1) (k2 : ∀ p ∈ n1, p.1 ≠ e → p ∈ n2) (h3 : (e, excObj (some de) t') ∈ n2) (h4 : (de, errDict w r tk tr n) ∈ n2) : Made w e r vs news n2 :=
  ⟨de, t', tk, tr, n, h3, k2 _ h2 (led_ne N1 h2 h1 (cls_ne (by intro q; cases q))), h4, fun p hp => ⟨k3 p (.tail _ (.tail _ hp)), fun hne => k2 _ (k1 _ (.tail _ (.tail _ hp)) hne) hne⟩⟩
end
theorem words_X5_1 : True := by
  k_with "getMethod ref" => (guard_hyp hX5_1; ((k_here; ks_any; k_dflt (refine' superB_method ?k1_ai ?k2_ai ?k3_ai ?k4_ai ?k5_ai ?k6_ai ?k7_ai ?k8_ai ?k9_ai ?kd_ai (fun q' h' F' N' l1 => ?_); (case k1_ai => k_asm); (case k2_ai => k_asm); (case k3_ai => k_asm); (case k4_ai => k_mem); (case k5_ai => (repeat' (first | assumption | refine List.Mem.tail _ ?_))); (case k6_ai => k_is); (case k7_ai => ks_is); (case k8_ai => k_is); (case k9_ai => decide); (case kd_ai => exact fun c e => nomatch e)))))
  k_with "call ref" => (guard_hyp hX5_1; ((k_here; (with_reducible show wpAny _ _ (call (Value.ref _) [_]) _ _ _); k_dflt (refine' call_wrapN ?k1_ay ?k2_ay ?k3_ay ?k4_ay ?k5_ay ?k6_ay (fun t' h' n' F' N' hm1 hm2 hkp hfr => ?_); (case k1_ay => k_asm); (case k2_ay => k_asm); (case k3_ay => k_asm); (case k4_ay => k_mem); (case k5_ay => (repeat' (first | assumption | refine List.Mem.tail _ ?_))); (case k6_ay => kts_isx)))))
  k_with "callWith ref" => (guard_hyp hX5_1; ((k_here; k_dflt (refine' callWith_wrap ?k1_a2 ?k2_a2 ?_; (case k1_a2 => k_asm); (case k2_a2 => k_mem); k_whole))))
  k_with "WrapP" => (guard_hyp hX5_1; ((refine' (News.get ?k1_a3 ?k2_a3 : _); (case k1_a3 => k_asm); (case k2_a3 => k_mem))))
  k_with "setAttr ref" => (guard_hyp hX5_1; ((k_here; k_dflt (refine' set_excN ?k1_av ?k2_av ?k3_av ?k4_av ?k6_av ?k7_av ?k8_av (fun de tk n h' n' F' N' hm1 hm2 hkp => ?_); (case k1_av => k_asm); (case k2_av => k_asm); (case k3_av => k_asm); (case k4_av => (repeat' (first | assumption | refine List.Mem.tail _ ?_))); (case k6_av => k_is); (case k7_av => kernel_rfl); (case k8_av => k_is)))))
  k_with "@k_inst" => (guard_hyp hX5_1; ((refine' inst_exc ?N_a4 ?h1_a4; (case N_a4 => k_asm); (case h1_a4 => k_mem))))
  trivial
set_option maxRecDepth 100000 in
set_option maxHeartbeats 4000000 in
theorem c_init76 (w : World) (news : Led) (e t : Addr) (msg : Str) (tm : Tok) (r : Int) (tr : Tok) (He : (e, excObj none t) ∈ news) {A A₀ : Around} {base h₀ : Heap} {env : Env} {outer : List Env} {L : Addr} {m mg mb : Str → Option Value} {loose : List Str} {mean : ExcName → Option Value} {s : Shared} {R : Result → Shared → Prop}
    (C : Cx w A₀ base outer loose mean mg mb h₀ L m news s.heap) (hA : A.frames = some (env :: outer)) (hf : env.frame = some L) (hke : env.scope.kind = .function) (hdp : A.depth + 1 < recursionLimit) (hun : A.units + 8 < cLine) (hnh : A.handled = none)
    (hret : ∀ n' h' tk', Fr h₀ L h' m → News h₀ L h' n' → Made w e r [.str msg tm] news n' → R (.ok (.ret .none)) { s with heap := h', toks := tk' }) :
    codeAny (model Challenge.rw_ix0031_01.row.prog w) A (.call (.ref 76) ⟨[.ref e, .str msg tm], [(Str.ofString "error_code", .int r tr)]⟩) R s := by
  have hX5_1 := trivial; have g0 := trivial
  have C' := C
  obtain ⟨B, F, N, X, T, D, XB, TB⟩ := C
  revert X; k_fill; intro X
  k_dflt (refine' ks_code_super ?k1 ?k2 ?k3 ?k4 ?k5 ?kA ?kF ?kK ?k6 ?k7 ?k8 ?k9 ?kB ?_ ?c1 ?c2 ?c3 ?c4; (case kA => assumption); (case kF => assumption); (case kK => assumption); (case k1 => k_asm); (case k2 => k_asm); (case k3 => k_asm); (case k4 => k_asm); (case k5 => k_asm); (case k6 => k_is); (case k7 => k_is); (case k8 => k_room); (case k9 => first | exact BindsTo.of_eq rfl | exact binds_K (by k_in) rfl (by k_is) rfl rfl rfl | (refine' kp_binds ?kx ?ke; (case kx => k_in); (case ke => exact fun _ => rfl))); (case kB => exact locs rfl); (case c1 => decide); (case c2 => exact rfl); (case c3 => exact rfl); (case c4 => exact rfl); k_whole; intro g' L' h' FG' F' N' B' X' T' lt'; (try dsimp only); (try k_lift B'); (try k_fold))
  k_steps
  exact hret _ _ _ (by k_asm) (by k_asm) (made_of (by assumption) (by assumption) (by assumption) (by assumption) (by assumption) (by assumption) (by assumption) (by assumption))
set_option maxRecDepth 100000
inductive Mk79 (K : Frag) : Prop
  | mk : ∀ nm qn N bs bm hdct sn sub ab col dd k0 k1 k2 k3 k5, K.lookup 79 = some (excClassObj nm qn 79 N bs bm hdct sn sub ab col dd k0 k1 k2 k3 k5 "Exception.__new__") → bm.contains (.type "BaseException") = true → bm.contains (.type "Exception") = true → bm.contains (.type "AttributeError") = false → bm.contains (.type "NameError") = false → Mk79 K
theorem mk79_ok (w : World) : Mk79 (hd.heap_39 w.params) := by
  have kfl : Challenge.rw_ix0031_01.row = Challenge.rw_ix0031_01.row := rfl
  revert kfl; k_fill; intro kfl
  exact ⟨_, _, _, _, _, _, _, _, _, _, _, _, _, _, _, _, by k_is, by decide, by decide, by decide, by decide⟩
section
variable {prog : Program} {w : World} {A : Around} {R : Result → Shared → Prop} {h : Heap} {g : Array GenState} {d : Drawn} {t : Nat} {os : OsState}
variable {nm q : Str} {N : Addr} {bs bm : List Value} {hdct : Bool} {sn : List Str} {sub : List Value} {ab : Bool} {col : Option Bool} {dd : Option Addr} {k0 k1 k2 k3 k5 : Option Value}
theorem check_new79 {M : Model} {E : Value → Shared → Prop} {v kv : Value} {kn : Str} {Q : Unit → Shared → Prop} (hC : h.get? 79 = some (excClassObj nm q 79 N bs bm hdct sn sub ab col dd k0 k1 k2 k3 k5 "Exception.__new__")) (hE : bm.contains (.type "Exception") = true)
    (hq : Q () ⟨h, g, d, t, os⟩) : wpAny M A (checkBuiltinCall "Exception.__new__" ⟨[.ref 79, v], [(kn, kv)]⟩) Q E ⟨h, g, d, t, os⟩ := by
  have FE := PySem.F.excBase_Exception
  have hcont : (Value.ref 79 :: bm).contains (.type "Exception") = true := by rw [List.contains_cons, hE, Bool.or_true]
  have hstar := FE.noStar
  simp only [checkBuiltinCall, FE.newKind, FE.newSplit, FE.newRow]
  repeat (first | refine wpAny_loadPart_at hC ?_ | (refine wpAny_isSubtype_exc hC ?_; rw [hcont]) | refine wpAny_staticBase_exc hC ?_ | refine wpAny_madeBy_exc hC ?_ | simp only [bne_self_eq_false, Bool.false_eq_true, if_false] | wp_step)
  exact hq
theorem new79 {v kv : Value} {kn : Str} (hC : h.get? 79 = some (excClassObj nm q 79 N bs bm hdct sn sub ab col dd k0 k1 k2 k3 k5 "Exception.__new__")) (hE : bm.contains (.type "Exception") = true) (hA : bm.contains (.type "AttributeError") = false) (hNe : bm.contains (.type "NameError") = false)
    (hq : R (.ok (.ret (.ref (h.objs.size + 1)))) ⟨(h.push (tupObj [v])).push (excObj none h.objs.size), g, d, t, os⟩) :
    codeAny (model prog w) A (.builtin "Exception.__new__" ⟨[.ref 79, v], [(kn, kv)]⟩) R ⟨h, g, d, t, os⟩ := by
  have FE := PySem.F.excBase_Exception
  have hends := FE.ends
  have hcB : (Value.ref 79 :: bm).contains (.type "Exception") = true := by rw [List.contains_cons, hE, Bool.or_true]
  have hcA : (Value.ref 79 :: bm).contains (.type "AttributeError") = false := by rw [List.contains_cons, hA]; rfl
  have hcN : (Value.ref 79 :: bm).contains (.type "NameError") = false := by rw [List.contains_cons, hNe]; rfl
  refine codeAny_builtinAt FE.entry ?_
  unfold Builtin.«BaseException.__new__»
  refine PySem.wpAt_bind ?_
  show PySem.wpAt _ _ _ (stack >>= _) _ _ _
  refine PySem.wpAt_bind (PySem.wpAt_stack fun p below => PySem.wpAt_of_wpAny ?_)
  wp_walk
  refine PySem.wpAt_of_wpAny ?_
  rw [FE.owner]
  repeat (first | with_reducible refine wpAny_madeHere_exc FE.canon hC ?_ | with_reducible refine wpAny_loadPart_at hC ?_ | (with_reducible refine wpAny_isSubtype_exc hC ?_; first | rw [hcB] | rw [hcA] | rw [hcN]) | wp_step)
  show R _ _
  rw [Heap.size_push]
  exact hq
end
section
variable {prog : Program} {w : World} {A : Around} {K : Frag} {s : Shared} {h₀ : Heap} {L : Addr} {m : Str → Option Value} {news : Led} {R : Result → Shared → Prop}
theorem make79 {v kv : Value} {kn : Str} (F : Fr h₀ L s.heap m) (N : News h₀ L s.heap news) (X : K.In s.heap) (hm : Mk79 K) (hcall : specialIn K (.ref 79) "__call__" = some (some (.builtin "type.__call__"))) (htyp : instIn K (.ref 79) (.type "type") = some true)
    (hi : findIn K (.ref 79) "__init__" = some (some (.ref 76))) (hf : typeIn K (.ref 76) = some (.type "function"))
    (h : ∀ e t h', Fr h₀ L h' m → News h₀ L h' ((e, excObj none t) :: (t, tupObj [v]) :: news) → (∀ p ∈ news, p.1 < t) → t < e →
      codeAny (model prog w) (A.under (.builtin "type.__call__" ⟨[.ref 79, v], [(kn, kv)]⟩)) (.call (.ref 76) ⟨[.ref e, v], [(kn, kv)]⟩) (InitBack e R) { s with heap := h' }) :
    codeAny (model prog w) A (.call (.ref 79) ⟨[v], [(kn, kv)]⟩) R s := by
  obtain ⟨hh, g, d, t, os⟩ := s
  (refine hide fun G__ k__ => ?_; obtain ⟨nm, qn, Nn, bs, bm, hdct, sn, sub, ab, col, dd, k0, k1, k2, k3, k5, hC0, hB, hE, hA, hNe⟩ := hm; have hC := X _ _ hC0; refine k__ ?_; clear k__ G__)
  dsimp only at hC
  have hcall' := looks_specialIn (M := model prog w) X hcall
  have typ := looks_instIn (M := model prog w) X htyp
  have hif := looks_findIn (M := model prog w) X hi
  have hcC : (Value.ref 79 :: bm).contains (.ref 79) = true := by simp
  have N' := (N.push F (tupObj [v])).push (F.push _) (excObj none hh.objs.size)
  rw [Heap.size_push] at N'
  have hq := h _ hh.objs.size _ ((F.push _).push _) N' (fun p hp => Heap.lt_size (N p hp).1) (Nat.lt_succ_self _)
  refine codeAny_of_tree ?_
  show wpAny _ _ (callAny (.ref 79) _) _ _ _
  refine nd_load hC ?_
  show wpAny _ _ (callAny.viaDunder (.ref 79) _) _ _ _
  unfold callAny.viaDunder
  refine wpAny_bind (hcall'.at ?_)
  dsimp only
  rw [tc_bind]
  refine wpAny_bind (wpAny_pure (wpAny_bind (wpAny_pure ?_)))
  refine wpAny_pure (a := Fin.again (.call (.builtin "type.__call__") ⟨[.ref 79, v], [(kn, kv)]⟩)) (And.intro rfl ?_)
  refine codeAny_call_builtin_at (Code.quiet_builtin _ (by decide +kernel)) entry_typeCall (check_slot tc_kind tc_split typ (tc_args _ _ _) ?_)
  unfold Builtin.«type.__call__»
  repeat (first | with_reducible refine wpAny_loadPart_at hC ?_ | with_reducible refine wpAny_madeBy_exc hC ?_ | wp_step)
  refine codeAny_call_builtin_code (Code.quiet_builtin _ PySem.F.excBase_Exception.quiet) (check_new79 hC hE ?_)
  refine new79 hC hE hA hNe ?_
  have k : ∀ b o, hh.get? b = some o → ((hh.push (tupObj [v])).push (excObj none hh.objs.size)).get? b = some o := fun b o e => Heap.get?_push_of_some _ (Heap.get?_push_of_some _ e)
  have hx : ((hh.push (tupObj [v])).push (excObj none hh.objs.size)).get? (hh.objs.size + 1) = some (excObj none hh.objs.size) := by heap_get
  have t1 : Looks (model prog w) ((hh.push (tupObj [v])).push (excObj none hh.objs.size)) (typeOf (.ref (hh.objs.size + 1))) (.ref 79) := (Looks.ld hx).andThen .now
  have s1 : Looks (model prog w) ((hh.push (tupObj [v])).push (excObj none hh.objs.size)) (isSubtype (.ref 79) (.ref 79)) true := fun A Q E s kk q => by
    obtain ⟨a1, a2, a3, a4, a5⟩ := s
    exact wpAny_isSubtype_exc (kk _ _ (k _ _ hC)) (by rw [hcC]; exact q)
  have i1 := hif.keeps k
  have b1 := (bind_fn (M := model prog w) X (.ref (hh.objs.size + 1)) hf).keeps k
  show wpAny _ _ _ _ _ _
  unfold isInstance callSpecial? specialOf
  repeat (first | with_reducible refine wpAny_call ?_ | lk)
  refine codeAny_mono hq fun r s' z => ?_
  rcases r with e | (v | _ | _ | _) <;> first | exact z | exact z.elim | skip
  obtain ⟨rfl, z⟩ := z
  exact wpAny_pure (wpAny_pure z)
end
set_option maxRecDepth 100000
noncomputable def Fresh (news : Led) (e : Addr) : Prop := ∀ p ∈ news, p.1 < e
theorem c_make79 (w : World) (news : Led) (msg : Str) (tm : Tok) (r : Int) (tr : Tok) :
    Spec w (.ref 79) [.str msg tm] [(Str.ofString "error_code", .int r tr)] 3 news (fun v n' => ∃ e n'', v = .ref e ∧ Made w e r [.str msg tm] n'' n' ∧ (∀ p ∈ news, p ∈ n'' ∧ p.1 < e)) := by
  intro dp un gd env outer A₀ base h₀ L m mg mb loose mean s Q E C hf hke hdp hun hret
  have X := C.X
  revert X; k_fill; intro X
  refine wpAny_call ?_
  k_dflt (refine' make79 C.F C.N (X.keeps C.F.keep) ?k1 ?k2 ?k3 ?k4 ?k5 ?_; (case k1 => exact mk79_ok _); (case k2 => k_is); (case k3 => k_is); (case k4 => k_is); (case k5 => k_is))
  intro e t h' F' N' l1 l2
  refine c_init76 w _ e t msg tm r tr (.head _) (A₀ := A₀) (base := base) (h₀ := h₀) (env := env) (outer := outer) (L := L) (m := m) ⟨C.B, F', N', C.X, C.T, C.D, C.XB, C.TB⟩ rfl hf hke ?_ ?_ rfl ?_
  · show dp + 1 + 1 < recursionLimit
    omega
  · show un + 1 + 8 < cLine
    omega
  · intro n' h'' tk' F'' N'' M
    refine ⟨rfl, ?_⟩
    refine hret _ _ h'' _ tk' h₀ KtsTurn.refl (GRel.refl _) ⟨C.B, F'', N'', C.X, C.T, C.D, C.XB, C.TB⟩ ⟨e, _, rfl, M, fun p hp => ⟨.tail _ (.tail _ hp), Nat.lt_trans (l1 p hp) l2⟩⟩
section
variable {prog : Program} {w : World} {A : Around} {E : Value → Shared → Prop} {s : Shared} {env : Env}
theorem raiseStmt79 {K : Frag} {x : Sem Value} {Q : Flow → Shared → Prop} (hm : Mk79 K) (hh : A.handled = none)
    (h : wpAny (model prog w) A x (fun v s₁ => ∃ e od t, v = .ref e ∧ K.In s₁.heap ∧ s₁.heap.get? e = some (excObj od t) ∧ E (.ref e) s₁) E s) :
    wpAny (model prog w) A (raiseStmt env (some x) none) Q E s := by
  unfold raiseStmt
  refine wpAny_bind (wpAny_mono h (fun v s₁ h₁ => ?_) fun _ _ x => x)
  (refine hide fun G__ k__ => ?_; obtain ⟨e, od, t, rfl, X, he, hE⟩ := h₁; refine k__ ?_; clear k__ G__)
  (refine hide fun G__ k__ => ?_; obtain ⟨nm, qn, Nn, bs, bm, hdct, sn, sub, ab, col, dd, k0, k1, k2, k3, k5, hC0, hB, hE', hA, hNe⟩ := hm; have hC := X _ _ hC0; refine k__ ?_; clear k__ G__)
  have hcB : (Value.ref 79 :: bm).contains (.type "BaseException") = true := by rw [List.contains_cons, hB, Bool.or_true]
  (refine hide fun G__ k__ => ?_; obtain ⟨hp, g, d, tk, os⟩ := s₁; refine k__ ?_; clear k__ G__)
  repeat (first | with_reducible refine wpAny_loadPart_at he ?_ | with_reducible refine wpAny_loadPart_at hC ?_ | (with_reducible refine wpAny_isSubtype_exc hC ?_; rw [hcB]) | wp_step)
  exact wpAny_raiseNew_none hh hE
theorem Raise79 {K : Frag} {h₀ : Heap} {x : Expr} {pos : Pos} {Q : Flow → Shared → Prop} (_X : K.In h₀) (hm : Mk79 K) (hh : A.handled = none)
    (h : wpAny (model prog w) A (eval x env) (fun v s₁ => ∃ e od t, v = .ref e ∧ K.In s₁.heap ∧ s₁.heap.get? e = some (excObj od t) ∧ E (.ref e) s₁) E s) :
    wpAny (model prog w) A (exec (.Raise (some x) none pos) env) Q E s := by
  rw [arm_exec_Raise]
  first
    | exact wpAny_bind (wpAny_standAt (raiseStmt79 hm hh (wpAny_bind (wpAny_mono h (fun v s₁ h₁ => wpAny_bind (wpAny_standAt (wpAny_pure h₁))) fun _ _ x => x))))
    | (simp only [evalOpt, Option.map]; exact wpAny_bind (wpAny_standAt (raiseStmt79 hm hh (wpAny_bind (wpAny_mono h (fun v s₁ h₁ => wpAny_bind (wpAny_standAt (wpAny_pure h₁))) fun _ _ x => x)))))
    | (show wpAny _ A (do standAt pos; raiseStmt env (some (do let v ← eval x env; standAt pos; pure v)) none) Q E s; exact wpAny_bind (wpAny_standAt (raiseStmt79 hm hh (wpAny_bind (wpAny_mono h (fun v s₁ h₁ => wpAny_bind (wpAny_standAt (wpAny_pure h₁))) fun _ _ x => x)))))
end
noncomputable def BackE (w : World) (A₀ : Around) (base : Heap) (env : Env) (outer : List Env) (h₀ : Heap) (L : Addr) (m : Str → Option Value) (Exc : Int → Led → Prop) (s : Shared) (E : Value → Shared → Prop) : Prop :=
  ∀ e r news' h' gn' tk' G h₀', KtsTurn (outer.filterMap (·.frame)) h₀ h₀' → Fr h₀' L G m → Below A₀ base outer h₀' → Err w base G (env :: outer) e r news' h' → GRel s.gens gn' → Exc r news' → E (.ref e) { s with heap := h', gens := gn', toks := tk' }
noncomputable def SpecX (w : World) (f : Value) (args : List Value) (kw : List (Str × Value)) (need : Nat) (news : Led) (Ret : Value → Led → Prop) (Exc : Int → Led → Prop) : Prop :=
  ∀ (dp un : Nat) (gd : Option (List Code)) (env : Env) (outer : List Env) (A₀ : Around) (base h₀ : Heap) (L : Addr) (m mg mb : Str → Option Value) (loose : List Str) (mean : ExcName → Option Value) (s : Shared) (Q E : Value → Shared → Prop),
    Cx w A₀ base outer loose mean mg mb h₀ L m news s.heap → env.frame = some L → env.scope.kind = .function → dp + need < recursionLimit → un + 8 * need < cLine →
    Back w A₀ base outer loose mean mg mb h₀ L m Ret s Q → BackE w A₀ base env outer h₀ L m Exc s E →
    wpAny (model Challenge.rw_ix0031_01.row.prog w) (kA dp un gd env outer) (call f args kw) Q E s
theorem SpecX.use {w : World} {A A₀ : Around} {base h₀ : Heap} {env : Env} {outer : List Env} {loose : List Str} {mean : ExcName → Option Value} {mg mb : Str → Option Value} {L : Addr} {m : Str → Option Value} {s : Shared} {Q E : Value → Shared → Prop} {f : Value} {args : List Value} {kw : List (Str × Value)} {need dp un : Nat} {gd : Option (List Code)} {news : Led} {Ret : Value → Led → Prop} {Exc : Int → Led → Prop}
    (S : SpecX w f args kw need news Ret Exc) (hA : A = kA dp un gd env outer) (B : Below A₀ base outer h₀) (F : Fr h₀ L s.heap m) (N : News h₀ L s.heap news) (X : (hd.heap_39 w.params).In h₀) (T : Top hd.view_39 loose mean mg mb h₀) (D : KtsDicts (outer.filterMap (·.frame)) h₀) (XB : (hd.heap_39 w.params).In base) (TB : Top hd.view_39 loose mean mg mb base)
    (hf : env.frame = some L) (hke : env.scope.kind = .function) (hdp : dp + need < recursionLimit) (hun : un + 8 * need < cLine)
    (h : ∀ v news' h' gn' tk' h₀', Ret v news' → KtsTurn (outer.filterMap (·.frame)) h₀ h₀' → Fr h₀' L h' m → News h₀' L h' news' → Below A₀ base outer h₀' → (hd.heap_39 w.params).In h₀' → Top hd.view_39 loose mean mg mb h₀' → KtsDicts (outer.filterMap (·.frame)) h₀' → (hd.heap_39 w.params).In h' → GRel s.gens gn' → Q v { s with heap := h', gens := gn', toks := tk' })
    (hE : ∀ e r news' h' gn' tk' G h₀', Exc r news' → KtsTurn (outer.filterMap (·.frame)) h₀ h₀' → Fr h₀' L G m → Below A₀ base outer h₀' → KtsDicts (outer.filterMap (·.frame)) h₀' → Err w base G (env :: outer) e r news' h' → GRel s.gens gn' → E (.ref e) { s with heap := h', gens := gn', toks := tk' }) :
    wpAny (model Challenge.rw_ix0031_01.row.prog w) A (call f args kw) Q E s := by
  subst hA
  exact S dp un gd env outer A₀ base h₀ L m mg mb loose mean s Q E ⟨B, F, N, X, T, D, XB, TB⟩ hf hke hdp hun (fun v n' h' g' t' h₀' hT hG C R => h v n' h' g' t' h₀' R hT C.F C.N C.B C.X C.T C.D (C.X.keeps C.F.keep) hG) fun e r n' h' g' t' G h₀' T FG B' R hG X => hE e r n' h' g' t' G h₀' X T FG B' (D.turn T) R hG
theorem turned_up {A₀ : Around} {base h₀ g₀ g : Heap} {env : Env} {outer : List Env} {L : Addr} {m : Str → Option Value} (FG : Fr h₀ L g₀ m) (T : KtsTurn ((env :: outer).filterMap (·.frame)) g₀ g) (hf : env.frame = some L) (B : Below A₀ base outer h₀) :
    ∃ h₀', KtsTurn (outer.filterMap (·.frame)) h₀ h₀' ∧ Fr h₀' L g m ∧ Below A₀ base outer h₀' := by
  have memf : ∀ b, b ∈ (env :: outer).filterMap (·.frame) → b = L ∨ b ∈ outer.filterMap (·.frame) := fun b hb => by
    rw [List.filterMap_cons, hf] at hb
    exact List.mem_cons.mp hb
  have nL : h₀.get? L = none := kts_self FG
  obtain ⟨T₁, S₁⟩ := kts_turn_at (h := g) (fs := outer.filterMap (·.frame)) (g := h₀)
    (fun b hb => by
      (refine hide fun G__ k__ => ?_; obtain ⟨_, o, ho', _⟩ := B.frames.mem hb; refine k__ ?_; clear k__ G__)
      exact ⟨o, ho'⟩)
    (fun b o e nm => T.other b o (FG.keep b o e) (fun q => by
      rcases memf b q with z | z
      · rw [z, nL] at e; cases e
      · exact nm z))
    (fun b o e _ => T.up (FG.keep b o e))
  (refine hide fun G__ k__ => ?_; obtain ⟨oL, es, ep, hL, hLd, hLk, hLf⟩ := FG.ns; refine k__ ?_; clear k__ G__)
  obtain ⟨sl, hs⟩ := T.up hL
  refine ⟨_, T₁, ⟨⟨_, es, ep, hs, hLd, hLk, hLf⟩, S₁, by rw [T₁.size]; exact FG.above⟩, ⟨B.stack, fun b o e => T₁.other b o (B.stays b o e) (fun hm => by
      rw [(B.frames.mem hm).1] at e; cases e), B.frames.of_keeps fun b o e _ => by
      obtain ⟨sl', hs'⟩ := T₁.up e
      exact ⟨_, hs', rfl⟩⟩⟩
theorem backE {w : World} {A₀ : Around} {base : Heap} {env : Env} {outer : List Env} {h₀ : Heap} {L : Addr} {m : Str → Option Value} {Exc : Int → Led → Prop} {s : Shared} {E : Value → Shared → Prop} {e : Addr} {r : Int} {news' : Led} {h' G g₀ : Heap} {gn' : Array GenState} {tk' : Nat}
    (H : BackE w A₀ base env outer h₀ L m Exc s E) (R : Err w base G (env :: outer) e r news' h') (T : KtsTurn ((env :: outer).filterMap (·.frame)) g₀ G) (F : Fr h₀ L g₀ m) (hf : env.frame = some L) (B : Below A₀ base outer h₀) (X : Exc r news') (GG : GRel s.gens gn') : E (.ref e) { s with heap := h', gens := gn', toks := tk' } := by
  (refine hide fun G__ k__ => ?_; obtain ⟨h₀', T', F', B'⟩ := turned_up F T hf B; refine k__ ?_; clear k__ G__)
  exact H e r news' h' gn' tk' G h₀' T' F' B' R GG X
theorem thrown {w : World} {e : Addr} {r : Int} {vs : List Value} {news n'' n' : Led} {g h : Heap} {L : Addr} (M : Made w e r vs n'' n') (hk : ∀ p ∈ news, p ∈ n'' ∧ p.1 < e) (N : News g L h n') : ∃ de t tk tr n news', h.get? e = some (excObj (some de) t) ∧ h.TupAt t vs ∧ g.get? e = none ∧ g.get? t = none ∧ News g L h news' ∧ (∀ p ∈ news', p.1 ≠ e ∧ p.1 ≠ t) ∧ (de, errDict w r tk tr n) ∈ news' ∧ ∀ p ∈ news, p ∈ news' := by
  (refine hide fun G__ k__ => ?_; obtain ⟨de, t, tk, tr, n, h1, h2, h3, h4⟩ := M; refine k__ ?_; clear k__ G__)
  refine ⟨de, t, tk, tr, n, n'.filter fun p => p.1 != e && p.1 != t, (N _ h1).1, ⟨_, _, (N _ h2).1, rfl, rfl⟩, (N _ h1).2.2, (N _ h2).2.2, fun p hp => N p (List.mem_filter.mp hp).1, fun p hp => ?_, ?_, fun p hp => ?_⟩
  · have := (List.mem_filter.mp hp).2
    simpa using this
  · refine List.mem_filter.mpr ⟨h3, ?_⟩
    have a := led_ne N h3 h1 (cls_ne (by intro q; cases q))
    have b : de ≠ t := led_ne N h3 h2 (cls_ne (by show Value.type "dict" ≠ Value.type "tuple"; decide))
    simp [a, b]
  · obtain ⟨q, q'⟩ := h4 p (hk p hp).1
    have z := Nat.ne_of_lt (hk p hp).2
    exact List.mem_filter.mpr ⟨q' z, by simp [z, q]⟩
noncomputable def SpecXC (w : World) (f : Value) (args : List Value) (kw : List (Str × Value)) (need : Nat) (news : Led) (Ret : Value → Led → Prop) (Exc : Int → Led → Prop) : Prop :=
  ∀ (dp un : Nat) (gd : Option (List Code)) (env : Env) (outer : List Env) (A₀ : Around) (base h₀ : Heap) (L : Addr) (m mg mb : Str → Option Value) (loose : List Str) (mean : ExcName → Option Value) (s : Shared) (R : Result → Shared → Prop),
    Cx w A₀ base outer loose mean mg mb h₀ L m news s.heap → env.frame = some L → env.scope.kind = .function → dp + need < recursionLimit → un + 8 * need < cLine →
    Back w A₀ base outer loose mean mg mb h₀ L m Ret s (fun v s' => R (.ok (.ret v)) s') → BackE w A₀ base env outer h₀ L m Exc s (fun e s' => R (.error e) s') →
    codeAny (model Challenge.rw_ix0031_01.row.prog w) (kA dp un gd env outer) (.call f ⟨args, kw⟩) R s
theorem backC {w : World} {A₀ : Around} {base : Heap} {outer : List Env} {loose : List Str} {mean : ExcName → Option Value} {mg mb : Str → Option Value} {h₀ h₀' h' : Heap} {L : Addr} {m : Str → Option Value} {Ret : Value → Led → Prop} {s : Shared} {R' : Result → Shared → Prop} {v : Value} {news' : Led} {tk' : Nat} {gn' : Array GenState}
    (H : Back w A₀ base outer loose mean mg mb h₀ L m Ret s (fun v s' => R' (.ok (.ret v)) s')) (F : Fr h₀' L h' m) (N : News h₀' L h' news') (R : Ret v news') (T : KtsTurn (outer.filterMap (·.frame)) h₀ h₀') (B : Below A₀ base outer h₀') (X : (hd.heap_39 w.params).In h₀') (P : Top hd.view_39 loose mean mg mb h₀') (D : KtsDicts (outer.filterMap (·.frame)) h₀')
    (XB : (hd.heap_39 w.params).In base) (TB : Top hd.view_39 loose mean mg mb base) (GG : GRel s.gens gn') : R' (.ok (.ret v)) { s with heap := h', gens := gn', toks := tk' } := H v news' h' gn' tk' h₀' T GG ⟨B, F, N, X, P, D, XB, TB⟩ R
theorem backEC {w : World} {A₀ : Around} {base : Heap} {env : Env} {outer : List Env} {h₀ : Heap} {L : Addr} {m : Str → Option Value} {Exc : Int → Led → Prop} {s : Shared} {R' : Result → Shared → Prop} {e : Addr} {r : Int} {news' : Led} {h' G g₀ : Heap} {gn' : Array GenState} {tk' : Nat}
    (H : BackE w A₀ base env outer h₀ L m Exc s (fun e s' => R' (.error e) s')) (R : Err w base G (env :: outer) e r news' h') (T : KtsTurn ((env :: outer).filterMap (·.frame)) g₀ G) (F : Fr h₀ L g₀ m) (hf : env.frame = some L) (B : Below A₀ base outer h₀) (X : Exc r news') (GG : GRel s.gens gn') : R' (.error (.ref e)) { s with heap := h', gens := gn', toks := tk' } := by
  obtain ⟨h₀', T', F', B'⟩ := turned_up F T hf B
  exact H e r news' h' gn' tk' G h₀' T' F' B' R GG X
theorem SpecXC.use {w : World} {A A₀ : Around} {base h₀ : Heap} {env : Env} {outer : List Env} {loose : List Str} {mean : ExcName → Option Value} {mg mb : Str → Option Value} {L : Addr} {m : Str → Option Value} {s : Shared} {R' : Result → Shared → Prop} {f : Value} {args : List Value} {kw : List (Str × Value)} {need dp un : Nat} {gd : Option (List Code)} {news : Led} {Ret : Value → Led → Prop} {Exc : Int → Led → Prop}
    (S : SpecXC w f args kw need news Ret Exc) (hA : A = kA dp un gd env outer) (B : Below A₀ base outer h₀) (F : Fr h₀ L s.heap m) (N : News h₀ L s.heap news) (X : (hd.heap_39 w.params).In h₀) (T : Top hd.view_39 loose mean mg mb h₀) (D : KtsDicts (outer.filterMap (·.frame)) h₀) (XB : (hd.heap_39 w.params).In base) (TB : Top hd.view_39 loose mean mg mb base)
    (hf : env.frame = some L) (hke : env.scope.kind = .function) (hdp : dp + need < recursionLimit) (hun : un + 8 * need < cLine)
    (h : ∀ v news' h' gn' tk' h₀', Ret v news' → KtsTurn (outer.filterMap (·.frame)) h₀ h₀' → Fr h₀' L h' m → News h₀' L h' news' → Below A₀ base outer h₀' → (hd.heap_39 w.params).In h₀' → Top hd.view_39 loose mean mg mb h₀' → KtsDicts (outer.filterMap (·.frame)) h₀' → (hd.heap_39 w.params).In h' → GRel s.gens gn' → R' (.ok (.ret v)) { s with heap := h', gens := gn', toks := tk' })
    (hE : ∀ e r news' h' gn' tk' G h₀', Exc r news' → KtsTurn (outer.filterMap (·.frame)) h₀ h₀' → Fr h₀' L G m → Below A₀ base outer h₀' → KtsDicts (outer.filterMap (·.frame)) h₀' → Err w base G (env :: outer) e r news' h' → GRel s.gens gn' → R' (.error (.ref e)) { s with heap := h', gens := gn', toks := tk' }) :
    codeAny (model Challenge.rw_ix0031_01.row.prog w) A (.call f ⟨args, kw⟩) R' s := by
  subst hA
  exact S dp un gd env outer A₀ base h₀ L m mg mb loose mean s R' ⟨B, F, N, X, T, D, XB, TB⟩ hf hke hdp hun (fun v n' h' g' t' h₀' hT hG C R => h v n' h' g' t' h₀' R hT C.F C.N C.B C.X C.T C.D (C.X.keeps C.F.keep) hG) fun e r n' h' g' t' G h₀' T FG B' R hG X => hE e r n' h' g' t' G h₀' X T FG B' (D.turn T) R hG
theorem SpecXC.useR {w : World} {A A₀ : Around} {base h₀ : Heap} {env : Env} {outer : List Env} {loose : List Str} {mean : ExcName → Option Value} {mg mb : Str → Option Value} {L : Addr} {m : Str → Option Value} {s : Shared} {R' : Result → Shared → Prop} {f : Value} {args : List Value} {kw : List (Str × Value)} {need dp un : Nat} {gd : Option (List Code)} {news : Led} {Ret : Value → Prop}
    (S : SpecXC w f args kw need news (fun v n' => n' = news ∧ Ret v) fun _ _ => False) (hA : A = kA dp un gd env outer) (B : Below A₀ base outer h₀) (F : Fr h₀ L s.heap m) (N : News h₀ L s.heap news) (X : (hd.heap_39 w.params).In h₀) (T : Top hd.view_39 loose mean mg mb h₀) (D : KtsDicts (outer.filterMap (·.frame)) h₀) (XB : (hd.heap_39 w.params).In base) (TB : Top hd.view_39 loose mean mg mb base)
    (hf : env.frame = some L) (hke : env.scope.kind = .function) (hdp : dp + need < recursionLimit) (hun : un + 8 * need < cLine)
    (h : ∀ v h' gn' tk' h₀', Ret v → KtsTurn (outer.filterMap (·.frame)) h₀ h₀' → Fr h₀' L h' m → News h₀' L h' news → Below A₀ base outer h₀' → (hd.heap_39 w.params).In h₀' → Top hd.view_39 loose mean mg mb h₀' → KtsDicts (outer.filterMap (·.frame)) h₀' → (hd.heap_39 w.params).In h' → GRel s.gens gn' → R' (.ok (.ret v)) { s with heap := h', gens := gn', toks := tk' }) :
    codeAny (model Challenge.rw_ix0031_01.row.prog w) A (.call f ⟨args, kw⟩) R' s := by
  refine SpecXC.use S hA B F N X T D XB TB hf hke hdp hun (fun v n' h' gn' tk' g' hR kT kF kN kB kX₀ kP kD kX kG => ?_) fun _ _ _ _ _ _ _ _ hR _ _ _ _ _ _ => hR.elim
  obtain ⟨e, hR⟩ := hR
  subst e
  exact h v h' gn' tk' g' hR kT kF kN kB kX₀ kP kD kX kG
noncomputable def plainO (o : Obj) : Bool := match o.cls with
  | .ref _ => true
  | .type n => n == "list" || n == "dict" || n == "tuple" || n == "cell"
  | _ => false
noncomputable def GMov (gi : Nat → Prop) (a b : Array GenState) : Prop := (∀ (i : Nat) x, ¬ gi i → a[i]? = some x → b[i]? = some x) ∧ (AllBare a → AllBare b)
@[reducible] noncomputable def noG : Nat → Prop := fun _ => False
theorem GRel.mov {gi : Nat → Prop} {a b : Array GenState} (h : GRel a b) : GMov gi a b := ⟨fun i x _ e => h.1 i x e, h.2⟩
theorem GMov.refl {gi : Nat → Prop} (a : Array GenState) : GMov gi a a := (GRel.refl a).mov
theorem GMov.trans {gi : Nat → Prop} {a b c : Array GenState} (h : GMov gi a b) (k : GMov gi b c) : GMov gi a c := ⟨fun i x n e => k.1 i x n (h.1 i x n e), fun e => k.2 (h.2 e)⟩
theorem GMov.rel {a b : Array GenState} (h : GMov noG a b) : GRel a b := ⟨fun i x e => h.1 i x id e, h.2⟩
@[reducible] noncomputable def Kept (lo : Nat) (p : Addr × Obj) : Prop := plainO p.2 = true ∨ (p.1 : Nat) < lo
noncomputable def isKI (o : Obj) : Bool := match o.cls with
  | .type n => n == "dict_keyiterator"
  | _ => false
theorem ki_of {o : Obj} {d : Addr} {i n ep : Nat} (h : KdkIter o d i n ep) : isKI o = true := by unfold isKI; rw [h.1]; rfl
@[reducible] noncomputable def Foot (hi : Nat) (p : Addr × Obj) : Prop := (p.1 : Nat) < hi ∨ isKI p.2 = true
structure It (w : World) (A : Around) (L I : Addr) (lo hi : Nat) (gi : Nat → Prop) (n : Nat) (P : Nat → Value → Prop) (St : Nat → Led → Array GenState → Prop) : Prop where
  keepS : ∀ {i news news' g g'}, St i news g → (∀ p ∈ news, Foot hi p → p ∈ news') → GRel g g' → St i news' g'
  item : ∀ {i : Nat} {h₀ : Heap} {m : Str → Option Value} {news : Led} {s : Shared} {Q : Option Value → Shared → Prop} {E : Value → Shared → Prop}, i < n → St i news s.gens → Fr h₀ L s.heap m → News h₀ L s.heap news → (hd.heap_39 w.params).In h₀ → h₀.NoLimit →
    (∀ v h' gn' tk' news', P i v → St (i + 1) news' gn' → Fr h₀ L h' m → News h₀ L h' news' → (∀ p ∈ news, Kept lo p → p ∈ news') → GMov gi s.gens gn' → Q (some v) { s with heap := h', gens := gn', toks := tk' }) →
    wpAny (model Challenge.rw_ix0031_01.row.prog w) A (pyNext (.ref I)) Q E s
  done : ∀ {h₀ : Heap} {m : Str → Option Value} {news : Led} {s : Shared} {Q : Option Value → Shared → Prop} {E : Value → Shared → Prop}, St n news s.gens → Fr h₀ L s.heap m → News h₀ L s.heap news → (hd.heap_39 w.params).In h₀ → h₀.NoLimit →
    (∀ h' gn' tk' news', Fr h₀ L h' m → News h₀ L h' news' → (∀ p ∈ news, Kept lo p → p ∈ news') → GMov gi s.gens gn' → Q none { s with heap := h', gens := gn', toks := tk' }) →
    wpAny (model Challenge.rw_ix0031_01.row.prog w) A (pyNext (.ref I)) Q E s
  self : ∀ {i : Nat} {h₀ : Heap} {news : Led} {s : Shared} {Q : Value → Shared → Prop} {E : Value → Shared → Prop}, St i news s.gens → News h₀ L s.heap news → Q (.ref I) s → wpAny (model Challenge.rw_ix0031_01.row.prog w) A (pyIter (.ref I)) Q E s
theorem plain_ne {h₀ h : Heap} {L I : Addr} {news : Led} {oI : Obj} {p : Addr × Obj} (N : News h₀ L h news) (hI : (I, oI) ∈ news) (ho : plainO oI = false) (hp : p ∈ news) (hq : plainO p.2 = true) : p.1 ≠ I := fun e => by
  have : (I, p.2) ∈ news := e ▸ hp
  rw [led_eq N this hI, ho] at hq; cases hq
theorem kept_ne {h₀ h : Heap} {L I : Addr} {lo : Nat} {news : Led} {oI : Obj} {p : Addr × Obj} (N : News h₀ L h news) (hI : (I, oI) ∈ news) (ho : plainO oI = false) (hlo : lo ≤ I) (hp : p ∈ news) (hq : Kept lo p) : p.1 ≠ I := by
  rcases hq with hq | hq
  · exact plain_ne N hI ho hp hq
  · exact fun e => Nat.lt_irrefl _ (Nat.lt_of_lt_of_le (e ▸ hq) hlo)
theorem ext_news {h₀ h h' : Heap} {L I : Addr} {m : Str → Option Value} {news : Led} {oI : Obj} (F : Fr h₀ L h m) (N : News h₀ L h news) (hI : (I, oI) ∈ news) (hs : Heap.ExtBut I h h') : Fr h₀ L h' m ∧ News h₀ L h' (news.filter fun p => p.1 != I) := by
  refine ⟨⟨F.ns.extBut hs (Ne.symm (N _ hI).2.1), fun b o e => hs b o (fun q => by rw [q, (N _ hI).2.2] at e; cases e) (F.keep b o e), F.above⟩, fun p hp => ?_⟩
  obtain ⟨h1, h2⟩ := List.mem_filter.mp hp
  exact ⟨hs _ _ (by simpa using h2) (N p h1).1, (N p h1).2⟩
inductive StL (I l : Addr) (vs : List Value) (nn : Nat) (i : Nat) (news : Led) (zz0 : Array GenState) : Prop
  | mk : ∀ oI : Obj, ((I, oI) ∈ news) → (oI.cls = .type "list_iterator") → (oI.data = .fields #[.ref l, .int i 0]) → ((l, W.listOf vs.toArray nn) ∈ news) → StL I l vs nn i news zz0
theorem It.list {w : World} {A : Around} (hh : A.handled = none) (L I l : Addr) (lo hi : Nat) (hlo : lo ≤ I) (h1 : I < hi) (h2 : l < hi) (vs : List Value) (nn : Nat) : It w A L I lo hi noG vs.length (fun i v => vs[i]? = some v) (StL I l vs nn) where
  keepS := fun ⟨oI, h1', h2', h3, h4⟩ hs _ => ⟨oI, hs _ h1' (.inl h1), h2', h3, hs _ h4 (.inl h2)⟩
  item := fun {i h₀ m news s Q E} hi ⟨oI, h1, h2, h3, h4⟩ F N _ _ hQ => by
    refine wpAny_pyNext_list_item (l := l) (i := i) (items := vs.toArray) (x := vs[i]) ⟨oI, (N _ h1).1, h2, h3⟩ ⟨_, (N _ h4).1, rfl, nn, rfl⟩ (by simp [hi]) fun h' hit hs => ?_
    obtain ⟨o', ho', hc', hd'⟩ := hit
    have hp : plainO oI = false := by unfold plainO; rw [h2]; decide
    refine hQ _ h' _ _ (wrL news I o') (by simp [hi]) ⟨o', .head _, hc', hd', wrL.keep h4 (plain_ne N h1 hp h4 rfl)⟩ (F.change hs (N _ h1).2.1 (N _ h1).2.2) (News.wr N h1 hs ho') (fun p hm hq => wrL.keep hm (kept_ne N h1 hp hlo hm hq)) (GMov.refl _)
  done := fun {h₀ m news s Q E} ⟨oI, h1, h2, h3, h4⟩ F N _ _ hQ => by
    refine wpAny_pyNext_list_end (l := l) (i := vs.length) (items := vs.toArray) hh ⟨oI, (N _ h1).1, h2, h3⟩ ⟨_, (N _ h4).1, rfl, nn, rfl⟩ (by simp) fun h' hs => ?_
    have hp : plainO oI = false := by unfold plainO; rw [h2]; decide
    obtain ⟨F', N'⟩ := ext_news F N h1 hs
    exact hQ h' _ _ _ F' N' (fun p hm hq => List.mem_filter.mpr ⟨hm, by simpa using kept_ne N h1 hp hlo hm hq⟩) (GMov.refl _)
  self := fun ⟨oI, h1, h2, h3, _⟩ N hQ => wpAny_pyIter_listiter ⟨oI, (N _ h1).1, h2, h3⟩ hQ
inductive StK (I d : Addr) (od : Obj) (n ep : Nat) (i : Nat) (news : Led) (zz0 : Array GenState) : Prop
  | mk : ∀ oI : Obj, ((I, oI) ∈ news) → (KdkIter oI d i n ep) → ((d, od) ∈ news) → StK I d od n ep i news zz0
theorem It.keys {w : World} {A : Around} (hh : A.handled = none) (L I d : Addr) (od : Obj) (kvs : List (Int × Value)) (ep : Nat) (ha : KdkAt (intKind Challenge.rw_ix0031_01.row.prog w) od kvs ep) (hdp : plainO od = true) (lo hi : Nat) (hlo : lo ≤ I) (hd : d < hi) :
    It w A L I lo hi noG kvs.length (fun i v => ∃ k x t, kvs[i]? = some (k, x) ∧ v = .int k t) (StK I d od kvs.length ep) where
  keepS := fun ⟨oI, h1, h2, h3⟩ hs _ => ⟨oI, hs _ h1 (.inr (ki_of h2)), h2, hs _ h3 (.inl hd)⟩
  item := fun {i h₀ m news s Q E} hi ⟨oI, h1, h2, h4⟩ F N _ _ hQ => by
    refine wpAny_pyNext_dict_item (knd := intKind Challenge.rw_ix0031_01.row.prog w) (k := kvs[i].1) (v := kvs[i].2) (h2.at (N _ h1).1) (ha.dictAt (N _ h4).1) (by simp [hi]) fun key h' hk hit hs => ?_
    obtain ⟨o', ho', hc', hd'⟩ := hit
    obtain ⟨t, rfl⟩ := Value.isInt_shape hk
    have hp : plainO oI = false := by unfold plainO; rw [h2.1]; decide
    exact hQ _ h' _ _ (wrL news I o') ⟨kvs[i].1, kvs[i].2, t, by simp [hi], rfl⟩ ⟨o', .head _, ⟨hc', hd'⟩, wrL.keep h4 (plain_ne N h1 hp h4 hdp)⟩ (F.change hs (N _ h1).2.1 (N _ h1).2.2) (News.wr N h1 hs ho') (fun p hm hq => wrL.keep hm (kept_ne N h1 hp hlo hm hq)) (GMov.refl _)
  done := fun {h₀ m news s Q E} ⟨oI, h1, h2, h4⟩ F N _ _ hQ => by
    refine wpAny_pyNext_dict_end (knd := intKind Challenge.rw_ix0031_01.row.prog w) hh (h2.at (N _ h1).1) (ha.dictAt (N _ h4).1) (by simp) fun h' hs => ?_
    have hp : plainO oI = false := by unfold plainO; rw [h2.1]; decide
    obtain ⟨F', N'⟩ := ext_news F N h1 hs
    exact hQ h' _ _ _ F' N' (fun p hm hq => List.mem_filter.mpr ⟨hm, by simpa using kept_ne N h1 hp hlo hm hq⟩) (GMov.refl _)
  self := fun ⟨oI, h1, h2, _⟩ N hQ => wpAny_pyIter_keyiter (h2.at (N _ h1).1) hQ
noncomputable def LoopAtC (w : World) (A : Around) (env : Env) (tgt : Expr) (body : List Stmt) (Q : Flow → Shared → Prop) (E : Value → Shared → Prop) (it : Value) (s₂ : Shared) : Prop :=
  ∃ (I : Addr) (n : Nat) (inv : Nat → Shared → Prop), it = .ref I ∧ inv 0 s₂ ∧
    (∀ i s, i < n → inv i s → wpAny (model Challenge.rw_ix0031_01.row.prog w) A (pyNext (.ref I)) (fun r s₁ => ∃ v, r = some v ∧ wpAny (model Challenge.rw_ix0031_01.row.prog w) A (letOwnedTupleGo tgt (.ref I) v) (fun _ s₁' => wpAny (model Challenge.rw_ix0031_01.row.prog w) A (assign tgt env v) (fun _ s₃ =>
      wpAny (model Challenge.rw_ix0031_01.row.prog w) A (execs body env) (fun f s₄ => match f with | .next => inv (i + 1) s₄ | .cont => inv (i + 1) s₄ | .brk => Q .next s₄ | .ret v => Q (.ret v) s₄) E s₃) E s₁') E s₁) E s) ∧
    ∀ s, inv n s → wpAny (model Challenge.rw_ix0031_01.row.prog w) A (pyNext (.ref I)) (fun r s₁ => r = none ∧ Q .next s₁) E s
theorem For_cx {w : World} {A : Around} {s : Shared} {env : Env} {tgt iter : Expr} {body : List Stmt} {pos : Pos} {Q : Flow → Shared → Prop} {E : Value → Shared → Prop}
    (h : wpAny (model Challenge.rw_ix0031_01.row.prog w) A (eval iter env) (fun xv s₁ => wpAny (model Challenge.rw_ix0031_01.row.prog w) A (pyIter xv) (fun it s₂ => LoopAtC w A env tgt body Q E it s₂) E s₁) E s)
    (hs : ∀ x, foldedSetIterable iter env x = pure x := by intro _; rfl)
    (hE : PassesOwn (model Challenge.rw_ix0031_01.row.prog w) A env E := by passes_own) :
    wpAny (model Challenge.rw_ix0031_01.row.prog w) A (exec (.For tgt iter body [] pos) env) Q E s := by
  refine wpAny_For (wpAny_mono h (fun xv s₁ h₁ => wpAny_mono h₁ (fun it s₂ h₂ => ?_) fun _ _ e => e) fun _ _ e => e) hs
  obtain ⟨I, n, inv, rfl, h0, turn, done⟩ := h₂
  refine codeAny_forLoop_any (R := fun r s' => match r with | .ok f => Q f s' | .error e => cameBackBy _ A env E e s') (fun k s => ∃ i, i ≤ n ∧ k = n + 1 - i ∧ inv i s) ?_ (n + 1) ⟨0, Nat.zero_le _, rfl, h0⟩
  rintro k s' ⟨i, hi, rfl, hJ⟩
  rcases Nat.lt_or_ge i n with hlt | hge
  · refine wpAny_passesOwn hE (wpAny_mono (turn i s' hlt hJ) (fun r s₁ h₁ => ?_) fun _ _ e => e)
    obtain ⟨v, rfl, h₁⟩ := h₁
    refine wpAny_passesOwn hE (wpAny_mono h₁ (fun _ s₁' h₁' => wpAny_passesOwn hE (wpAny_mono h₁' (fun _ s₃ h₃ => wpAny_passesOwn hE (wpAny_mono h₃ (fun f s₄ h₄ => ?_) fun _ _ e => e)) fun _ _ e => e)) fun _ _ e => e)
    cases f with
    | next => exact ⟨n + 1 - (i + 1), Nat.sub_lt_sub_left (Nat.lt_succ_of_lt hlt) (Nat.lt_succ_self i), i + 1, hlt, rfl, h₄⟩
    | cont => exact ⟨n + 1 - (i + 1), Nat.sub_lt_sub_left (Nat.lt_succ_of_lt hlt) (Nat.lt_succ_self i), i + 1, hlt, rfl, h₄⟩
    | brk => exact h₄
    | ret v => exact h₄
  · obtain rfl : i = n := Nat.le_antisymm hi hge
    refine wpAny_passesOwn hE (wpAny_mono (done s' hJ) (fun r s₁ h₁ => ?_) fun _ _ e => e)
    obtain ⟨rfl, h₁⟩ := h₁
    exact wpAny_execs_nil h₁
inductive EndC (w : World) (A₀ : Around) (base : Heap) (outer : List Env) (loose : List Str) (mean : ExcName → Option Value) (mg mb : Str → Option Value) (h₀ : Heap) (g₀ : Array GenState) (L : Addr) (s₁ : Shared) (J : (Str → Option Value) → Led → Array GenState → Prop) (s₄ : Shared) : Prop
  | mk : ∀ h' gn' tk' m' news' h₀', (s₄ = { s₁ with heap := h', gens := gn', toks := tk' }) → (KtsTurn (outer.filterMap (·.frame)) h₀ h₀') → (GRel g₀ gn') → (Cx w A₀ base outer loose mean mg mb h₀' L m' news' h') → (J m' news' gn') → EndC w A₀ base outer loose mean mg mb h₀ g₀ L s₁ J s₄
noncomputable def LoopEnd (w : World) (A₀ : Around) (base : Heap) (outer : List Env) (loose : List Str) (mean : ExcName → Option Value) (mg mb : Str → Option Value) (h₀ : Heap) (g₀ : Array GenState) (L : Addr) (s₁ : Shared) (J : (Str → Option Value) → Led → Array GenState → Prop) (Q : Flow → Shared → Prop) (f : Flow) (s₄ : Shared) : Prop :=
  match f with
  | .ret v => Q (.ret v) s₄
  | .brk => Q .next s₄
  | .next => EndC w A₀ base outer loose mean mg mb h₀ g₀ L s₁ J s₄
  | .cont => EndC w A₀ base outer loose mean mg mb h₀ g₀ L s₁ J s₄
section
variable {w : World} {A A₀ : Around} {base h₀ : Heap} {outer : List Env} {loose : List Str} {mean : ExcName → Option Value} {mg mb : Str → Option Value} {L : Addr} {m m' : Str → Option Value} {news : Led} {s s₁ : Shared} {Q : Flow → Shared → Prop} {E : Value → Shared → Prop} {env : Env} {tgt : Expr} {body : List Stmt}
theorem EndC.intro {J : (Str → Option Value) → Led → Array GenState → Prop} {g₀ : Array GenState} {h₀' h' : Heap} {news' : Led} {gn' : Array GenState} {tk' : Nat} (F : Fr h₀' L h' m') (N : News h₀' L h' news') (T : KtsTurn (outer.filterMap (·.frame)) h₀ h₀') (B : Below A₀ base outer h₀') (X : (hd.heap_39 w.params).In h₀') (TT : Top hd.view_39 loose mean mg mb h₀') (D : KtsDicts (outer.filterMap (·.frame)) h₀')
    (XB : (hd.heap_39 w.params).In base) (TB : Top hd.view_39 loose mean mg mb base) (GG : GRel g₀ gn') (hJ : J m' news' gn') : EndC w A₀ base outer loose mean mg mb h₀ g₀ L s₁ J { s₁ with heap := h', gens := gn', toks := tk' } := ⟨h', gn', tk', m', news', h₀', rfl, T, GG, ⟨B, F, N, X, TT, D, XB, TB⟩, hJ⟩
theorem iter_it {h00 : Heap} {g00 : Array GenState} (T00 : KtsTurn (outer.filterMap (·.frame)) h00 h₀) (G00 : GRel g00 s.gens) {I : Addr} {n lo hi : Nat} {P : Nat → Value → Prop} {St : Nat → Led → Array GenState → Prop} (W : It w A L I lo hi noG n P St) (C : Cx w A₀ base outer loose mean mg mb h₀ L m news s.heap) (hst : St 0 news s.gens)
    (J : Nat → (Str → Option Value) → Led → Prop) (h0 : J 0 m news) (Jm : ∀ i m news news', J i m news → (∀ p ∈ news, Kept lo p → p ∈ news') → J i m news') (htg : ∀ v, letOwnedTupleGo tgt (.ref I) v = pure ())
    (turn : ∀ i v m₁ news₁ h tk gn h₀', i < n → P i v → J i m₁ news₁ → St (i + 1) news₁ gn → KtsTurn (outer.filterMap (·.frame)) h00 h₀' → GRel g00 gn → Cx w A₀ base outer loose mean mg mb h₀' L m₁ news₁ h →
      wpAny (model Challenge.rw_ix0031_01.row.prog w) A (assign tgt env v) (fun _ s₃ => wpAny (model Challenge.rw_ix0031_01.row.prog w) A (execs body env) (LoopEnd w A₀ base outer loose mean mg mb h00 g00 L { s with heap := h, gens := gn, toks := tk } (fun m' n' g' => J (i + 1) m' n' ∧ St (i + 1) n' g') Q) E s₃) E { s with heap := h, gens := gn, toks := tk })
    (done : ∀ m₁ news₁ h tk gn h₀', J n m₁ news₁ → KtsTurn (outer.filterMap (·.frame)) h00 h₀' → GRel g00 gn → Cx w A₀ base outer loose mean mg mb h₀' L m₁ news₁ h → Q .next { s with heap := h, gens := gn, toks := tk }) :
    LoopAtC w A env tgt body Q E (.ref I) s := by
  refine ⟨I, n, fun i s' => EndC w A₀ base outer loose mean mg mb h00 g00 L s (fun m' n' g' => St i n' g' ∧ J i m' n') s', rfl,
    ⟨s.heap, s.gens, s.toks, m, news, h₀, rfl, T00, G00, C, hst, h0⟩, ?_, ?_⟩
  · rintro i s' hi ⟨h, gn, tk, m₁, news₁, h₀', rfl, T, G, C', hs, hJ⟩
    refine W.item hi hs C'.F C'.N C'.X C'.T.nolimit fun v h' gn' tk' news' hP hs' F' N' hk hG => ⟨v, rfl, wpAny_of_eq (htg v) ?_⟩
    have G' := G.trans hG.rel
    refine wpAny_mono (turn i v m₁ news' h' tk' gn' h₀' hi hP (Jm _ _ _ _ hJ hk) hs' T G' ⟨C'.B, F', N', C'.X, C'.T, C'.D, C'.XB, C'.TB⟩) (fun _ s₃ h₃ => wpAny_mono h₃ (fun f s₄ h₄ => ?_) fun _ _ e => e) fun _ _ e => e
    have fin : ∀ s₄, EndC w A₀ base outer loose mean mg mb h00 g00 L { s with heap := h', gens := gn', toks := tk' } (fun m' n' g' => J (i + 1) m' n' ∧ St (i + 1) n' g') s₄ → EndC w A₀ base outer loose mean mg mb h00 g00 L s (fun m' n' g' => St (i + 1) n' g' ∧ J (i + 1) m' n') s₄ := by
      rintro s₄ ⟨h2, gn2, tk2, m2, n2, h02, rfl, T2, G2, C2, hJ2, hs2⟩
      exact ⟨h2, gn2, tk2, m2, n2, h02, rfl, T2, G2, C2, hs2, hJ2⟩
    cases f with
    | next => exact fin _ h₄
    | cont => exact fin _ h₄
    | brk => exact h₄
    | ret v => exact h₄
  · rintro s' ⟨h, gn, tk, m₁, news₁, h₀', rfl, T, G, C', hs, hJ⟩
    refine W.done hs C'.F C'.N C'.X C'.T.nolimit fun h' gn' tk' news' F' N' hk hG => ⟨rfl, ?_⟩
    exact done m₁ news' h' tk' gn' h₀' (Jm _ _ _ _ hJ hk) T (G.trans hG.rel) ⟨C'.B, F', N', C'.X, C'.T, C'.D, C'.XB, C'.TB⟩
theorem iter_listC {h00 : Heap} {g00 : Array GenState} (T00 : KtsTurn (outer.filterMap (·.frame)) h00 h₀) (G00 : GRel g00 s.gens) {l : Addr} {vs : List Value} {nn : Nat} (C : Cx w A₀ base outer loose mean mg mb h₀ L m news s.heap) (hh : A.handled = none) (hm : (l, W.listOf vs.toArray nn) ∈ news)
    (J : Nat → (Str → Option Value) → Led → Prop) (h0 : J 0 m news) (Jm : ∀ lo, (∀ p ∈ news, (p.1 : Nat) < lo) → ∀ i m n n', J i m n → (∀ p ∈ n, Kept lo p → p ∈ n') → J i m n') (htg : ∀ I v, letOwnedTupleGo tgt (.ref I) v = pure ())
    (turn : ∀ I i v m₁ news₁ h tk gn h₀', vs[i]? = some v → J i m₁ news₁ → StL I l vs nn (i + 1) news₁ gn → KtsTurn (outer.filterMap (·.frame)) h00 h₀' → GRel g00 gn → Cx w A₀ base outer loose mean mg mb h₀' L m₁ news₁ h →
      wpAny (model Challenge.rw_ix0031_01.row.prog w) A (assign tgt env v) (fun _ s₃ => wpAny (model Challenge.rw_ix0031_01.row.prog w) A (execs body env) (LoopEnd w A₀ base outer loose mean mg mb h00 g00 L { s with heap := h, gens := gn, toks := tk } (fun m' n' g' => J (i + 1) m' n' ∧ StL I l vs nn (i + 1) n' g') Q) E s₃) E { s with heap := h, gens := gn, toks := tk })
    (done : ∀ m₁ news₁ h tk gn h₀', J vs.length m₁ news₁ → KtsTurn (outer.filterMap (·.frame)) h00 h₀' → GRel g00 gn → Cx w A₀ base outer loose mean mg mb h₀' L m₁ news₁ h → Q .next { s with heap := h, gens := gn, toks := tk }) :
    wpAny (model Challenge.rw_ix0031_01.row.prog w) A (pyIter (.ref l)) (fun it s₂ => LoopAtC w A env tgt body Q E it s₂) E s := by
  refine wpAny_pyIter_list (items := vs.toArray) ⟨_, (C.N _ hm).1, rfl, nn, rfl⟩ ?_
  have hlt : ∀ p ∈ news, (p.1 : Nat) < s.heap.objs.size := fun p hp => Heap.lt_size (C.N p hp).1
  refine iter_it (h₀ := h₀) T00 (by exact G00) (It.list hh L s.heap.objs.size l s.heap.objs.size (s.heap.objs.size + 1) (Nat.le_refl _) (Nat.lt_succ_self _) (Nat.lt_succ_of_lt (Heap.lt_size (C.N _ hm).1)) vs nn) (news := (s.heap.objs.size, { cls := .type "list_iterator", data := .fields #[.ref l, .int 0 0] }) :: news) ⟨C.B, C.F.push _, C.N.push C.F _, C.X, C.T, C.D, C.XB, C.TB⟩ ⟨_, .head _, rfl, rfl, .tail _ hm⟩ J (Jm _ hlt _ _ _ _ h0 fun p hp _ => .tail _ hp) (Jm _ hlt) (htg _)
    (fun i v m₁ news₁ h tk gn h₀' _ hP hJ hS T G C' => turn _ i v m₁ news₁ h tk gn h₀' hP hJ hS T G C') done
theorem iter_keysC {h00 : Heap} {g00 : Array GenState} (T00 : KtsTurn (outer.filterMap (·.frame)) h00 h₀) (G00 : GRel g00 s.gens) {d : Addr} {od : Obj} {kvs : List (Int × Value)} (C : Cx w A₀ base outer loose mean mg mb h₀ L m news s.heap) (hh : A.handled = none) (hm : (d, od) ∈ news) (hd : od.IsDictOf (intKind Challenge.rw_ix0031_01.row.prog w) kvs) (lo : (d == sysModules) = false)
    (J : Nat → (Str → Option Value) → Led → Prop) (h0 : J 0 m news) (Jm : ∀ lo, (∀ p ∈ news, (p.1 : Nat) < lo) → ∀ i m n n', J i m n → (∀ p ∈ n, Kept lo p → p ∈ n') → J i m n') (htg : ∀ I v, letOwnedTupleGo tgt (.ref I) v = pure ())
    (turn : ∀ I ep i k x t m₁ news₁ h tk gn h₀', kvs[i]? = some (k, x) → J i m₁ news₁ → StK I d od kvs.length ep (i + 1) news₁ gn → KtsTurn (outer.filterMap (·.frame)) h00 h₀' → GRel g00 gn → Cx w A₀ base outer loose mean mg mb h₀' L m₁ news₁ h →
      wpAny (model Challenge.rw_ix0031_01.row.prog w) A (assign tgt env (.int k t)) (fun _ s₃ => wpAny (model Challenge.rw_ix0031_01.row.prog w) A (execs body env) (LoopEnd w A₀ base outer loose mean mg mb h00 g00 L { s with heap := h, gens := gn, toks := tk } (fun m' n' g' => J (i + 1) m' n' ∧ StK I d od kvs.length ep (i + 1) n' g') Q) E s₃) E { s with heap := h, gens := gn, toks := tk })
    (done : ∀ m₁ news₁ h tk gn h₀', J kvs.length m₁ news₁ → KtsTurn (outer.filterMap (·.frame)) h00 h₀' → GRel g00 gn → Cx w A₀ base outer loose mean mg mb h₀' L m₁ news₁ h → Q .next { s with heap := h, gens := gn, toks := tk }) :
    wpAny (model Challenge.rw_ix0031_01.row.prog w) A (pyIter (.ref d)) (fun it s₂ => LoopAtC w A env tgt body Q E it s₂) E s := by
  obtain ⟨ep, ha⟩ := KdkAt.of hd
  have hpl : plainO od = true := by obtain ⟨es, hx, _⟩ := ha; unfold plainO; rw [hx.1]; decide
  refine wpAny_pyIter_dict lo (ha.dictAt (C.N _ hm).1) ?_
  have hlt : ∀ p ∈ news, (p.1 : Nat) < s.heap.objs.size := fun p hp => Heap.lt_size (C.N p hp).1
  refine iter_it (h₀ := h₀) T00 (by exact G00) (It.keys hh L s.heap.objs.size d od kvs ep ha hpl s.heap.objs.size (s.heap.objs.size + 1) (Nat.le_refl _) (Nat.lt_succ_of_lt (Heap.lt_size (C.N _ hm).1))) (news := (s.heap.objs.size, { cls := .type "dict_keyiterator", data := .fields #[.ref d, .int 0 0, .int kvs.length 0, .int ep 0] }) :: news) ⟨C.B, C.F.push _, C.N.push C.F _, C.X, C.T, C.D, C.XB, C.TB⟩ ⟨_, .head _, ⟨rfl, rfl⟩, .tail _ hm⟩ J (Jm _ hlt _ _ _ _ h0 fun p hp _ => .tail _ hp) (Jm _ hlt) (htg _)
    (fun i v m₁ news₁ h tk gn h₀' _ hP hJ hS T G C' => by obtain ⟨k, x, t, hk, rfl⟩ := hP; exact turn _ ep i k x t m₁ news₁ h tk gn h₀' hk hJ hS T G C') done
theorem assign_local {x : Str} {px : Pos} {v : Value} {Q : Unit → Shared → Prop} (C : Cx w A₀ base outer loose mean mg mb h₀ L m news s.heap) (hL : env.locals = L) (hx : env.kindOf x = some .local)
    (hp : (env.scope.kind == .class || (env.scope.kind == .module && env.locals != env.globals)) = false)
    (h : ∀ h', Cx w A₀ base outer loose mean mg mb h₀ L (fun y => if y = x then some v else m y) news h' → Q () { s with heap := h', toks := s.toks + 1 }) :
    wpAny (model Challenge.rw_ix0031_01.row.prog w) A (assign (.Name x px) env v) Q E s := by
  subst hL
  exact wpAny_assign_Name (wpAny_storeName_local hx C.F.ns (fun h' hn hs => h h' ⟨C.B, C.F.set hn hs, C.N.set hs, C.X, C.T, C.D, C.XB, C.TB⟩) hp)
end
section
variable {prog : Program} {w : World} {A : Around} {R : GenEnd} {Y : Protocol} {n : Nat} {s₀ : Shared} {c : Code} {fs : List Frame} {s : Shared} {env : Env}
noncomputable def forKeep (env : Env) (K : Flow → Sem Fin) (H : Value → Sem Fin) (gd : Bool → Bool) (lv : List Value → List Value) (r : Result) : Sem Fin :=
  ((match r with | .ok f => (.pure f : Sem Flow) | .error e => .raise e).onRaise fun (x : Value) => do
        if (← field x 1) == Value.none then unsupported "frame.own-activation:exception-without-traceback"
        setFlight x env.frame).wrap K H gd lv
theorem seg_For {tgt iter : Expr} {body : List Stmt} {pos : Pos} {K : Flow → Sem Fin} {H : Value → Sem Fin} {gd : Bool → Bool} {lv : List Value → List Value} (hs : ∀ x, foldedSetIterable iter env x = pure x)
    (h : wpAny (model prog w) (A.over c fs) (eval iter env) (fun xv s₁ => wpAny (model prog w) (A.over c fs) (pyIter xv) (fun it s₂ => ∀ p,
      Seg (model prog w) A R Y n s₀ (.forLoop tgt it body [] env) ((model prog w).den (.forLoop tgt it body [] env)) (.ret (forKeep env K H gd lv) none (gd false) (lv []) c p [] :: fs) s₂) (fun _ _ => False) s₁) (fun _ _ => False) s) :
    Seg (model prog w) A R Y n s₀ c ((exec (.For tgt iter body [] pos) env).wrap K H gd lv) fs s := by
  rw [exec_For]
  refine seg_at ?_
  show Seg _ A R Y n s₀ c ((eval iter env >>= fun v => foldedSetIterable iter env v >>= fun x => standAt iter.pos >>= fun _ => holding [x] (pyIter x) >>= fun it => runOwn (.forLoop tgt it body [] env) env).wrap K H gd lv) fs s
  rw [Sem.bind_eq_wrap', Sem.wrap_wrap]
  refine seg_wrap (wpAny_mono h (fun xv s₁ h₁ => ?_) fun _ _ x => x.elim)
  rw [hs xv, pure_bind]
  refine seg_at ?_
  show Seg _ A R Y n s₀ c ((holding [xv] (pyIter xv) >>= fun it => runOwn (.forLoop tgt it body [] env) env).wrap K H gd lv) fs s₁
  rw [Sem.bind_eq_wrap', Sem.wrap_wrap]
  refine seg_wrap (wpAny_holding (wpAny_mono h₁ (fun it s₂ h₂ => ?_) fun _ _ x => x.elim))
  exact seg_call h₂
theorem seg_forLoop {tgt : Expr} {it : Value} {body : List Stmt}
    (h : wpAny (model prog w) (A.over (.forLoop tgt it body [] env) fs) (pyNext it) (fun r s₁ => match r with
      | none => Seg (model prog w) A R Y n s₀ (.block [] env) ((model prog w).den (.block [] env)) fs s₁
      | some v => wpAny (model prog w) (A.over (.forLoop tgt it body [] env) fs) (letOwnedTupleGo tgt it v) (fun _ s₁' => wpAny (model prog w) (A.over (.forLoop tgt it body [] env) fs) (assign tgt env v) (fun _ s₂ =>
          ∀ H : Value → Sem Fin, Seg (model prog w) A R Y n s₀ (.forLoop tgt it body [] env) ((execs body env).wrap (fun f => match f with
            | .next | .cont => .pure (.again (.forLoop tgt it body [] env))
            | .brk => .pure (.done .next)
            | .ret v => .pure (.done (.ret v))) H id id) fs s₂) (fun _ _ => False) s₁') (fun _ _ => False) s₁) (fun _ _ => False) s) :
    Seg (model prog w) A R Y n s₀ (.forLoop tgt it body [] env) ((model prog w).den (.forLoop tgt it body [] env)) fs s := by
  show Seg _ A R Y n s₀ _ ((forTurn tgt it body [] env).onRaise (fun x => do noteFrame x env; theTreesLotGoes x)) fs s
  rw [Sem.onRaise_eq_wrap]
  unfold forTurn
  refine seg_at ?_
  show Seg _ A R Y n s₀ _ (((pyNext it).onRaise (fun _ => standAt { tgt.pos with line := 0 }) >>= _).wrap _ _ id id) fs s
  rw [Sem.bind_eq_wrap', Sem.wrap_wrap]
  refine seg_wrap (wpAny_onRaise (wpAny_mono h (fun r s₁ h₁ => ?_) fun _ _ x => x.elim))
  cases r with
  | none => exact seg_again rfl h₁
  | some v =>
    show Seg _ A R Y n s₀ _ ((letOwnedTupleGo tgt it v >>= fun _ => assign tgt env v >>= fun _ => execs body env >>= _).wrap _ _ id id) fs s₁
    rw [Sem.bind_eq_wrap', Sem.wrap_wrap]
    refine seg_wrap (wpAny_mono h₁ (fun _ s₁' h₁' => ?_) fun _ _ x => x.elim)
    rw [Sem.bind_eq_wrap', Sem.wrap_wrap]
    refine seg_wrap (wpAny_mono h₁' (fun _ s₂ h₂ => ?_) fun _ _ x => x.elim)
    rw [Sem.bind_eq_wrap', Sem.wrap_wrap]
    rw [Sem.wrap_congr (execs body env) _ _ (K' := fun f => match f with
            | .next | .cont => .pure (.again (.forLoop tgt it body [] env))
            | .brk => .pure (.done .next)
            | .ret v => .pure (.done (.ret v))) (H' := _) (fun f => by cases f <;> rfl) (fun e => rfl)]
    exact h₂ _
end
noncomputable def NsO (c : Value) (m : Str → Option Value) (o : Obj) : Prop := o.cls = c ∧ ∃ es ep, o.data = .dict es ep ∧ StrKeys es ∧ ∀ name, nsFind es name = m name
theorem NsO.ns {c : Value} {m : Str → Option Value} {o : Obj} {h : Heap} {a : Addr} (H : NsO c m o) (e : h.get? a = some o) : h.Ns a m :=
  let ⟨_, es, ep, r⟩ := H; ⟨o, es, ep, e, r⟩
theorem NsO.new (c : Value) : NsO c (fun _ => none) { cls := c, data := .dict #[] } := ⟨rfl, #[], 0, rfl, fun _ he => by simp at he, fun _ => rfl⟩
theorem wp_nsSetO {M : Model} {Γ : PySem.Ctx} {E : Value → Pos → Shared → Prop} {p : Pos} {s : Shared} {a : Addr} {o : Obj} {c : Value} {m : Str → Option Value} (name : Str) (v : Value) {Q : Unit → Pos → Shared → Prop} (ho : s.heap.get? a = some o) (hn : NsO c m o)
    (hQ : ∀ o' h', NsO c (fun x => if x = name then some v else m x) o' → h'.get? a = some o' → Heap.SameBut a s.heap h' → Q () p { s with heap := h', toks := s.toks + 1 }) : Sem.wp M Γ (nsSet a name v) Q E p s := by
  (refine hide fun G__ k__ => ?_; obtain ⟨hc, es, ep, hd, hk, hm⟩ := hn; refine k__ ?_; clear k__ G__)
  simp only [nsSet, strHash, Sem.wp_bind', Sem.wp_cmd_ask, Sem.wp_pure', Sem.wp_cmd_mkText]
  rw [Sem.wp_loadPart_of M Γ E p { s with toks := s.toks + 1 } (o := o) _ ho]
  have hany : es.any (·.refKey) = false := by
    rw [Array.any_eq_false']; intro e he; obtain ⟨n, t, h⟩ := hk e he; simp [DictEntry.refKey, h]
  simp only [hd, aRefKeyMayBeTheName_eq, aRefKeyMayBeTheNameByArray, hany, Bool.and_false, Bool.false_eq_true, if_false, Sem.wp_cmd_updatePart]
  obtain ⟨c', d, dt, sl⟩ := o
  subst hd
  cases hi : es.findIdx? (·.key.isStr name) with
  | some i =>
    refine ⟨by rw [ho]; rfl, hQ ⟨c', d, .dict (es.modify i fun e => { e with val := v }) ep, sl⟩ _ ⟨hc, _, _, rfl, hk.modify _ _, fun x => ?_⟩ (Heap.get?_update_self _ ho (by simp only [Obj.putName_eq, Obj.putNameByArray, hi]; rfl) |>.trans (by simp only [Obj.putName_eq, Obj.putNameByArray, hi])) (Heap.SameBut.update ..)⟩
    show _ = if x = name then some v else m x
    rw [← hm]; exact findBy_modify (fun n v => v.isStr n) Value.isStr_inj es name x v i hi
  | none =>
    refine ⟨by rw [ho]; rfl, hQ ⟨c', d, .dict (es.push ⟨_, .str name _, v⟩) (ep + 1), sl⟩ _ ⟨hc, _, _, rfl, hk.push _ _ _ _, fun x => ?_⟩ (Heap.get?_update_self _ ho (by simp only [Obj.putName_eq, Obj.putNameByArray, hi]; rfl) |>.trans (by simp only [Obj.putName_eq, Obj.putNameByArray, hi]; rfl)) (Heap.SameBut.update ..)⟩
    show _ = if x = name then some v else m x
    rw [← hm]
    exact findBy_push (fun n v => v.isStr n) es name x _ _ v (fun y => by
      show (name == y) = decide (y = name)
      by_cases h : y = name
      · subst h; simp
      · have : ¬ name = y := fun e => h e.symm
        simp [h, this]) hi
section
variable {M : Model} {A : Around} {E : Value → Shared → Prop} {s : Shared} {env : Env}
theorem storeO {name : Str} {o : Obj} {c : Value} {m : Str → Option Value} {v : Value} {Q : Unit → Shared → Prop} (hl : env.kindOf name = some .local) (hp : (env.scope.kind == .class || (env.scope.kind == .module && env.locals != env.globals)) = false)
    (ho : s.heap.get? env.locals = some o) (hn : NsO c m o)
    (h : ∀ o' h', NsO c (fun x => if x = name then some v else m x) o' → h'.get? env.locals = some o' → Heap.SameBut env.locals s.heap h' → Q () { s with heap := h', toks := s.toks + 1 }) : wpAny M A (storeName env name v) Q E s := by
  rw [storeName_local hl hp]; exact fun Γ p _ => wp_nsSetO name v ho hn h
theorem newEnv0 {scope : Scope} {globals : Addr} {closure : List (Str × Addr)} {qual : Str} {func : Option Addr} {code : Value} {outer : Env} {builtins : Addr} {Q : Env → Shared → Prop}
    (hc : ∀ x ∈ scope.names, x.2 ≠ .cell)
    (hQ : Q (newEnv scope s.heap.objs.size globals closure qual func code (some outer) builtins) { s with heap := s.heap.push { cls := .type "dict", data := .dict #[] } }) :
    wpAny M A (newFunctionEnv scope globals closure [] qual func code (some outer) builtins) Q E s := by
  simp only [newFunctionEnv, Option.isSome_some, if_true]
  simp only [newEnv] at hQ
  refine wpAny_bind (wpAny_alloc ?_)
  rw [forIn_yield_id closure (fun x hx c => by
    obtain ⟨name, kind⟩ := x
    have : (kind == NameKind.cell) = false := by simpa using hc _ hx
    simp only [this, Bool.false_eq_true, if_false])]
  exact wpAny_bind (wpAny_pure (wpAny_bind (wpAny_pure (wpAny_pure hQ))))
theorem newEnv1 {scope : Scope} {globals : Addr} {closure : List (Str × Addr)} {qual : Str} {func : Option Addr} {code : Value} {builtins : Addr} {name : Str} {v : Value} {Q : Env → Shared → Prop}
    (hc : ∀ x ∈ scope.names, x.2 ≠ .cell) (hl : scope.names.lookup name = some .local) (hk : scope.kind = .function)
    (hQ : ∀ o' h', NsO (.type "frame") (fun x => if x = name then some v else none) o' → h'.get? s.heap.objs.size = some o' → Heap.SameBut s.heap.objs.size (s.heap.push { cls := .type "frame", data := .dict #[] }) h' →
      Q (newEnv scope s.heap.objs.size globals closure qual func code none builtins) { s with heap := h', toks := s.toks + 1 }) :
    wpAny M A (newFunctionEnv scope globals closure [(name, v)] qual func code none builtins) Q E s := by
  simp only [newFunctionEnv, Option.isSome_none, Bool.false_eq_true, if_false]
  simp only [newEnv] at hQ
  refine wpAny_bind (wpAny_alloc ?_)
  rw [forIn_yield_id closure (fun x hx c => by
    obtain ⟨name, kind⟩ := x
    have : (kind == NameKind.cell) = false := by simpa using hc _ hx
    simp only [this, Bool.false_eq_true, if_false])]
  refine wpAny_bind (wpAny_pure (wpAny_bind ?_))
  refine wpAny_bind (wpAny_bind (storeO (c := .type "frame") (m := fun _ => none) hl ?_ (Heap.get?_push_size _ rfl) (NsO.new _) fun o' h' hn he hs => ?_))
  · show (scope.kind == .class || (scope.kind == .module && _)) = false
    rw [hk]; rfl
  · exact wpAny_pure (wpAny_pure (wpAny_pure (hQ o' h' hn he hs)))
end
theorem get_settings {w : World} {A : Around} {E : Value → Shared → Prop} {s : Shared} {x dx d : Addr} {t1 t2 : Tok} {n : Nat} {c : Bool} {Q : Value → Shared → Prop} {expr : Bool} (X : (hd.heap_39 w.params).In s.heap) (h1 : s.heap.get? x = some (instObj 338 dx))
    (h2 : s.heap.get? dx = some (dictOf [⟨PyData.keyHash w.params (Str.ofString "_client"), .str (Str.ofString "_client") t1, .bool c⟩, ⟨PyData.keyHash w.params (Str.ofString "_settings"), .str (Str.ofString "_settings") t2, .ref d⟩] n))
    (h : Q (.ref d) { s with toks := s.toks + 1 }) : wpAny (model Challenge.rw_ix0031_01.row.prog w) A (getAttr (.ref x) "_settings" expr) Q E s := by
  revert X
  k_fill
  intro X
  have I : InstAt s.heap x (instObj 338 dx) 338 (some (dictOf [⟨PyData.keyHash w.params (Str.ofString "_client"), .str (Str.ofString "_client") t1, .bool c⟩, ⟨PyData.keyHash w.params (Str.ofString "_settings"), .str (Str.ofString "_settings") t2, .ref d⟩] n)) := ⟨h1, rfl, rfl, h2⟩
  refine get_value X I (plainGet_of (name := "_settings") ?g).1 (findObj_own (attr := Option.none) ?hh ?ha ?hn ?hl) rfl h
  case g => k_is
  case hh => k_is
  case ha => k_is
  case hn => k_is
  case hl => rfl
noncomputable def Sv (lo : Nat) (Lg : Addr) (h h' : Heap) : Prop := ∀ (b : Addr) (o : Obj), h.get? b = some o → b ≠ Lg → ((b : Nat) < lo ∨ isKI o = false) → h'.get? b = some o
theorem Sv.refl {lo : Nat} {Lg : Addr} (h : Heap) : Sv lo Lg h h := fun _ _ e _ _ => e
theorem Sv.trans {lo : Nat} {Lg : Addr} {a b c : Heap} (x : Sv lo Lg a b) (y : Sv lo Lg b c) : Sv lo Lg a c := fun i o e n k => y i o (x i o e n k) n k
structure Wait (Lg d K : Addr) (od : Obj) (i n ep : Nat) (h : Heap) : Prop where
  body : h.get? d = some od
  key : ∃ o, h.get? K = some o ∧ KdkIter o d i n ep
  fr : ∃ m o, h.get? Lg = some o ∧ NsO (.type "frame") m o
noncomputable def GY (lo : Nat) (Lg d : Addr) (od : Obj) (kvs : List (Int × Value)) (ep : Nat) : Protocol := fun n' s₀ v s₁ kap =>
  ∃ i k x t, n' + i + 1 = kvs.length ∧ kvs[i]? = some (k, x) ∧ v = .int k t ∧ ∃ h' tk', s₁ = { s₀ with heap := h', toks := tk' } ∧ Sv lo Lg s₀.heap h' ∧
    ∃ K : Addr, lo ≤ K ∧ K ≠ Lg ∧ Wait Lg d K od (i + 1) kvs.length ep h' ∧ ∀ s'' : Shared, Wait Lg d K od (i + 1) kvs.length ep s''.heap → kap (.send .none) s''
noncomputable def GP (lo : Nat) (Lg : Addr) (n : Nat) (s₀ s₁ : Shared) : Prop := n = 0 ∧ ∃ h' tk', s₁ = { s₀ with heap := h', toks := tk' } ∧ Sv lo Lg s₀.heap h'
@[reducible] noncomputable def GR (lo : Nat) (Lg : Addr) : GenEnd := fun n s₀ r s₁ => r = .ok (.ret .none) ∧ GP lo Lg n s₀ s₁
section
variable {w : World} {A : Around}
theorem gen_loop {lo : Nat} {e : Env} {d K : Addr} {od : Obj} {kvs : List (Int × Value)} {ep : Nat} {p1 p4 p5 p6 p : Pos} {c : Code} {KK : Flow → Sem Fin} {HH : Value → Sem Fin} (hh : A.handled = none) (ha : KdkAt (intKind Challenge.rw_ix0031_01.row.prog w) od kvs ep)
    (hsc : e.scope.kind = .function) (hxk : e.kindOf "key" = some .local) (hco : e.scope.isCoroutine = false) (hin : interactive e = false) (hK : lo ≤ K) (hKL : K ≠ e.locals) (hKd : d ≠ K) (hdL : d ≠ e.locals) (hKK : KK .next = .pure (.done (.ret .none))) :
    ∀ r i, i + r = kvs.length → ∀ (s₀ s : Shared) (h' : Heap) (tk' : Nat), s = { s₀ with heap := h', toks := tk' } → Sv lo e.locals s₀.heap s.heap → Wait e.locals d K od i kvs.length ep s.heap →
      Seg (model Challenge.rw_ix0031_01.row.prog w) A (GR lo e.locals) (GY lo e.locals d od kvs ep) r s₀ (.forLoop (.Name "key" p1) (.ref K) [.Expr (.Yield (some (.Name "key" p4)) p5) p6] [] e)
        ((model Challenge.rw_ix0031_01.row.prog w).den (.forLoop (.Name "key" p1) (.ref K) [.Expr (.Yield (some (.Name "key" p4)) p5) p6] [] e)) [.ret (forKeep e KK HH id id) none false [] c p []] s := by
  intro r
  induction r with
  | zero =>
    intro i hi s₀ s h' tk' hs hv W
    (refine hide fun G__ k__ => ?_; obtain ⟨oK, hK1, hK2⟩ := W.key; refine k__ ?_; clear k__ G__)
    have hle : i = kvs.length := by omega
    refine seg_forLoop (wpAny_pyNext_dict_end (knd := intKind Challenge.rw_ix0031_01.row.prog w) hh (hK2.at hK1) (ha.dictAt W.body) (by simp [hle]) fun h₁ hs₁ => ?_)
    show Seg _ A _ _ 0 s₀ (.block [] e) (leafOf (.ok .next)) _ _
    refine seg_leaf (.ok .next) ?_
    show Seg _ A _ _ 0 s₀ c (KK .next) [] _
    rw [hKK]
    refine seg_end (.ok (.ret .none)) ⟨rfl, rfl, h₁, s.toks, ?_, ?_⟩
    · rw [hs]
    · subst hs
      refine Sv.trans hv fun b o e1 _ e3 => hs₁ b o ?_ e1
      rintro rfl
      rcases e3 with e3 | e3
      · exact absurd hK (Nat.not_le.mpr e3)
      · rw [hK1] at e1; cases e1; rw [ki_of hK2] at e3; cases e3
  | succ r ih =>
    intro i hi s₀ s h' tk' hs hv W
    (refine hide fun G__ k__ => ?_; obtain ⟨oK, hK1, hK2⟩ := W.key; refine k__ ?_; clear k__ G__)
    (refine hide fun G__ k__ => ?_; obtain ⟨mF, oF, hF1, hF2⟩ := W.fr; refine k__ ?_; clear k__ G__)
    have hlt : i < kvs.length := by omega
    refine seg_forLoop (wpAny_pyNext_dict_item (knd := intKind Challenge.rw_ix0031_01.row.prog w) (k := kvs[i].1) (v := kvs[i].2) (hK2.at hK1) (ha.dictAt W.body) (by simp [hlt]) fun key h₁ hk hit hs₁ => ?_)
    obtain ⟨oK', hK1', hK2'⟩ := hit
    obtain ⟨t, rfl⟩ := Value.isInt_shape hk
    refine wpAny_of_eq (a := ()) rfl (wpAny_assign_Name (storeO hxk (by rw [hsc]; rfl) (hs₁.2 _ (Ne.symm hKL) |>.trans hF1) hF2 fun o' h₂ hn₂ he₂ hs₂ HX => ?_))
    refine seg_execs_cons (seg_Expr_Yield rfl rfl rfl (wpAny_Name (wpAny_loadName_local hsc hxk (hn₂.ns he₂) (if_pos rfl) fun kap hkap => ?_)) hco hin)
    have W' : Wait e.locals d K od (i + 1) kvs.length ep h₂ := ⟨(hs₂.2 _ hdL).trans ((hs₁.2 _ hKd).trans W.body), ⟨oK', (hs₂.2 _ hKL).trans hK1', hK2'⟩, ⟨_, o', he₂, hn₂⟩⟩
    refine ⟨i, kvs[i].1, kvs[i].2, t, by omega, by simp [hlt], rfl, h₂, s.toks + 1, ?_, ?_, K, hK, hKL, W', fun s'' W'' => ?_⟩
    · rw [hs]
    · subst hs
      refine Sv.trans hv fun b o e1 e2 e3 => (hs₂.2 b e2).trans ((hs₁.2 b ?_).trans e1)
      rintro rfl
      rcases e3 with e3 | e3
      · exact absurd hK (Nat.not_le.mpr e3)
      · rw [hK1] at e1; cases e1; rw [ki_of hK2] at e3; cases e3
    · refine hkap .none s'' ?_
      refine seg_execs_nil (seg_again rfl ?_)
      exact ih (i + 1) (by omega) s'' s'' s''.heap s''.toks rfl (Sv.refl _) W''
theorem gen_start {lo : Nat} {e : Env} {x dx d : Addr} {t1 t2 : Tok} {nn : Nat} {cl : Bool} {od : Obj} {kvs : List (Int × Value)} {ep : Nat} {p1 p2 p3 p4 p5 p6 p7 : Pos} (hh : A.handled = none) (ha : KdkAt (intKind Challenge.rw_ix0031_01.row.prog w) od kvs ep) (hsys : (d == sysModules) = false)
    (hsc : e.scope.kind = .function) (hxk : e.kindOf "key" = some .local) (hxs : e.kindOf "self" = some .local) (hco : e.scope.isCoroutine = false) (hin : interactive e = false) (hL : lo ≤ e.locals) {s : Shared} (hlo : lo ≤ s.heap.objs.size)
    (X : (hd.heap_39 w.params).In s.heap) (h1 : s.heap.get? x = some (instObj 338 dx))
    (h2 : s.heap.get? dx = some (dictOf [⟨PyData.keyHash w.params (Str.ofString "_client"), .str (Str.ofString "_client") t1, .bool cl⟩, ⟨PyData.keyHash w.params (Str.ofString "_settings"), .str (Str.ofString "_settings") t2, .ref d⟩] nn))
    (h3 : s.heap.get? d = some od) {m : Str → Option Value} {oF : Obj} (h4 : s.heap.get? e.locals = some oF) (h5 : NsO (.type "frame") m oF) (h6 : m "self" = some (.ref x)) :
    GenState.Goes (model Challenge.rw_ix0031_01.row.prog w) A (GR lo e.locals) (GY lo e.locals d od kvs ep) kvs.length (.fresh (.func [.For (.Name "key" p1) (.Attribute (.Name "self" p2) "_settings" p3) [.Expr (.Yield (some (.Name "key" p4)) p5) p6] [] p7] e)) (.send .none) s := by
  refine ⟨rfl, seg_func (seg_execs_cons (seg_For (fun _ => rfl) ?_))⟩
  refine Attribute_name (wpAny_Name (wpAny_loadName_local hsc hxs (h5.ns h4) h6 (get_settings X h1 h2 ?_)))
  refine wpAny_pyIter_dict hsys (ha.dictAt h3) fun p => ?_
  have lt : ∀ {b : Addr} {o : Obj}, s.heap.get? b = some o → b ≠ s.heap.objs.size := fun e => Nat.ne_of_lt (Heap.lt_size e)
  have hdL : d ≠ e.locals := by
    rintro rfl
    rw [h3] at h4; cases h4
    obtain ⟨es, hx, _⟩ := ha
    have := h5.1
    rw [hx.1] at this
    injection this with q
    exact absurd q (by decide)
  exact gen_loop hh ha hsc hxk hco hin hlo (Ne.symm (lt h4)) (lt h3) hdL rfl kvs.length 0 (Nat.zero_add _) s _ _ _ rfl (fun b o e1 _ _ => Heap.get?_push_of_some _ e1)
    ⟨Heap.get?_push_of_some _ h3, ⟨_, Heap.get?_push_size _ rfl, rfl, rfl⟩, ⟨m, oF, Heap.get?_push_of_some _ h4, h5⟩⟩
end
theorem pyNext_genQ {prog : Program} {w : World} {A : Around} {E : Value → Shared → Prop} {s : Shared} {a : Addr} {g n : Nat} {gs : GenState} {P : Nat → Shared → Shared → Prop} {Y : Protocol} {Q : Option Value → Shared → Prop} (hh : A.handled = none) (hl : s.heap.NoLimit) (hroom : A.depth < recursionLimit)
    (hg : s.heap.IsGen a g) (hgs : s.gens[g]? = some gs)
    (hgo : gs.Goes (model prog w) A.in1 (fun n s₀ r s₁ => r = .ok (.ret .none) ∧ P n s₀ s₁) Y n (.send .none) (s.setGen g .running))
    (hY : ∀ v s₁ gs', gs'.bare = true → Y (n - 1) (s.setGen g .running) v s₁ (fun r' s'' => match n with
        | 0 => False
        | m + 1 => gs'.Goes (model prog w) A.in1 (fun n s₀ r s₁ => r = .ok (.ret .none) ∧ P n s₀ s₁) Y m r' s'') → Q (some v) (s₁.setGen g gs'))
    (hP : ∀ s₁, P n (s.setGen g .running) s₁ → ∀ h', (∀ b o, s₁.heap.get? b = some o → h'.get? b = some o) → Q none { s₁.setGen g .finished with heap := h' }) :
    wpAny (model prog w) A (pyNext (.ref a)) Q E s := by
  unfold pyNext
  refine wpAny_bind (wpAny_attempt (wpAny_callSpecial?_slot (name := Str.ofString "__next__") hg.typeIs slot_gen_next (wpAny_call_entry slot_gen_next hg.typeIs entry_gen_next ?_ (args_gen_next _))))
  show wpAny _ A.in1 (Builtin.Generator.genWake (.ref a) (.send .none)) _ _ s
  unfold Builtin.Generator.genWake
  refine wpAny_bind (wpAny_holding (wpAny_genNumber hg (wpAny_bind (wpAny_genState hgs ?_))))
  cases gs with
  | running => exact hgo.elim
  | finished => exact hgo.elim
  | _ =>
    refine wpAny_bind (wpAny_roomToWake hl hroom ?_)
    show wpAny _ A.in1 (.resume g (.send .none) [] _) _ _ s
    refine wpAny_resumeQ hgs hgo (fun x s₁ hx => ?_) (fun v s₁ gs' hb hv => wpAny_pure ⟨v, rfl, wpAny_pure (hY v s₁ gs' hb hv)⟩)
    obtain ⟨rfl, hp⟩ := hx
    show wpAny _ A.in1 (newExc (.type "StopIteration") [] >>= _) _ _ _
    refine wpAny_bind ?_
    simp only [newExc, newTuple]
    refine wpAny_bind (wpAny_newObj_type (wpAny_bind (m := firstArgMember _ _) (wpAny_of_eq (a := Value.none) (by first | rfl | (simp only [firstArgMember]; rfl)) (wpAny_newObj_type ?_ (by size_fits)))) (by size_fits))
    simp only [raiseNew]
    refine wpAny_bind (wpAny_bind (wpAny_handled ?_))
    first | rw [show A.in1.handled = none from hh] | rw [hh]
    refine wpAny_throw (wpAny_bind (wpAny_isInstance (T := "StopIteration") (b := true) ⟨_, Heap.get?_push_size _ rfl, rfl⟩ isSubtype_stop ?_))
    exact wpAny_pure (hP s₁ hp _ fun b o hb => Heap.get?_push_of_some _ (Heap.get?_push_of_some _ hb))
noncomputable def GenO (g : Nat) (o : Obj) : Prop := ∃ nm qn, o.cls = .type "generator" ∧ o.data = .fields #[.int g 0, nm, qn] ∧ o.slots = #[]
inductive StG (w : World) (A : Around) (e : Env) (lo : Nat) (a : Addr) (g : Nat) (x dx d : Addr) (t1 t2 : Tok) (nn : Nat) (cl : Bool) (od : Obj) (kvs : List (Int × Value)) (ep : Nat) (p1 p2 p3 p4 p5 p6 p7 : Pos) (i : Nat) (news : Led) (gens : Array GenState) : Prop
  | mk : ∀ gs oG oF mF, (gens[g]? = some gs) → ((a, oG) ∈ news) → (GenO g oG) → ((e.locals, oF) ∈ news) → (NsO (.type "frame") mF oF) → ((x, instObj 338 dx) ∈ news) → ((dx, dictOf [⟨PyData.keyHash w.params (Str.ofString "_client"), .str (Str.ofString "_client") t1, .bool cl⟩, ⟨PyData.keyHash w.params (Str.ofString "_settings"), .str (Str.ofString "_settings") t2, .ref d⟩] nn) ∈ news) → ((d, od) ∈ news) → (((i = 0 ∧ mF "self" = some (.ref x) ∧ gs = .fresh (.func [.For (.Name "key" p1) (.Attribute (.Name "self" p2) "_settings" p3) [.Expr (.Yield (some (.Name "key" p4)) p5) p6] [] p7] e)) ∨ ∃ (K : Addr) (oK : Obj), (K, oK) ∈ news ∧ KdkIter oK d i kvs.length ep ∧ lo ≤ K ∧ K ≠ e.locals ∧ ∀ s'' : Shared, Wait e.locals d K od i kvs.length ep s''.heap → gs.Goes (model Challenge.rw_ix0031_01.row.prog w) A.in1 (GR lo e.locals) (GY lo e.locals d od kvs ep) (kvs.length - i) (.send .none) s'')) → StG w A e lo a g x dx d t1 t2 nn cl od kvs ep p1 p2 p3 p4 p5 p6 p7 i news gens
noncomputable def svB (lo : Nat) (Lg : Addr) (p : Addr × Obj) : Bool := p.1 != Lg && (decide ((p.1 : Nat) < lo) || !isKI p.2)
theorem svB_of {lo : Nat} {Lg : Addr} {p : Addr × Obj} (h : svB lo Lg p = true) : p.1 ≠ Lg ∧ ((p.1 : Nat) < lo ∨ isKI p.2 = false) := by
  unfold svB at h
  simp only [Bool.and_eq_true, bne_iff_ne, ne_eq, Bool.or_eq_true, decide_eq_true_eq, Bool.not_eq_true'] at h
  exact h
theorem svB_mk {lo : Nat} {Lg : Addr} {p : Addr × Obj} (h1 : p.1 ≠ Lg) (h2 : (p.1 : Nat) < lo ∨ isKI p.2 = false) : svB lo Lg p = true := by
  unfold svB
  simp only [Bool.and_eq_true, bne_iff_ne, ne_eq, Bool.or_eq_true, decide_eq_true_eq, Bool.not_eq_true']
  exact ⟨h1, h2⟩
theorem plain_noki {o : Obj} (h : plainO o = true) : isKI o = false := by
  unfold isKI
  unfold plainO at h
  split
  · rename_i n hc
    rw [hc] at h
    cases q : n == "dict_keyiterator" with
    | false => rfl
    | true => rw [beq_iff_eq.mp q] at h; revert h; decide
  · rfl
theorem frame_plain {m : Str → Option Value} {o : Obj} (h : NsO (.type "frame") m o) : plainO o = false := by unfold plainO; rw [h.1]; decide
theorem gen_noki {g : Nat} {o : Obj} (h : GenO g o) : isKI o = false := by obtain ⟨_, _, h, _⟩ := h; unfold isKI; rw [h]; decide
section
variable {w : World} {A : Around} {e : Env} {L : Addr} {lo hi : Nat} {a : Addr} {g : Nat} {x dx d : Addr} {t1 t2 : Tok} {nn : Nat} {cl : Bool} {od : Obj} {kvs : List (Int × Value)} {ep : Nat} {p1 p2 p3 p4 p5 p6 p7 : Pos}
theorem sv_news {h₀ h h' : Heap} {m : Str → Option Value} {news : Led} (F : Fr h₀ L h m) (N : News h₀ L h news) (hv : Sv lo e.locals h h') (hL : L < lo) (hg : lo ≤ e.locals) : Fr h₀ L h' m ∧ News h₀ L h' (news.filter (svB lo e.locals)) := by
  have lt : ∀ {b : Nat}, b < lo → b ≠ e.locals := fun hb => Nat.ne_of_lt (Nat.lt_of_lt_of_le hb hg)
  refine ⟨⟨?_, fun b o q => ?_, F.above⟩, fun p hp => ?_⟩
  · (refine hide fun G__ k__ => ?_; obtain ⟨o, es, n, h1, h2⟩ := F.ns; refine k__ ?_; clear k__ G__)
    exact ⟨o, es, n, hv L o h1 (lt hL) (.inl hL), h2⟩
  · have hb : b < lo := Nat.lt_trans (Nat.lt_of_lt_of_le (Heap.lt_size q) F.above) hL
    exact hv b o (F.keep b o q) (lt hb) (.inl hb)
  · obtain ⟨h1, h2⟩ := List.mem_filter.mp hp
    obtain ⟨q1, q2⟩ := svB_of h2
    exact ⟨hv _ _ (N p h1).1 q1 q2, (N p h1).2⟩
theorem It.gen (hh : A.handled = none) (hroom : A.depth < recursionLimit) (ha : KdkAt (intKind Challenge.rw_ix0031_01.row.prog w) od kvs ep) (hpl : plainO od = true) (hsys : (d == sysModules) = false) (hL : L < lo) (hlo : lo ≤ e.locals) (ha1 : a < hi) (he1 : e.locals < hi) (hx1 : x < hi) (hdx1 : dx < hi) (hd1 : d < hi)
    (hsc : e.scope.kind = .function) (hxk : e.kindOf "key" = some .local) (hxs : e.kindOf "self" = some .local) (hco : e.scope.isCoroutine = false) (hin : interactive e = false) :
    It w A L a lo hi (fun i => i = g) kvs.length (fun i v => ∃ k x t, kvs[i]? = some (k, x) ∧ v = .int k t) (StG w A e lo a g x dx d t1 t2 nn cl od kvs ep p1 p2 p3 p4 p5 p6 p7) := by
  have kl : ∀ {h₀ h : Heap} {news : Led} {oF : Obj} {mF : Str → Option Value}, News h₀ L h news → (e.locals, oF) ∈ news → NsO (.type "frame") mF oF → ∀ p ∈ news, Kept lo p → svB lo e.locals p = true := fun N h1 h2 p hp hk =>
    svB_mk (kept_ne N h1 (frame_plain h2) hlo hp hk) (hk.elim (fun q => .inr (plain_noki q)) .inl)
  have start : ∀ {i : Nat} {h₀ : Heap} {m : Str → Option Value} {news : Led} {s : Shared} {gs : GenState} {oF : Obj} {mF : Str → Option Value}, Fr h₀ L s.heap m → News h₀ L s.heap news → (hd.heap_39 w.params).In h₀ → (e.locals, oF) ∈ news → NsO (.type "frame") mF oF → (x, instObj 338 dx) ∈ news →
      (dx, dictOf [⟨PyData.keyHash w.params (Str.ofString "_client"), .str (Str.ofString "_client") t1, .bool cl⟩, ⟨PyData.keyHash w.params (Str.ofString "_settings"), .str (Str.ofString "_settings") t2, .ref d⟩] nn) ∈ news → (d, od) ∈ news →
      ((i = 0 ∧ mF "self" = some (.ref x) ∧ gs = .fresh (.func [.For (.Name "key" p1) (.Attribute (.Name "self" p2) "_settings" p3) [.Expr (.Yield (some (.Name "key" p4)) p5) p6] [] p7] e)) ∨
        ∃ (K : Addr) (oK : Obj), (K, oK) ∈ news ∧ KdkIter oK d i kvs.length ep ∧ lo ≤ K ∧ K ≠ e.locals ∧
          ∀ s'' : Shared, Wait e.locals d K od i kvs.length ep s''.heap → gs.Goes (model Challenge.rw_ix0031_01.row.prog w) A.in1 (GR lo e.locals) (GY lo e.locals d od kvs ep) (kvs.length - i) (.send .none) s'') →
      gs.Goes (model Challenge.rw_ix0031_01.row.prog w) A.in1 (GR lo e.locals) (GY lo e.locals d od kvs ep) (kvs.length - i) (.send .none) (s.setGen g .running) := by
    intro i h₀ m news s gs oF mF F N X hF hF2 hx hdx hd' hor
    rcases hor with ⟨rfl, hm, rfl⟩ | ⟨K, oK, hK, hK2, hK3, hK4, go⟩
    · rw [Nat.sub_zero]
      exact gen_start (A := A.in1) (s := s.setGen g .running) hh ha hsys hsc hxk hxs hco hin hlo (Nat.le_of_lt (Nat.lt_of_le_of_lt hlo (Heap.lt_size (N _ hF).1))) (X.keeps F.keep) (N _ hx).1 (N _ hdx).1 (N _ hd').1 (N _ hF).1 hF2 hm
    · exact go _ ⟨(N _ hd').1, ⟨oK, (N _ hK).1, hK2⟩, ⟨mF, oF, (N _ hF).1, hF2⟩⟩
  refine ⟨?_, ?_, ?_, ?_⟩
  · rintro i news news' g0 g' ⟨gs, oG, oF, mF, h1, h2, h3, h4, h5, h6, h7, h8, h9⟩ hs hG
    refine ⟨gs, oG, oF, mF, hG.1 _ _ h1, hs _ h2 (.inl ha1), h3, hs _ h4 (.inl he1), h5, hs _ h6 (.inl hx1), hs _ h7 (.inl hdx1), hs _ h8 (.inl hd1), h9.imp id ?_⟩
    rintro ⟨K, oK, q1, q2⟩
    exact ⟨K, oK, hs _ q1 (.inr (ki_of q2.1)), q2⟩
  · rintro i h₀ m news s Q E hi ⟨gs, oG, oF, mF, h1, h2, h3, h4, h5, h6, h7, h8, h9⟩ F N X hl hQ
    (refine hide fun G__ k__ => ?_; obtain ⟨nm, qn, g1, g2, g3⟩ := id h3; refine k__ ?_; clear k__ G__)
    have go := start F N X h4 h5 h6 h7 h8 h9
    refine pyNext_genQ (P := GP lo e.locals) hh (hl.keeps F.keep) hroom ⟨oG, nm, qn, (N _ h2).1, g1, g2, g3⟩ h1 go (fun v s₁ gs' hb hv => ?_) (fun s₁ hp h' _ => absurd hp.1 (by omega))
    obtain ⟨j, k, xv, t, hj, hk, rfl, h', tk', rfl, hSv, K, hK1, hK2, W, hkap⟩ := hv
    obtain rfl : j = i := by omega
    obtain ⟨F', N'⟩ := sv_news (e := e) F N hSv hL hlo
    (refine hide fun G__ k__ => ?_; obtain ⟨oK, hoK, hiK⟩ := W.key; refine k__ ?_; clear k__ G__)
    (refine hide fun G__ k__ => ?_; obtain ⟨mF', oF', hoF, hnF⟩ := W.fr; refine k__ ?_; clear k__ G__)
    have hLK : K ≠ L := Nat.ne_of_gt (Nat.lt_of_lt_of_le hL hK1)
    have hK0 : h₀.get? K = none := by
      cases q : h₀.get? K with
      | none => rfl
      | some o => exact absurd (Nat.lt_of_lt_of_le (Heap.lt_size q) F.above) (Nat.not_lt.mpr (Nat.le_of_lt (Nat.lt_of_lt_of_le hL hK1)))
    have up : ∀ p ∈ news, svB lo e.locals p = true → p ∈ (e.locals, oF') :: (K, oK) :: news.filter (svB lo e.locals) := fun p hp hq => .tail _ (.tail _ (List.mem_filter.mpr ⟨hp, hq⟩))
    refine hQ (.int k t) h' _ tk' ((e.locals, oF') :: (K, oK) :: news.filter (svB lo e.locals)) ⟨k, xv, t, hk, rfl⟩ ?_ F' ?_ (fun p hp hq => up p hp (kl N h4 h5 p hp hq)) ?_
    · refine ⟨gs', oG, oF', mF', setGen_self (gs := .running) (setGen_self h1), up _ h2 (svB_mk (fun q => ?_) (.inr (gen_noki h3))), h3, .head _, hnF, up _ h6 (kl N h4 h5 _ h6 (.inl rfl)), up _ h7 (kl N h4 h5 _ h7 (.inl rfl)), up _ h8 (kl N h4 h5 _ h8 (.inl hpl)), .inr ⟨K, oK, .tail _ (.head _), hiK, hK1, hK2, fun s'' W'' => ?_⟩⟩
      · have q1 : (e.locals, oG) ∈ news := q ▸ h2
        have := led_eq N q1 h4
        subst this
        have := h5.1
        rw [g1] at this
        injection this with z
        exact absurd z (by decide)
      · obtain ⟨r, hr⟩ : ∃ r, kvs.length - j = r + 1 := ⟨kvs.length - j - 1, by omega⟩
        have hkk := hkap s'' W''
        rw [show kvs.length - (j + 1) = r by omega]
        simp only [hr] at hkk
        exact hkk
    · intro p hp
      rcases List.mem_cons.mp hp with rfl | hp
      · exact ⟨hoF, (N _ h4).2⟩
      rcases List.mem_cons.mp hp with rfl | hp
      · exact ⟨hoK, hLK, hK0⟩
      · exact N' p hp
    · have G2 := GenOnlyQ.of ((GenOnly.setGen s g .running).trans (GenOnly.setGen _ g gs')) (setGen_self (gs := .running) (setGen_self h1)) hb
      refine ⟨fun i y hn e1 => ?_, fun b => G2.bare b⟩
      rcases G2 with q | q
      · show ((s.setGen g .running).setGen g gs').gens[i]? = some y
        rw [q]; exact e1
      · exact (q.1.2 i hn).trans e1
  · rintro h₀ m news s Q E ⟨gs, oG, oF, mF, h1, h2, h3, h4, h5, h6, h7, h8, h9⟩ F N X hl hQ
    (refine hide fun G__ k__ => ?_; obtain ⟨nm, qn, g1, g2, g3⟩ := id h3; refine k__ ?_; clear k__ G__)
    have go := start F N X h4 h5 h6 h7 h8 h9
    refine pyNext_genQ (P := GP lo e.locals) hh (hl.keeps F.keep) hroom ⟨oG, nm, qn, (N _ h2).1, g1, g2, g3⟩ h1 go (fun v s₁ gs' hb hv => ?_) (fun s₁ hp h' hk => ?_)
    · obtain ⟨j, k, xv, t, hj, hk, rfl, h', tk', rfl, hSv, K, hK1, hK2, W, hkap⟩ := hv
      have hkk := hkap { s with heap := h' } W
      simp only [Nat.sub_self] at hkk
    · obtain ⟨_, h₁, tk₁, rfl, hSv⟩ := hp
      obtain ⟨F', N'⟩ := sv_news (e := e) F N (fun b o q1 q2 q3 => hk b o (hSv b o q1 q2 q3)) hL hlo
      have G2 := GenOnlyQ.of ((GenOnly.setGen s g .running).trans (GenOnly.setGen _ g .finished)) (setGen_self (gs := .running) (setGen_self h1)) rfl
      refine hQ h' _ tk₁ (news.filter (svB lo e.locals)) F' N' (fun p hp hq => List.mem_filter.mpr ⟨hp, kl N h4 h5 p hp hq⟩) ⟨fun i y hn e1 => ?_, fun b => G2.bare b⟩
      rcases G2 with q | q
      · show ((s.setGen g .running).setGen g .finished).gens[i]? = some y
        rw [q]; exact e1
      · exact (q.1.2 i hn).trans e1
  · rintro i h₀ news s Q E ⟨gs, oG, oF, mF, h1, h2, ⟨nm, qn, g1, g2, g3⟩, _⟩ N hQ
    exact wpAny_pyIter_gen ⟨oG, nm, qn, (N _ h2).1, g1, g2, g3⟩ hQ
end
theorem call_gen {w : World} {A : Around} {s : Shared} {Q E : Value → Shared → Prop} {name qual : Str} {params : Arguments} {body : List Stmt} {scope : Scope} {dV kV doc pm cdv ct oc : Value} {an od : Option Addr} {osl : Array (Option Value)} {f x : Addr} {nm : Str}
    (X : (hd.heap_39 w.params).In s.heap) (ho : (hd.heap_39 w.params).lookup f = some ⟨oc, od, .func (fnOf name qual params body scope dV kV doc pm an cdv ct), osl⟩) (hcd : codeIn (hd.heap_39 w.params) cdv qual = true) (hroom : A.depth < recursionLimit) (hl : s.heap.NoLimit)
    (hbind : BindsTo s (fnOf name qual params body scope dV kV doc pm an cdv ct) ⟨[.ref x], []⟩ [(nm, .ref x)]) (hco : scope.isCoroutine = false) (hgen : scope.isGenerator = true) (hk : scope.kind = .function) (hcell : ∀ y ∈ scope.names, y.2 ≠ .cell) (hloc : scope.names.lookup nm = some .local)
    (h : ∀ o' h₁, NsO (.type "frame") (fun y => if y = nm then some (.ref x) else none) o' → h₁.get? s.heap.objs.size = some o' → Heap.SameBut s.heap.objs.size (s.heap.push { cls := .type "frame", data := .dict #[] }) h₁ →
      Q (.ref h₁.objs.size) { s with heap := h₁.push { cls := .type "generator", data := .fields #[.int s.gens.size 0, .str name (s.toks + 1), .str qual (s.toks + 1 + 1)] }, gens := s.gens.push (.fresh (.func body (newEnv scope s.heap.objs.size mainGlobals [] (qual ++ ".<locals>.") (some f) cdv none builtinsNs))), toks := s.toks + 1 + 1 + 1 }) :
    wpAny (model Challenge.rw_ix0031_01.row.prog w) A (call (.ref f) [.ref x]) Q E s := by
  refine wpAny_call (codeAny_call_generator (fd := fnOf name qual params body scope dV kV doc pm an cdv ct) (body := body) hroom (X _ _ ho) rfl hco hgen rfl (codeRec_of X hcd) (hbind _ _ _ _ (newEnv1 hcell hloc hk fun o' h₁ hn he hs => ⟨hl.fresh _ hs, ?_⟩)))
  exact h o' h₁ hn he hs
section
variable {w : World} {A : Around} {s : Shared} {Q E : Value → Shared → Prop} {h₀ : Heap} {L : Addr} {m : Str → Option Value} {news : Led} {x dx d : Addr} {c : Bool} {σ : Sgs} {t1 t2 : Tok} {n : Nat} {od : Obj} {kvs : List (Int × Value)} {ls : Led}
set_option maxRecDepth 100000 in
theorem iter_settings (X₀ : (hd.heap_39 w.params).In h₀) (F : Fr h₀ L s.heap m) (N : News h₀ L s.heap news) (hl : h₀.NoLimit) (S : SetL w x c σ news dx d t1 t2 n od kvs ls) (hh : A.handled = none) (hroom : A.depth < recursionLimit)
    (h : ∀ (a : Addr) (g lo : Nat) (St : Nat → Led → Array GenState → Prop) (h' : Heap) (gn' : Array GenState) (tk' : Nat) (news' : Led), (∀ p ∈ news, (p.1 : Nat) < lo) → lo ≤ h'.objs.size → s.gens.size ≤ g → GRel s.gens gn' → Fr h₀ L h' m → News h₀ L h' news' → (∀ p ∈ news, p ∈ news') →
      It w A L a lo h'.objs.size (fun i => i = g) kvs.length (fun i v => ∃ k x t, kvs[i]? = some (k, x) ∧ v = .int k t) St → St 0 news' gn' → Q (.ref a) { s with heap := h', gens := gn', toks := tk' }) :
    wpAny (model Challenge.rw_ix0031_01.row.prog w) A (pyIter (.ref x)) Q E s := by
  obtain ⟨ep, ha⟩ := KdkAt.of S.dic.isd
  have hpl : plainO od = true := by obtain ⟨es, hx, _⟩ := ha; unfold plainO; rw [hx.1]; decide
  have I : InstAt s.heap x (instObj 338 dx) 338 (some (dictOf [⟨PyData.keyHash w.params (Str.ofString "_client"), .str (Str.ofString "_client") t1, .bool c⟩, ⟨PyData.keyHash w.params (Str.ofString "_settings"), .str (Str.ofString "_settings") t2, .ref d⟩] n)) := ⟨(N _ S.inst).1, rfl, rfl, (N _ S.dict).1⟩
  revert X₀; k_fill; intro X₀
  refine owit_iter (f := 292) F X₀ I ?hs ?hf ?_
  case hs => k_is
  case hf => k_is
  refine' call_gen (nm := "self") (X₀.keeps F.keep) ?ho ?hcd hroom (hl.keeps F.keep) ?hb ?hco ?hgen ?hk ?hcell ?hloc ?_
  case ho => k_is
  case hcd => k_is
  case hb => exact BindsTo.of_eq rfl
  case hco => exact rfl
  case hgen => exact rfl
  case hk => exact rfl
  case hcell => decide
  case hloc => exact rfl
  intro o' h₁ hn he hs
  have hsz : h₁.objs.size = s.heap.objs.size + 1 := by rw [hs.1, Heap.size_push]
  have nsz : ∀ {b : Addr} {o : Obj}, s.heap.get? b = some o → b ≠ s.heap.objs.size := fun e => Nat.ne_of_lt (Heap.lt_size e)
  have up : ∀ b o, s.heap.get? b = some o → h₁.get? b = some o := fun b o e => hs.extBut b o (nsz e) (Heap.get?_push_of_some _ e)
  have F₁ : Fr h₀ L h₁ m := by
    refine ⟨?_, fun b o e => up _ _ (F.keep b o e), F.above⟩
    (refine hide fun G__ k__ => ?_; obtain ⟨oL, es, n', q1, q2⟩ := F.ns; refine k__ ?_; clear k__ G__)
    exact ⟨oL, es, n', up _ _ q1, q2⟩
  have hL : L < s.heap.objs.size := by obtain ⟨oL, _, _, q1, _⟩ := F.ns; exact Heap.lt_size q1
  have N₁ : News h₀ L h₁ ((s.heap.objs.size, o') :: news) := by
    intro p hp
    rcases List.mem_cons.mp hp with rfl | hp
    · refine ⟨he, Nat.ne_of_gt hL, ?_⟩
      cases q : h₀.get? s.heap.objs.size with
      | none => rfl
      | some o => exact absurd rfl (nsz (F.keep _ _ q))
    · exact ⟨up _ _ (N p hp).1, (N p hp).2⟩
  have lt : ∀ (o : Obj) {p : Addr × Obj}, p ∈ news → p.1 < (h₁.push o).objs.size := fun o p hp => by rw [Heap.size_push, hsz]; exact Nat.lt_succ_of_lt (Nat.lt_succ_of_lt (Heap.lt_size (N _ hp).1))
  unfold OwitIt
  refine wpAny_specialOf (T := "generator") ⟨_, Heap.get?_push_size _ rfl, rfl⟩ slot_gen_next.lookup ?_
  refine h h₁.objs.size s.gens.size s.heap.objs.size _ _ _ _ ((h₁.objs.size, _) :: (s.heap.objs.size, o') :: news) (fun p hp => Heap.lt_size (N p hp).1) (by rw [Heap.size_push]; omega) (Nat.le_refl _) ?_ (F₁.push _) (N₁.push F₁ _) (fun p hp => .tail _ (.tail _ hp))
    (It.gen hh hroom ha hpl S.dic.low hL (Nat.le_refl _) (by rw [Heap.size_push]; exact Nat.lt_succ_self _) (by rw [Heap.size_push, hsz]; exact Nat.lt_succ_of_lt (Nat.lt_succ_self _)) (lt _ S.inst) (lt _ S.dict) (lt _ S.dic.body) rfl rfl rfl rfl rfl)
    ⟨_, _, o', _, Array.getElem?_push_size .., .head _, ⟨_, _, rfl, rfl, rfl⟩, .tail _ (.head _), hn, .tail _ (.tail _ S.inst), .tail _ (.tail _ S.dict), .tail _ (.tail _ S.dic.body), .inl ⟨rfl, if_pos rfl, rfl⟩⟩
  refine ⟨fun i y e => ?_, fun b y hy => ?_⟩
  · have hi : i < s.gens.size := (Array.getElem?_eq_some_iff.mp e).1
    rw [Array.getElem?_push, if_neg (Nat.ne_of_lt hi)]; exact e
  · rcases Array.mem_push.mp hy with hy | rfl
    · exact b y hy
    · rfl
end
noncomputable def tupO (o : Obj) : Bool := match o.cls with
  | .type n => n == "tuple"
  | _ => false
@[reducible] noncomputable def KJ (lo : Nat) (p : Addr × Obj) : Prop := (p.1 : Nat) < lo ∨ tupO p.2 = true
theorem tup_plain {o : Obj} (h : tupO o = true) : plainO o = true := by
  unfold tupO at h
  unfold plainO
  split at h
  · rename_i n hc
    rw [hc, beq_iff_eq.mp h]; rfl
  · cases h
theorem KJ.kept {lo : Nat} {p : Addr × Obj} (h : KJ lo p) : Kept lo p := h.elim .inr fun q => .inl (tup_plain q)
theorem KJ.ne {h₀ h : Heap} {L a : Addr} {lo : Nat} {news : Led} {o : Obj} {p : Addr × Obj} (k : KJ lo p) (N : News h₀ L h news) (hp : p ∈ news) (ha : (a, o) ∈ news) (hlo : lo ≤ a) (ho : tupO o = false) : p.1 ≠ a := fun e => by
  rcases k with k | k
  · exact Nat.lt_irrefl _ (Nat.lt_of_lt_of_le (e ▸ k) hlo)
  · have : (a, p.2) ∈ news := e ▸ hp
    rw [led_eq N this ha, ho] at k; cases k
theorem Foot.ne {h₀ h : Heap} {L a : Addr} {hi : Nat} {news : Led} {o : Obj} {p : Addr × Obj} (k : Foot hi p) (N : News h₀ L h news) (hp : p ∈ news) (ha : (a, o) ∈ news) (hlo : hi ≤ a) (ho : isKI o = false) : p.1 ≠ a := fun e => by
  rcases k with k | k
  · exact Nat.lt_irrefl _ (Nat.lt_of_lt_of_le (e ▸ k) hlo)
  · have : (a, p.2) ∈ news := e ▸ hp
    rw [led_eq N this ha, ho] at k; cases k
theorem NsO.dict {m : Str → Option Value} {o : Obj} (h : NsO (.type "dict") m o) : plainO o = true ∧ tupO o = false ∧ isKI o = false := by
  refine ⟨?_, ?_, ?_⟩
  · unfold plainO; rw [h.1]; rfl
  · unfold tupO; rw [h.1]; decide
  · unfold isKI; rw [h.1]; decide
noncomputable def CompAtL (w : World) (A : Around) (env : Env) (elt iter : Expr) (x : Str) (px : Pos) (ifs : List Expr) (scope : Scope) (cl : List (Str × Addr)) (pos : Pos) (Q E : Value → Shared → Prop) (it : Value) (s₂ : Shared) : Prop :=
  wpAny (model Challenge.rw_ix0031_01.row.prog w) A (newList []) (fun acc s₃ => wpAny (model Challenge.rw_ix0031_01.row.prog w) A (newFunctionEnv scope env.globals cl [] env.qual none .none (some env)) (fun cenv s₄ =>
    codeAny (model Challenge.rw_ix0031_01.row.prog w) A (.compStart (.ListComp elt [⟨.Name x px, iter, ifs, 0⟩] scope pos) 0 it acc { cenv with scope := relabel scope env }) (compPost (model Challenge.rw_ix0031_01.row.prog w) A E none Q acc cenv.locals) s₄) E s₃) E s₂
theorem comp_cx {w : World} {A : Around} {s : Shared} {env : Env} {elt iter : Expr} {x : Str} {px : Pos} {ifs : List Expr} {scope : Scope} {cl : List (Str × Addr)} {pos : Pos} {Q E : Value → Shared → Prop} (hclos : closureFor scope env = pure cl) (hkind : scope.kind = .function)
    (hnames : ∀ y ∈ scope.names, y.2 = .local → scope.names.lookup y.1 = some .local)
    (h : wpAny (model Challenge.rw_ix0031_01.row.prog w) A (eval iter env) (fun xv s₁ => wpAny (model Challenge.rw_ix0031_01.row.prog w) A (pyIter xv) (fun it s₂ => CompAtL w A env elt iter x px ifs scope cl pos Q E it s₂) E s₁) E s)
    (hs : ∀ x, foldedSetIterable iter env x = pure x := by intro _; rfl) :
    wpAny (model Challenge.rw_ix0031_01.row.prog w) A (eval (.ListComp elt [⟨.Name x px, iter, ifs, 0⟩] scope pos) env) Q E s := by
  rw [eval_ListComp]
  exact wpAny_comprehension_free (use := none) rfl hs hclos hkind hnames h
noncomputable abbrev testsOf (ifs : List Expr) (env : Env) : Sem Bool := forIn ifs true fun c r => if r = true then do let ok ← isTrue c env (eval c env); pure (ForInStep.yield ok) else pure (ForInStep.yield r)
inductive CompS (w : World) (A₀ : Around) (base : Heap) (outer : List Env) (loose : List Str) (mean : ExcName → Option Value) (mg mb : Str → Option Value) (h00 : Heap) (g00 : Array GenState) (L : Addr) (m : Str → Option Value) (s : Shared) (J : Nat → List Value → Led → Prop) (St : Nat → Led → Array GenState → Prop) (n : Nat) (D : Addr) (k : Nat) (s' : Shared) : Prop
  | mk : ∀ i ys nn oC mC news₁ h₀' h tk gn, s' = { s with heap := h, toks := tk, gens := gn } → i ≤ n → k = n + 1 - i → ys.length ≤ i → J i ys news₁ → St i news₁ gn → ((D + 1 : Nat), oC) ∈ news₁ → NsO (.type "dict") mC oC → (D, W.listOf (List.toArray ys) nn) ∈ news₁ → KtsTurn (outer.filterMap (·.frame)) h00 h₀' → GRel g00 gn → Cx w A₀ base outer loose mean mg mb h₀' L m news₁ h → CompS w A₀ base outer loose mean mg mb h00 g00 L m s J St n D k s'
section
variable {w : World} {A A₀ : Around} {base h₀ : Heap} {outer : List Env} {loose : List Str} {mean : ExcName → Option Value} {mg mb : Str → Option Value} {L : Addr} {m : Str → Option Value} {news : Led} {s : Shared} {Q E : Value → Shared → Prop} {env : Env} {elt iter : Expr} {x : Str} {px : Pos} {ifs : List Expr} {scope : Scope} {cl : List (Str × Addr)} {pos : Pos}
theorem comp_it {h00 : Heap} {g00 : Array GenState} (T00 : KtsTurn (outer.filterMap (·.frame)) h00 h₀) (G00 : GRel g00 s.gens) {I : Addr} {n lo hi : Nat} {gi : Nat → Prop} {P : Nat → Value → Prop} {St : Nat → Led → Array GenState → Prop} (hgi : ∀ i, gi i → g00[i]? = none)
    (IT : It w A L I lo hi gi n P St) (hlo : lo ≤ s.heap.objs.size) (hhi : hi ≤ s.heap.objs.size) (hn : n ≤ 1000) (C : Cx w A₀ base outer loose mean mg mb h₀ L m news s.heap) (hst : St 0 news s.gens)
    (hcell : ∀ y ∈ scope.names, y.2 ≠ .cell) (hkind : scope.kind = .function) (hx : scope.names.lookup x = some .local)
    (J : Nat → List Value → Led → Prop) (h0 : J 0 [] news) (Jm : ∀ i ys n n', J i ys n → (∀ p ∈ n, KJ lo p → p ∈ n') → J i ys n')
    (turn : ∀ Cc D i v ys nn oC mC news₁ h tk gn h₀', i < n → P i v → J i ys news₁ → St (i + 1) news₁ gn → (Cc, oC) ∈ news₁ → NsO (.type "dict") mC oC → mC x = some v → (D, W.listOf ys.toArray nn) ∈ news₁ → KtsTurn (outer.filterMap (·.frame)) h00 h₀' → GRel g00 gn →
      Cx w A₀ base outer loose mean mg mb h₀' L m news₁ h → ∀ E', wpAny (model Challenge.rw_ix0031_01.row.prog w) A (testsOf ifs (compEnvC scope cl Cc env)) (fun ok s₃ =>
        if ok = true then wpAny (model Challenge.rw_ix0031_01.row.prog w) A (eval elt (compEnvC scope cl Cc env)) (fun y s₄ => EndC w A₀ base outer loose mean mg mb h00 g00 L { s with heap := h, gens := gn, toks := tk } (fun m' n' g' => m' = m ∧ J (i + 1) (ys ++ [y]) n' ∧ St (i + 1) n' g' ∧ (Cc, oC) ∈ n' ∧ (D, W.listOf ys.toArray nn) ∈ n') s₄) E' s₃
        else EndC w A₀ base outer loose mean mg mb h00 g00 L { s with heap := h, gens := gn, toks := tk } (fun m' n' g' => m' = m ∧ J (i + 1) ys n' ∧ St (i + 1) n' g' ∧ (Cc, oC) ∈ n' ∧ (D, W.listOf ys.toArray nn) ∈ n') s₃) E' { s with heap := h, gens := gn, toks := tk })
    (done : ∀ D ys nn news₁ h tk gn h₀', J n ys news₁ → (D, W.listOf ys.toArray nn) ∈ news₁ → KtsTurn (outer.filterMap (·.frame)) h00 h₀' → GRel g00 gn → Cx w A₀ base outer loose mean mg mb h₀' L m news₁ h → Q (.ref D) { s with heap := h, gens := gn, toks := tk })
    (ht : ∀ v, letOwnedTupleGo (.Name x px) (.ref I) v = pure () := by intro _; rfl) :
    CompAtL w A env elt iter x px ifs scope cl pos Q E (.ref I) s := by
  unfold CompAtL
  refine wpAny_newObj_type (newEnv0 hcell ?_)
  dsimp only
  have hDC : (s.heap.push { cls := .type "list", dict := none, data := .seq ([] : List Value).toArray }).objs.size = s.heap.objs.size + 1 := Heap.size_push ..
  generalize hD : s.heap.objs.size = D at hlo hhi hDC
  have F₁ := C.F.push { cls := .type "list", dict := none, data := .seq ([] : List Value).toArray }
  have N₁ := C.N.push C.F { cls := .type "list", dict := none, data := .seq ([] : List Value).toArray }
  rw [hD] at N₁
  generalize s.heap.push { cls := .type "list", dict := none, data := .seq ([] : List Value).toArray } = H at F₁ N₁ hDC ⊢
  have F₂ := F₁.push { cls := .type "dict", data := .dict #[] }
  have N₂ := N₁.push F₁ { cls := .type "dict", data := .dict #[] }
  generalize hC : H.objs.size = Cc at N₂ hDC ⊢
  subst hDC
  generalize H.push { cls := .type "dict", data := .dict #[] } = H2 at F₂ N₂ ⊢
  have C₂ : Cx w A₀ base outer loose mean mg mb h₀ L m _ H2 := ⟨C.B, F₂, N₂, C.X, C.T, C.D, C.XB, C.TB⟩
  have hst₂ := IT.keepS hst (fun p hp _ => List.Mem.tail ((D + 1 : Nat), ({ cls := .type "dict", data := .dict #[] } : Obj)) (List.Mem.tail (D, ({ cls := .type "list", dict := none, data := .seq ([] : List Value).toArray } : Obj)) hp)) (GRel.refl _)
  have hJ₂ : J 0 [] ((D + 1, { cls := .type "dict", data := .dict #[] }) :: (D, { cls := .type "list", dict := none, data := .seq ([] : List Value).toArray }) :: news) := Jm _ _ _ _ h0 fun p hp _ => .tail _ (.tail _ hp)
  have loop : ∀ s' : Shared, s' = { s with heap := H2 } → codeAny (model Challenge.rw_ix0031_01.row.prog w) A (.compLoop (.ListComp elt [⟨.Name x px, iter, ifs, 0⟩] scope pos) 0 (.ref I) (.ref D) (compEnvC scope cl (D + 1) env)) (compPost (model Challenge.rw_ix0031_01.row.prog w) A E none Q (.ref D) (D + 1)) s' := by
    rintro s' rfl
    refine codeAny_compLoop_tests (CompS w A₀ base outer loose mean mg mb h00 g00 L m s J St n D) ?_ (n + 1)
      ⟨0, [], 0, _, _, _, h₀, H2, s.toks, s.gens, rfl, Nat.zero_le _, rfl, Nat.le_refl _, hJ₂, hst₂, .head _, NsO.new _, .tail _ (.head _), T00, G00, C₂⟩ ht
    rintro k s' ⟨i, ys, nn, oC, mC, news₁, h₀', h, tk, gn, rfl, hi', rfl, hlen, hJ, hS, hCc, hNs, hDm, T, G, C'⟩
    have gr : ∀ {gn'}, GMov gi gn gn' → GRel g00 gn' := fun hG => ⟨fun i y e => hG.1 i y (fun q => by rw [hgi i q] at e; cases e) (G.1 i y e), fun b => hG.2 (G.2 b)⟩
    rcases Nat.lt_or_ge i n with hlt | hge
    · refine IT.item hlt hS C'.F C'.N C'.X C'.T.nolimit fun v h' gn' tk' news' hP hS' F' N' hk hG => ?_
      have hCc' := hk _ hCc (.inl hNs.dict.1)
      have hD' := hk _ hDm (.inl rfl)
      refine wpAny_assign_Name (storeO (env := compEnvC scope cl (D + 1) env) (lookup_relabel_local hx) (by simp [compEnvC, relabel, hkind]) (N' _ hCc').1 hNs fun oC' h₂ hn₂ he₂ hs₂ => ?_)
      have F₃ : Fr h₀' L h₂ m := F'.change hs₂ (N' _ hCc').2.1 (N' _ hCc').2.2
      have N₃ : News h₀' L h₂ (wrL news' (D + 1) oC') := News.wr N' hCc' hs₂ he₂
      have hS₃ : St (i + 1) (wrL news' (D + 1) oC') gn' := IT.keepS hS' (fun p hp hq => wrL.keep hp (Foot.ne hq N' hp hCc' (Nat.le_succ_of_le hhi) hNs.dict.2.2)) (GRel.refl _)
      have hJ₃ : J i ys (wrL news' (D + 1) oC') := Jm _ _ _ _ (Jm _ _ _ _ hJ fun p hp hq => hk p hp hq.kept) fun p hp hq => wrL.keep hp (KJ.ne hq N' hp hCc' (Nat.le_succ_of_le hlo) hNs.dict.2.1)
      refine wpAny_mono (turn (D + 1) D i v ys nn oC' _ _ h₂ (tk' + 1) gn' h₀' hlt hP hJ₃ hS₃ (.head _) hn₂ (if_pos rfl) (wrL.keep hD' (Nat.ne_of_lt (Nat.lt_succ_self D))) T (gr hG) ⟨C'.B, F₃, N₃, C'.X, C'.T, C'.D, C'.XB, C'.TB⟩ _) (fun ok s₃ h₃ => ?_) fun _ _ e => e
      cases ok with
      | false =>
        obtain ⟨h₅, gn₅, tk₅, m₅, n₅, h₀₅, rfl, T₅, G₅, C₅, rfl, hJ₅, hS₅, hCc₅, hD₅⟩ := h₃
        exact ⟨n + 1 - (i + 1), Nat.sub_lt_sub_left (Nat.lt_succ_of_lt hlt) (Nat.lt_succ_self i), i + 1, ys, nn, oC', _, n₅, h₀₅, h₅, tk₅, gn₅, rfl, hlt, rfl, Nat.le_succ_of_le hlen, hJ₅, hS₅, hCc₅, hn₂, hD₅, T₅, G₅, C₅⟩
      | true =>
        refine wpAny_mono h₃ (fun y s₄ h₄ => ?_) fun _ _ e => e
        obtain ⟨h₅, gn₅, tk₅, m₅, n₅, h₀₅, rfl, T₅, G₅, C₅, rfl, hJ₅, hS₅, hCc₅, hD₅⟩ := h₄
        refine append_led C₅.F C₅.N hD₅ (by omega) fun h₆ F₆ N₆ => ?_
        refine ⟨n + 1 - (i + 1), Nat.sub_lt_sub_left (Nat.lt_succ_of_lt hlt) (Nat.lt_succ_self i), i + 1, ys ++ [y], nn + 1, oC', _, _, h₀₅, h₆, tk₅, gn₅, rfl, hlt, rfl, by rw [List.length_append, List.length_singleton]; omega, ?_, ?_, wrL.keep hCc₅ (Nat.succ_ne_self D), hn₂, .head _, T₅, G₅, ⟨C₅.B, F₆, N₆, C₅.X, C₅.T, C₅.D, C₅.XB, C₅.TB⟩⟩
        · exact Jm _ _ _ _ hJ₅ fun p hp hq => wrL.keep hp (KJ.ne hq C₅.N hp hD₅ hlo rfl)
        · exact IT.keepS hS₅ (fun p hp hq => wrL.keep hp (Foot.ne hq C₅.N hp hD₅ hhi rfl)) (GRel.refl _)
    · obtain rfl : i = n := Nat.le_antisymm hi' hge
      refine IT.done hS C'.F C'.N C'.X C'.T.nolimit fun h' gn' tk' news' F' N' hk hG => ?_
      have hCc' := hk _ hCc (.inl hNs.dict.1)
      have hD' := hk _ hDm (.inl rfl)
      refine ⟨mC, hNs.ns (N' _ hCc').1, fun h₂ hs₂ => ?_⟩
      obtain ⟨F₃, N₃⟩ := ext_news F' N' hCc' hs₂.extBut
      exact done D ys nn (news'.filter fun p => p.1 != D + 1) h₂ tk' gn' h₀' (Jm _ _ _ _ (Jm _ _ _ _ hJ fun p hp hq => hk p hp hq.kept) fun p hp hq => List.mem_filter.mpr ⟨hp, by simpa using KJ.ne hq N' hp hCc' (Nat.le_succ_of_le hlo) hNs.dict.2.1⟩)
        (List.mem_filter.mpr ⟨hD', by simpa using Nat.ne_of_lt (Nat.lt_succ_self D)⟩) T (gr hG) ⟨C'.B, F₃, N₃, C'.X, C'.T, C'.D, C'.XB, C'.TB⟩
  exact codeAny_compStart_list (loop _ rfl) (IT.self hst₂ N₂ (loop _ rfl))
end
section
variable {w : World} {A A₀ : Around} {base h₀ : Heap} {outer : List Env} {loose : List Str} {mean : ExcName → Option Value} {mg mb : Str → Option Value} {L : Addr} {m : Str → Option Value} {news : Led} {s : Shared} {Q E : Value → Shared → Prop} {env : Env} {elt iter : Expr} {x : Str} {px : Pos} {ifs : List Expr} {scope : Scope} {cl : List (Str × Addr)} {pos : Pos}
noncomputable def CompTurn (w : World) (A A₀ : Around) (base : Heap) (outer : List Env) (loose : List Str) (mean : ExcName → Option Value) (mg mb : Str → Option Value) (env : Env) (elt : Expr) (x : Str) (ifs : List Expr) (scope : Scope) (cl : List (Str × Addr)) (h00 : Heap) (g00 : Array GenState) (L : Addr) (m : Str → Option Value) (news : Led) (s : Shared) (n : Nat) (P : Nat → Value → Prop) (Y : Nat → List Value → Led → Prop) : Prop :=
  ∀ Cc i v ys oC mC news₁ h tk gn h₀', i < n → P i v → (∀ p ∈ news, p ∈ news₁) → Y i ys news₁ → (Cc, oC) ∈ news₁ → NsO (.type "dict") mC oC → mC x = some v → KtsTurn (outer.filterMap (·.frame)) h00 h₀' → GRel g00 gn →
      Cx w A₀ base outer loose mean mg mb h₀' L m news₁ h → ∀ E', wpAny (model Challenge.rw_ix0031_01.row.prog w) A (testsOf ifs (compEnvC scope cl Cc env)) (fun ok s₃ =>
        if ok = true then wpAny (model Challenge.rw_ix0031_01.row.prog w) A (eval elt (compEnvC scope cl Cc env)) (fun y s₄ => EndC w A₀ base outer loose mean mg mb h00 g00 L { s with heap := h, gens := gn, toks := tk } (fun m' n' g' => m' = m ∧ (∀ p ∈ news₁, p ∈ n') ∧ GRel gn g' ∧ Y (i + 1) (ys ++ [y]) n') s₄) E' s₃
        else EndC w A₀ base outer loose mean mg mb h00 g00 L { s with heap := h, gens := gn, toks := tk } (fun m' n' g' => m' = m ∧ (∀ p ∈ news₁, p ∈ n') ∧ GRel gn g' ∧ Y (i + 1) ys n') s₃) E' { s with heap := h, gens := gn, toks := tk }
noncomputable def CompDone (w : World) (A₀ : Around) (base : Heap) (outer : List Env) (loose : List Str) (mean : ExcName → Option Value) (mg mb : Str → Option Value) (h00 : Heap) (g00 : Array GenState) (L : Addr) (m : Str → Option Value) (news : Led) (s : Shared) (n : Nat) (Y : Nat → List Value → Led → Prop) (Q : Value → Shared → Prop) : Prop :=
  ∀ D ys nn news₁ h tk gn h₀', (∀ p ∈ news, p ∈ news₁) → Y n ys news₁ → (D, W.listOf ys.toArray nn) ∈ news₁ → KtsTurn (outer.filterMap (·.frame)) h00 h₀' → GRel g00 gn → Cx w A₀ base outer loose mean mg mb h₀' L m news₁ h → Q (.ref D) { s with heap := h, gens := gn, toks := tk }
@[reducible] noncomputable def TupM (Y : Nat → List Value → Led → Prop) : Prop := ∀ i ys n n', Y i ys n → (∀ p ∈ n, tupO p.2 = true → p ∈ n') → Y i ys n'
theorem comp_calm {h00 : Heap} {g00 : Array GenState} {news₀ : Led} (T00 : KtsTurn (outer.filterMap (·.frame)) h00 h₀) (G00 : GRel g00 s.gens) {I : Addr} {n lo hi : Nat} {gi : Nat → Prop} {P : Nat → Value → Prop} {St : Nat → Led → Array GenState → Prop} (hgi : ∀ i, gi i → g00[i]? = none)
    (IT : It w A L I lo hi gi n P St) (hlo : lo ≤ s.heap.objs.size) (hhi : hi ≤ s.heap.objs.size) (hn : n ≤ 1000) (C : Cx w A₀ base outer loose mean mg mb h₀ L m news s.heap) (hst : St 0 news s.gens) (hold : ∀ p ∈ news₀, (p.1 : Nat) < lo) (hsub : ∀ p ∈ news₀, p ∈ news)
    (hcell : ∀ y ∈ scope.names, y.2 ≠ .cell) (hkind : scope.kind = .function) (hx : scope.names.lookup x = some .local)
    (Y : Nat → List Value → Led → Prop) (h0 : Y 0 [] news) (Ym : TupM Y)
    (turn : CompTurn w A A₀ base outer loose mean mg mb env elt x ifs scope cl h00 g00 L m news₀ s n P Y) (done : CompDone w A₀ base outer loose mean mg mb h00 g00 L m news₀ s n Y Q)
    (ht : ∀ v, letOwnedTupleGo (.Name x px) (.ref I) v = pure () := by intro _; rfl) :
    CompAtL w A env elt iter x px ifs scope cl pos Q E (.ref I) s :=
  comp_it T00 G00 hgi IT hlo hhi hn C hst hcell hkind hx (fun i ys n => (∀ p ∈ news₀, p ∈ n) ∧ Y i ys n) ⟨hsub, h0⟩
    (fun i ys n n' ⟨h1, h2⟩ hk => ⟨fun p hp => hk p (h1 p hp) (.inl (hold p hp)), Ym _ _ _ _ h2 fun p hp hq => hk p hp (.inr hq)⟩)
    (fun Cc D i v ys nn oC mC news₁ h tk gn h₀' hi hP ⟨hJ1, hJ2⟩ hS hCc hNs hmx hD T G C' E' => by
      refine wpAny_mono (turn Cc i v ys oC mC news₁ h tk gn h₀' hi hP hJ1 hJ2 hCc hNs hmx T G C' E') (fun ok s₃ h₃ => ?_) fun _ _ e => e
      cases ok with
      | false =>
        obtain ⟨h₅, gn₅, tk₅, m₅, n₅, h₀₅, rfl, T₅, G₅, C₅, rfl, hs₅, hg₅, hY₅⟩ := h₃
        exact ⟨h₅, gn₅, tk₅, m₅, n₅, h₀₅, rfl, T₅, G₅, C₅, rfl, ⟨fun p hp => hs₅ p (hJ1 p hp), hY₅⟩, IT.keepS hS (fun p hp _ => hs₅ p hp) hg₅, hs₅ _ hCc, hs₅ _ hD⟩
      | true =>
        refine wpAny_mono h₃ (fun y s₄ h₄ => ?_) fun _ _ e => e
        obtain ⟨h₅, gn₅, tk₅, m₅, n₅, h₀₅, rfl, T₅, G₅, C₅, rfl, hs₅, hg₅, hY₅⟩ := h₄
        exact ⟨h₅, gn₅, tk₅, m₅, n₅, h₀₅, rfl, T₅, G₅, C₅, rfl, ⟨fun p hp => hs₅ p (hJ1 p hp), hY₅⟩, IT.keepS hS (fun p hp _ => hs₅ p hp) hg₅, hs₅ _ hCc, hs₅ _ hD⟩)
    (fun D ys nn news₁ h tk gn h₀' ⟨hJ1, hJ2⟩ hD T G C' => done D ys nn news₁ h tk gn h₀' hJ1 hJ2 hD T G C') ht
theorem comp_list {h00 : Heap} {g00 : Array GenState} (T00 : KtsTurn (outer.filterMap (·.frame)) h00 h₀) (G00 : GRel g00 s.gens) {l : Addr} {vs : List Value} {nn : Nat} (C : Cx w A₀ base outer loose mean mg mb h₀ L m news s.heap) (hh : A.handled = none) (hm : (l, W.listOf vs.toArray nn) ∈ news) (hn : vs.length ≤ 1000)
    (hcell : ∀ y ∈ scope.names, y.2 ≠ .cell) (hkind : scope.kind = .function) (hx : scope.names.lookup x = some .local)
    (Y : Nat → List Value → Led → Prop) (h0 : ∀ n, Y 0 [] n) (Ym : TupM Y)
    (turn : CompTurn w A A₀ base outer loose mean mg mb env elt x ifs scope cl h00 g00 L m news s vs.length (fun i v => vs[i]? = some v) Y) (done : CompDone w A₀ base outer loose mean mg mb h00 g00 L m news s vs.length Y Q)
    (ht : ∀ I v, letOwnedTupleGo (.Name x px) (.ref I) v = pure () := by intro _ _; rfl) :
    wpAny (model Challenge.rw_ix0031_01.row.prog w) A (pyIter (.ref l)) (fun it s₂ => CompAtL w A env elt iter x px ifs scope cl pos Q E it s₂) E s := by
  refine wpAny_pyIter_list (items := vs.toArray) ⟨_, (C.N _ hm).1, rfl, nn, rfl⟩ ?_
  exact comp_calm (h₀ := h₀) (news₀ := news) T00 (by exact G00) (gi := noG) (fun _ q => q.elim) (It.list hh L s.heap.objs.size l s.heap.objs.size (s.heap.objs.size + 1) (Nat.le_refl _) (Nat.lt_succ_self _) (Nat.lt_succ_of_lt (Heap.lt_size (C.N _ hm).1)) vs nn) (by rw [Heap.size_push]; exact Nat.le_succ _) (by rw [Heap.size_push]; exact Nat.le_refl _) hn
    (news := (s.heap.objs.size, { cls := .type "list_iterator", data := .fields #[.ref l, .int 0 0] }) :: news) ⟨C.B, C.F.push _, C.N.push C.F _, C.X, C.T, C.D, C.XB, C.TB⟩ ⟨_, .head _, rfl, rfl, .tail _ hm⟩ (fun p hp => Heap.lt_size (C.N p hp).1) (fun p hp => .tail _ hp) hcell hkind hx Y (h0 _) Ym turn done (ht _)
theorem comp_keys {h00 : Heap} {g00 : Array GenState} (T00 : KtsTurn (outer.filterMap (·.frame)) h00 h₀) (G00 : GRel g00 s.gens) {d : Addr} {od : Obj} {kvs : List (Int × Value)} (C : Cx w A₀ base outer loose mean mg mb h₀ L m news s.heap) (hh : A.handled = none) (hm : (d, od) ∈ news) (hd : od.IsDictOf (intKind Challenge.rw_ix0031_01.row.prog w) kvs) (hn : kvs.length ≤ 1000) (hsys : (d == sysModules) = false)
    (hcell : ∀ y ∈ scope.names, y.2 ≠ .cell) (hkind : scope.kind = .function) (hx : scope.names.lookup x = some .local)
    (Y : Nat → List Value → Led → Prop) (h0 : ∀ n, Y 0 [] n) (Ym : TupM Y)
    (turn : CompTurn w A A₀ base outer loose mean mg mb env elt x ifs scope cl h00 g00 L m news s kvs.length (fun i v => ∃ k y t, kvs[i]? = some (k, y) ∧ v = .int k t) Y) (done : CompDone w A₀ base outer loose mean mg mb h00 g00 L m news s kvs.length Y Q)
    (ht : ∀ I v, letOwnedTupleGo (.Name x px) (.ref I) v = pure () := by intro _ _; rfl) :
    wpAny (model Challenge.rw_ix0031_01.row.prog w) A (pyIter (.ref d)) (fun it s₂ => CompAtL w A env elt iter x px ifs scope cl pos Q E it s₂) E s := by
  obtain ⟨ep, ha⟩ := KdkAt.of hd
  have hpl : plainO od = true := by obtain ⟨es, hx, _⟩ := ha; unfold plainO; rw [hx.1]; decide
  refine wpAny_pyIter_dict hsys (ha.dictAt (C.N _ hm).1) ?_
  exact comp_calm (h₀ := h₀) (news₀ := news) T00 (by exact G00) (gi := noG) (fun _ q => q.elim) (It.keys hh L s.heap.objs.size d od kvs ep ha hpl s.heap.objs.size (s.heap.objs.size + 1) (Nat.le_refl _) (Nat.lt_succ_of_lt (Heap.lt_size (C.N _ hm).1))) (by rw [Heap.size_push]; exact Nat.le_succ _) (by rw [Heap.size_push]; exact Nat.le_refl _) hn
    (news := (s.heap.objs.size, { cls := .type "dict_keyiterator", data := .fields #[.ref d, .int 0 0, .int kvs.length 0, .int ep 0] }) :: news) ⟨C.B, C.F.push _, C.N.push C.F _, C.X, C.T, C.D, C.XB, C.TB⟩ ⟨_, .head _, ⟨rfl, rfl⟩, .tail _ hm⟩ (fun p hp => Heap.lt_size (C.N p hp).1) (fun p hp => .tail _ hp) hcell hkind hx Y (h0 _) Ym turn done (ht _)
theorem comp_settings {h00 : Heap} {g00 : Array GenState} (T00 : KtsTurn (outer.filterMap (·.frame)) h00 h₀) (G00 : GRel g00 s.gens) {y dx d : Addr} {c : Bool} {σ : Sgs} {t1 t2 : Tok} {n : Nat} {od : Obj} {kvs : List (Int × Value)} {ls : Led} (C : Cx w A₀ base outer loose mean mg mb h₀ L m news s.heap) (hh : A.handled = none) (hroom : A.depth < recursionLimit)
    (S : SetL w y c σ news dx d t1 t2 n od kvs ls) (hn : kvs.length ≤ 1000) (hcell : ∀ y ∈ scope.names, y.2 ≠ .cell) (hkind : scope.kind = .function) (hx : scope.names.lookup x = some .local)
    (Y : Nat → List Value → Led → Prop) (h0 : ∀ n, Y 0 [] n) (Ym : TupM Y)
    (turn : CompTurn w A A₀ base outer loose mean mg mb env elt x ifs scope cl h00 g00 L m news s kvs.length (fun i v => ∃ k y t, kvs[i]? = some (k, y) ∧ v = .int k t) Y) (done : CompDone w A₀ base outer loose mean mg mb h00 g00 L m news s kvs.length Y Q)
    (ht : ∀ I v, letOwnedTupleGo (.Name x px) (.ref I) v = pure () := by intro _ _; rfl) :
    wpAny (model Challenge.rw_ix0031_01.row.prog w) A (pyIter (.ref y)) (fun it s₂ => CompAtL w A env elt iter x px ifs scope cl pos Q E it s₂) E s := by
  refine iter_settings C.X C.F C.N C.T.nolimit S hh hroom fun a g lo St h' gn' tk' news' hlt hlo hg hG F' N' hsub IT hst => ?_
  exact comp_calm (h₀ := h₀) (news₀ := news) (s := { s with heap := h', gens := gn', toks := tk' }) T00 (G00.trans hG) (fun i q => by
      subst q
      cases e : g00[i]? with
      | none => rfl
      | some z =>
        have e' := G00.1 _ _ e
        exact absurd (Array.getElem?_eq_some_iff.mp e').1 (Nat.not_lt.mpr hg)) IT hlo (Nat.le_refl _) hn ⟨C.B, F', N', C.X, C.T, C.D, C.XB, C.TB⟩ hst hlt hsub hcell hkind hx Y (h0 _) Ym turn done (ht _)
end
theorem enterC {w : World} {A₀ A : Around} {s : Shared} {base h₀ : Heap} {env : Env} {outer : List Env} {L : Addr} {m mg mb : Str → Option Value} {loose : List Str} {mean : ExcName → Option Value} {news : Led}
    {R : Result → Shared → Prop} {name qual : Str} {params : Arguments} {body : List Stmt} {scope : Scope} {dV kV doc pm cdv ct oc : Value} {an od : Option Addr} {osl : Array (Option Value)} {f : Addr} {args : Args} {binds : List (Str × Value)}
    (C : Cx w A₀ base outer loose mean mg mb h₀ L m news s.heap) (hA : A.frames = some (env :: outer)) (hf : env.frame = some L) (hke : env.scope.kind = .function)
    (ho : (hd.heap_39 w.params).lookup f = some ⟨oc, od, .func (fnOf name qual params body scope dV kV doc pm an cdv ct), osl⟩) (hcd : codeIn (hd.heap_39 w.params) cdv qual = true) (hroom : A.depth < recursionLimit)
    (hbind : BindsTo s (fnOf name qual params body scope dV kV doc pm an cdv ct) args binds) (hkind : (binds.all fun y => scope.names.lookup y.1 == some .local || scope.names.lookup y.1 == some .cell) = true) (hnd : ((cellsFrom 0 scope.names []).map (·.1)).Nodup)
    (h : ∀ g L' h₁ tk cells, Fr h₀ L g m → Fr g L' h₁ (bindL (envOfC qual scope L' f cdv).kindOf binds fun _ => none) → News g L' h₁ (cells ++ news) → CellsAre (bindC (envOfC qual scope L' f cdv).kindOf binds fun _ => none) (cellsFrom (L' + 1) scope.names []) cells → (∀ p ∈ news, p.1 < L') → Below A base (env :: outer) g → (hd.heap_39 w.params).In g → Top hd.view_39 loose mean mg mb g → KtsDicts ((env :: outer).filterMap (·.frame)) g → (hd.heap_39 w.params).In base → Top hd.view_39 loose mean mg mb base →
      wpAny (model Challenge.rw_ix0031_01.row.prog w) (A.deeper (envOfC qual scope L' f cdv)) (execs body (envOfC qual scope L' f cdv))
        (fun fl s' => LeaveS ((env :: outer).filterMap (·.frame)) A₀ base outer (hd.heap_39 w.params) hd.view_39 loose mean mg mb h₀ h₀ L m g R (match fl with | .ret v => v | _ => .none) s')
        (fun e s' => wpAny (model Challenge.rw_ix0031_01.row.prog w) (A.deeper (envOfC qual scope L' f cdv)) (leaving (envOfC qual scope L' f cdv) e) (fun _ s'' => R (.error e) s'') (fun e' s'' => R (.error e') s'') s')
        { s with heap := h₁, toks := tk })
    (hco : scope.isCoroutine = false) (hgen : scope.isGenerator = false) (hk : scope.kind = .function) : codeAny (model Challenge.rw_ix0031_01.row.prog w) A (.call (.ref f) args) R s := by
  obtain ⟨B, F, N, X₀, T, D, XB, TB⟩ := C
  have X := X₀.keeps F.keep
  refine codeAny_call_function (fd := fnOf name qual params body scope dV kV doc pm an cdv ct) hroom (X _ _ ho) rfl hco hgen rfl (codeRec_of X hcd) (hbind _ _ _ _ ?_)
  refine wpAny_newFunctionEnv_cells hk (kindsX hkind _) fun env' he s' x => ?_
  subst he
  refine ⟨(T.nolimit.keeps F.keep).keeps x.toInCall.keep, codeAny_func ?_⟩
  (refine hide fun G__ k__ => ?_; obtain ⟨h₁, tk, rfl, _⟩ := x.done; refine k__ ?_; clear k__ G__)
  have hk₁ := x.toInCall.keep
  (refine hide fun G__ k__ => ?_; obtain ⟨cells, NC, Yc⟩ := Cl.news (h₀ := s.heap) (Nat.le_refl _) fun n c hm => ⟨x.cell n c (lookup_of_mem_nodup (cellsFrom_names scope.names 0 (s.heap.objs.size + 1) [] [] rfl ▸ hnd) hm), x.above n c hm⟩; refine k__ ?_; clear k__ G__)
  (refine hide fun G__ k__ => ?_; obtain ⟨oL, es, ep, hL, hLd, hLk, hLf⟩ := F.ns; refine k__ ?_; clear k__ G__)
  have nL : L ∉ news.map (·.1) := fun q => by
    (refine hide fun G__ k__ => ?_; obtain ⟨p, hp, e⟩ := List.mem_map.mp q; refine k__ ?_; clear k__ G__)
    exact (N p hp).2.1 e
  have st : h₀.StaysIn (hideAll s.heap (news.map (·.1))) := fun b o e => hideAll_get _ (F.keep b o e) (fresh_ledger N e)
  have hLg := hideAll_get (news.map (·.1)) hL nL
  have nsOf : ∀ (sl : Array (Option Value)) (h' : Heap), h'.get? L = some { oL with slots := sl } → h'.Ns L m := fun sl h' e => ⟨_, es, ep, e, hLd, hLk, hLf⟩
  have nL₀ : h₀.get? L = none := kts_self F
  have nLb : base.get? L = none := by
    cases q : base.get? L with
    | none => rfl
    | some o => rw [B.stays L o q] at nL₀; cases nL₀
  have G : Below A base (env :: outer) (hideAll s.heap (news.map (·.1))) := by
    refine ⟨hA, fun b o e => st b o (B.stays b o e), Heap.FunFrames.cons (by rw [hke]; decide) hf ⟨oL, es, ep, hLg, hLd, hLk, hLf⟩ nLb (B.frames.of_keeps fun b o e _ => ⟨o, st b o e, rfl⟩)⟩
  have memf : ∀ b, b ∈ (env :: outer).filterMap (·.frame) → b = L ∨ b ∈ outer.filterMap (·.frame) := fun b hb => by
    rw [List.filterMap_cons, hf] at hb
    exact List.mem_cons.mp hb
  refine wpAny_mono (h _ s.heap.objs.size h₁ tk cells ⟨nsOf oL.slots _ hLg, st, F.above⟩ ⟨x.toInCall.ns, fun b o e => hk₁ b o (of_hideAll _ e), Nat.le_of_eq (hideAll_size _ _)⟩
    (fun p hp => by
      rcases List.mem_append.mp hp with hp | hp
      · refine ⟨(NC p hp).1, (NC p hp).2.1, ?_⟩
        cases q : (hideAll s.heap (news.map (·.1))).get? p.1 with
        | none => rfl
        | some o => have := of_hideAll _ q; rw [(NC p hp).2.2] at this; cases this
      · exact ⟨hk₁ _ _ (N p hp).1, Nat.ne_of_lt (Heap.lt_size (N p hp).1), hideAll_none _ (List.mem_map_of_mem hp)⟩) Yc (fun p hp => Heap.lt_size (N p hp).1) G (X₀.keeps st) (T.keeps st) (fun b hb => by
      rcases memf b hb with rfl | hb
      · exact ⟨oL, es, ep, hLg, hLd⟩
      · (refine hide fun G__ k__ => ?_; obtain ⟨o, es', n', ho', hd'⟩ := D b hb; refine k__ ?_; clear k__ G__)
        exact ⟨o, es', n', st b o ho', hd'⟩) XB TB) (fun fl s' hl => ?_) fun _ _ y => y
  rcases hl with ⟨L', m', news', F', N', k⟩ | ⟨g', L', m', news', T', F', N', k⟩
  · refine k ⟨nsOf oL.slots _ (F'.keep _ _ hLg), fun b o e => F'.keep b o (st b o e), F.above⟩ fun p hp => ⟨(N' p hp).1, fun q => ?_, ?_⟩
    · have := (N' p hp).2.2; rw [q, hLg] at this; cases this
    · cases q : h₀.get? p.1 with
      | none => rfl
      | some o => have := (N' p hp).2.2; rw [st _ _ q] at this; cases this
  · obtain ⟨sl, hs⟩ := T'.up hLg
    obtain ⟨T₁, S₁⟩ := kts_turn_at (h := s'.heap) (fs := outer.filterMap (·.frame)) (g := h₀)
      (fun b hb => by
        (refine hide fun G__ k__ => ?_; obtain ⟨_, o, ho', _⟩ := B.frames.mem hb; refine k__ ?_; clear k__ G__)
        exact ⟨o, ho'⟩)
      (fun b o e nm => F'.keep b o (T'.other b o (st b o e) (fun q => by
        rcases memf b q with z | z
        · rw [z, nL₀] at e; cases e
        · exact nm z)))
      (fun b o e _ => by
        obtain ⟨sl', hs'⟩ := T'.up (st b o e)
        exact ⟨sl', F'.keep _ _ hs'⟩)
    have B₃ : Below A₀ base outer (ktsHeap s'.heap (outer.filterMap (·.frame)) h₀) := ⟨B.stack, fun b o e => T₁.other b o (B.stays b o e) (fun hm => by
      rw [(B.frames.mem hm).1] at e; cases e), B.frames.of_keeps fun b o e _ => by
      obtain ⟨sl', hs'⟩ := T₁.up e
      exact ⟨_, hs', rfl⟩⟩
    refine k _ T₁ ⟨nsOf sl _ (F'.keep _ _ hs), S₁, by rw [T₁.size]; exact F.above⟩ (fun p hp => ⟨(N' p hp).1, fun q => ?_, ?_⟩) B₃ (XB.keeps B₃.stays) (TB.keeps B₃.stays) (D.turn T₁)
    · have := (N' p hp).2.2; rw [q, hs] at this; cases this
    · refine T₁.none_ _ ?_
      cases q : h₀.get? p.1 with
      | none => rfl
      | some o =>
        obtain ⟨sl', hs'⟩ := T'.up (st _ _ q)
        have := (N' p hp).2.2
        rw [hs'] at this; cases this
theorem enterD {w : World} {A₀ A : Around} {s : Shared} {base h₀ : Heap} {env : Env} {outer : List Env} {L : Addr} {m mg mb : Str → Option Value} {loose : List Str} {mean : ExcName → Option Value} {news : Led}
    {R : Result → Shared → Prop} {name qual : Str} {params : Arguments} {body : List Stmt} {scope : Scope} {dV kV doc pm cdv ct oc : Value} {an od : Option Addr} {osl : Array (Option Value)} {f : Addr} {args : Args} {binds : List (Str × Value)}
    (C : Cx w A₀ base outer loose mean mg mb h₀ L m news s.heap) (hA : A.frames = some (env :: outer)) (hf : env.frame = some L) (hke : env.scope.kind = .function)
    (ho : (hd.heap_39 w.params).lookup f = some ⟨oc, od, .func (fnOf name qual params body scope dV kV doc pm an cdv ct), osl⟩) (hcd : codeIn (hd.heap_39 w.params) cdv qual = true) (hroom : A.depth < recursionLimit)
    (hbind : BindsTo s (fnOf name qual params body scope dV kV doc pm an cdv ct) args binds) (hkind : (binds.all fun y => scope.names.lookup y.1 == some .local || scope.names.lookup y.1 == some .cell) = true) (hnd : ((cellsFrom 0 scope.names []).map (·.1)).Nodup)
    (h : ∀ g L' h₁ tk cells, Fr h₀ L g m → Fr g L' h₁ (bindL (envOfC qual scope L' f cdv).kindOf binds fun _ => none) → News g L' h₁ (cells ++ news) → CellsAre (bindC (envOfC qual scope L' f cdv).kindOf binds fun _ => none) (cellsFrom (L' + 1) scope.names []) cells → (∀ p ∈ news, p.1 < L') → Below A base (env :: outer) g → (hd.heap_39 w.params).In g → Top hd.view_39 loose mean mg mb g → KtsDicts ((env :: outer).filterMap (·.frame)) g → (hd.heap_39 w.params).In base → Top hd.view_39 loose mean mg mb base →
      ∀ (QQ : Flow → Shared → Prop) (RR : Result → Shared → Prop), (∀ fl s', LeaveS ((env :: outer).filterMap (·.frame)) A₀ base outer (hd.heap_39 w.params) hd.view_39 loose mean mg mb h₀ h₀ L m g R (match fl with | .ret v => v | _ => .none) s' → RetQ QQ fl s') → (∀ e s', R (.error e) s' → RetR RR (.error e) s') →
      wpAny (model Challenge.rw_ix0031_01.row.prog w) (A.deeper (envOfC qual scope L' f cdv)) (execs body (envOfC qual scope L' f cdv)) (RetQ QQ) (fun e s' => wpAny (model Challenge.rw_ix0031_01.row.prog w) (A.deeper (envOfC qual scope L' f cdv)) (leaving (envOfC qual scope L' f cdv) e) (fun _ s'' => RetR RR (.error e) s'') (fun e' s'' => RetR RR (.error e') s'') s') { s with heap := h₁, toks := tk })
    (hco : scope.isCoroutine = false) (hgen : scope.isGenerator = false) (hk : scope.kind = .function) : codeAny (model Challenge.rw_ix0031_01.row.prog w) A (.call (.ref f) args) R s :=
  enterC C hA hf hke ho hcd hroom hbind hkind hnd (fun g L' h₁ tk cells x1 x2 x3 x4 x5 x6 x7 x8 x9 x10 x11 => h g L' h₁ tk cells x1 x2 x3 x4 x5 x6 x7 x8 x9 x10 x11 _ R (fun _ _ x => x) (fun _ _ x => x)) hco hgen hk
theorem sub_len {α : Type} [DecidableEq α] : ∀ {l₁ l₂ : List α}, l₁.Nodup → (∀ a ∈ l₁, a ∈ l₂) → l₁.length ≤ l₂.length
  | [], _, _, _ => Nat.zero_le _
  | a :: l₁, l₂, hn, h => by
    simp only [List.nodup_cons] at hn
    have ha := h a (.head _)
    have := sub_len (l₂ := l₂.erase a) hn.2 fun b hb => (List.mem_erase_of_ne (fun (e : b = a) => hn.1 (e ▸ hb))).mpr (h b (.tail _ hb))
    rw [List.length_erase_of_mem ha] at this
    have hp : 0 < l₂.length := List.length_pos_of_mem ha
    simp only [List.length_cons]
    omega
theorem sub_back {α : Type} [DecidableEq α] {l₁ l₂ : List α} (hn : l₁.Nodup) (h : ∀ a ∈ l₁, a ∈ l₂) (hl : l₂.length ≤ l₁.length) : ∀ b ∈ l₂, b ∈ l₁ := fun b hb => by
  by_cases e : b ∈ l₁
  · exact e
  · have := sub_len (l₁ := b :: l₁) (l₂ := l₂) (by simp [e, hn]) (fun a ha => by
      rcases List.mem_cons.mp ha with rfl | ha
      · exact hb
      · exact h a ha)
    simp only [List.length_cons] at this
    omega
theorem look_mem {α : Type} {σ : List (Int × α)} {k : Int} {r : α} (h : look σ k = some r) : (k, r) ∈ σ := by
  induction σ with
  | nil => cases h
  | cons p σ ih =>
    obtain ⟨j, q⟩ := p
    rw [look_cons] at h
    by_cases e : j = k
    · rw [if_pos e] at h; cases h; subst e; exact .head _
    · rw [if_neg e] at h; exact .tail _ (ih h)
theorem look_of_mem {α : Type} {σ : List (Int × α)} {k : Int} {r : α} (hn : (σ.map (·.1)).Nodup) (h : (k, r) ∈ σ) : look σ k = some r := by
  induction σ with
  | nil => cases h
  | cons p σ ih =>
    obtain ⟨j, q⟩ := p
    simp only [List.map_cons, List.nodup_cons] at hn
    rw [look_cons]
    rcases List.mem_cons.mp h with e | e
    · cases e; rw [if_pos rfl]
    · have : j ≠ k := fun z => hn.1 (z ▸ List.mem_map_of_mem (f := fun p : Int × α => p.1) e)
      rw [if_neg this]; exact ih hn.2 e
theorem look_some_key {α : Type} {σ : List (Int × α)} {k : Int} : k ∈ σ.map (·.1) ↔ ∃ r, look σ k = some r := by
  constructor
  · intro h
    cases q : look σ k with
    | some r => exact ⟨r, rfl⟩
    | none =>
      (refine hide fun G__ k__ => ?_; obtain ⟨p, hp, rfl⟩ := List.mem_map.mp h; refine k__ ?_; clear k__ G__)
      have := look_none_any q
      rw [List.any_eq_false] at this
      exact absurd (decide_eq_true (p := p.1 = p.1) rfl) (this p hp)
  · rintro ⟨r, h⟩
    exact List.mem_map_of_mem (f := fun p : Int × α => p.1) (look_mem h)
theorem same_looks {α : Type} {σ σ' : List (Int × α)} (hn : (σ.map (·.1)).Nodup) (hn' : (σ'.map (·.1)).Nodup) : (σ.length = σ'.length ∧ ∀ p ∈ σ, look σ' p.1 = some p.2) ↔ ∀ k, look σ k = look σ' k := by
  constructor
  · rintro ⟨hl, h⟩ k
    cases q : look σ k with
    | some r => exact (h _ (look_mem q)).symm
    | none =>
      cases q' : look σ' k with
      | none => rfl
      | some r =>
        have hk := look_some_key.mpr ⟨r, q'⟩
        have hs := sub_back hn (fun a ha => by
          (refine hide fun G__ k__ => ?_; obtain ⟨p, hp, rfl⟩ := List.mem_map.mp ha; refine k__ ?_; clear k__ G__)
          exact look_some_key.mpr ⟨_, h p hp⟩) (by simp [hl]) k hk
        obtain ⟨r', e⟩ := look_some_key.mp hs
        rw [q] at e; cases e
  · intro h
    refine ⟨Nat.le_antisymm ?_ ?_, fun p hp => ?_⟩
    · have := sub_len hn (l₂ := σ'.map (·.1)) fun a ha => by
        obtain ⟨r, e⟩ := look_some_key.mp ha
        exact look_some_key.mpr ⟨r, (h a).symm.trans e⟩
      simpa using this
    · have := sub_len hn' (l₂ := σ.map (·.1)) fun a ha => by
        obtain ⟨r, e⟩ := look_some_key.mp ha
        exact look_some_key.mpr ⟨r, (h a).trans e⟩
      simpa using this
    · rw [← h]; exact look_of_mem hn hp
theorem RowV.inj {r r' : Row} {vs : List Value} (h : RowV r vs) : RowV r' vs → r = r' := by
  induction h generalizing r' with
  | nil => intro h'; cases h'; rfl
  | cons hv _ ih =>
    intro h'
    cases h' with
    | cons hv' h' =>
      rw [ih h']
      cases hv <;> cases hv' <;> rfl
theorem ov_eq {A : Around} {s : Shared} {r r' : Option Int} {v v' : Value} (h : OV r v) (h' : OV r' v') : SeqAt.EqAt A s v v' (decide (r = r')) := by
  cases h with
  | none =>
    cases h' with
    | none => exact SeqAt.EqAt.same _
    | int => exact SeqAt.EqAt.none_int _ _
  | @int i t =>
    cases h' with
    | none => exact SeqAt.EqAt.int_none _ _
    | @int j u =>
      have e : decide (some i = some j) = (i == j) := by
        by_cases q : i = j <;> simp [q]
      rw [e]
      exact SeqAt.EqAt.int_int _ _ _ _
theorem RowV.get {row : Row} {vs : List Value} (h : RowV row vs) : ∀ (j : Nat) (hj : j < vs.length), ∃ r, row[j]? = some r ∧ OV r vs[j] := by
  induction h with
  | nil => intro j hj; simp at hj
  | @cons r rs v vs hv _ ih =>
    intro j hj
    cases j with
    | zero => exact ⟨r, by simp, by simpa using hv⟩
    | succ j =>
      (refine hide fun G__ k__ => ?_; obtain ⟨r', h1, h2⟩ := ih j (by simpa using hj); refine k__ ?_; clear k__ G__)
      exact ⟨r', by simpa using h1, by simpa using h2⟩
theorem row_eq {A : Around} {s : Shared} {g : Heap} {L a b : Addr} {big : Led} {row row' : Row} {vs vs' : List Value} {n n' : Nat} (N : News g L s.heap big) (ha : (a, W.listOf vs.toArray n) ∈ big) (hb : (b, W.listOf vs'.toArray n') ∈ big) (hr : RowV row vs) (hr' : RowV row' vs') (hu : A.units < cLine) :
    SeqAt.EqAt A s (.ref a) (.ref b) (decide (row = row')) := by
  by_cases e : a = b
  · subst e
    have q := led_eq N ha hb
    have q2 : vs = vs' := by
      have h1 : Data.seq vs.toArray n = Data.seq vs'.toArray n' := congrArg Obj.data q
      have h2 : vs.toArray = vs'.toArray := (Data.seq.inj h1).1
      simpa using h2
    subst q2
    have q3 := hr.inj hr'
    subst q3
    simpa using SeqAt.EqAt.same (A := A) (s := s) (.ref a)
  · have hl : s.heap.IsList a vs.toArray := ⟨_, (N _ ha).1, rfl, n, rfl⟩
    have hl' : s.heap.IsList b vs'.toArray := ⟨_, (N _ hb).1, rfl, n', rfl⟩
    by_cases hz : vs.length = vs'.length
    · have := SeqAt.RcAt.lists (A := A) hl hl' (by simpa using hz) hu (e := fun j => decide (row[j]? = row'[j]?)) (fun j h1 h2 => by
        (refine hide fun G__ k__ => ?_; obtain ⟨r, e1, e2⟩ := hr.get j (by simpa using h1); refine k__ ?_; clear k__ G__)
        (refine hide fun G__ k__ => ?_; obtain ⟨r', e3, e4⟩ := hr'.get j (by simpa using h2); refine k__ ?_; clear k__ G__)
        have := ov_eq (A := A.in1) (s := s) e2 e4
        have z : decide (row[j]? = row'[j]?) = decide (r = r') := by rw [e1, e3]; simp
        rw [z]
        simpa using this)
      have z : (List.range vs.toArray.size).all (fun j => decide (row[j]? = row'[j]?)) = decide (row = row') := by
        rw [Bool.eq_iff_iff]
        simp only [List.all_eq_true, List.mem_range, decide_eq_true_eq, List.size_toArray]
        constructor
        · intro h
          refine List.ext_getElem? fun j => ?_
          by_cases q : j < vs.length
          · exact h j q
          · rw [List.getElem?_eq_none (by rw [← hr.length]; omega), List.getElem?_eq_none (by rw [← hr'.length]; omega)]
        · rintro rfl j _; rfl
      rw [z] at this
      exact SeqAt.EqAt.of_refs e this
    · have : decide (row = row') = false := by
        refine decide_eq_false fun q => hz ?_
        rw [hr.length, hr'.length, q]
      rw [this]
      exact SeqAt.EqAt.of_refs e (SeqAt.RcAt.lists_lengths hl hl' (by simpa using hz) hu)
theorem row_hits {A : Around} {s : Shared} {g : Heap} {L : Addr} {big : Led} {σ σ' : Sgs} {kvs kvs' : List (Int × Value)} {ls ls' : Led} (N : News g L s.heap big) (H : ListsL σ kvs ls) (hs : ∀ p ∈ ls, p ∈ big) (H' : ListsL σ' kvs' ls') (hs' : ∀ p ∈ ls', p ∈ big) (hu : A.units < cLine) :
    ∃ r, KeqHits A s kvs' kvs r ∧ (r = true ↔ ∀ p ∈ σ, look σ' p.1 = some p.2) := by
  induction H with
  | nil => exact ⟨true, .nil, by simp⟩
  | @cons k row o a σ kvs ls ho _ ih =>
    (refine hide fun G__ k__ => ?_; obtain ⟨r, h1, h2⟩ := ih fun p hp => hs p (.tail _ hp); refine k__ ?_; clear k__ G__)
    cases q : look σ' k with
    | none =>
      refine ⟨false, .miss (H'.look_none q), ?_⟩
      constructor
      · intro h; cases h
      · intro h
        have := h _ (.head _)
        rw [q] at this; cases this
    | some row' =>
      (refine hide fun G__ k__ => ?_; obtain ⟨b, ob, e1, e2, vs', n', rfl, hr'⟩ := H'.look_some q; refine k__ ?_; clear k__ G__)
      obtain ⟨vs, n, rfl, hr⟩ := ho
      refine ⟨_, .hit e1 (row_eq N (hs _ (.head _)) (hs' _ e2) hr hr' hu) h1, ?_⟩
      rw [Bool.and_eq_true, h2, decide_eq_true_eq]
      constructor
      · rintro ⟨rfl, h⟩ p hp
        rcases List.mem_cons.mp hp with rfl | hp
        · exact q
        · exact h p hp
      · intro h
        have := h _ (.head _)
        rw [q] at this
        exact ⟨(Option.some.inj this).symm, fun p hp => h p (.tail _ hp)⟩
theorem dicts_eq {w : World} {A : Around} {E Q : Value → Shared → Prop} {s : Shared} {g : Heap} {L d d' : Addr} {big : Led} {σ σ' : Sgs} {od od' : Obj} {kvs kvs' : List (Int × Value)} {ls ls' : Led} (N : News g L s.heap big) (H : DicL w d σ big od kvs ls) (H' : DicL w d' σ' big od' kvs' ls') (hu : A.units + 1 < cLine)
    (h : ∀ b : Bool, (b = true ↔ ∀ k, look σ k = look σ' k) → Q (.bool b) s) : wpAny (model Challenge.rw_ix0031_01.row.prog w) A (compareOp .Eq (.ref d) (.ref d')) Q E s := by
  (refine hide fun G__ k__ => ?_; obtain ⟨r, h1, h2⟩ := row_hits (A := A.in1) N H.lists H.lsin H'.lists H'.lsin hu; refine k__ ?_; clear k__ G__)
  refine keq_eq (knd := intKind Challenge.rw_ix0031_01.row.prog w) H.low H'.low (H.at N) (H'.at N) (by omega) (fun _ => h1) (h _ ?_)
  have e1 : kvs.length = σ.length := by simpa using congrArg List.length H.lists.keys
  have e2 : kvs'.length = σ'.length := by simpa using congrArg List.length H'.lists.keys
  rw [Bool.and_eq_true, h2, e1, e2, beq_iff_eq]
  exact same_looks H.keysNd H'.keysNd
noncomputable def codes : List Int := [1, 4, 5, 3, 6, 8, 2, 0, 9, 255]
noncomputable def values : List Int := [0, 1, 2, -1, 100, 4096, 16383, 16384, 16777215, 16777216, 65535, 2147483647, 2147483648, 4294967295]
inductive IntsV : List Int → List Value → Prop
  | nil : IntsV [] []
  | cons {i : Int} {t : Tok} {is : List Int} {vs : List Value} : IntsV is vs → IntsV (i :: is) (.int i t :: vs)
theorem IntsV.at {is : List Int} {vs : List Value} (h : IntsV is vs) : ∀ {j : Nat} {i : Int}, is[j]? = some i → ∃ t, vs[j]? = some (.int i t) := by
  induction h with
  | nil => intro j i e; simp at e
  | @cons i₀ t is vs _ ih =>
    intro j i e
    cases j with
    | zero => simp only [List.getElem?_cons_zero, Option.some.injEq] at e; subst e; exact ⟨t, rfl⟩
    | succ j => simp only [List.getElem?_cons_succ] at e ⊢; exact ih e
inductive NewList (ns : List Int) (v : Value) (news n' : Led) : Prop
  | mk : ∀ l vs nn, (v = .ref l) → ((l, W.listOf (List.toArray vs) nn) ∈ n') → (IntsV ns vs) → ((∀ p ∈ news, p ∈ n')) → (∀ p ∈ news, p.1 < l) → NewList ns v news n'
theorem words_T17_1 : True := by
  k_with "@ktr_rel" => (guard_hyp hT17_1; (exact ⟨_, _, _, rfl, .head _, by repeat (first | exact .nil | refine .cons ?_), fun p hp => .tail _ hp, by assumption⟩))
  trivial
set_option maxRecDepth 100000 in
set_option maxHeartbeats 4000000 in
theorem c_codes (w : World) (news : Led) : Spec w (.ref 357) [] [] 1 news (fun v n' => NewList codes v news n') := by
  have hT17_1 := trivial; have g0 := trivial; have g1 := trivial
  intro dp un gd env outer A₀ base h₀ L m mg mb loose mean s Q E C hf hke hdp hun hret
  have X := C.X
  revert X; k_fill; intro X
  tb_start
  k_steps
  all_goals tb_rel
set_option maxRecDepth 100000 in
set_option maxHeartbeats 4000000 in
theorem c_values (w : World) (news : Led) : Spec w (.ref 364) [] [] 1 news (fun v n' => NewList values v news n') := by
  have hT17_1 := trivial; have g0 := trivial; have g1 := trivial
  intro dp un gd env outer A₀ base h₀ L m mg mb loose mean s Q E C hf hke hdp hun hret
  have X := C.X
  revert X; k_fill; intro X
  tb_start
  k_steps
  all_goals tb_rel
noncomputable def SeamEnd (w : World) (A₀ : Around) (base : Heap) (outer : List Env) (loose : List Str) (mean : ExcName → Option Value) (mg mb : Str → Option Value) (h₀ : Heap) (g₀ : Array GenState) (L : Addr) (s₁ : Shared) (J : (Str → Option Value) → Led → Array GenState → Prop) (f : Flow) (s₄ : Shared) : Prop :=
  match f with
  | .next => EndC w A₀ base outer loose mean mg mb h₀ g₀ L s₁ J s₄
  | _ => False
section
variable {w : World} {A A₀ : Around} {base h₀ h00 : Heap} {outer : List Env} {loose : List Str} {mean : ExcName → Option Value} {mg mb : Str → Option Value} {L : Addr} {m : Str → Option Value} {news : Led} {s s₁ : Shared} {Q : Flow → Shared → Prop} {E : Value → Shared → Prop} {env : Env} {st : Stmt} {rest : List Stmt} {g00 : Array GenState}
theorem seam (J : (Str → Option Value) → Led → Array GenState → Prop) (h1 : wpAny (model Challenge.rw_ix0031_01.row.prog w) A (exec st env) (SeamEnd w A₀ base outer loose mean mg mb h00 g00 L s₁ J) E s)
    (h2 : ∀ m₁ n₁ h₁ gn tk g₁, J m₁ n₁ gn → KtsTurn (outer.filterMap (·.frame)) h00 g₁ → GRel g00 gn → Cx w A₀ base outer loose mean mg mb g₁ L m₁ n₁ h₁ → wpAny (model Challenge.rw_ix0031_01.row.prog w) A (execs rest env) Q E { s₁ with heap := h₁, gens := gn, toks := tk }) :
    wpAny (model Challenge.rw_ix0031_01.row.prog w) A (execs (st :: rest) env) Q E s := by
  refine wpAny_execs_cons (wpAny_mono h1 (fun f s₄ h₄ => ?_) fun _ _ e => e)
  cases f with
  | next =>
    (refine hide fun G__ k__ => ?_; obtain ⟨h', gn', tk', m', news', h₀', rfl, T, G, C, hJ⟩ := h₄; refine k__ ?_; clear k__ G__)
    exact h2 m' news' h' gn' tk' h₀' hJ T G C
  | cont => exact h₄.elim
  | brk => exact h₄.elim
  | ret v => exact h₄.elim
end
theorem ov_ne {prog : Program} {w : World} {A : Around} {E Q : Value → Shared → Prop} {s : Shared} {r r' : Option Int} {v v' : Value} (h : OV r v) (h' : OV r' v') (hq : Q (.bool (!decide (r = r'))) s) : wpAny (model prog w) A (compareOp .NotEq v v') Q E s := by
  cases h with
  | none =>
    cases h' with
    | none => exact EqNone.ne_none_none hq
    | int => exact EqNone.ne_none_int hq
  | @int i t =>
    cases h' with
    | none => exact EqNone.ne_int_none hq
    | @int j u =>
      refine PyProof.Rows.ne_int ?_
      have e : (!decide (some i = some j)) = (i != j) := by
        by_cases q : i = j <;> simp [q]
      rw [← e]; exact hq
theorem IntsV.snoc {is : List Int} {vs : List Value} (h : IntsV is vs) (i : Int) (t : Tok) : IntsV (is ++ [i]) (vs ++ [.int i t]) := by
  induction h with
  | nil => exact .cons .nil
  | cons _ ih => exact .cons ih
theorem IntsV.are {is : List Int} {vs : List Value} (h : IntsV is vs) : IntsAre vs is := by
  induction h with
  | nil => exact .nil
  | cons _ ih => exact .cons _ _ ih
theorem IntsV.of {is : List Int} {vs : List Value} (h : IntsAre vs is) : IntsV is vs := by
  induction h with
  | nil => exact .nil
  | cons _ _ _ ih => exact .cons ih
theorem IntsV.row {is : List Int} {vs : List Value} (h : IntsV is vs) : RowV (is.map some) vs := by
  induction h with
  | nil => exact .nil
  | cons _ ih => exact .cons .int ih
theorem IntsV.len {is : List Int} {vs : List Value} (h : IntsV is vs) : vs.length = is.length := by
  induction h with
  | nil => rfl
  | cons _ ih => simp [ih]
noncomputable def KeyY (p : Int → Bool) (ks : List Int) (i : Nat) (ys : List Value) (_ : Led) : Prop := IntsV ((ks.take i).filter p) ys
theorem KeyY.start (p : Int → Bool) (ks : List Int) (n : Led) : KeyY p ks 0 [] n := by unfold KeyY; simpa using IntsV.nil
theorem KeyY.keep (p : Int → Bool) (ks : List Int) : TupM (KeyY p ks) := fun _ _ _ _ h _ => h
theorem KeyY.yes {p : Int → Bool} {ks : List Int} {i : Nat} {ys : List Value} {n n' : Led} {k : Int} {t : Tok} (h : KeyY p ks i ys n) (hk : ks[i]? = some k) (hp : p k = true) : KeyY p ks (i + 1) (ys ++ [.int k t]) n' := by
  unfold KeyY at *
  rw [List.take_add_one, hk, List.filter_append]
  simp only [Option.toList_some, List.filter_cons, hp, if_true, List.filter_nil]
  exact IntsV.snoc h k t
theorem KeyY.no {p : Int → Bool} {ks : List Int} {i : Nat} {ys : List Value} {n n' : Led} {k : Int} (h : KeyY p ks i ys n) (hk : ks[i]? = some k) (hp : p k = false) : KeyY p ks (i + 1) ys n' := by
  unfold KeyY at *
  rw [List.take_add_one, hk, List.filter_append]
  simp only [Option.toList_some, List.filter_cons, hp, List.filter_nil]
  simpa using h
theorem KeyY.all {p : Int → Bool} {ks : List Int} {i : Nat} {ys : List Value} {n : Led} (h : KeyY p ks i ys n) (hi : ks.length ≤ i) : IntsV (ks.filter p) ys := by
  unfold KeyY at h
  rwa [List.take_of_length_le hi] at h
section
variable {prog : Program} {w : World} {A : Around} {E Q : Value → Shared → Prop} {s : Shared} {h₀ : Heap} {L l l' : Addr} {m : Str → Option Value} {news : Led} {vs vs' : List Value} {ns ns' : List Int} {n n' : Nat}
theorem sorted_ints (F : Fr h₀ L s.heap m) (N : News h₀ L s.heap news) (hm : (l, W.listOf vs.toArray n) ∈ news) (hi : IntsV ns vs) (h64 : ns.length < 64)
    (h : ∀ D vs' ns' c h', Fr h₀ L h' m → News h₀ L h' ((D, W.listOf vs'.toArray c) :: news) → (∀ q ∈ news, q.1 < D) → IntsV ns' vs' → ns'.Perm ns → ns'.Pairwise (· ≤ ·) → Q (.ref D) { s with heap := h' }) :
    wpAny (model prog w) A (call (.builtin "sorted") [.ref l]) Q E s :=
  kso_sorted F N ⟨_, (N _ hm).1, rfl, n, rfl⟩ hi.are h64 fun D vs' ns' c h' F' N' l1 a _ p o _ => h D vs' ns' c h' F' N' l1 (.of a) p o
theorem ints_eq (N : News h₀ L s.heap news) (hm : (l, W.listOf vs.toArray n) ∈ news) (hm' : (l', W.listOf vs'.toArray n') ∈ news) (hi : IntsV ns vs) (hi' : IntsV ns' vs') (hu : A.units < cLine) (hne : l ≠ l') (h : Q (.bool (decide (ns = ns'))) s) :
    wpAny (model prog w) A (compareOp .Eq (.ref l) (.ref l')) Q E s := by
  have hl : s.heap.IsList l vs.toArray := ⟨_, (N _ hm).1, rfl, n, rfl⟩
  have hl' : s.heap.IsList l' vs'.toArray := ⟨_, (N _ hm').1, rfl, n', rfl⟩
  have rc : SeqAt.RcAt A s (.ref l) (.ref l') (decide (ns = ns')) := by
    by_cases hz : vs.length = vs'.length
    · have := SeqAt.RcAt.lists (A := A) hl hl' (by simpa using hz) hu (e := fun j => decide (ns[j]? = ns'[j]?)) (fun j h1 h2 => by
        obtain ⟨r, e1, e2⟩ := hi.row.get j (by simpa using h1)
        obtain ⟨r', e3, e4⟩ := hi'.row.get j (by simpa using h2)
        have := ov_eq (A := A.in1) (s := s) e2 e4
        have z : decide (ns[j]? = ns'[j]?) = decide (r = r') := by
          rw [List.getElem?_map] at e1 e3
          cases q1 : ns[j]? with
          | none => rw [q1] at e1; cases e1
          | some a =>
            cases q2 : ns'[j]? with
            | none => rw [q2] at e3; cases e3
            | some b =>
              rw [q1] at e1; rw [q2] at e3
              simp only [Option.map_some, Option.some.injEq] at e1 e3
              subst e1; subst e3; rfl
        rw [z]
        simpa using this)
      have z : (List.range vs.toArray.size).all (fun j => decide (ns[j]? = ns'[j]?)) = decide (ns = ns') := by
        rw [Bool.eq_iff_iff]
        simp only [List.all_eq_true, List.mem_range, decide_eq_true_eq, List.size_toArray]
        constructor
        · intro h
          refine List.ext_getElem? fun j => ?_
          by_cases q : j < vs.length
          · exact h j q
          · rw [List.getElem?_eq_none (by rw [← hi.len]; omega), List.getElem?_eq_none (by rw [← hi'.len]; omega)]
        · rintro rfl j _; rfl
      rw [z] at this
      exact this
    · have : decide (ns = ns') = false := by
        refine decide_eq_false fun q => hz ?_
        rw [hi.len, hi'.len, q]
      rw [this]
      exact SeqAt.RcAt.lists_lengths hl hl' (by simpa using hz) hu
  exact EqBoolInt.of_rc rc h
end
theorem perm_keys {a b : List Int} (ha : a.Nodup) (hb : b.Nodup) (h : ∀ k, k ∈ a ↔ k ∈ b) : a.Perm b := (List.perm_ext_iff_of_nodup ha hb).mpr h
theorem sorted_same {a b a' b' : List Int} (p : a.Perm b) (pa : a'.Perm a) (pb : b'.Perm b) (oa : a'.Pairwise (· ≤ ·)) (ob : b'.Pairwise (· ≤ ·)) : a' = b' := ksm_same (pa.trans (p.trans pb.symm)) oa ob
theorem under_cls {dp un : Nat} {gd : Option (List Code)} {env : Env} {outer : List Env} {C : Addr} {pos : List Value} {kw : List (Str × Value)} : (kA dp un gd env outer).under (.builtin "type.__call__" ⟨.ref C :: pos, kw⟩) = kA (dp + 1) (un + 1) gd env outer := by
  have h1 : (Code.builtin "type.__call__" ⟨.ref C :: pos, kw⟩).weight = 1 := by rfl
  have h2 : (Code.builtin "type.__call__" ⟨.ref C :: pos, kw⟩).envs = [] := by rfl
  have h3 : (Code.builtin "type.__call__" ⟨.ref C :: pos, kw⟩).guards = [] := by rfl
  have h4 : (Code.builtin "type.__call__" ⟨.ref C :: pos, kw⟩).cUnits = 1 := by rfl
  simp only [Around.under, kA, h1, h2, h3, h4, pushEnvs, pushGuards]
theorem call_clsK {prog : Program} {w : World} {E : Value → Shared → Prop} {s : Shared} {K : Frag} {C L : Addr} {h₀ : Heap} {m : Str → Option Value} {news : Led} {Q : Value → Shared → Prop} {dp un : Nat} {gd : Option (List Code)} {env : Env} {outer : List Env}
    {pos : List Value} {kw : List (Str × Value)} {fI : Addr} (F : Fr h₀ L s.heap m) (X₀ : K.In h₀) (N : News h₀ L s.heap news) (hm : makesIn K C = true) (hi : findIn K (.ref C) "__init__" = some (some (.ref fI))) (hf : isFn K (.ref fI) = true)
    (h : ∀ x dx h', Fr h₀ L h' m → News h₀ L h' ((x, instObj C dx) :: (dx, dictOf [] 0) :: news) → (∀ p ∈ news, p.1 < dx) → dx < x →
      codeAny (model prog w) (kA (dp + 1) (un + 1) gd env outer) (.call (.ref fI) ⟨.ref x :: pos, kw⟩) (InitBack x fun r s' => match r with | .ok (.ret v) => Q v s' | .ok _ => False | .error e => E e s') { s with heap := h' }) :
    wpAny (model prog w) (kA dp un gd env outer) (call (.ref C) pos kw) Q E s := call_cls F X₀ N hm hi hf fun x dx h' F' N' l1 l2 => by rw [under_cls]; exact h x dx h' F' N' l1 l2
@[reducible] noncomputable def itO (d : Addr) (i n ep : Nat) (ok ov : Value) : Obj := { cls := .type "dict_itemiterator", dict := none, data := .fields #[.none, .bool false, .ref d, .int i 0, .int n 0, .int ep 0, ok, ov], slots := #[] }
@[reducible] noncomputable def viewO (d : Addr) : Obj := { cls := .type "dict_items", data := .fields #[.ref d] }
noncomputable def StI (I d : Addr) (od : Obj) (n ep : Nat) (i : Nat) (news : Led) : Prop := (∃ ok ov, (I, itO d i n ep ok ov) ∈ news) ∧ (d, od) ∈ news
theorem plainO_no {o : Obj} {n : String} (h : o.cls = .type n) (hn : (n == "list" || n == "dict" || n == "tuple" || n == "cell") = false) : plainO o = false := by
  unfold plainO; rw [h]; exact hn
section
variable {w : World} {A A₀ : Around} {base h₀ : Heap} {outer : List Env} {loose : List Str} {mean : ExcName → Option Value} {mg mb : Str → Option Value} {L : Addr} {m m' : Str → Option Value} {news : Led} {s s₁ : Shared} {Q : Flow → Shared → Prop} {E : Value → Shared → Prop} {env : Env} {body : List Stmt}
theorem items_method {d : Addr} {od : Obj} {kvs : List (Int × Value)} {pl : Sem Bool} {Q : Value × List Value → Shared → Prop} (N : News h₀ L s.heap news) (hm : (d, od) ∈ news) (hd : od.IsDictOf (intKind Challenge.rw_ix0031_01.row.prog w) kvs)
    (h : Q (.builtin "dict.items", [.ref d]) s) : wpAny (model Challenge.rw_ix0031_01.row.prog w) A (getMethod (.ref d) "items" pl) Q E s := by
  have hD := Heap.dictOf_iff.mpr ⟨od, (N _ hm).1, hd⟩
  exact getMethod_builtin hD.typeIs PySem.F.plainAttrs_dict PySem.F.slot_dict_items PySem.F.type_dict_items hD.mapOf.noDict h
theorem items_call {d : Addr} {od : Obj} {kvs : List (Int × Value)} {Q : Value → Shared → Prop} (F : Fr h₀ L s.heap m) (N : News h₀ L s.heap news) (hm : (d, od) ∈ news) (hd : od.IsDictOf (intKind Challenge.rw_ix0031_01.row.prog w) kvs) (lo : (d == sysModules) = false)
    (h : ∀ v h', Fr h₀ L h' m → News h₀ L h' ((v, viewO d) :: news) → (∀ p ∈ news, p.1 < v) → Q (.ref v) { s with heap := h' }) : wpAny (model Challenge.rw_ix0031_01.row.prog w) A (call (.builtin "dict.items") [.ref d]) Q E s := by
  have hD := Heap.dictOf_iff.mpr ⟨od, (N _ hm).1, hd⟩
  exact call_meetsIn PySem.F.slot_dict_items hD.typeIs PySem.F.entry_dict_items (PySem.F.args_dict_items_1 _) (meets_dict_items (intKind Challenge.rw_ix0031_01.row.prog w) d lo) ⟨⟨kvs, hD⟩, h _ _ (F.push _) (N.push F _) fun p hp => Heap.lt_size (N p hp).1⟩
theorem iter_itemsC {h00 : Heap} {g00 : Array GenState} (T00 : KtsTurn (outer.filterMap (·.frame)) h00 h₀) (G00 : GRel g00 s.gens) {v d : Addr} {od : Obj} {kvs : List (Int × Value)} {xk xv : Str} {pk pv pt : Pos} {x1} (C : Cx w A₀ base outer loose mean mg mb h₀ L m news s.heap) (hh : A.handled = none) (hv : (v, viewO d) ∈ news) (hm : (d, od) ∈ news) (hd : od.IsDictOf (intKind Challenge.rw_ix0031_01.row.prog w) kvs)
    (hL : env.locals = L) (hxk : env.kindOf xk = some .local) (hxv : env.kindOf xv = some .local) (hp : (env.scope.kind == .class || (env.scope.kind == .module && env.locals != env.globals)) = false)
    (J : Nat → (Str → Option Value) → Led → Prop) (h0 : J 0 m news) (Jm : ∀ lo, (∀ p ∈ news, (p.1 : Nat) < lo) → ∀ i m n n', J i m n → (∀ p ∈ n, Kept lo p → p ∈ n') → J i m n')
    (turn : ∀ I ep i k x t m₁ news₁ h tk gn h₀', kvs[i]? = some (k, x) → J i m₁ news₁ → StI I d od kvs.length ep (i + 1) news₁ → KtsTurn (outer.filterMap (·.frame)) h00 h₀' → GRel g00 gn → Cx w A₀ base outer loose mean mg mb h₀' L (fun y => if y = xv then some x else if y = xk then some (.int k t) else m₁ y) news₁ h →
      wpAny (model Challenge.rw_ix0031_01.row.prog w) A (execs body env) (LoopEnd w A₀ base outer loose mean mg mb h00 g00 L { s with heap := h, gens := gn, toks := tk } (fun m' n' _ => J (i + 1) m' n' ∧ StI I d od kvs.length ep (i + 1) n') Q) E { s with heap := h, gens := gn, toks := tk })
    (done : ∀ m₁ news₁ h tk gn h₀', J kvs.length m₁ news₁ → KtsTurn (outer.filterMap (·.frame)) h00 h₀' → GRel g00 gn → Cx w A₀ base outer loose mean mg mb h₀' L m₁ news₁ h → Q .next { s with heap := h, gens := gn, toks := tk }) :
    wpAny (model Challenge.rw_ix0031_01.row.prog w) A (pyIter (.ref v)) (fun it s₂ => LoopAtC w A env (.Tuple [.Name xk pk, .Name xv pv] x1 pt) body Q E it s₂) E s := by
  obtain ⟨ep, ha⟩ := KdkAt.of hd
  have hpl : plainO od = true := by obtain ⟨es, hx, _⟩ := ha; unfold plainO; rw [hx.1]; decide
  refine wpAny_pyIter_items (v := v) ⟨_, (C.N _ hv).1, rfl, rfl⟩ (ha.dictAt (C.N _ hm).1) ?_
  have hlt : ∀ p ∈ news, (p.1 : Nat) < s.heap.objs.size := fun p hp => Heap.lt_size (C.N p hp).1
  replace Jm := Jm _ hlt
  have hlo : s.heap.objs.size ≤ s.heap.objs.size := Nat.le_refl _
  revert hlo
  generalize hI : s.heap.objs.size = I at Jm
  intro hlo
  refine ⟨I, kvs.length, fun i s' => EndC w A₀ base outer loose mean mg mb h00 g00 L s (fun m' n' _ => StI I d od kvs.length ep i n' ∧ J i m' n') s', rfl,
    ⟨_, _, _, m, (I, itO d 0 kvs.length ep .none .none) :: news, h₀, rfl, T00, G00, ⟨C.B, C.F.push _, hI ▸ C.N.push C.F _, C.X, C.T, C.D, C.XB, C.TB⟩, ⟨⟨_, _, .head _⟩, .tail _ hm⟩, Jm _ _ _ _ h0 fun p hp _ => .tail _ hp⟩, ?_, ?_⟩
  · rintro i s' hi hZ__; (refine hide fun G__ k__ => ?_; obtain ⟨H, gn, tk, m₁, news₁, h₀', rfl, T, G, C', ⟨⟨ok, ov, hit⟩, hm'⟩, hJ⟩ := hZ__; refine k__ ?_; clear k__ G__)
    have hip : plainO (itO d i kvs.length ep ok ov) = false := plainO_no rfl (by decide)
    have hdi : d ≠ I := plain_ne C'.N hit hip hm' hpl
    have hiL : I ≠ L := (C'.N _ hit).2.1
    have hiH : I < H.objs.size := Heap.lt_size (C'.N _ hit).1
    refine wpAny_pyNext_items_item (knd := intKind Challenge.rw_ix0031_01.row.prog w) (k := kvs[i].1) (v := kvs[i].2) (C'.N _ hit).1 (ha.dictAt (C'.N _ hm').1) (by simp [hi]) fun key h₁ hkey heo ht₁ hz₁ hk₁ => ⟨_, rfl, ?_⟩
    obtain ⟨t, rfl⟩ := Value.isInt_shape hkey
    refine wpAny_letOwnedTupleGo_items heo fun h₂ he₂ hs₂ => ?_
    replace hs₂ : Heap.SameBut I h₁ h₂ := hs₂
    have ht₂ : h₂.IsTuple H.objs.size #[.int kvs[i].1 t, kvs[i].2] := ⟨_, (hs₂.2 _ (Nat.ne_of_gt hiH)).trans ht₁, rfl, _, rfl⟩
    have hz₂ : h₂.objs.size = H.objs.size + 1 := hs₂.1.trans hz₁
    refine wpAny_assign_Tuple hh ht₂ rfl rfl fun h₃ hx₃ => ?_
    replace hx₃ : Heap.ExtBut h₂.objs.size h₂ h₃ := hx₃
    have old₃ : ∀ b o, b < H.objs.size → h₂.get? b = some o → h₃.get? b = some o := fun b o hb x => hx₃ b o (by rw [hz₂]; exact Nat.ne_of_lt (Nat.lt_succ_of_lt hb)) x
    have up₃ : ∀ b o, b ≠ I → H.get? b = some o → h₃.get? b = some o := fun b o hb x => old₃ b o (Heap.lt_size x) (hs₂.extBut b o hb (hk₁ b o hb x))
    have F₃ : Fr h₀' L h₃ m₁ := ⟨C'.F.ns.at fun o x => up₃ _ o (Ne.symm hiL) x, fun b o e => up₃ b o (fun q => by rw [q, (C'.N _ hit).2.2] at e; cases e) (C'.F.keep b o e), C'.F.above⟩
    have N₃ : News h₀' L h₃ (wrL news₁ I (itO d (i + 1) kvs.length ep (.int kvs[i].1 t) kvs[i].2)) := fun p hp => by
      rcases wrL.back hp with rfl | ⟨q1, q2⟩
      · exact ⟨old₃ _ _ hiH he₂, (C'.N _ hit).2⟩
      · exact ⟨up₃ _ _ q2 (C'.N p q1).1, (C'.N p q1).2⟩
    show wpAny _ _ (do holding [kvs[i].2] (assign (.Name xk pk) env (.int kvs[i].1 t)); do holding [] (assign (.Name xv pv) env kvs[i].2); pure ()) _ _ _
    refine wpAny_bind (wpAny_holding (assign_local (A₀ := A₀) (base := base) (outer := outer) (loose := loose) (mean := mean) (mg := mg) (mb := mb) (h₀ := h₀') ⟨C'.B, F₃, N₃, C'.X, C'.T, C'.D, C'.XB, C'.TB⟩ hL hxk hp fun h₄ C₄ => ?_))
    refine wpAny_bind (wpAny_holding (assign_local C₄ hL hxv hp fun h₅ C₅ => wpAny_pure ?_))
    have hk : ∀ p ∈ news₁, Kept I p → p ∈ wrL news₁ I (itO d (i + 1) kvs.length ep (.int kvs[i].1 t) kvs[i].2) := fun p hm hq => wrL.keep hm (kept_ne C'.N hit hip (Nat.le_refl _) hm hq)
    refine wpAny_mono (turn I ep i kvs[i].1 kvs[i].2 t m₁ _ h₅ _ gn h₀' (by simp [hi]) (Jm _ _ _ _ hJ hk) ⟨⟨_, _, .head _⟩, hk _ hm' (.inl hpl)⟩ T G C₅) (fun f s₄ h₄ => ?_) fun _ _ e => e
    have fin : ∀ s₄, EndC w A₀ base outer loose mean mg mb h00 g00 L { s with heap := h₅, gens := gn, toks := tk + 1 + 1 } (fun m' n' g' => J (i + 1) m' n' ∧ StI I d od kvs.length ep (i + 1) n') s₄ → EndC w A₀ base outer loose mean mg mb h00 g00 L s (fun m' n' _ => StI I d od kvs.length ep (i + 1) n' ∧ J (i + 1) m' n') s₄ := by
      rintro s₄ hZ__; (refine hide fun G__ k__ => ?_; obtain ⟨h2, gn2, tk2, m2, n2, h02, rfl, T2, G2, C2, hJ2, hs2⟩ := hZ__; refine k__ ?_; clear k__ G__)
      exact ⟨h2, gn2, tk2, m2, n2, h02, rfl, T2, G2, C2, hs2, hJ2⟩
    cases f with
    | next => exact fin _ h₄
    | cont => exact fin _ h₄
    | brk => exact h₄
    | ret v => exact h₄
  · rintro s' hZ__; (refine hide fun G__ k__ => ?_; obtain ⟨H, gn, tk, m₁, news₁, h₀', rfl, T, G, C', ⟨⟨ok, ov, hit⟩, hm'⟩, hJ⟩ := hZ__; refine k__ ?_; clear k__ G__)
    have hip : plainO (itO d kvs.length kvs.length ep ok ov) = false := plainO_no rfl (by decide)
    refine wpAny_pyNext_items_end (knd := intKind Challenge.rw_ix0031_01.row.prog w) hh (C'.N _ hit).1 (ha.dictAt (C'.N _ hm').1) (by simp) fun h₁ hs => ⟨rfl, ?_⟩
    obtain ⟨F', N'⟩ := ext_news C'.F C'.N hit hs
    exact done m₁ _ h₁ tk gn h₀' (Jm _ _ _ _ hJ fun p hm hq => List.mem_filter.mpr ⟨hm, by simpa using kept_ne C'.N hit hip (Nat.le_refl _) hm hq⟩) T G ⟨C'.B, F', N', C'.X, C'.T, C'.D, C'.XB, C'.TB⟩
end
noncomputable def fault (code value : Int) : Int :=
  if code = 2 ∨ code = 8 then (if value = 0 ∨ value = 1 then 0 else 1)
  else if code = 4 then (if value < 0 ∨ 2147483647 < value then 3 else 0)
  else if code = 5 then (if value < 16384 ∨ 16777215 < value then 1 else 0)
  else if code = 6 ∧ value < 0 then 1 else 0
noncomputable def vfault (code value : Int) : Bool → Int
  | true => fault code value
  | false => if code = 2 ∧ value ≠ 0 then 1 else fault code value
theorem flt {k v : Int} (h1 : k ≠ 2) (h2 : k ≠ 8) : fault k v = (if k = 4 then (if v < 0 ∨ 2147483647 < v then 3 else 0) else if k = 5 then (if v < 16384 ∨ 16777215 < v then 1 else 0) else if k = 6 ∧ v < 0 then 1 else 0) := if_neg fun h => h.elim h1 h2
theorem fa0 {k v : Int} (h : k = 2 ∨ k = 8) (h2 : v = 0 ∨ v = 1) : 0 = fault k v := ((if_pos h).trans (if_pos h2)).symm
theorem fa1 {k v : Int} (h : k = 2 ∨ k = 8) (h2 : ¬ (v = 0 ∨ v = 1)) : 1 = fault k v := ((if_pos h).trans (if_neg h2)).symm
theorem f43 {v : Int} (h : v < 0 ∨ 2147483647 < v) : 3 = fault 4 v := (if_pos h : (if v < 0 ∨ 2147483647 < v then (3 : Int) else 0) = 3).symm
theorem f40 {v : Int} (h : ¬ (v < 0 ∨ 2147483647 < v)) : 0 = fault 4 v := (if_neg h : (if v < 0 ∨ 2147483647 < v then (3 : Int) else 0) = 0).symm
theorem f51 {v : Int} (h : v < 16384 ∨ 16777215 < v) : 1 = fault 5 v := (if_pos h : (if v < 16384 ∨ 16777215 < v then (1 : Int) else 0) = 1).symm
theorem f50 {v : Int} (h : ¬ (v < 16384 ∨ 16777215 < v)) : 0 = fault 5 v := (if_neg h : (if v < 16384 ∨ 16777215 < v then (1 : Int) else 0) = 0).symm
theorem f61 {v : Int} (h : v < 0) : 1 = fault 6 v := (if_pos ⟨rfl, h⟩ : (if (6 : Int) = 6 ∧ v < 0 then (1 : Int) else 0) = 1).symm
theorem f60 {v : Int} (h : ¬ v < 0) : 0 = fault 6 v := (if_neg (fun q => h q.2) : (if (6 : Int) = 6 ∧ v < 0 then (1 : Int) else 0) = 0).symm
theorem fn0 {k v : Int} (h2 : k ≠ 2) (h8 : k ≠ 8) (h4 : k ≠ 4) (h5 : k ≠ 5) (h6 : k ≠ 6) : 0 = fault k v := ((flt h2 h8).trans ((if_neg h4).trans ((if_neg h5).trans (if_neg fun q => h6 q.1)))).symm
theorem no01 {v : Int} (h : v ≠ 0 ∧ v ≠ 1) : ¬ (v = 0 ∨ v = 1) := fun q => q.elim h.1 h.2
theorem u1 {k v : Int} (h : ([2, 8].any fun x => x == k) = true) (h2 : v = 0) : 0 = fault k v := fa0 (any2t h) (.inl h2)
theorem u2 {k v : Int} (h : ([2, 8].any fun x => x == k) = true) (h2 : v = 1) : 0 = fault k v := fa0 (any2t h) (.inr h2)
theorem u3 {k v : Int} (h : ([2, 8].any fun x => x == k) = true) (h2 : v ≠ 0) (h3 : v ≠ 1) : 1 = fault k v := fa1 (any2t h) (no01 ⟨h2, h3⟩)
theorem u4 {k v : Int} (h : k = 4) (h2 : v < 0) : 3 = fault k v := by subst h; exact f43 (.inl h2)
theorem u5 {k v : Int} (h : k = 4) (h2 : 2 ^ Int.toNat 31 ≤ v) : 3 = fault k v := by subst h; exact f43 (.inr (Int.lt_of_lt_of_le (by decide) h2))
theorem u6 {k v : Int} (h : k = 4) (h1 : ¬ v < 0) (h2 : ¬ 2 ^ Int.toNat 31 ≤ v) : 0 = fault k v := by subst h; exact f40 fun q => q.elim h1 fun q => h2 (Int.add_one_le_of_lt q)
theorem u7 {k v : Int} (h : k = 5) (h2 : v < 2 ^ Int.toNat 14) : 1 = fault k v := by subst h; exact f51 (.inl h2)
theorem u8 {k v : Int} (h : k = 5) (h2 : 2 ^ Int.toNat 24 ≤ v) : 1 = fault k v := by subst h; exact f51 (.inr (Int.lt_of_lt_of_le (by decide) h2))
theorem u9 {k v : Int} (h : k = 5) (h1 : ¬ v < 2 ^ Int.toNat 14) (h2 : ¬ 2 ^ Int.toNat 24 ≤ v) : 0 = fault k v := by subst h; exact f50 fun q => q.elim h1 fun q => h2 (Int.add_one_le_of_lt q)
theorem u10 {k v : Int} (h : k = 6) (h2 : v < 0) : 1 = fault k v := by subst h; exact f61 h2
theorem u11 {k v : Int} (h : k = 6) (h2 : ¬ v < 0) : 0 = fault k v := by subst h; exact f60 h2
theorem u12 {k v : Int} (h : ([2, 8].any fun x => x == k) = false) (h4 : k ≠ 4) (h5 : k ≠ 5) (h6 : k ≠ 6) : 0 = fault k v := fn0 (any2f h).1 (any2f h).2 h4 h5 h6
theorem nlt {a b : Int} (h : a ≤ b) : ¬ b < a := fun q => absurd h (Int.not_le.mpr q)
theorem words_T3_1 : True := by
  k_with "@ktr_rel" => (guard_hyp hT3_1; ((refine ⟨_, _, rfl, ?_⟩; (first | exact u1 (by assumption) (by assumption) | exact u2 (by assumption) (by assumption) | exact u3 (by assumption) (by assumption) (by assumption) | exact u4 (by assumption) (by assumption) | exact u5 (by assumption) (by assumption) | exact u7 (by assumption) (by assumption) | exact u8 (by assumption) (by assumption) | exact u10 (by assumption) (by assumption) | exact u11 (by assumption) (by assumption) | exact u6 (by assumption) (by assumption) (by assumption) | exact u9 (by assumption) (by assumption) (by assumption) | exact u12 (by assumption) (by assumption) (by assumption) (by assumption)))))
  trivial
set_option maxRecDepth 100000 in
set_option maxHeartbeats 4000000 in
theorem c_fault (w : World) (news : Led) (code value : Int) (tc tv : Tok) :
    SpecR w (.ref 371) [.int code tc, .int value tv] [] 1 news (fun v => ∃ r t, v = .int r t ∧ r = fault code value) := by
  have hT3_1 := trivial; have g0 := trivial
  intro dp un gd env outer A₀ base h₀ L m mg mb loose mean s Q E C hf hke hdp hun hret
  have X := C.X
  revert X; k_fill; intro X
  tb_start
  k_steps
  all_goals kwd_rel
noncomputable def cvOf : Option Bool → Value
  | none => .none
  | some b => .bool b
noncomputable def vfaultO (code value : Int) : Option Bool → Int
  | some c => vfault code value c
  | none => fault code value
theorem vOf {k v : Int} {c : Option Bool} (h : ¬ (k = 2 ∧ v ≠ 0 ∧ (c == some false) = true)) : vfaultO k v c = fault k v := by
  have hT3_1 := trivial; have g0 := trivial
  match c with
  | none => rfl
  | some true => rfl
  | some false => exact if_neg fun q => h ⟨q.1, q.2, rfl⟩
theorem w1 {k v : Int} {c : Option Bool} (h : k = 2) (hc : (c == some false) = true) (h0 : v ≠ 0) : 1 = vfaultO k v c := by
  have hT3_1 := trivial; have g0 := trivial
  match c with
  | some false => exact (if_pos ⟨h, h0⟩ : (if k = 2 ∧ v ≠ 0 then (1 : Int) else fault k v) = 1).symm
theorem w2 {k v : Int} {c : Option Bool} (h : k = 2) (h2 : ([0, 1].any fun x => x == v) = true) (h0 : v = 0) : 0 = vfaultO k v c := (fa0 (.inl h) (any2t h2)).trans (vOf fun q => q.2.1 h0).symm
theorem w3 {k v : Int} {c : Option Bool} (h : k = 2) (h2 : ([0, 1].any fun x => x == v) = true) (hc : (c == some false) = false) : 0 = vfaultO k v c := (fa0 (.inl h) (any2t h2)).trans (vOf fun q => Bool.noConfusion (hc.symm.trans q.2.2)).symm
theorem w4 {k v : Int} {c : Option Bool} (h : k = 2) (h2 : ([0, 1].any fun x => x == v) = false) : 1 = vfaultO k v c := by
  have hT3_1 := trivial; have g0 := trivial
  match c with
  | none => exact fa1 (.inl h) (no01 (any2f h2))
  | some true => exact fa1 (.inl h) (no01 (any2f h2))
  | some false => exact w1 h rfl (any2f h2).1
theorem vO {k v r : Int} {c : Option Bool} (h : k ≠ 2) (e : r = fault k v) : r = vfaultO k v c := e.trans (vOf fun q => h q.1).symm
theorem n2 {k n : Int} (h : k = n) (hn : n ≠ 2) : k ≠ 2 := fun q => hn (h.symm.trans q)
theorem w5 {k v : Int} {c : Option Bool} (h : k = 4) (h1 : 0 ≤ v) (h2 : v ≤ 2147483647) : 0 = vfaultO k v c := vO (n2 h (by decide)) (by subst h; exact f40 fun q => q.elim (nlt h1) (nlt h2))
theorem w6 {k v : Int} {c : Option Bool} (h : k = 4) (h2 : ¬ v ≤ 2147483647) : 3 = vfaultO k v c := vO (n2 h (by decide)) (by subst h; exact f43 (.inr (Int.not_le.mp h2)))
theorem w7 {k v : Int} {c : Option Bool} (h : k = 4) (h1 : ¬ 0 ≤ v) : 3 = vfaultO k v c := vO (n2 h (by decide)) (by subst h; exact f43 (.inl (Int.not_le.mp h1)))
theorem w8 {k v : Int} {c : Option Bool} (h : k = 5) (h1 : 16384 ≤ v) (h2 : v ≤ 16777215) : 0 = vfaultO k v c := vO (n2 h (by decide)) (by subst h; exact f50 fun q => q.elim (nlt h1) (nlt h2))
theorem w9 {k v : Int} {c : Option Bool} (h : k = 5) (h2 : ¬ v ≤ 16777215) : 1 = vfaultO k v c := vO (n2 h (by decide)) (by subst h; exact f51 (.inr (Int.not_le.mp h2)))
theorem w10 {k v : Int} {c : Option Bool} (h : k = 5) (h1 : ¬ 16384 ≤ v) : 1 = vfaultO k v c := vO (n2 h (by decide)) (by subst h; exact f51 (.inl (Int.not_le.mp h1)))
theorem w11 {k v : Int} {c : Option Bool} (h : k = 6) (h1 : v < 0) : 1 = vfaultO k v c := vO (n2 h (by decide)) (u10 h h1)
theorem w12 {k v : Int} {c : Option Bool} (h : k = 6) (h1 : ¬ v < 0) : 0 = vfaultO k v c := vO (n2 h (by decide)) (u11 h h1)
theorem w13 {k v : Int} {c : Option Bool} (h : k = 8) (h2 : ([0, 1].any fun x => x == v) = true) : 0 = vfaultO k v c := vO (n2 h (by decide)) (fa0 (.inr h) (any2t h2))
theorem w14 {k v : Int} {c : Option Bool} (h : k = 8) (h2 : ([0, 1].any fun x => x == v) = false) : 1 = vfaultO k v c := vO (n2 h (by decide)) (fa1 (.inr h) (no01 (any2f h2)))
theorem w15 {k v : Int} {c : Option Bool} (h2 : k ≠ 2) (h4 : k ≠ 4) (h5 : k ≠ 5) (h6 : k ≠ 6) (h8 : k ≠ 8) : 0 = vfaultO k v c := vO h2 (fn0 h2 h8 h4 h5 h6)
theorem cv_is {prog : Program} {w : World} {A : Around} {E Q : Value → Shared → Prop} {s : Shared} {c : Option Bool} (hq : Q (.bool (c == some false)) s) : wpAny (model prog w) A (compareOp .Is (cvOf c) (.bool false)) Q E s := by
  have hT3_1 := trivial; have g0 := trivial
  cases c with
  | none => exact wpAny_is_other (by rfl) (by intro x; cases x) hq
  | some b => cases b <;> exact is_bool hq
theorem words_T3_2 : True := by
  k_with "@tb_start" => (guard_hyp hT3_2; ((refine wpAny_call ?_; have cF := Cx.F (by assumption); k_dflt (refine' enterG ?C_n ?kA_n ?kf_n ?kk_n ?k6_n ?k7_n ?k8_n ?k9_n ?kB_n ?_ ?c2_n ?c3_n ?c4_n ?c5_n; (case C_n => assumption); (case kA_n => exact rfl); (case kf_n => assumption); (case kk_n => assumption); (case k6_n => k_is); (case k7_n => k_is); (case k8_n => k_room); (case k9_n => first | exact hb _ _ _ (by k_is) rfl (by k_in) | exact BindsTo.of_eq rfl | exact binds_K (by k_in) rfl (by k_is) rfl rfl rfl | (refine' kp_binds ?kx_n ?ke_n; (case kx_n => k_in); (case ke_n => exact fun _ => rfl))); (case kB_n => exact locs rfl); (case c2_n => exact rfl); (case c3_n => exact rfl); (case c4_n => exact rfl); (case c5_n => decide); k_whole; intro g' L' h' FG' F' N' B' X' T' D' XB' TB' QQ RR hQQ hRR; (try dsimp only); (try k_lift B'); (try k_fold)))))
  k_with "compareOp Is" => (guard_hyp hT3_2; ((k_here; k_dflt (refine' cv_is ?_))))
  k_with "@ktr_rel" => (guard_hyp hT3_2; ((refine ⟨_, _, rfl, ?_⟩; (first | exact w1 (by assumption) (by assumption) (by assumption) | exact w2 (by assumption) (by assumption) (by assumption) | exact w3 (by assumption) (by assumption) (by assumption) | exact w4 (by assumption) (by assumption) | exact w6 (by assumption) (by assumption) | exact w7 (by assumption) (by assumption) | exact w9 (by assumption) (by assumption) | exact w10 (by assumption) (by assumption) | exact w11 (by assumption) (by assumption) | exact w12 (by assumption) (by assumption) | exact w13 (by assumption) (by assumption) | exact w14 (by assumption) (by assumption) | exact w5 (by assumption) (by assumption) (by assumption) | exact w8 (by assumption) (by assumption) (by assumption) | exact w15 (by assumption) (by assumption) (by assumption) (by assumption) (by assumption)))))
  trivial
set_option maxRecDepth 100000 in
set_option maxHeartbeats 4000000 in
theorem c_validG (w : World) (news : Led) (code value : Int) (tc tv : Tok) (c : Option Bool) (args : List Value) (kw : List (Str × Value)) (hb : ∀ (s : Shared) (o : Obj) (f : FuncData), (hd.heap_39 w.params).lookup 350 = some o → o.data = .func f → (hd.heap_39 w.params).In s.heap → BindsTo s f ⟨args, kw⟩ [(Str.ofString "setting", .int code tc), (Str.ofString "value", .int value tv), (Str.ofString "client", cvOf c)]) :
    SpecR w (.ref 350) args kw 1 news (fun v => ∃ r t, v = .int r t ∧ r = vfaultO code value c) := by
  have hT3_1 := trivial; have hT3_2 := trivial; have g0 := trivial
  intro dp un gd env outer A₀ base h₀ L m mg mb loose mean s Q E C hf hke hdp hun hret
  have X := C.X
  revert X; k_fill; intro X
  tb_start
  k_steps
  all_goals kwd_rel
theorem binds350 {K : Frag} {o : Obj} {s : Shared} {fd : FuncData} {args : Args} {b : List (Str × Value)} (hl : K.lookup 350 = some o) (ho : o.data = .func fd) (X : K.In s.heap) {o' : Obj} (hl' : K.lookup 350 = some o') (h : ∀ fd', o'.data = .func fd' → ∀ S, peek K S (bindArgs fd' args) = some b) : BindsTo s fd args b := by
  have hT3_1 := trivial; have hT3_2 := trivial; have g0 := trivial
  have e : o = o' := Option.some.inj (hl.symm.trans hl')
  subst e
  exact kp_binds X (h _ ho)
set_option maxRecDepth 100000 in
theorem c_valid (w : World) (news : Led) (code value : Int) (tc tv : Tok) :
    SpecR w (.ref 350) [.int code tc, .int value tv] [] 1 news (fun v => ∃ r t, v = .int r t ∧ r = fault code value) := by
  have hT3_1 := trivial; have hT3_2 := trivial; have g0 := trivial
  refine c_validG w news code value tc tv none _ _ fun s o f hl ho X => ?_
  revert hl ho X
  k_fill
  intro hl ho X
  refine binds350 hl ho X (by k_is) fun fd' e => ?_
  cases e
  exact fun _ => rfl
set_option maxRecDepth 100000 in
theorem c_validS (w : World) (news : Led) (code value : Int) (tc tv : Tok) (c : Bool) :
    SpecR w (.ref 350) [.int code tc, .int value tv] [(Str.ofString "client", .bool c)] 1 news (fun v => ∃ r t, v = .int r t ∧ r = vfault code value c) := by
  have hT3_1 := trivial; have hT3_2 := trivial; have g0 := trivial
  refine c_validG w news code value tc tv (some c) _ _ fun s o f hl ho X => ?_
  revert hl ho X
  k_fill
  intro hl ho X
  refine binds350 hl ho X (by k_is) fun fd' e => ?_
  cases e
  exact fun _ => rfl
noncomputable def defaults (c : Bool) : Sgs := [(1, [some 4096]), (2, [some (if c then 1 else 0)]), (4, [some 65535]), (5, [some 16384]), (8, [some 0])]
inductive NewSet (w : World) (c : Bool) (σ : Sgs) (v : Value) (news n' : Led) : Prop
  | mk : ∀ x dx d t1 t2 n od kvs ls, (v = .ref x) → (SetL w x c σ n' dx d t1 t2 n od kvs ls) → ((∀ p ∈ news, p ∈ n')) → (∀ p ∈ news, p.1 ≠ d ∧ p.1 ∉ ls.map (·.1)) → NewSet w c σ v news n'
theorem dic_of {w : World} {c : Bool} {n : Led} {d a1 a2 a3 a4 a5 : Addr} {od : Obj} {k1 k2 k3 k4 k5 : Tok} (hm : (d, od) ∈ n) (hd : od.IsDictOf (intKind Challenge.rw_ix0031_01.row.prog w) [(1, .ref a1), (2, .ref a2), (4, .ref a3), (5, .ref a4), (8, .ref a5)]) (lo : (d == sysModules) = false)
    (hs : ∀ p ∈ [(a1, W.listOf (List.toArray [.int 4096 k1]) 0), (a2, W.listOf (List.toArray [.int (if c = true then 1 else 0) k2]) 0), (a3, W.listOf (List.toArray [.int 65535 k3]) 0), (a4, W.listOf (List.toArray [.int 16384 k4]) 0), (a5, W.listOf (List.toArray [.int 0 k5]) 0)], p ∈ n) (nd : [a1, a2, a3, a4, a5].Nodup) :
    DicL w d (defaults c) n od [(1, .ref a1), (2, .ref a2), (4, .ref a3), (5, .ref a4), (8, .ref a5)] [(a1, W.listOf (List.toArray [.int 4096 k1]) 0), (a2, W.listOf (List.toArray [.int (if c = true then 1 else 0) k2]) 0), (a3, W.listOf (List.toArray [.int 65535 k3]) 0), (a4, W.listOf (List.toArray [.int 16384 k4]) 0), (a5, W.listOf (List.toArray [.int 0 k5]) 0)] := by
  have e : ∀ (k : Tok) (v : Int), RowObj [some v] (W.listOf (List.toArray [.int v k]) 0) := fun k v => ⟨_, _, rfl, .cons .int .nil⟩
  have key : ∀ p ∈ defaults c, p.2 ≠ [] ∧ p.2.length ≤ 1000 := by cases c <;> decide
  have mem : ∀ {σ : Sgs} {k : Int} {row : Row}, look σ k = some row → (k, row) ∈ σ := by
    intro σ
    induction σ with
    | nil => intro k row h; cases h
    | cons q r ih =>
      intro k row h
      obtain ⟨a, b⟩ := q
      rw [look_cons] at h
      by_cases z : a = k
      · rw [if_pos z] at h; cases h; cases z; exact .head _
      · rw [if_neg z] at h; exact .tail _ (ih h)
  exact ⟨hm, hd, .cons (e k1 _) (.cons (e k2 _) (.cons (e k3 _) (.cons (e k4 _) (.cons (e k5 _) .nil)))), hs, lo, fun k row h => (key _ (mem h)).1, nd, Nat.le_of_ble_eq_true rfl, fun k row h => (key _ (mem h)).2⟩
theorem nd5 {a1 a2 a3 a4 a5 : Addr} (h1 : a1 < a2) (h2 : a2 < a3) (h3 : a3 < a4) (h4 : a4 < a5) : [a1, a2, a3, a4, a5].Nodup := by
  have t := @Nat.lt_trans
  have ne : ∀ {a b : Nat}, a < b → ¬ a = b := fun h => Nat.ne_of_lt h
  simp only [List.nodup_cons, List.mem_cons, List.not_mem_nil, or_false, not_or, not_false_eq_true, List.nodup_nil, and_true]
  exact ⟨⟨ne h1, ne (t h1 h2), ne (t (t h1 h2) h3), ne (t (t (t h1 h2) h3) h4)⟩, ⟨ne h2, ne (t h2 h3), ne (t (t h2 h3) h4)⟩, ⟨ne h3, ne (t h3 h4)⟩, ne h4⟩
theorem set_of {w : World} {news : Led} {c : Bool} {x dx d a1 a2 a3 a4 a5 : Addr} {od : Obj} {k1 k2 k3 k4 k5 t1 t2 : Tok} {n : Nat}
    (hd : od.IsDictOf (intKind Challenge.rw_ix0031_01.row.prog w) [(1, .ref a1), (2, .ref a2), (4, .ref a3), (5, .ref a4), (8, .ref a5)]) (lo : (d == sysModules) = false) (_l : dx < x) (l0 : ∀ p ∈ news, p.1 < dx)
    (ld : x < d ∧ dx < d ∧ AllLt d news) (m1 : d < a1 ∧ x < a1 ∧ dx < a1 ∧ AllLt a1 news) (m2 : a1 < a2 ∧ d < a2 ∧ x < a2 ∧ dx < a2 ∧ AllLt a2 news) (m3 : a2 < a3 ∧ a1 < a3 ∧ d < a3 ∧ x < a3 ∧ dx < a3 ∧ AllLt a3 news)
    (m4 : a3 < a4 ∧ a2 < a4 ∧ a1 < a4 ∧ d < a4 ∧ x < a4 ∧ dx < a4 ∧ AllLt a4 news) (m5 : a4 < a5 ∧ a3 < a5 ∧ a2 < a5 ∧ a1 < a5 ∧ d < a5 ∧ x < a5 ∧ dx < a5 ∧ AllLt a5 news) :
    ∃ kvs ls, SetL w x c (defaults c) ((a5, W.listOf (List.toArray [.int 0 k5]) 0) :: (a4, W.listOf (List.toArray [.int 16384 k4]) 0) :: (a3, W.listOf (List.toArray [.int 65535 k3]) 0) :: (a2, W.listOf (List.toArray [.int (if c = true then 1 else 0) k2]) 0) :: (a1, W.listOf (List.toArray [.int 4096 k1]) 0) :: (d, od) :: (x, instObj 338 dx) ::
      (dx, dictOf [⟨PyData.keyHash w.params (Str.ofString "_client"), .str (Str.ofString "_client") t1, .bool c⟩, ⟨PyData.keyHash w.params (Str.ofString "_settings"), .str (Str.ofString "_settings") t2, .ref d⟩] n) :: news) dx d t1 t2 n od kvs ls ∧ ∀ p ∈ news, p.1 ≠ d ∧ p.1 ∉ ls.map (·.1) := by
  have fr : ∀ a : Nat, AllLt a news → ∀ p ∈ news, p.1 ≠ a := fun a h => all_ne_allLt h
  refine ⟨_, _, ⟨(by repeat' (first | exact List.Mem.head _ | refine List.Mem.tail _ ?_)), (by repeat' (first | exact List.Mem.head _ | refine List.Mem.tail _ ?_)), Nat.ne_of_lt ld.2.1, dic_of (k1 := k1) (k2 := k2) (k3 := k3) (k4 := k4) (k5 := k5) (by repeat' (first | exact List.Mem.head _ | refine List.Mem.tail _ ?_)) hd lo (fun p hp => ?_) (nd5 m2.1 m3.1 m4.1 m5.1)⟩, fun p hp => ?_⟩
  · simp only [List.mem_cons, List.not_mem_nil, or_false] at hp
    rcases hp with rfl | rfl | rfl | rfl | rfl <;> repeat' (first | exact List.Mem.head _ | refine List.Mem.tail _ ?_)
  · refine ⟨fr _ ld.2.2 p hp, ?_⟩
    simp only [List.map_cons, List.map_nil, List.mem_cons, List.not_mem_nil, or_false, not_or]
    exact ⟨fr _ m1.2.2.2 p hp, fr _ m2.2.2.2.2 p hp, fr _ m3.2.2.2.2.2 p hp, fr _ m4.2.2.2.2.2.2 p hp, fr _ m5.2.2.2.2.2.2.2 p hp⟩
theorem newset_of {w : World} {news : Led} {c : Bool} {x dx d a1 a2 a3 a4 a5 : Addr} {od : Obj} {k1 k2 k3 k4 k5 t1 t2 : Tok} {n : Nat}
    (hd : od.IsDictOf (intKind Challenge.rw_ix0031_01.row.prog w) [(1, .ref a1), (2, .ref a2), (4, .ref a3), (5, .ref a4), (8, .ref a5)]) (lo : (d == sysModules) = false) (_l : dx < x) (l0 : ∀ p ∈ news, p.1 < dx)
    (ld : x < d ∧ dx < d ∧ AllLt d news) (m1 : d < a1 ∧ x < a1 ∧ dx < a1 ∧ AllLt a1 news) (m2 : a1 < a2 ∧ d < a2 ∧ x < a2 ∧ dx < a2 ∧ AllLt a2 news) (m3 : a2 < a3 ∧ a1 < a3 ∧ d < a3 ∧ x < a3 ∧ dx < a3 ∧ AllLt a3 news)
    (m4 : a3 < a4 ∧ a2 < a4 ∧ a1 < a4 ∧ d < a4 ∧ x < a4 ∧ dx < a4 ∧ AllLt a4 news) (m5 : a4 < a5 ∧ a3 < a5 ∧ a2 < a5 ∧ a1 < a5 ∧ d < a5 ∧ x < a5 ∧ dx < a5 ∧ AllLt a5 news) :
    NewSet w c (defaults c) (.ref x) news ((a5, W.listOf (List.toArray [.int 0 k5]) 0) :: (a4, W.listOf (List.toArray [.int 16384 k4]) 0) :: (a3, W.listOf (List.toArray [.int 65535 k3]) 0) :: (a2, W.listOf (List.toArray [.int (if c = true then 1 else 0) k2]) 0) :: (a1, W.listOf (List.toArray [.int 4096 k1]) 0) :: (d, od) :: (x, instObj 338 dx) ::
      (dx, dictOf [⟨PyData.keyHash w.params (Str.ofString "_client"), .str (Str.ofString "_client") t1, .bool c⟩, ⟨PyData.keyHash w.params (Str.ofString "_settings"), .str (Str.ofString "_settings") t2, .ref d⟩] n) :: news) := by
  obtain ⟨kvs, ls, h1, h2⟩ := set_of (w := w) (c := c) (k1 := k1) (k2 := k2) (k3 := k3) (k4 := k4) (k5 := k5) (t1 := t1) (t2 := t2) (n := n) hd lo _l l0 ld m1 m2 m3 m4 m5
  exact ⟨x, dx, d, t1, t2, n, od, kvs, ls, rfl, h1, fun p hp => by simp [hp], h2⟩
theorem words_T20 : True := by
  k_with "@ktr_rel" => (guard_hyp hT20; (exact newset_of (by assumption) (by assumption) (by assumption) (by assumption) (by assumption) (by assumption) (by assumption) (by assumption) (by assumption) (by assumption)))
  trivial
set_option maxRecDepth 100000 in
set_option maxHeartbeats 4000000 in
theorem c_new0 (w : World) (news : Led) (c : Bool) :
    Spec w (.ref 338) [.bool c, .none] [] 12 news (fun v n' => NewSet w c (defaults c) v news n') := by
  have hT20 := trivial; have g2 := trivial; have g3 := trivial
  intro dp un gd env outer A₀ base h₀ L m mg mb loose mean s Q E C hf hke hdp hun hret
  have X := C.X
  revert X; k_fill; intro X
  k_dflt (refine' call_clsK C.F C.X C.N ?q1 ?q2 ?q3 ?_; (case q1 => k_is); (case q2 => k_is); (case q3 => k_is))
  intro x dx h' F0 N0 l1 l2
  replace l2 := ltN l2
  (have cF := F0; k_dflt (refine' enterG ?C ?kA ?kf ?kk ?k6 ?k7 ?k8 ?k9 ?kB ?_ ?c2 ?c3 ?c4 ?c5; (case C => exact ⟨C.B, F0, N0, C.X, C.T, C.D, C.XB, C.TB⟩); (case kA => exact rfl); (case kf => assumption); (case kk => assumption); (case k6 => k_is); (case k7 => k_is); (case k8 => k_room); (case k9 => first | exact BindsTo.of_eq rfl | exact binds_K (by k_in) rfl (by k_is) rfl rfl rfl | (refine' kp_binds ?kx ?ke; (case kx => k_in); (case ke => exact fun _ => rfl))); (case kB => exact locs rfl); (case c2 => exact rfl); (case c3 => exact rfl); (case c4 => exact rfl); (case c5 => decide); k_whole; intro g' L' h' FG' F' N' B' X' T' D' XB' TB' QQ RR hQQ hRR; (try dsimp only); (try k_lift B'); (try k_fold)))
  k_steps
  all_goals tb_rel
noncomputable def SameOff (names : List Str) (m₀ m : Str → Option Value) : Prop := ∀ z, names.contains z = false → m z = m₀ z
theorem SameOff.eq {names : List Str} {m₀ m : Str → Option Value} (h : SameOff names m₀ m) : m = fun z => if names.contains z = true then m z else m₀ z := by
  funext z
  cases e : names.contains z with
  | true => simp
  | false => simp [h z e]
theorem SameOff.refl {names : List Str} {m : Str → Option Value} : SameOff names m m := fun _ _ => rfl
theorem SameOff.ite {names : List Str} {m₀ m : Str → Option Value} {x : Str} {v : Option Value} (hx : names.contains x = true) (h : SameOff names m₀ m) : SameOff names m₀ (fun z => if z = x then v else m z) := fun z hz => by
  by_cases e : z = x
  · subst e; rw [hx] at hz; cases hz
  · simp only [if_neg e]; exact h z hz
theorem SameOff.eqs {names : List Str} {m₀ m : Str → Option Value} (h : SameOff names m₀ m) : SameOff names m₀ (fun z => if names.contains z = true then m z else m₀ z) := fun z hz => by simp only [hz]; rfl
noncomputable def ffault : List (Int × Int) → Int
  | [] => 0
  | (k, v) :: r => if fault k v = 0 then ffault r else fault k v
theorem ffault_at : ∀ {l : List (Int × Int)} {i : Nat} {k v : Int}, (∀ p ∈ l.take i, fault p.1 p.2 = 0) → l[i]? = some (k, v) → fault k v ≠ 0 → ffault l = fault k v
  | [], _, _, _, _, h, _ => by simp at h
  | p :: r, 0, k, v, _, h, hn => by
    simp only [List.getElem?_cons_zero, Option.some.injEq] at h
    subst h
    simp [ffault, hn]
  | (a, b) :: r, i + 1, k, v, hp, h, hn => by
    have e : fault a b = 0 := hp (a, b) (by simp)
    simp only [ffault, e, if_true]
    exact ffault_at (fun p hm => hp p (by rw [List.take_succ_cons]; exact .tail _ hm)) (by simpa using h) hn
theorem ffault_none : ∀ {l : List (Int × Int)}, (∀ p ∈ l, fault p.1 p.2 = 0) → ffault l = 0
  | [], _ => rfl
  | (a, b) :: r, h => by
    have e : fault a b = 0 := h (a, b) (by simp)
    simp only [ffault, e, if_true]
    exact ffault_none fun p hm => h p (by simp [hm])
noncomputable def putAll (σ : Sgs) (l : List (Int × Int)) : Sgs := l.foldl (fun σ p => putR σ p.1 [some p.2]) σ
theorem putAll_snoc (σ : Sgs) (l : List (Int × Int)) (k v : Int) : putAll σ (l ++ [(k, v)]) = putR (putAll σ l) k [some v] := by simp [putAll]
theorem putAll_len (σ : Sgs) (l : List (Int × Int)) : (putAll σ l).length ≤ σ.length + l.length := by
  induction l generalizing σ with
  | nil => simp [putAll]
  | cons p r ih =>
    have := ih (putR σ p.1 [some p.2])
    have e := put_length σ p.1 [some p.2]
    simp only [putAll, List.foldl_cons, List.length_cons] at this ⊢
    omega
theorem putAll_row {σ : Sgs} {l : List (Int × Int)} {k : Int} {row : Row} (h : look (putAll σ l) k = some row) : look σ k = some row ∨ ∃ v, row = [some v] := by
  induction l generalizing σ with
  | nil => exact .inl h
  | cons p r ih =>
    rcases ih (σ := putR σ p.1 [some p.2]) h with e | e
    · rw [look_put] at e
      by_cases q : k = p.1
      · rw [if_pos q] at e; cases e; exact .inr ⟨_, rfl⟩
      · rw [if_neg q] at e; exact .inl e
    · exact .inr e
theorem def_row {c : Bool} {k : Int} {row : Row} (h : look (defaults c) k = some row) : ∃ v, row = [some v] := by
  unfold defaults at h
  simp only [look_cons, look_nil] at h
  repeat' (split at h)
  all_goals (cases h; try exact ⟨_, rfl⟩)
theorem putAll_fit {c : Bool} {l : List (Int × Int)} (h : l.length ≤ 900) : Fit (putAll (defaults c) l) := by
  refine ⟨?_, fun k row e => ?_⟩
  · have := putAll_len (defaults c) l
    have e : (defaults c).length = 5 := rfl
    omega
  · rcases putAll_row e with e | ⟨v, rfl⟩
    · obtain ⟨v, rfl⟩ := def_row e; show 1 ≤ 1000; decide
    · show 1 ≤ 1000; decide
theorem IntsL.get {π : List (Int × Int)} {kvs : List (Int × Value)} (H : IntsL π kvs) : ∀ {i : Nat} {k : Int} {x : Value}, kvs[i]? = some (k, x) → ∃ p t, π[i]? = some (k, p) ∧ x = .int p t := by
  induction H with
  | nil => intro i k x h; simp at h
  | @cons k' p' t π kvs _ ih =>
    intro i k x h
    cases i with
    | zero =>
      simp only [List.getElem?_cons_zero, Option.some.injEq, Prod.mk.injEq] at h
      obtain ⟨rfl, rfl⟩ := h
      exact ⟨p', t, by simp, rfl⟩
    | succ i => simpa using ih (by simpa using h)
theorem IntsL.len {π : List (Int × Int)} {kvs : List (Int × Value)} (H : IntsL π kvs) : kvs.length = π.length := by
  induction H with
  | nil => rfl
  | cons _ ih => simp [ih]
theorem plain_dict {w : World} {o : Obj} {kvs : List (Int × Value)} (h : o.IsDictOf (intKind Challenge.rw_ix0031_01.row.prog w) kvs) : plainO o = true := by
  obtain ⟨es, ep, hx, _⟩ := h
  unfold plainO; rw [hx.1]; decide
theorem DicL.kept {w : World} {d : Addr} {σ : Sgs} {n₁ n₂ : Led} {od : Obj} {kvs : List (Int × Value)} {ls : Led} {lo : Nat} (H : DicL w d σ n₁ od kvs ls) (h : ∀ p ∈ n₁, Kept lo p → p ∈ n₂) : DicL w d σ n₂ od kvs ls :=
  ⟨h _ H.body (.inl (plain_dict H.isd)), H.isd, H.lists, fun p hp => h _ (H.lsin p hp) (.inl (by obtain ⟨row, vs, nn, e, _⟩ := H.lists.objs hp; rw [e]; rfl)), H.low, H.ne, H.nd, H.fit⟩
theorem DicI.kept {w : World} {d : Addr} {π : List (Int × Int)} {n₁ n₂ : Led} {od : Obj} {kvs : List (Int × Value)} {lo : Nat} (H : DicI w d π n₁ od kvs) (h : ∀ p ∈ n₁, Kept lo p → p ∈ n₂) : DicI w d π n₂ od kvs :=
  ⟨h _ H.body (.inl (plain_dict H.isd)), H.isd, H.nums, H.low⟩
theorem SetL.kept {w : World} {x : Addr} {c : Bool} {σ : Sgs} {n₁ n₂ : Led} {dx d : Addr} {t1 t2 : Tok} {n : Nat} {od : Obj} {kvs : List (Int × Value)} {ls : Led} {lo : Nat} (H : SetL w x c σ n₁ dx d t1 t2 n od kvs ls) (h : ∀ p ∈ n₁, Kept lo p → p ∈ n₂) : SetL w x c σ n₂ dx d t1 t2 n od kvs ls :=
  ⟨h _ H.inst (.inl rfl), h _ H.dict (.inl rfl), H.sep, H.dic.kept h⟩
inductive InitJ (w : World) (x dx d : Addr) (c : Bool) (t1 t2 : Tok) (n : Nat) (init : List (Int × Int)) (m₀ : Str → Option Value) (news : Led) (i : Nat) (m₁ : Str → Option Value) (n₁ : Led) : Prop
  | mk : (SameOff [Str.ofString "key", Str.ofString "value", Str.ofString "invalid", Str.ofString "msg"] m₀ m₁) → ((∀ p ∈ news, p ∈ n₁)) → ((∀ p ∈ init.take i, fault p.1 p.2 = 0)) → (∃ od kvs ls, SetL w x c (putAll (defaults c) (init.take i)) n₁ dx d t1 t2 n od kvs ls ∧ ∀ p ∈ news, p.1 ≠ d ∧ p.1 ∉ ls.map (·.1)) → InitJ w x dx d c t1 t2 n init m₀ news i m₁ n₁
theorem InitJ.kept {w : World} {x dx d : Addr} {c : Bool} {t1 t2 : Tok} {n : Nat} {init : List (Int × Int)} {m₀ : Str → Option Value} {news big : Led} {lo : Nat} (hb : ∀ p ∈ news, p ∈ big) (hlo : ∀ p ∈ big, (p.1 : Nat) < lo) : ∀ i m n₁ n₂, InitJ w x dx d c t1 t2 n init m₀ news i m n₁ → (∀ p ∈ n₁, Kept lo p → p ∈ n₂) → InitJ w x dx d c t1 t2 n init m₀ news i m n₂ := by
  rintro i m n₁ n₂ hZ__ h; (refine hide fun G__ k__ => ?_; obtain ⟨h1, h2, h3, od, kvs, ls, h4, h5⟩ := hZ__; refine k__ ?_; clear k__ G__)
  exact ⟨h1, fun p hp => h p (h2 p hp) (.inr (hlo p (hb p hp))), h3, od, kvs, ls, h4.kept h, h5⟩
theorem InitJ.done {w : World} {x dx d : Addr} {c : Bool} {t1 t2 : Tok} {n : Nat} {init : List (Int × Int)} {m₀ m : Str → Option Value} {news n₁ : Led} (H : InitJ w x dx d c t1 t2 n init m₀ news init.length m n₁) : NewSet w c (putAll (defaults c) init) (.ref x) news n₁ ∧ ffault init = 0 := by
  (refine hide fun G__ k__ => ?_; obtain ⟨h1, h2, h3, od, kvs, ls, h4, h5⟩ := H; refine k__ ?_; clear k__ G__)
  rw [List.take_length] at h3 h4
  exact ⟨⟨x, dx, d, t1, t2, n, od, kvs, ls, rfl, h4, h2, h5⟩, ffault_none h3⟩
theorem take_snoc {α : Type} {l : List α} {i : Nat} {a : α} (h : l[i]? = some a) : l.take (i + 1) = l.take i ++ [a] := by rw [List.take_add_one, h]; rfl
theorem init_step {w : World} {x dx d I f a : Addr} {oF oa : Obj} {c : Bool} {t1 t2 : Tok} {n i len ep : Nat} {init : List (Int × Int)} {m₀ m' : Str → Option Value} {news n₁ n' : Led} {k p : Int} {od1 od' : Obj} {kvs1 kvs' : List (Int × Value)} {ls1 ls' : Led} {g hh : Heap} {L' : Addr}
    (hS1 : SetL w x c (putAll (defaults c) (init.take i)) n₁ dx d t1 t2 n od1 kvs1 ls1) (hp : init[i]? = some (k, p)) (hz : fault k p = 0) (hm : SameOff [Str.ofString "key", Str.ofString "value", Str.ofString "invalid", Str.ofString "msg"] m₀ m') (hj2 : ∀ q ∈ news, q ∈ n₁) (hj3 : ∀ q ∈ init.take i, fault q.1 q.2 = 0) (hj4 : ∀ q ∈ news, q.1 ≠ d ∧ q.1 ∉ ls1.map (·.1))
    (hSt : StI I f oF len ep (i + 1) n₁) (hfn : (f, oF) ∈ news) (N : News g L' hh ((a, oa) :: n₁)) (l : ∀ q ∈ n₁, q.1 < a) (H' : SetL w x c (putR (putAll (defaults c) (init.take i)) k [some p]) n' dx d t1 t2 n od' kvs' ls') (hkp : ∀ q ∈ (a, oa) :: n₁, q.1 ≠ d → q ∈ n') (hls : ∀ q ∈ ls', q.1 = a ∨ q ∈ ls1) :
    InitJ w x dx d c t1 t2 n init m₀ news (i + 1) m' n' ∧ StI I f oF len ep (i + 1) n' := by
  have e := take_snoc hp
  obtain ⟨⟨ok, ov, hI⟩, hf⟩ := hSt
  have hId : I ≠ d := led_ne (fun q hq => N q (.tail _ hq)) hI hS1.dic.body (fun z => by
    obtain ⟨es, ep', hx, _⟩ := hS1.dic.isd
    have := hx.1
    rw [← z] at this
    replace this : Value.type "dict_itemiterator" = Value.type "dict" := this
    exact absurd (Value.type.inj this) (by decide))
  refine ⟨⟨hm, fun q hq => hkp q (.tail _ (hj2 q hq)) (hj4 q hq).1, fun q hq => ?_, od', kvs', ls', by rw [e, putAll_snoc]; exact H', fun q hq => ⟨(hj4 q hq).1, fun hm' => ?_⟩⟩, ⟨ok, ov, hkp _ (.tail _ hI) hId⟩, hkp _ (.tail _ hf) (hj4 _ hfn).1⟩
  · rw [e] at hq
    rcases List.mem_append.mp hq with hq | hq
    · exact hj3 q hq
    · rw [List.mem_singleton.mp hq]; exact hz
  · obtain ⟨u, hu, eu⟩ := List.mem_map.mp hm'
    rcases hls u hu with z | z
    · exact Nat.lt_irrefl _ (z ▸ eu ▸ l q (hj2 q hq))
    · exact (hj4 q hq).2 (eu ▸ List.mem_map_of_mem z)
theorem SameOff.put {names : List Str} {m₀ m : Str → Option Value} (h : SameOff names m₀ m) (x : Str) (v : Option Value) : SameOff names (fun z => if z = x then v else m₀ z) (fun z => if z = x then v else m z) := fun z hz => by
  by_cases e : z = x
  · simp only [if_pos e]
  · simp only [if_neg e]; exact h z hz
section
variable {w : World} {A A₀ : Around} {base h₀ h00 : Heap} {outer : List Env} {loose : List Str} {mean : ExcName → Option Value} {mg mb : Str → Option Value} {L : Addr} {m : Str → Option Value} {news : Led} {s : Shared} {Q : Flow → Shared → Prop} {E : Value → Shared → Prop} {env : Env} {st : Stmt} {rest : List Stmt} {g00 : Array GenState}
theorem cut (T00 : KtsTurn (outer.filterMap (·.frame)) h00 h₀) (G00 : GRel g00 s.gens) (C : Cx w A₀ base outer loose mean mg mb h₀ L m news s.heap) (J : (Str → Option Value) → Led → Prop)
    (h1 : wpAny (model Challenge.rw_ix0031_01.row.prog w) A (exec st env) (SeamEnd w A₀ base outer loose mean mg mb h00 g00 L s (fun m' n' _ => J m' n')) E s)
    (h2 : ∀ m₁ n₁ h₁ gn tk g₁, J m₁ n₁ → KtsTurn (outer.filterMap (·.frame)) h00 g₁ → GRel g00 gn → Cx w A₀ base outer loose mean mg mb g₁ L m₁ n₁ h₁ → wpAny (model Challenge.rw_ix0031_01.row.prog w) A (execs rest env) Q E { s with heap := h₁, gens := gn, toks := tk }) :
    wpAny (model Challenge.rw_ix0031_01.row.prog w) A (execs (st :: rest) env) Q E s := seam _ h1 h2
end
theorem outQ {M : Model} {A : Around} {c : Sem Flow} {Q : Flow → Shared → Prop} {E : Value → Shared → Prop} {s : Shared} (h : ∀ QQ : Flow → Shared → Prop, (∀ fl s', Q fl s' → RetQ QQ fl s') → wpAny M A c (RetQ QQ) E s) : wpAny M A c Q E s := h Q fun _ _ x => x
noncomputable def Ld (M : Model) (A : Around) (E : Value → Shared → Prop) (env : Env) (s : Shared) (x : Str) (v : Value) : Prop := ∀ (p : Pos) (Q : Value → Shared → Prop), Q v s → wpAny M A (eval (.Name x p) env) Q E s
section
variable {M : Model} {A : Around} {E : Value → Shared → Prop} {s : Shared} {env : Env} {h₀ : Heap} {L : Addr} {m : Str → Option Value} {news : Led} {x : Str} {v : Value} {K : Frag}
theorem Ld.loc (F : Fr h₀ env.locals s.heap m) (hv : m x = some v) (hk : env.scope.kind = .function) (hl : env.kindOf x = some .local) (hd : (x == ("__debug__" : Str)) = false) : Ld M A E env s x v :=
  fun _ _ h => wpAny_Name (wpAny_loadName_local hk hl F.ns hv h) hd
theorem Ld.cel {c : Addr} {o : Obj} (N : News h₀ L s.heap news) (hc : env.cells.lookup x = some c) (hm : (c, o) ∈ news) (ho : o.data = .cell (some v)) (hk : env.scope.kind = .function) (hl : env.kindOf x = some .cell) (hd : (x == ("__debug__" : Str)) = false) : Ld M A E env s x v :=
  fun _ _ h => wpAny_Name (wpAny_loadName_cell hk hl hc ⟨o, N.get hm, ho⟩ h) hd
theorem Ld.glo {cn : Str} {cs : Scope} {a : Addr} {ccd : Value} {cl : List (Str × Addr)} {p : Program} {loose : List Str} {mg mb : Str → Option Value} (F : Fr h₀ L s.heap m) (X : K.In h₀) (T : TopRead p loose mg mb h₀) (e : nsIn K mainGlobals x = some (some v))
    (hk : cs.kind = .function) (hx : (envX cn cs L a ccd cl).kindOf x = some .globalImplicit) (hd : (x == ("__debug__" : Str)) = false) : Ld M A E (envX cn cs L a ccd cl) s x v := fun _ _ h => nameX_K F X T e h hk hx hd
theorem Ld.gloC {cn : Str} {cs sc : Scope} {a C : Addr} {ccd : Value} {cl cl' : List (Str × Addr)} {p : Program} {loose : List Str} {mg mb : Str → Option Value} (F : Fr h₀ L s.heap m) (X : K.In h₀) (T : TopRead p loose mg mb h₀) (e : nsIn K mainGlobals x = some (some v))
    (hk : sc.kind = .function) (hx : (compEnvC sc cl' C (envX cn cs L a ccd cl)).kindOf x = some .globalImplicit) (hd : (x == ("__debug__" : Str)) = false) : Ld M A E (compEnvC sc cl' C (envX cn cs L a ccd cl)) s x v := fun _ _ h =>
  Name_function_global (env := compEnvC sc cl' C (envX cn cs L a ccd cl)) hk hx (loadGlobal_global (T.g.keeps F.keep) (mg_of X T.g e) h) hd
theorem Ld.com {c : Value} {o : Obj} {scope : Scope} {cl : List (Str × Addr)} {C : Addr} {e : Env} (N : News h₀ L s.heap news) (hm : (C, o) ∈ news) (hn : NsO c m o) (hv : m x = some v) (hk : scope.kind = .function) (hl : (compEnvC scope cl C e).kindOf x = some .local) (hd : (x == ("__debug__" : Str)) = false) : Ld M A E (compEnvC scope cl C e) s x v :=
  fun _ _ h => wpAny_Name (wpAny_loadName_local (env := compEnvC scope cl C e) hk hl (hn.ns (N _ hm).1) hv h) hd
variable {fx x1 x2 x3 x4 : Str} {f : Addr} {v1 v2 v3 v4 : Value} {fp p1 p2 p3 p4 pos : Pos} {Q : Value → Shared → Prop}
theorem call_n0 (hf : Ld M A E env s fx (.ref f)) (X : K.In s.heap) (hk : keepIn K (.ref f) = true) (h : wpAny M A (call (.ref f) [] []) Q E s) : wpAny M A (eval (.Call (.Name fx fp) [] [] pos) env) Q E s :=
  Call_ (hf _ _ (callWith_K0 (first := []) X hk h))
theorem call_n1 (hf : Ld M A E env s fx (.ref f)) (X : K.In s.heap) (hk : keepIn K (.ref f) = true) (h1 : Ld M A E env s x1 v1) (h : wpAny M A (call (.ref f) [v1] []) Q E s) : wpAny M A (eval (.Call (.Name fx fp) [.Name x1 p1] [] pos) env) Q E s :=
  Call_ (hf _ _ (callWith_K (first := []) X hk (spliced_more (h1 _ _ (spliced_none ⟨X, h⟩)))))
theorem call_n2 (hf : Ld M A E env s fx (.ref f)) (X : K.In s.heap) (hk : keepIn K (.ref f) = true) (h1 : Ld M A E env s x1 v1) (h2 : Ld M A E env s x2 v2) (h : wpAny M A (call (.ref f) [v1, v2] []) Q E s) : wpAny M A (eval (.Call (.Name fx fp) [.Name x1 p1, .Name x2 p2] [] pos) env) Q E s :=
  Call_ (hf _ _ (callWith_K (first := []) X hk (spliced_more (h1 _ _ (spliced_more (h2 _ _ (spliced_none ⟨X, h⟩)))))))
theorem call_n3 (hf : Ld M A E env s fx (.ref f)) (X : K.In s.heap) (hk : keepIn K (.ref f) = true) (h1 : Ld M A E env s x1 v1) (h2 : Ld M A E env s x2 v2) (h3 : Ld M A E env s x3 v3) (h : wpAny M A (call (.ref f) [v1, v2, v3] []) Q E s) : wpAny M A (eval (.Call (.Name fx fp) [.Name x1 p1, .Name x2 p2, .Name x3 p3] [] pos) env) Q E s :=
  Call_ (hf _ _ (callWith_K (first := []) X hk (spliced_more (h1 _ _ (spliced_more (h2 _ _ (spliced_more (h3 _ _ (spliced_none ⟨X, h⟩)))))))))
theorem call_n4 (hf : Ld M A E env s fx (.ref f)) (X : K.In s.heap) (hk : keepIn K (.ref f) = true) (h1 : Ld M A E env s x1 v1) (h2 : Ld M A E env s x2 v2) (h3 : Ld M A E env s x3 v3) (h4 : Ld M A E env s x4 v4) (h : wpAny M A (call (.ref f) [v1, v2, v3, v4] []) Q E s) : wpAny M A (eval (.Call (.Name fx fp) [.Name x1 p1, .Name x2 p2, .Name x3 p3, .Name x4 p4] [] pos) env) Q E s :=
  Call_ (hf _ _ (callWith_K (first := []) X hk (spliced_more (h1 _ _ (spliced_more (h2 _ _ (spliced_more (h3 _ _ (spliced_more (h4 _ _ (spliced_none ⟨X, h⟩)))))))))))
end
noncomputable def EvV (M : Model) (A : Around) (E : Value → Shared → Prop) (env : Env) (s : Shared) (e : Expr) (P : Value → Prop) : Prop :=
  ∀ (t : Nat) (Q : Value → Shared → Prop), (∀ v t', P v → Q v { s with toks := t' }) → wpAny M A (eval e env) Q E { s with toks := t }
@[reducible] noncomputable def IsI (i : Int) (v : Value) : Prop := ∃ u, v = .int i u
@[reducible] noncomputable def IsB (b : Bool) (v : Value) : Prop := v = .bool b
noncomputable def cmpI : CmpOp → Int → Int → Bool
  | .Eq, a, b => a == b
  | .NotEq, a, b => a != b
  | .Lt, a, b => decide (a < b)
  | .LtE, a, b => decide (a ≤ b)
  | .Gt, a, b => decide (a > b)
  | .GtE, a, b => decide (a ≥ b)
  | _, _, _ => false
noncomputable def cmpOk : CmpOp → Bool
  | .Eq | .NotEq | .Lt | .LtE | .Gt | .GtE => true
  | _ => false
section
variable {prog : Program} {w : World} {A : Around} {E : Value → Shared → Prop} {s : Shared} {env : Env} {h₀ : Heap} {L : Addr} {m : Str → Option Value} {news : Led} {x : Str} {v : Value} {p : Pos} {l r e : Expr} {a b i : Int} {P : Value → Prop}
theorem cmp_int {op : CmpOp} {t u : Tok} {Q : Value → Shared → Prop} (h : cmpOk op = true) (hq : Q (.bool (cmpI op a b)) s) : wpAny (model prog w) A (compareOp op (.int a t) (.int b u)) Q E s := by
  cases op with
  | Eq => exact PySem.P.eq_int hq
  | NotEq => exact PySem.P.ne_int hq
  | Lt => exact PySem.P.lt_int hq
  | LtE => exact PySem.P.le_int hq
  | Gt => exact PySem.P.gt_int hq
  | GtE => exact PySem.P.ge_int hq
  | _ => exact absurd h (by decide)
theorem EvV.loc (F : Fr h₀ env.locals s.heap m) (hv : m x = some v) (hP : P v) (hk : env.scope.kind = .function) (hl : env.kindOf x = some .local) (hd : (x == ("__debug__" : Str)) = false) : EvV (model prog w) A E env s (.Name x p) P :=
  fun t _ h => Ld.loc (s := { s with toks := t }) F hv hk hl hd _ _ (h v t hP)
theorem EvV.cel {c : Addr} {o : Obj} (N : News h₀ L s.heap news) (hc : env.cells.lookup x = some c) (hm : (c, o) ∈ news) (ho : o.data = .cell (some v)) (hP : P v) (hk : env.scope.kind = .function) (hl : env.kindOf x = some .cell) (hd : (x == ("__debug__" : Str)) = false) : EvV (model prog w) A E env s (.Name x p) P :=
  fun t _ h => Ld.cel (s := { s with toks := t }) N hc hm ho hk hl hd _ _ (h v t hP)
theorem EvV.com {c : Value} {o : Obj} {scope : Scope} {cl : List (Str × Addr)} {C : Addr} {e : Env} (N : News h₀ L s.heap news) (hm : (C, o) ∈ news) (hn : NsO c m o) (hv : m x = some v) (hP : P v) (hk : scope.kind = .function) (hl : (compEnvC scope cl C e).kindOf x = some .local) (hd : (x == ("__debug__" : Str)) = false) : EvV (model prog w) A E (compEnvC scope cl C e) s (.Name x p) P :=
  fun t _ h => Ld.com (s := { s with toks := t }) N hm hn hv hk hl hd _ _ (h v t hP)
theorem EvV.int {k : Nat} : EvV (model prog w) A E env s (.Constant (.int i) k p) (IsI i) := fun t _ h => wpAny_Constant_int (h _ _ ⟨_, rfl⟩)
theorem EvV.bin {op : Operator} (h1 : EvV (model prog w) A E env s l (IsI a)) (h2 : EvV (model prog w) A E env s r (IsI b))
    (h : ∀ (t u : Tok) (k : Nat) (Q : Value → Shared → Prop), (∀ u' k', Q (.int i u') { s with toks := k' }) → wpAny (model prog w) A (binaryOp op (.int a t) (.int b u)) Q E { s with toks := k }) : EvV (model prog w) A E env s (.BinOp l op r p) (IsI i) :=
  fun t Q hq => wpAny_BinOp (h1 t _ fun v t1 hv => h2 t1 _ fun v2 t2 hv2 => by
    obtain ⟨u1, rfl⟩ := hv
    obtain ⟨u2, rfl⟩ := hv2
    exact h u1 u2 t2 Q fun u' k' => hq _ _ ⟨u', rfl⟩)
theorem EvV.mod (h1 : EvV (model prog w) A E env s l (IsI a)) (h2 : EvV (model prog w) A E env s r (IsI b)) (hb : b ≠ 0) : EvV (model prog w) A E env s (.BinOp l .Mod r p) (IsI (a.fmod b)) := .bin h1 h2 fun _ _ _ _ h => mod_int' hb (h _ _)
theorem EvV.fdiv (h1 : EvV (model prog w) A E env s l (IsI a)) (h2 : EvV (model prog w) A E env s r (IsI b)) (hb : b ≠ 0) (hs : b.natAbs < 1073741824) : EvV (model prog w) A E env s (.BinOp l .FloorDiv r p) (IsI (a.fdiv b)) := .bin h1 h2 fun _ _ _ _ h => floordiv_int hb (h _ _) (.inl (PyProof.noPylong_small hs))
theorem EvV.sub (h1 : EvV (model prog w) A E env s l (IsI a)) (h2 : EvV (model prog w) A E env s r (IsI b)) : EvV (model prog w) A E env s (.BinOp l .Sub r p) (IsI (a - b)) := .bin h1 h2 fun _ _ _ _ h => PySem.P.sub_int (h _ _)
theorem EvV.add (h1 : EvV (model prog w) A E env s l (IsI a)) (h2 : EvV (model prog w) A E env s r (IsI b)) : EvV (model prog w) A E env s (.BinOp l .Add r p) (IsI (a + b)) := .bin h1 h2 fun _ _ _ _ h => PySem.P.add_int (h _ _)
theorem EvV.pow (h1 : EvV (model prog w) A E env s l (IsI a)) (h2 : EvV (model prog w) A E env s r (IsI b)) (hn : 0 ≤ b) (hn2 : b ≤ 1000000) (ha : a.natAbs < 2 ^ 64) (hi : a ^ b.toNat = i) : EvV (model prog w) A E env s (.BinOp l .Pow r p) (IsI i) := .bin h1 h2 fun _ _ _ _ h => pow_int_small hn hn2 ha (hi ▸ h _ _)
theorem EvV.cmp {op : CmpOp} (h1 : EvV (model prog w) A E env s l (IsI a)) (h2 : EvV (model prog w) A E env s r (IsI b)) (ho : cmpOk op = true) (hm : behindInMarks op r = false) : EvV (model prog w) A E env s (.Compare l [op] [r] p) (IsB (cmpI op a b)) :=
  fun t Q hq => wpAny_Compare1 (hm := hm) (h1 t _ fun v t1 hv => h2 t1 _ fun v2 t2 hv2 => by
    obtain ⟨u1, rfl⟩ := hv
    obtain ⟨u2, rfl⟩ := hv2
    exact cmp_int ho (hq _ _ rfl))
theorem EvV.use {Q : Value → Shared → Prop} (h : EvV (model prog w) A E env s e (IsI i)) (hq : ∀ u t', Q (.int i u) { s with toks := t' }) : wpAny (model prog w) A (eval e env) Q E s :=
  h s.toks Q fun v t' hv => by obtain ⟨u, rfl⟩ := hv; exact hq u t'
theorem EvV.useB {c : Bool} {Q : Value → Shared → Prop} (h : EvV (model prog w) A E env s e (IsB c)) (hq : ∀ t', Q (.bool c) { s with toks := t' }) : wpAny (model prog w) A (eval e env) Q E s :=
  h s.toks Q fun v t' hv => by cases hv; exact hq t'
theorem EvV.truth {op : CmpOp} {whole : Sem Value} {Q : Bool → Shared → Prop} (h1 : EvV (model prog w) A E env s l (IsI a)) (h2 : EvV (model prog w) A E env s r (IsI b)) (ho : cmpOk op = true) (hm : behindInMarks op r = false) (hq : ∀ t', Q (cmpI op a b) { s with toks := t' }) :
    wpAny (model prog w) A (isTrue (.Compare l [op] [r] p) env whole) Q E s :=
  wpAny_isTrue_Compare1 (h1 s.toks _ fun v t1 hv => h2 t1 _ fun v2 t2 hv2 => by
    obtain ⟨u1, rfl⟩ := hv
    obtain ⟨u2, rfl⟩ := hv2
    exact cmp_int ho (wpAny_truthy_bool (hq _))) hm
end
section
variable {w : World} {A : Around} {E : Value → Shared → Prop} {s : Shared} {h₀ : Heap} {L : Addr} {m : Str → Option Value} {big : Led} {d a x dx td : Addr} {od oT : Obj} {kvs tkvs : List (Int × Value)} {σ : Sgs} {ls : Led} {k : Int} {t t1 t2 : Tok} {c : Bool} {n nn : Nat} {its : List Value} {row : Row} {r : Option Int} {v : Value}
theorem len_led {Q : Value → Shared → Prop} (N : News h₀ L s.heap big) (hm : (a, W.listOf its.toArray nn) ∈ big) (hsz : its.length ≤ 1000) (h : Q (.int its.length (s.toks + 1)) { s with toks := s.toks + 1 + 1 }) :
    wpAny (model Challenge.rw_ix0031_01.row.prog w) A (call (.builtin "len") [.ref a]) Q E s :=
  Calls.call_len_list (items := its.toArray) ⟨_, (N _ hm).1, rfl, nn, rfl⟩ (by rw [List.size_toArray]; omega) (by rw [List.size_toArray]; exact h)
theorem pop0_led {i : Int} {u : Tok} {Q : Value → Shared → Prop} (F : Fr h₀ L s.heap m) (N : News h₀ L s.heap big) (hm : (a, W.listOf (v :: its).toArray nn) ∈ big) (hsz : its.length + 1 ≤ 1000) (hi : i = 0)
    (h : ∀ h', Fr h₀ L h' m → News h₀ L h' (wrL big a (W.listOf its.toArray (nn + 1))) → Q v { s with heap := h' }) :
    wpAny (model Challenge.rw_ix0031_01.row.prog w) A (call (.builtin "list.pop") [.ref a, .int i u]) Q E s := by
  subst hi
  have z := N _ hm
  have hk : seqIndex? 0 (v :: its).toArray.size = some 0 := by simp [seqIndex?]
  refine call_meets PySem.F.slot_list_pop ⟨_, z.1, rfl⟩ PySem.F.entry_list_pop (PySem.F.args_list_pop_2 _ _) (PySem.MeetsSeq.list_pop_at a _ nn 0 u 0 v (by decide) hk (by simp) (by rw [List.size_toArray, sizeLine_eq, List.length_cons]; omega))
    ⟨z.1, h _ (F.change (Heap.SameBut.update ..) z.2.1 z.2.2) (News.wr N hm (Heap.SameBut.update ..) ?_)⟩
  have q := PySem.IsL.update z.1 (fun xs => xs.eraseIdxIfInBounds 0)
  have e : (v :: its).toArray.eraseIdxIfInBounds 0 = its.toArray := kl_erase [] its v
  rw [e, if_neg (by simp)] at q
  exact q
theorem SetL.write {s' : Heap} (N : News h₀ L s.heap big) (H : SetL w x c σ big dx d t1 t2 n od kvs ls) (hv : valueAt kvs k = some (.ref a)) (hm : (a, W.listOf its.toArray nn) ∈ big) {its' : List Value} {nn' : Nat} {row' : Row} (hr : RowV row' its') (hne : row' ≠ []) (hfit : Fit (putR σ k row')) :
    ∃ ls', SetL w x c (putR σ k row') (wrL big a (W.listOf its'.toArray nn')) dx d t1 t2 n od kvs ls' ∧ ls'.map (·.1) = ls.map (·.1) := by
  (refine hide fun G__ k__ => ?_; obtain ⟨ls', g1, g2, g3⟩ := H.dic.lists.upd H.dic.keysNd H.dic.nd (row := row') (o := W.listOf its'.toArray nn') ⟨_, _, rfl, hr⟩ hv; refine k__ ?_; clear k__ G__)
  (refine hide fun G__ k__ => ?_; obtain ⟨es, ep, hx, hd, _⟩ := id H.dic.isd; refine k__ ?_; clear k__ G__)
  have n1 : x ≠ a := led_ne N H.inst hm (cls_ne (by intro q; cases q))
  have n2 : dx ≠ a := led_ne N H.dict hm (cls_ne (by show Value.type "dict" ≠ Value.type "list"; decide))
  have n3 : d ≠ a := led_ne N H.dic.body hm (fun q => by rw [q] at hd; cases hd)
  refine ⟨ls', ⟨wrL.keep H.inst n1, wrL.keep H.dict n2, H.sep, ⟨wrL.keep H.dic.body n3, H.dic.isd, g1, fun p hp => ?_, H.dic.low, fun j rw' hj => ?_, by rw [g2]; exact H.dic.nd, hfit⟩⟩, g2⟩
  · rcases g3 p hp with z | z
    · rw [z]; exact .head _
    · exact wrL.keep (H.dic.lsin p z.1) z.2
  · rw [look_put] at hj
    by_cases e : j = k
    · rw [if_pos e] at hj; cases hj; exact hne
    · rw [if_neg e] at hj; exact H.dic.ne _ _ hj
theorem store_dict {Q : Unit → Shared → Prop} (F : Fr h₀ L s.heap m) (N : News h₀ L s.heap big) (hm : (td, oT) ∈ big) (hd : oT.IsDictOf (intKind Challenge.rw_ix0031_01.row.prog w) tkvs) (hlen : tkvs.length ≤ 1000)
    (h : ∀ h' oT', Fr h₀ L h' m → News h₀ L h' (wrL big td oT') → oT'.IsDictOf (intKind Challenge.rw_ix0031_01.row.prog w) (stored tkvs k v) → Q () { s with heap := h', toks := s.toks + 1 }) :
    wpAny (model Challenge.rw_ix0031_01.row.prog w) A (setItem (.ref td) (.int k t) v) Q E s := by
  refine wpAny_setItem_pairs (knd := intKind Challenge.rw_ix0031_01.row.prog w) (intKind_is _ w k t) (Heap.dictOf_iff.mpr ⟨oT, (N _ hm).1, hd⟩) (fun h' hd' hs => ?_) (by rw [sizeLine_eq]; omega)
  (refine hide fun G__ k__ => ?_; obtain ⟨od', ho', hi'⟩ := Heap.dictOf_iff.mp hd'; refine k__ ?_; clear k__ G__)
  exact h h' od' (F.change hs (N _ hm).2.1 (N _ hm).2.2) (News.wr N hm hs ho') hi'
end
theorem ListsL.get {σ : Sgs} {kvs : List (Int × Value)} {ls : Led} (H : ListsL σ kvs ls) : ∀ {i : Nat} {k : Int} {y : Value}, kvs[i]? = some (k, y) → ∃ row a o, σ[i]? = some (k, row) ∧ y = .ref a ∧ (a, o) ∈ ls ∧ RowObj row o := by
  induction H with
  | nil => intro i k y h; simp at h
  | @cons k' row o a σ kvs ls ho _ ih =>
    intro i k y h
    cases i with
    | zero =>
      simp only [List.getElem?_cons_zero, Option.some.injEq, Prod.mk.injEq] at h
      obtain ⟨rfl, rfl⟩ := h
      exact ⟨row, a, o, by simp, rfl, .head _, ho⟩
    | succ i =>
      (refine hide fun G__ k__ => ?_; obtain ⟨row, a, o, h1, h2, h3, h4⟩ := ih (by simpa using h); refine k__ ?_; clear k__ G__)
      exact ⟨row, a, o, by simpa using h1, h2, .tail _ h3, h4⟩
theorem look_get {α : Type} : ∀ {σ : List (Int × α)} {i : Nat} {k : Int} {r : α}, (σ.map (·.1)).Nodup → σ[i]? = some (k, r) → look σ k = some r
  | [], _, _, _, _, h => by simp at h
  | p :: σ, 0, k, r, _, h => by
    simp only [List.getElem?_cons_zero, Option.some.injEq] at h
    subst h
    simp [look_cons]
  | (j, q) :: σ, i + 1, k, r, hn, h => by
    simp only [List.map_cons, List.nodup_cons] at hn
    have h' : σ[i]? = some (k, r) := by simpa using h
    have hne : j ≠ k := fun e => hn.1 (e ▸ List.mem_map_of_mem (f := fun p : Int × α => p.1) (List.mem_of_getElem? h'))
    rw [look_cons, if_neg hne]
    exact look_get hn.2 h'
theorem put_get {α : Type} : ∀ {σ : List (Int × α)} {i : Nat} {k : Int} {r r' : α}, (σ.map (·.1)).Nodup → σ[i]? = some (k, r) → ∀ j, (putR σ k r')[j]? = if j = i then some (k, r') else σ[j]? := by
  intro σ i k r r' hn h j
  have hs : σ.any (fun p => p.1 = k) = true := look_some_any (look_get hn h)
  unfold putR
  rw [if_pos hs, List.getElem?_map]
  by_cases e : j = i
  · subst e; rw [if_pos rfl, h]; simp
  · rw [if_neg e]
    cases q : σ[j]? with
    | none => rfl
    | some p =>
      obtain ⟨a, b⟩ := p
      have : a ≠ k := fun z => e (by
        subst z
        have h1 : (σ.map (·.1))[j]? = some a := by rw [List.getElem?_map, q]; rfl
        have h2 : (σ.map (·.1))[i]? = some a := by rw [List.getElem?_map, h]; rfl
        have hj : j < (σ.map (·.1)).length := (List.getElem?_eq_some_iff.mp h1).1
        exact (List.getElem?_inj hj hn).mp (h1.trans h2.symm))
      simp [this]
noncomputable def orElse (r : Option Int) (dv v : Value) : Prop := match r with
  | none => v = dv
  | some i => ∃ t, v = .int i t
theorem orElse.n {σ : Sgs} {k : Int} {dv : Value} (h : look σ k = none) : orElse (cur σ k) dv dv := by rw [cur_none h]; exact rfl
theorem orElse.n' {σ : Sgs} {k : Int} {rs : Row} {dv : Value} (h : look σ k = some (none :: rs)) : orElse (cur σ k) dv dv := by rw [cur_some h]; exact rfl
theorem orElse.i {σ : Sgs} {k i : Int} {t : Tok} {rs : Row} {dv : Value} (h : look σ k = some (some i :: rs)) : orElse (cur σ k) dv (.int i t) := by rw [cur_some h]; exact ⟨t, rfl⟩
theorem words_T6_1 : True := by
  k_with "@ktr_rel" => (guard_hyp hT6_1; (first | exact orElse.n (by assumption) | exact orElse.n' (by assumption) | exact orElse.i (by assumption)))
  trivial
set_option maxRecDepth 100000 in
set_option maxHeartbeats 4000000 in
theorem c_get (w : World) (news : Led) (x dx d : Addr) (c : Bool) (σ : Sgs) (t1 t2 : Tok) (n : Nat) (od : Obj) (kvs : List (Int × Value)) (ls : Led) (H : SetL w x c σ news dx d t1 t2 n od kvs ls) (k : Int) (t : Tok) (dv : Value) :
    SpecR w (.ref 314) [.ref x, .int k t, dv] [] 4 news (fun v => orElse (cur σ k) dv v) := by
  have hT6_1 := trivial; have g0 := trivial
  have h1 := H.inst
  have h2 := H.dict
  intro dp un gd env outer A₀ base h₀ L m mg mb loose mean s Q E C hf hke hdp hun hret
  have X := C.X
  revert X; k_fill; intro X
  tb_start
  k_steps
  all_goals kwd_rel
theorem words_T6_2 : True := by
  k_with "@ktr_rel" => (guard_hyp hT6_2; (exact ⟨_, by assumption⟩))
  trivial
theorem words_T6_3 : True := by
  k_with "@ktr_rel" => (guard_hyp hT6_3; (assumption))
  trivial
theorem words_T26 : True := by
  k_with "@ktr_rel" => (guard_hyp hT26; (exact ⟨rfl, _, by assumption⟩))
  trivial
set_option maxRecDepth 100000 in
set_option maxHeartbeats 4000000 in
theorem c_mcsC (w : World) (news : Led) (x dx d : Addr) (c : Bool) (σ : Sgs) (t1 t2 : Tok) (n : Nat) (od : Obj) (kvs : List (Int × Value)) (ls : Led) (H : SetL w x c σ news dx d t1 t2 n od kvs ls) :
    SpecXC w (.ref 213) [.ref x] [] 5 news (fun v n' => n' = news ∧ ∃ t, orElse (cur σ 3) (.int 4294967297 t) v) (fun _ _ => False) := by
  have hT26 := trivial; have g1 := trivial; have g2 := trivial; have g3 := trivial
  have h1 := H.inst
  have h2 := H.dict
  intro dp un gd env outer A₀ base h₀ L m mg mb loose mean s R C hf hke hdp hun hret herr
  have X := C.X
  revert X; k_fill; intro X
  k_extra "@start0"
  k_steps
  all_goals k_extra "@end0"
theorem words_T26b : True := by
  k_with "@ktr_rel" => (guard_hyp hT26b; (exact ⟨rfl, by assumption⟩))
  trivial
set_option maxRecDepth 100000 in
set_option maxHeartbeats 4000000 in
theorem c_mhlC (w : World) (news : Led) (x dx d : Addr) (c : Bool) (σ : Sgs) (t1 t2 : Tok) (n : Nat) (od : Obj) (kvs : List (Int × Value)) (ls : Led) (H : SetL w x c σ news dx d t1 t2 n od kvs ls) :
    SpecXC w (.ref 230) [.ref x] [] 5 news (fun v n' => n' = news ∧ orElse (cur σ 6) .none v) (fun _ _ => False) := by
  have hT26 := trivial; have hT26b := trivial; have g1 := trivial; have g2 := trivial; have g3 := trivial
  have h1 := H.inst
  have h2 := H.dict
  intro dp un gd env outer A₀ base h₀ L m mg mb loose mean s R C hf hke hdp hun hret herr
  have X := C.X
  revert X; k_fill; intro X
  k_extra "@start0"
  k_steps
  all_goals k_extra "@end0"
theorem last8 {σ : Sgs} {k i : Int} (hk : k = 1 ∨ k = 2 ∨ k = 4 ∨ k = 5 ∨ k = 8) (h1 : k ≠ 1) (h2 : k ≠ 2) (h4 : k ≠ 4) (h5 : k ≠ 5) (hc : cur σ k = some i) : cur σ 8 = some i := by
  have : k = 8 := (((hk.resolve_left h1).resolve_left h2).resolve_left h4).resolve_left h5
  rw [← this]; exact hc
theorem item_cur {w : World} {A : Around} {E Q : Value → Shared → Prop} {s : Shared} {h₀ : Heap} {L d : Addr} {news : Led} {σ : Sgs} {od : Obj} {kvs : List (Int × Value)} {ls : Led} {value slice : Expr} {k i : Int} {t : Tok} (N : News h₀ L s.heap news) (H : DicL w d σ news od kvs ls) (hh : A.handled = none) (hc : cur σ k = some i)
    (h : ∀ rs a vs n u, (a, W.listOf (List.toArray (Value.int i u :: vs)) n) ∈ news ∧ RowV rs vs → Q (.ref a) { s with toks := s.toks + 1 })
    (hsub : subscripted slice false (.ref d) (.int k t) = operate [.ref d, .int k t] (getItem (.ref d) (.int k t)) := by with_unfolding_all rfl) :
    wpAny (model Challenge.rw_ix0031_01.row.prog w) A (subscriptTail value slice (.ref d) (.int k t)) Q E s := by
  refine item_sgs N H hh (fun rs a vs n hq _ _ => ?_) (fun j u rs a vs n hq hm hr => ?_) (fun hq => ?_) hsub
  · rw [cur_some hq] at hc; cases hc
  · rw [cur_some hq] at hc; cases hc; exact h rs a vs n u ⟨hm, hr⟩
  · rw [cur_none hq] at hc; cases hc
theorem words_T18_1 : True := by
  k_with "subscriptTail" => (guard_hyp hT18_1; ((k_here; (with_reducible show wpAny _ _ (subscriptTail _ _ (Value.ref _) (Value.int _ _)) _ _ _); k_dflt (refine' item_cur ?k1_aF ?k2_aF ?k3_aF ?k4_aF (fun rs a vs n u hmem2 => ?_) ?k8_aF; (case k1_aF => k_asm); (case k2_aF => exact SetL.dic (by assumption)); (case k3_aF => rfl); (case k4_aF => first | assumption | (subst_vars; assumption) | exact last8 (by assumption) (by omega) (by omega) (by omega) (by omega) (by assumption)); (case k8_aF => with_unfolding_all rfl); have hmem := hmem2.1))))
  trivial
set_option maxRecDepth 100000 in
set_option maxHeartbeats 4000000 in
theorem c_item (w : World) (news : Led) (x dx d : Addr) (c : Bool) (σ : Sgs) (t1 t2 : Tok) (n : Nat) (od : Obj) (kvs : List (Int × Value)) (ls : Led) (H : SetL w x c σ news dx d t1 t2 n od kvs ls) (k i : Int) (tk : Tok) (hc : cur σ k = some i) :
    SpecR w (.ref 264) [.ref x, .int k tk] [] 3 news (fun v => ∃ t, v = .int i t) := by
  have hT18_1 := trivial; have g0 := trivial; have g1 := trivial
  have h1 := H.inst
  have h2 := H.dict
  intro dp un gd env outer A₀ base h₀ L m mg mb loose mean s Q E C hf hke hdp hun hret
  have X := C.X
  revert X; k_fill; intro X
  tb_start
  k_steps
  all_goals kwd_rel
theorem words_T18_2 : True := by
  k_with "call ref" => (guard_hyp hT18_2; ((k_here; (with_reducible show wpAny _ _ (call (Value.ref 264) _ _) _ _ _); k_dflt (refine' SpecR.use (c_item _ _ _ _ _ _ _ _ _ _ _ _ _ ?H_b _ ?i_b _ ?hc_b) ?hA_b ?B_b ?F_b ?N_b ?X_b ?T_b ?D_b ?XB_b ?TB_b ?hf_b ?hke_b ?hdp_b ?hun_b (fun v h' gn' tk' g' hR kT kF kN kB kX₀ kP kD kX kG => ?_); (case F_b => k_asm); (case N_b => k_asm); (case H_b => assumption); (case hc_b => assumption); (case hA_b => exact rfl); (case B_b => k_asm); (case X_b => k_asm); (case T_b => k_asm); (case D_b => assumption); (case XB_b => assumption); (case TB_b => assumption); (case hf_b => exact rfl); (case hke_b => exact rfl); (case hdp_b => k_room); (case hun_b => k_units)); obtain ⟨tq, hR⟩ := hR; subst hR; (try dsimp only); (try k_lift kB); (try k_fold))))
  k_with "@ktr_rel" => (guard_hyp hT18_2; (exact ⟨rfl, _, rfl⟩))
  trivial
set_option maxRecDepth 100000 in
set_option maxHeartbeats 4000000 in
theorem c_g1 (w : World) (news : Led) (x dx d : Addr) (c : Bool) (σ : Sgs) (t1 t2 : Tok) (n : Nat) (od : Obj) (kvs : List (Int × Value)) (ls : Led) (H : SetL w x c σ news dx d t1 t2 n od kvs ls) (i : Int) (hc : cur σ 1 = some i) :
    SpecXC w (.ref 145) [.ref x] [] 5 news (fun v n' => n' = news ∧ ∃ t, v = .int i t) (fun _ _ => False) := by
  have hT18_1 := trivial; have hT18_2 := trivial; have g0 := trivial; have g1 := trivial
  have h1 := H.inst
  have h2 := H.dict
  intro dp un gd env outer A₀ base h₀ L m mg mb loose mean s R C hf hke hdp hun hret herr
  have X := C.X
  revert X; k_fill; intro X
  k_extra "@start0"
  k_steps
  all_goals k_extra "@end0"
set_option maxRecDepth 100000 in
set_option maxHeartbeats 4000000 in
theorem c_g2 (w : World) (news : Led) (x dx d : Addr) (c : Bool) (σ : Sgs) (t1 t2 : Tok) (n : Nat) (od : Obj) (kvs : List (Int × Value)) (ls : Led) (H : SetL w x c σ news dx d t1 t2 n od kvs ls) (i : Int) (hc : cur σ 2 = some i) :
    SpecXC w (.ref 162) [.ref x] [] 5 news (fun v n' => n' = news ∧ ∃ t, v = .int i t) (fun _ _ => False) := by
  have hT18_1 := trivial; have hT18_2 := trivial; have g0 := trivial; have g1 := trivial
  have h1 := H.inst
  have h2 := H.dict
  intro dp un gd env outer A₀ base h₀ L m mg mb loose mean s R C hf hke hdp hun hret herr
  have X := C.X
  revert X; k_fill; intro X
  k_extra "@start0"
  k_steps
  all_goals k_extra "@end0"
set_option maxRecDepth 100000 in
set_option maxHeartbeats 4000000 in
theorem c_g4 (w : World) (news : Led) (x dx d : Addr) (c : Bool) (σ : Sgs) (t1 t2 : Tok) (n : Nat) (od : Obj) (kvs : List (Int × Value)) (ls : Led) (H : SetL w x c σ news dx d t1 t2 n od kvs ls) (i : Int) (hc : cur σ 4 = some i) :
    SpecXC w (.ref 179) [.ref x] [] 5 news (fun v n' => n' = news ∧ ∃ t, v = .int i t) (fun _ _ => False) := by
  have hT18_1 := trivial; have hT18_2 := trivial; have g0 := trivial; have g1 := trivial
  have h1 := H.inst
  have h2 := H.dict
  intro dp un gd env outer A₀ base h₀ L m mg mb loose mean s R C hf hke hdp hun hret herr
  have X := C.X
  revert X; k_fill; intro X
  k_extra "@start0"
  k_steps
  all_goals k_extra "@end0"
set_option maxRecDepth 100000 in
set_option maxHeartbeats 4000000 in
theorem c_g5 (w : World) (news : Led) (x dx d : Addr) (c : Bool) (σ : Sgs) (t1 t2 : Tok) (n : Nat) (od : Obj) (kvs : List (Int × Value)) (ls : Led) (H : SetL w x c σ news dx d t1 t2 n od kvs ls) (i : Int) (hc : cur σ 5 = some i) :
    SpecXC w (.ref 196) [.ref x] [] 5 news (fun v n' => n' = news ∧ ∃ t, v = .int i t) (fun _ _ => False) := by
  have hT18_1 := trivial; have hT18_2 := trivial; have g0 := trivial; have g1 := trivial
  have h1 := H.inst
  have h2 := H.dict
  intro dp un gd env outer A₀ base h₀ L m mg mb loose mean s R C hf hke hdp hun hret herr
  have X := C.X
  revert X; k_fill; intro X
  k_extra "@start0"
  k_steps
  all_goals k_extra "@end0"
set_option maxRecDepth 100000 in
set_option maxHeartbeats 4000000 in
theorem c_g8 (w : World) (news : Led) (x dx d : Addr) (c : Bool) (σ : Sgs) (t1 t2 : Tok) (n : Nat) (od : Obj) (kvs : List (Int × Value)) (ls : Led) (H : SetL w x c σ news dx d t1 t2 n od kvs ls) (i : Int) (hc : cur σ 8 = some i) :
    SpecXC w (.ref 247) [.ref x] [] 5 news (fun v n' => n' = news ∧ ∃ t, v = .int i t) (fun _ _ => False) := by
  have hT18_1 := trivial; have hT18_2 := trivial; have g0 := trivial; have g1 := trivial
  have h1 := H.inst
  have h2 := H.dict
  intro dp un gd env outer A₀ base h₀ L m mg mb loose mean s R C hf hke hdp hun hret herr
  have X := C.X
  revert X; k_fill; intro X
  k_extra "@start0"
  k_steps
  all_goals k_extra "@end0"
theorem words_T18_3 : True := by
  k_with "getAttr ref" => (guard_hyp hT18_3; ((k_here; k_dflt ((first | ((with_reducible show wpAny _ _ (getAttr (Value.ref _) (PySem.Str.ofString "header_table_size") _) _ _ _); refine' get_prop ?sF_b ?sX_b ?sI_b ?s1_b ?s2_b ?s3_b ?s4_b ?s5_b ?s6_b (SpecXC.useR (c_g1 _ _ _ _ _ _ _ _ _ _ _ _ _ ?H_b ?i_b ?hc_b) ?hA_b ?B_b ?F_b ?N_b ?X_b ?T_b ?D_b ?XB_b ?TB_b ?hf_b ?hke_b ?hdp_b ?hun_b (fun v h' gn' tk' g' hR kT kF kN kB kX₀ kP kD kX kG => ?_))) | ((with_reducible show wpAny _ _ (getAttr (Value.ref _) (PySem.Str.ofString "enable_push") _) _ _ _); refine' get_prop ?sF_b ?sX_b ?sI_b ?s1_b ?s2_b ?s3_b ?s4_b ?s5_b ?s6_b (SpecXC.useR (c_g2 _ _ _ _ _ _ _ _ _ _ _ _ _ ?H_b ?i_b ?hc_b) ?hA_b ?B_b ?F_b ?N_b ?X_b ?T_b ?D_b ?XB_b ?TB_b ?hf_b ?hke_b ?hdp_b ?hun_b (fun v h' gn' tk' g' hR kT kF kN kB kX₀ kP kD kX kG => ?_))) | ((with_reducible show wpAny _ _ (getAttr (Value.ref _) (PySem.Str.ofString "initial_window_size") _) _ _ _); refine' get_prop ?sF_b ?sX_b ?sI_b ?s1_b ?s2_b ?s3_b ?s4_b ?s5_b ?s6_b (SpecXC.useR (c_g4 _ _ _ _ _ _ _ _ _ _ _ _ _ ?H_b ?i_b ?hc_b) ?hA_b ?B_b ?F_b ?N_b ?X_b ?T_b ?D_b ?XB_b ?TB_b ?hf_b ?hke_b ?hdp_b ?hun_b (fun v h' gn' tk' g' hR kT kF kN kB kX₀ kP kD kX kG => ?_))) | ((with_reducible show wpAny _ _ (getAttr (Value.ref _) (PySem.Str.ofString "max_frame_size") _) _ _ _); refine' get_prop ?sF_b ?sX_b ?sI_b ?s1_b ?s2_b ?s3_b ?s4_b ?s5_b ?s6_b (SpecXC.useR (c_g5 _ _ _ _ _ _ _ _ _ _ _ _ _ ?H_b ?i_b ?hc_b) ?hA_b ?B_b ?F_b ?N_b ?X_b ?T_b ?D_b ?XB_b ?TB_b ?hf_b ?hke_b ?hdp_b ?hun_b (fun v h' gn' tk' g' hR kT kF kN kB kX₀ kP kD kX kG => ?_))) | ((with_reducible show wpAny _ _ (getAttr (Value.ref _) (PySem.Str.ofString "enable_connect_protocol") _) _ _ _); refine' get_prop ?sF_b ?sX_b ?sI_b ?s1_b ?s2_b ?s3_b ?s4_b ?s5_b ?s6_b (SpecXC.useR (c_g8 _ _ _ _ _ _ _ _ _ _ _ _ _ ?H_b ?i_b ?hc_b) ?hA_b ?B_b ?F_b ?N_b ?X_b ?T_b ?D_b ?XB_b ?TB_b ?hf_b ?hke_b ?hdp_b ?hun_b (fun v h' gn' tk' g' hR kT kF kN kB kX₀ kP kD kX kG => ?_)))); (case sF_b => k_asm); (case sX_b => k_asm); (case sI_b => k_inst); (case s1_b => k_is); (case s2_b => k_is); (case s3_b => k_is); (case s4_b => k_is); (case s5_b => k_is); (case s6_b => k_is); (case F_b => k_asm); (case N_b => k_asm); (case H_b => assumption); (case hc_b => first | assumption | (subst_vars; assumption) | exact last8 (by assumption) (by omega) (by omega) (by omega) (by omega) (by assumption)); (case hA_b => exact rfl); (case B_b => k_asm); (case X_b => k_asm); (case T_b => k_asm); (case D_b => assumption); (case XB_b => assumption); (case TB_b => assumption); (case hf_b => exact rfl); (case hke_b => exact rfl); (case hdp_b => k_room); (case hun_b => k_units); obtain ⟨tq, hR⟩ := hR; subst hR; (try dsimp only); (try k_lift kB); (try k_fold); (try (refine handed_on ?hq_b ?_; (case hq_b => first | rfl | exact OV.handed (by assumption))))))))
  k_with "@ktr_rel" => (guard_hyp hT18_3; ((skip; exact ⟨_, rfl⟩)))
  trivial
set_option maxRecDepth 100000 in
set_option maxHeartbeats 4000000 in
theorem c_named (w : World) (news : Led) (x dx d : Addr) (c : Bool) (σ : Sgs) (t1 t2 : Tok) (n : Nat) (od : Obj) (kvs : List (Int × Value)) (ls : Led) (H : SetL w x c σ news dx d t1 t2 n od kvs ls) (k i : Int) (tk : Tok) (hk : k = 1 ∨ k = 2 ∨ k = 4 ∨ k = 5 ∨ k = 8) (hc : cur σ k = some i) :
    SpecR w (.ref 413) [.ref x, .int k tk] [] 8 news (fun v => ∃ t, v = .int i t) := by
  have hT18_1 := trivial; have hT18_2 := trivial; have hT18_3 := trivial; have g0 := trivial; have g1 := trivial
  have h1 := H.inst
  have h2 := H.dict
  intro dp un gd env outer A₀ base h₀ L m mg mb loose mean s Q E C hf hke hdp hun hret
  have X := C.X
  revert X; k_fill; intro X
  tb_start
  k_steps
  all_goals kwd_rel
theorem words_T5_1 : True := by
  k_with "@ktr_rel" => (guard_hyp hT5_1; (first | exact ⟨_, rfl, by rw [cur_none (by assumption)]; rfl⟩ | exact ⟨_, rfl, by rw [cur_some (by assumption)]; rfl⟩))
  trivial
set_option maxRecDepth 100000 in
set_option maxHeartbeats 4000000 in
theorem c_has (w : World) (news : Led) (x dx d : Addr) (c : Bool) (σ : Sgs) (t1 t2 : Tok) (n : Nat) (od : Obj) (kvs : List (Int × Value)) (ls : Led) (H : SetL w x c σ news dx d t1 t2 n od kvs ls) (k : Int) (t : Tok) :
    SpecR w (.ref 306) [.ref x, .int k t] [] 4 news (fun v => ∃ b, v = .bool b ∧ (cur σ k).isSome = b) := by
  have hT5_1 := trivial; have g0 := trivial
  have h1 := H.inst
  have h2 := H.dict
  intro dp un gd env outer A₀ base h₀ L m mg mb loose mean s Q E C hf hke hdp hun hret
  have X := C.X
  revert X; k_fill; intro X
  tb_start
  k_steps
  all_goals kwd_rel
theorem words_T2_1 : True := by
  k_with "@ktr_rel" => (guard_hyp hT2_1; (first | exact ⟨rfl, ov_cur_none ‹_›⟩ | exact ⟨rfl, ov_cur_none' ‹_›⟩ | exact ⟨rfl, ov_cur_int ‹_›⟩))
  trivial
set_option maxRecDepth 100000 in
set_option maxHeartbeats 4000000 in
theorem c_read (w : World) (news : Led) (x dx d : Addr) (c : Bool) (σ : Sgs) (t1 t2 : Tok) (n : Nat) (od : Obj) (kvs : List (Int × Value)) (ls : Led) (H : SetL w x c σ news dx d t1 t2 n od kvs ls) (k : Int) (t : Tok) :
    Spec w (.ref 399) [.ref x, .int k t] [] 4 news (fun v news' => news' = news ∧ OV (cur σ k) v) := by
  have hT2_1 := trivial; have g0 := trivial
  have h1 := H.inst
  have h2 := H.dict
  intro dp un gd env outer A₀ base h₀ L m mg mb loose mean s Q E C hf hke hdp hun hret
  have X := C.X
  revert X; k_fill; intro X
  tb_start
  k_steps
  all_goals tb_rel
theorem words_T4_1 : True := by
  k_with "@ktr_rel" => (guard_hyp hT4_1; (first | exact ⟨rfl, by assumption⟩ | exact ⟨rfl, Tells.none (by assumption) (by assumption)⟩))
  trivial
set_option maxRecDepth 100000 in
set_option maxHeartbeats 4000000 in
theorem c_now (w : World) (news : Led) (r p : Addr) (ρ : Sgs) (π : List (Int × Int)) (now : Int → Option Int) (oR oP : Obj) (kR kP : List (Int × Value)) (ls : Led) (HR : DicL w r ρ news oR kR ls) (HP : DicI w p π news oP kP) (HT : Tells ρ π now) (k : Int) (t : Tok) :
    Spec w (.ref 427) [.ref r, .ref p, .int k t] [] 1 news (fun v news' => news' = news ∧ OV (now k) v) := by
  have hT4_1 := trivial; have g0 := trivial
  intro dp un gd env outer A₀ base h₀ L m mg mb loose mean s Q E C hf hke hdp hun hret
  have X := C.X
  revert X; k_fill; intro X
  tb_start
  k_steps
  all_goals tb_rel
theorem len_rows {w : World} {A : Around} {E Q : Value → Shared → Prop} {s : Shared} {h₀ : Heap} {L d : Addr} {big : Led} {σ : Sgs} {od : Obj} {kvs : List (Int × Value)} {ls : Led} (N : News h₀ L s.heap big) (H : DicL w d σ big od kvs ls)
    (h : Q (.int σ.length (s.toks + 1)) { s with toks := s.toks + 1 + 1 }) : wpAny (model Challenge.rw_ix0031_01.row.prog w) A (call (.builtin "len") [.ref d]) Q E s := by
  have e : kvs.length = σ.length := by
    have := congrArg List.length H.lists.keys
    simpa using this
  refine call_len_dict (knd := intKind Challenge.rw_ix0031_01.row.prog w) H.low (H.at N) (by have := H.klen; omega) ?_
  rw [e]; exact h
theorem words_T16_1 : True := by
  k_with "call builtin:len" => (guard_hyp hT16_1; ((k_here; (with_reducible show wpAny _ _ (call (Value.builtin "len") [Value.ref _]) _ _ _); k_dflt (refine' len_rows ?N_a5 ?H_a5 ?_; (case N_a5 => k_asm); (case H_a5 => first | exact SetL.dic (by assumption) | exact (SetL.mono (by assumption) (by intro p hp; repeat' (first | exact hp | refine List.Mem.tail _ ?_))).dic); k_whole))))
  trivial
set_option maxRecDepth 100000 in
set_option maxHeartbeats 4000000 in
theorem c_len (w : World) (news : Led) (x dx d : Addr) (c : Bool) (σ : Sgs) (t1 t2 : Tok) (n : Nat) (od : Obj) (kvs : List (Int × Value)) (ls : Led) (H : SetL w x c σ news dx d t1 t2 n od kvs ls) :
    SpecR w (.ref 299) [.ref x] [] 3 news (fun v => ∃ t, v = .int σ.length t) := by
  have hT16_1 := trivial; have g0 := trivial; have g1 := trivial
  have h1 := H.inst
  have h2 := H.dict
  intro dp un gd env outer A₀ base h₀ L m mg mb loose mean s Q E C hf hke hdp hun hret
  have X := C.X
  revert X; k_fill; intro X
  tb_start
  k_steps
  all_goals kwd_rel
@[reducible] noncomputable def mCode (v : Value) : Str → Option Value := fun y => if y = Str.ofString "code" then some v else none
@[reducible] noncomputable def offM (ns : List Str) (m₀ m : Str → Option Value) : Str → Option Value := fun z => if ns.contains z = true then m z else m₀ z
theorem SameOff.eqM {ns : List Str} {m₀ m : Str → Option Value} (h : SameOff ns m₀ m) : m = offM ns m₀ m := h.eq
@[reducible] noncomputable def mNow (v u : Value) : Str → Option Value := fun y => if y = Str.ofString "now" then some v else mCode u y
@[reducible] noncomputable def mStr (w v u : Value) : Str → Option Value := fun y => if y = Str.ofString "streams" then some w else mNow v u y
@[reducible] noncomputable def mTold (v u : Value) : Str → Option Value := fun y => if y = Str.ofString "told" then some v else mCode u y
@[reducible] noncomputable def mKnown (w v u : Value) : Str → Option Value := fun y => if y = Str.ofString "known" then some w else mTold v u y
noncomputable def AJ1 (u : Value) (n₀ : Led) (m' : Str → Option Value) (n' : Led) : Prop := SameOff [Str.ofString "one"] (mCode u) m' ∧ (∀ p ∈ n₀, p ∈ n')
inductive AJ2 (r : Option Int) (u : Value) (n₀ : Led) (m' : Str → Option Value) (n' : Led) : Prop
  | mk : ∀ v, (OV r v) → (SameOff [Str.ofString "one"] (mNow v u) m') → ((∀ p ∈ n₀, p ∈ n')) → AJ2 r u n₀ m' n'
inductive AJ4 (r r2 : Option Int) (u : Value) (n₀ : Led) (m' : Str → Option Value) (n' : Led) : Prop
  | mk : ∀ v v2, (OV r v) → (OV r2 v2) → (SameOff [Str.ofString "one"] (mStr v2 v u) m') → ((∀ p ∈ n₀, p ∈ n')) → AJ4 r r2 u n₀ m' n'
inductive Srt (ks : List Int) (D : Addr) (n' : Led) : Prop
  | mk : ∀ vs c ns, ((D, W.listOf (List.toArray vs) c) ∈ n') → (IntsV ns vs) → (ns.Perm ks) → (ns.Pairwise (· ≤ ·)) → Srt ks D n'
theorem Srt.up {ks : List Int} {D : Addr} {n n' : Led} (h : Srt ks D n) (hs : ∀ p ∈ n, p ∈ n') : Srt ks D n' := let ⟨vs, c, ns, h1, h2, h3, h4⟩ := h; ⟨vs, c, ns, hs _ h1, h2, h3, h4⟩
inductive AJ8 (ks : List Int) (u : Value) (n₀ : Led) (m' : Str → Option Value) (n' : Led) : Prop
  | mk : ∀ D1, (Srt ks D1 n') → (SameOff [Str.ofString "now", Str.ofString "streams", Str.ofString "one"] (mTold (.ref D1) u) m') → ((∀ p ∈ n₀, p ∈ n')) → AJ8 ks u n₀ m' n'
inductive AJ9 (ks ks2 : List Int) (u : Value) (n₀ : Led) (m' : Str → Option Value) (n' : Led) : Prop
  | mk : ∀ D1 D2, (Srt ks D1 n') → (Srt ks2 D2 n') → (D1 ≠ D2) → (SameOff [Str.ofString "now", Str.ofString "streams", Str.ofString "one"] (mKnown (.ref D2) (.ref D1) u) m') → ((∀ p ∈ n₀, p ∈ n')) → AJ9 ks ks2 u n₀ m' n'
theorem IntsV.get {is : List Int} {vs : List Value} (h : IntsV is vs) {j : Nat} {v : Value} (hv : vs[j]? = some v) : ∃ i t, is[j]? = some i ∧ v = .int i t := by
  obtain ⟨r, e1, e2⟩ := h.row.get j (List.getElem?_eq_some_iff.mp hv).1
  rw [List.getElem?_map] at e1
  cases q : is[j]? with
  | none => rw [q] at e1; cases e1
  | some i =>
    rw [q] at e1
    simp only [Option.map_some, Option.some.injEq] at e1
    subst e1
    have e3 := (List.getElem?_eq_some_iff.mp hv).2
    rw [e3] at e2
    cases e2
    exact ⟨i, _, rfl, rfl⟩
theorem OV.handed {r : Option Int} {v : Value} (h : OV r v) : handedIn v = true := by cases h <;> rfl
theorem SameOff.drop {names : List Str} {m₀ m : Str → Option Value} {x : Str} {v : Option Value} (h : SameOff names (fun z => if z = x then v else m₀ z) m) : SameOff (x :: names) m₀ m := fun z hz => by
  simp only [List.contains_cons, Bool.or_eq_false_iff, beq_eq_false_iff_ne] at hz
  rw [h z hz.2]
  simp only [if_neg hz.1]
theorem ov_isnot {prog : Program} {w : World} {A : Around} {E Q : Value → Shared → Prop} {s : Shared} {r : Option Int} {v : Value} (h : OV r v) (hq : Q (.bool r.isSome) s) : wpAny (model prog w) A (compareOp .IsNot v .none) Q E s := by
  cases h with
  | none => exact wpAny_pure hq
  | int => exact wpAny_pure hq
theorem ints_same {prog : Program} {w : World} {A : Around} {E Q : Value → Shared → Prop} {s : Shared} {h₀ : Heap} {L l l' : Addr} {news : Led} {vs vs' : List Value} {ns ns' : List Int} {n n' : Nat} (N : News h₀ L s.heap news) (hm : (l, W.listOf vs.toArray n) ∈ news) (hm' : (l', W.listOf vs'.toArray n') ∈ news) (hi : IntsV ns vs) (hi' : IntsV ns' vs') (hu : A.units < cLine) (hne : l ≠ l') (e : ns = ns') (h : Q (.bool true) s) :
    wpAny (model prog w) A (compareOp .Eq (.ref l) (.ref l')) Q E s := ints_eq N hm hm' hi hi' hu hne (by rw [e]; simpa using h)
theorem same_keys {w : World} {d d' : Addr} {σ ρ : Sgs} {n n' : Led} {o o' : Obj} {kvs kR : List (Int × Value)} {ls lR : Led} (H : DicL w d σ n o kvs ls) (H' : DicL w d' ρ n' o' kR lR) (hk : ∀ k, (look σ k).isSome = (look ρ k).isSome) : (kvs.map (·.1)).Perm (kR.map (·.1)) ∧ σ.length = ρ.length := by
  have hp : (σ.map (·.1)).Perm (ρ.map (·.1)) := perm_keys H.keysNd H'.keysNd fun k => by
    rw [look_some_key, look_some_key, ← Option.isSome_iff_exists, ← Option.isSome_iff_exists, hk]
  refine ⟨by rw [H.lists.keys, H'.lists.keys]; exact hp, by simpa using hp.length_eq⟩
theorem keys_at {α : Type} {kvs : List (Int × α)} {i : Nat} {k : Int} {y : α} (h : kvs[i]? = some (k, y)) : (kvs.map (·.1))[i]? = some k := by rw [List.getElem?_map, h]; rfl
theorem orElse.ov {r : Option Int} {v : Value} (h : orElse r .none v) : OV r v := by
  cases r with
  | none => have e : v = .none := h; subst e; exact .none
  | some i => obtain ⟨t, e⟩ := h; subst e; exact .int
theorem any5 {a b c d e f : Int} (h : ([a, b, c, d, e].any fun x => x == f) = true) : f = a ∨ f = b ∨ f = c ∨ f = d ∨ f = e := by
  simp only [List.any_cons, List.any_nil, Bool.or_false, Bool.or_eq_true, beq_iff_eq] at h
  exact h.imp Eq.symm (Or.imp Eq.symm (Or.imp Eq.symm (Or.imp Eq.symm Eq.symm)))
theorem OV.out {r : Option Int} {v : Value} (h : OV r v) : (r = Option.none ∧ v = Value.none) ∨ ∃ i t, r = some i ∧ v = .int i t := by
  cases h with
  | none => exact Or.inl ⟨rfl, rfl⟩
  | int => exact Or.inr ⟨_, _, rfl, rfl⟩
theorem words_T27 : True := by
  k_with "@startC" => (guard_hyp hT27; ((k_dflt (refine' enterD ?C_B ?kA_B ?kf_B ?kk_B ?k6_B ?k7_B ?k8_B ?k9_B ?kB_B ?kD_B ?_ ?c2_B ?c3_B ?c4_B; (case C_B => assumption); (case kA_B => exact rfl); (case kf_B => assumption); (case kk_B => assumption); (case k6_B => k_is); (case k7_B => k_is); (case k8_B => k_room); (case k9_B => first | exact BindsTo.of_eq rfl | exact binds_K (by k_in) rfl (by k_is) rfl rfl rfl); (case kB_B => exact rfl); (case kD_B => decide +kernel); (case c2_B => exact rfl); (case c3_B => exact rfl); (case c4_B => exact rfl); k_whole; intro g' L' h' tk' cells' FG' F' N' Y' l1' B' X' T' D' XB' TB' QQ RR hQQ hRR; (try dsimp only); (try k_lift B'); (try k_fold)))))
  k_with "exec For Name Call cons nil" => (guard_hyp hT27; ((k_here; k_dflt (refine' For_cx ?_))))
  k_with "exec For Name" => (guard_hyp hT27; ((k_here; k_dflt (refine' For_cx ?_))))
  k_with "pyIter ref" => (guard_hyp hT27; ((k_here; k_dflt (refine' iter_listC ?T00_ae ?G00_ae ⟨?B_ae, ?F_ae, ?N_ae, ?X_ae, ?T_ae, ?D_ae, ?XB_ae, ?TB_ae⟩ rfl hl (fun _ => AJ1 (.int code u) n₀) ?h0_ae (fun lo hlo i ma na nb hJ hk => ⟨hJ.1, fun p hp => hk p (hJ.2 p hp) (.inr (hlo p (hs _ hp)))⟩) (fun _ _ => rfl) (fun I i v m₁ n₁ h₁ gn tk g₁ hk hJ hI hTn hG C' => ?_) (fun m₁ n₁ h₁ gn tk g₁ hJ hTn hG C' => ?_); (case B_ae => k_asm); (case F_ae => k_asm); (case N_ae => k_asm); (case X_ae => k_asm); (case T_ae => k_asm); (case D_ae => assumption); (case XB_ae => assumption); (case TB_ae => assumption); (case T00_ae => first | assumption | exact KtsTurn.refl); (case G00_ae => first | assumption | exact GRel.refl _); (case h0_ae => exact ⟨.refl, hs⟩)); rotate_left; (obtain ⟨hj1, hb1⟩ := hJ; rw [hj1.eqM] at C'; obtain ⟨B', F', N', X', T', D', XB', TB'⟩ := C'; (try k_lift B'); (try k_fold)); rotate_right; (obtain ⟨hj1, hb1⟩ := hJ; rw [hj1.eqM] at C'; obtain ⟨kv, tv, hkv, hvt⟩ := hv.get hk; subst hvt; have S1 := h9.mono hb1; have R1 := h10.mono hb1; have P1 := h11.mono hb1; have i1 := S1.inst; have i2 := S1.dict; have z1 := hb1 _ w1; have z2 := hb1 _ w2; have z3 := hb1 _ w3; obtain ⟨B', F', N', X', T', D', XB', TB'⟩ := C'; (try k_lift B'); (try k_fold)))))
  k_with "call ref" => (guard_hyp hT27; ((k_here; (with_reducible show wpAny _ _ (call (Value.ref 357) _ _) _ _ _); k_dflt (refine' Spec.use (c_codes _ _) ?hA_U ?B_U ?F_U ?N_U ?X_U ?T_U ?D_U ?XB_U ?TB_U ?hf_U ?hke_U ?hdp_U ?hun_U (fun v n' h' gn' tk' g' hR kT kF kN kB kX₀ kP kD kX kG => ?_); (case F_U => k_asm); (case N_U => k_asm); skip; (case hA_U => exact rfl); (case B_U => k_asm); (case X_U => k_asm); (case T_U => k_asm); (case D_U => assumption); (case XB_U => assumption); (case TB_U => assumption); (case hf_U => exact rfl); (case hke_U => exact rfl); (case hdp_U => k_room); (case hun_U => k_units); (all_goals (try (have kT2 := KtsTurn.trans (by assumption) kT; clear kT))); (all_goals (try (have kG2 := GRel.trans (by assumption) kG; clear kG))); obtain ⟨l, vs, nn, he, hl, hv, hs, hlt⟩ := hR; subst he; (try dsimp only); (try k_lift kB); (try k_fold)))))
  k_with "call ref" => (guard_hyp hT27; ((k_here; (with_reducible show wpAny _ _ (call (Value.ref 399) _ _) _ _ _); k_dflt (refine' SpecR.use (c_read _ _ _ _ _ _ _ _ _ _ _ _ _ ?H_M _ _) ?hA_M ?B_M ?F_M ?N_M ?X_M ?T_M ?D_M ?XB_M ?TB_M ?hf_M ?hke_M ?hdp_M ?hun_M (fun v h' gn' tk' g' hR kT kF kN kB kX₀ kP kD kX kG => ?_); (case F_M => k_asm); (case N_M => k_asm); (case H_M => assumption); (case hA_M => exact rfl); (case B_M => k_asm); (case X_M => k_asm); (case T_M => k_asm); (case D_M => assumption); (case XB_M => assumption); (case TB_M => assumption); (case hf_M => exact rfl); (case hke_M => exact rfl); (case hdp_M => k_room); (case hun_M => k_units); (all_goals (try (have kT2 := KtsTurn.trans (by assumption) kT; clear kT))); (all_goals (try (have kG2 := GRel.trans (by assumption) kG; clear kG))); (try dsimp only); (try k_lift kB); (try k_fold)))))
  k_with "call ref" => (guard_hyp hT27; ((k_here; (with_reducible show wpAny _ _ (call (Value.ref 427) _ _) _ _ _); k_dflt (refine' SpecR.use (c_now _ _ _ _ _ _ _ _ _ _ _ _ ?H1_C ?H2_C ?H3_C _ _) ?hA_C ?B_C ?F_C ?N_C ?X_C ?T_C ?D_C ?XB_C ?TB_C ?hf_C ?hke_C ?hdp_C ?hun_C (fun v h' gn' tk' g' hR kT kF kN kB kX₀ kP kD kX kG => ?_); (case F_C => k_asm); (case N_C => k_asm); (case H1_C => assumption); (case H2_C => assumption); (case H3_C => assumption); (case hA_C => exact rfl); (case B_C => k_asm); (case X_C => k_asm); (case T_C => k_asm); (case D_C => assumption); (case XB_C => assumption); (case TB_C => assumption); (case hf_C => exact rfl); (case hke_C => exact rfl); (case hdp_C => k_room); (case hun_C => k_units); (all_goals (try (have kT2 := KtsTurn.trans (by assumption) kT; clear kT))); (all_goals (try (have kG2 := GRel.trans (by assumption) kG; clear kG))); (try dsimp only); (try k_lift kB); (try k_fold)))))
  k_with "compareOp NotEq" => (guard_hyp hT27; ((k_here; k_dflt (refine' ov_ne ?a_a6 ?b_a6 ?_; (case a_a6 => assumption); (case b_a6 => assumption)))))
  k_with "@J" => (guard_hyp hT27; (k_dflt (first | exact ⟨⟨(by repeat (first | exact SameOff.eqs (by assumption) | exact SameOff.refl | refine SameOff.ite (by rfl) ?_)), (fun p hp => by have hpz := hb1 p hp; repeat' (first | exact hpz | refine List.Mem.tail _ ?_))⟩, (let ⟨o, a, b, c, d⟩ := hI; ⟨o, a, b, c, d⟩)⟩ | exact ⟨(by repeat (first | exact SameOff.eqs (by assumption) | exact SameOff.refl | refine SameOff.ite (by rfl) ?_)), (fun p hp => by have hpz := hb1 p hp; repeat' (first | exact hpz | refine List.Mem.tail _ ?_))⟩ | exact ⟨_, by assumption, SameOff.put (SameOff.eqs hj1) _ _, (fun p hp => by have hpz := hb1 p hp; repeat' (first | exact hpz | refine List.Mem.tail _ ?_))⟩ | exact ⟨_, by assumption, SameOff.eqs hj1, (fun p hp => by have hpz := hb1 p hp; repeat' (first | exact hpz | refine List.Mem.tail _ ?_))⟩ | exact ⟨_, _, by assumption, by assumption, SameOff.put (SameOff.eqs hj1) _ _, (fun p hp => by have hpz := hb1 p hp; repeat' (first | exact hpz | refine List.Mem.tail _ ?_))⟩ | exact ⟨_, _, by assumption, by assumption, SameOff.eqs hj1, (fun p hp => by have hpz := hb1 p hp; repeat' (first | exact hpz | refine List.Mem.tail _ ?_))⟩ | exact ⟨_, ⟨_, _, _, .head _, hI', hp', ho'⟩, SameOff.put (SameOff.eqs hj1) _ _, (fun p hp => by have hpz := hb2 p (hb1 p hp); repeat' (first | exact hpz | refine List.Mem.tail _ ?_))⟩ | exact ⟨_, _, ⟨_, _, _, .tail _ (hb2 _ q1), q2, q3, q4⟩, ⟨_, _, _, .head _, hI', hp', ho'⟩, Nat.ne_of_lt (l1 _ (hb2 _ q1)), SameOff.put (SameOff.eqs hj1) _ _, (fun p hp => by have hpz := hb2 p (hb1 p hp); repeat' (first | exact hpz | refine List.Mem.tail _ ?_))⟩ | exact ⟨rfl, fun p hp => hp, (by first | assumption | exact GRel.refl _), hY.no (keys_at hkk) (by rw [← hcur, hb']; assumption)⟩ | exact ⟨rfl, fun p hp => hp, (by first | assumption | exact GRel.refl _), hY.yes (keys_at hkk) (by first | assumption | (rw [← hcur]; assumption))⟩ | exact ⟨rfl, fun p hp => hp, (by first | assumption | exact GRel.refl _), hY.no (keys_at hkk) (by first | assumption | (rw [← hcur]; assumption))⟩ | (rename (cur σ kk).isSome = _ => hz1; subst hz1; rename (cur σ kk).isSome = true => hz2; exact ⟨rfl, fun p hp => hp, (by first | assumption | exact GRel.refl _), hY.yes (keys_at hkk) (by rw [← hcur]; exact hz2)⟩) | (rename (cur σ kk).isSome = _ => hz1; subst hz1; rename ¬ (cur σ kk).isSome = true => hz2; exact ⟨rfl, fun p hp => hp, (by first | assumption | exact GRel.refl _), hY.no (keys_at hkk) (by rw [← hcur]; simpa using hz2)⟩))))
  k_with "call ref" => (guard_hyp hT27; ((k_here; (with_reducible show wpAny _ _ (call (Value.ref 306) _ _) _ _ _); k_dflt (refine' SpecR.use (c_has _ _ _ _ _ _ _ _ _ _ _ _ _ ?H_N _ _) ?hA_N ?B_N ?F_N ?N_N ?X_N ?T_N ?D_N ?XB_N ?TB_N ?hf_N ?hke_N ?hdp_N ?hun_N (fun v h' gn' tk' g' hR kT kF kN kB kX₀ kP kD kX kG => ?_); (case F_N => k_asm); (case N_N => k_asm); (case H_N => assumption); (case hA_N => exact rfl); (case B_N => k_asm); (case X_N => k_asm); (case T_N => k_asm); (case D_N => assumption); (case XB_N => assumption); (case TB_N => assumption); (case hf_N => exact rfl); (case hke_N => exact rfl); (case hdp_N => k_room); (case hun_N => k_units); (all_goals (try (have kT2 := KtsTurn.trans (by assumption) kT; clear kT))); (all_goals (try (have kG2 := GRel.trans (by assumption) kG; clear kG))); obtain ⟨b', he, hb'⟩ := hR; subst he; (first | (rw [hcur, hv2] at hb'; (first | (have hb3 : false = b' := hb'; subst hb3) | (have hb3 : true = b' := hb'; subst hb3))) | skip); (try dsimp only); (try k_lift kB); (try k_fold)))))
  k_with "call ref" => (guard_hyp hT27; ((k_here; (with_reducible show wpAny _ _ (call (Value.ref 314) _ _) _ _ _); k_dflt (refine' SpecR.use (c_get _ _ _ _ _ _ _ _ _ _ _ _ _ ?H_O _ _ _) ?hA_O ?B_O ?F_O ?N_O ?X_O ?T_O ?D_O ?XB_O ?TB_O ?hf_O ?hke_O ?hdp_O ?hun_O (fun v h' gn' tk' g' hR kT kF kN kB kX₀ kP kD kX kG => ?_); (case F_O => k_asm); (case N_O => k_asm); (case H_O => assumption); (case hA_O => exact rfl); (case B_O => k_asm); (case X_O => k_asm); (case T_O => k_asm); (case D_O => assumption); (case XB_O => assumption); (case TB_O => assumption); (case hf_O => exact rfl); (case hke_O => exact rfl); (case hdp_O => k_room); (case hun_O => k_units); (all_goals (try (have kT2 := KtsTurn.trans (by assumption) kT; clear kT))); (all_goals (try (have kG2 := GRel.trans (by assumption) kG; clear kG))); rw [hcur, hv2] at hR; (first | (have hR3 : _ = _ := hR; subst hR3) | (obtain ⟨tq, hR3⟩ := hR; subst hR3)); (try dsimp only); (try k_lift kB); (try k_fold)))))
  k_with "getAttr ref" => (guard_hyp hT27; ((k_here; (with_reducible show wpAny _ _ (getAttr (Value.ref _) (PySem.Str.ofString "max_concurrent_streams") _) _ _ _); k_dflt (refine' get_prop ?sF_s ?sX_s ?sI_s ?s1_s ?s2_s ?s3_s ?s4_s ?s5_s ?s6_s (SpecXC.useR (c_mcsC _ _ _ _ _ _ _ _ _ _ _ _ _ ?H_s) ?hA_s ?B_s ?F_s ?N_s ?X_s ?T_s ?D_s ?XB_s ?TB_s ?hf_s ?hke_s ?hdp_s ?hun_s (fun v h' gn' tk' g' hR kT kF kN kB kX₀ kP kD kX kG => ?_)); (case sF_s => k_asm); (case sX_s => k_asm); (case sI_s => k_inst); (case s1_s => k_is); (case s2_s => k_is); (case s3_s => k_is); (case s4_s => k_is); (case s5_s => k_is); (case s6_s => k_is); (case F_s => k_asm); (case N_s => k_asm); (case H_s => first | assumption | exact SetL.mono (by assumption) (by intro p hp; repeat' (first | exact hp | refine List.Mem.tail _ ?_))); (case hA_s => exact rfl); (case B_s => k_asm); (case X_s => k_asm); (case T_s => k_asm); (case D_s => assumption); (case XB_s => assumption); (case TB_s => assumption); (case hf_s => exact rfl); (case hke_s => exact rfl); (case hdp_s => k_room); (case hun_s => k_units); (all_goals (try (have kT2 := KtsTurn.trans (by assumption) kT; clear kT))); (all_goals (try (have kG2 := GRel.trans (by assumption) kG; clear kG))); obtain ⟨tq0, hR⟩ := hR; rw [hcur, hv4] at hR; (first | (have hR3 : _ = _ := hR; subst hR3) | (obtain ⟨tq, hR3⟩ := hR; subst hR3)); (try dsimp only); (try k_lift kB); (try k_fold); (try (refine handed_on ?hq_s ?_; (case hq_s => first | rfl | exact OV.handed (by assumption))))))))
  k_with "getAttr ref" => (guard_hyp hT27; ((k_here; (with_reducible show wpAny _ _ (getAttr (Value.ref _) (PySem.Str.ofString "max_header_list_size") _) _ _ _); k_dflt (refine' get_prop ?sF_t ?sX_t ?sI_t ?s1_t ?s2_t ?s3_t ?s4_t ?s5_t ?s6_t (SpecXC.useR (c_mhlC _ _ _ _ _ _ _ _ _ _ _ _ _ ?H_t) ?hA_t ?B_t ?F_t ?N_t ?X_t ?T_t ?D_t ?XB_t ?TB_t ?hf_t ?hke_t ?hdp_t ?hun_t (fun v h' gn' tk' g' hR kT kF kN kB kX₀ kP kD kX kG => ?_)); (case sF_t => k_asm); (case sX_t => k_asm); (case sI_t => k_inst); (case s1_t => k_is); (case s2_t => k_is); (case s3_t => k_is); (case s4_t => k_is); (case s5_t => k_is); (case s6_t => k_is); (case F_t => k_asm); (case N_t => k_asm); (case H_t => first | assumption | exact SetL.mono (by assumption) (by intro p hp; repeat' (first | exact hp | refine List.Mem.tail _ ?_))); (case hA_t => exact rfl); (case B_t => k_asm); (case X_t => k_asm); (case T_t => k_asm); (case D_t => assumption); (case XB_t => assumption); (case TB_t => assumption); (case hf_t => exact rfl); (case hke_t => exact rfl); (case hdp_t => k_room); (case hun_t => k_units); (all_goals (try (have kT2 := KtsTurn.trans (by assumption) kT; clear kT))); (all_goals (try (have kG2 := GRel.trans (by assumption) kG; clear kG))); have hR5 := orElse.ov hR; (try dsimp only); (try k_lift kB); (try k_fold); (try (refine handed_on ?hq_t ?_; (case hq_t => first | rfl | exact OV.handed (by assumption))))))))
  k_with "call ref" => (guard_hyp hT27; ((k_here; (with_reducible show wpAny _ _ (call (Value.ref 413) _ _) _ _ _); k_dflt (refine' SpecR.use (c_named _ _ _ _ _ _ _ _ _ _ _ _ _ ?H_D _ _ _ ?hk_D ?hc_D) ?hA_D ?B_D ?F_D ?N_D ?X_D ?T_D ?D_D ?XB_D ?TB_D ?hf_D ?hke_D ?hdp_D ?hun_D (fun v h' gn' tk' g' hR kT kF kN kB kX₀ kP kD kX kG => ?_); (case F_D => k_asm); (case N_D => k_asm); (case H_D => first | assumption | exact SetL.mono (by assumption) (by intro p hp; repeat' (first | exact hp | refine List.Mem.tail _ ?_))); (case hk_D => exact any5 (by assumption)); (case hc_D => (rw [hcur]; exact hv2)); (case hA_D => exact rfl); (case B_D => k_asm); (case X_D => k_asm); (case T_D => k_asm); (case D_D => assumption); (case XB_D => assumption); (case TB_D => assumption); (case hf_D => exact rfl); (case hke_D => exact rfl); (case hdp_D => k_room); (case hun_D => k_units); (all_goals (try (have kT2 := KtsTurn.trans (by assumption) kT; clear kT))); (all_goals (try (have kG2 := GRel.trans (by assumption) kG; clear kG))); obtain ⟨tq, hR⟩ := hR; subst hR; (try dsimp only); (try k_lift kB); (try k_fold)))))
  k_with "pyIter ref" => (guard_hyp hT27; ((k_here; k_dflt (refine' comp_settings ?T00_H ?G00_H ⟨?B_H, ?F_H, ?N_H, ?X_H, ?T_H, ?D_H, ?XB_H, ?TB_H⟩ rfl ?rm_H S1 ?hn_H ?hc_H ?hk_H ?hx_H (KeyY (fun k => (now k).isSome) (kvs.map (·.1))) (fun n => KeyY.start _ _ n) (KeyY.keep _ _) (fun Cc i v ys oC mC n₁ h₁ tk gn g₁ hi hP hb2 hY hCc hNs hmx hTn hG C' E' => ?_) (fun D ys nn n₁ h₁ tk gn g₁ hb2 hY hD hTn hG C' => ?_); (case B_H => k_asm); (case F_H => k_asm); (case N_H => k_asm); (case X_H => k_asm); (case T_H => k_asm); (case D_H => assumption); (case XB_H => assumption); (case TB_H => assumption); (case T00_H => first | assumption | exact KtsTurn.refl); (case G00_H => first | assumption | exact GRel.refl _); (case rm_H => k_room); (case hn_H => exact S1.dic.klen); (case hc_H => decide); (case hk_H => rfl); (case hx_H => rfl)); rotate_left; (have hI1 := hY.all (by simp); obtain ⟨B', F', N', X', T', D', XB', TB'⟩ := C'; (try k_lift B'); (try k_fold)); rotate_right; (have hb3 := fun p hp => hb2 p (hb1 p hp); have S2 := h9.mono hb3; have R2 := h10.mono hb3; have P2 := h11.mono hb3; have i3 := S2.inst; have i4 := S2.dict; have y1 := hb3 _ w1; have y2 := hb3 _ w2; have y3 := hb3 _ w3; obtain ⟨kk, yy, tt, hkk, hvv⟩ := hP; subst hvv; have hGr := GRel.refl gn; obtain ⟨B', F', N', X', T', D', XB', TB'⟩ := C'; (try k_lift B'); (try k_fold); refine wpAny_tests_one ?_))))
  k_with "pyIter ref" => (guard_hyp hT27; ((k_here; k_dflt (refine' comp_keys ?T00_P ?G00_P ⟨?B_P, ?F_P, ?N_P, ?X_P, ?T_P, ?D_P, ?XB_P, ?TB_P⟩ rfl R1.body R1.isd ?hn_P R1.low ?hc_P ?hk_P ?hx_P (KeyY (fun k => (now k).isSome) (kR.map (·.1))) (fun n => KeyY.start _ _ n) (KeyY.keep _ _) (fun Cc i v ys oC mC n₁ h₁ tk gn g₁ hi hP hb2 hY hCc hNs hmx hTn hG C' E' => ?_) (fun D ys nn n₁ h₁ tk gn g₁ hb2 hY hD hTn hG C' => ?_); (case B_P => k_asm); (case F_P => k_asm); (case N_P => k_asm); (case X_P => k_asm); (case T_P => k_asm); (case D_P => assumption); (case XB_P => assumption); (case TB_P => assumption); (case T00_P => first | assumption | exact KtsTurn.refl); (case G00_P => first | assumption | exact GRel.refl _); (case hn_P => exact R1.klen); (case hc_P => decide); (case hk_P => rfl); (case hx_P => rfl)); rotate_left; (have hI1 := hY.all (by simp); obtain ⟨B', F', N', X', T', D', XB', TB'⟩ := C'; (try k_lift B'); (try k_fold)); rotate_right; (have hb3 := fun p hp => hb2 p (hb1 p hp); have S2 := h9.mono hb3; have R2 := h10.mono hb3; have P2 := h11.mono hb3; have i3 := S2.inst; have i4 := S2.dict; have y1 := hb3 _ w1; have y2 := hb3 _ w2; have y3 := hb3 _ w3; obtain ⟨kk, yy, tt, hkk, hvv⟩ := hP; subst hvv; have hGr := GRel.refl gn; obtain ⟨B', F', N', X', T', D', XB', TB'⟩ := C'; (try k_lift B'); (try k_fold); refine wpAny_tests_one ?_))))
  k_with "call builtin:sorted" => (guard_hyp hT27; ((k_here; k_dflt (refine' sorted_ints ?F_aX ?N_aX hD hI1 ?l_aX (fun D' vs' ns' c' h' F' N' l1 hI' hp' ho' => ?_); (case F_aX => k_asm); (case N_aX => k_asm); (case l_aX => (have hlz := List.length_filter_le (fun k => (now k).isSome); refine Nat.lt_of_le_of_lt (hlz _) ?_; simp only [List.length_map]; first | exact kvl | exact kRl))))))
  k_with "compareOp Eq ref ref" => (guard_hyp hT27; ((k_here; k_dflt (refine' ints_same ?N_a7 q1 r1 q2 r2 ?u_a7 hne heq ?_; (case N_a7 => k_asm); (case u_a7 => k_units)))))
  k_with "call builtin:len" => (guard_hyp hT27; ((k_here; k_dflt (refine' len_led ?N_bb r1 hl2 ?_; (case N_bb => k_asm)))))
  k_with "call builtin:len" => (guard_hyp hT27; ((k_here; k_dflt (refine' len_rows ?N_bc R1 ?_; (case N_bc => k_asm)))))
  k_with "call ref" => (guard_hyp hT27; ((k_here; (with_reducible show wpAny _ _ (call (Value.ref 299) _ _) _ _ _); k_dflt (refine' SpecR.use (c_len _ _ _ _ _ _ _ _ _ _ _ _ _ ?H_Q) ?hA_Q ?B_Q ?F_Q ?N_Q ?X_Q ?T_Q ?D_Q ?XB_Q ?TB_Q ?hf_Q ?hke_Q ?hdp_Q ?hun_Q (fun v h' gn' tk' g' hR kT kF kN kB kX₀ kP kD kX kG => ?_); (case F_Q => k_asm); (case N_Q => k_asm); (case H_Q => assumption); (case hA_Q => exact rfl); (case B_Q => k_asm); (case X_Q => k_asm); (case T_Q => k_asm); (case D_Q => assumption); (case XB_Q => assumption); (case TB_Q => assumption); (case hf_Q => exact rfl); (case hke_Q => exact rfl); (case hdp_Q => k_room); (case hun_Q => k_units); (all_goals (try (have kT2 := KtsTurn.trans (by assumption) kT; clear kT))); (all_goals (try (have kG2 := GRel.trans (by assumption) kG; clear kG))); obtain ⟨tq, hR⟩ := hR; subst hR; (try dsimp only [PySem.W.LenBack]); (try (refine ⟨⟨by omega, by omega⟩, ?_⟩)); (try dsimp only); (try k_lift kB); (try k_fold)))))
  k_with "@kwd" => (guard_hyp hT27; (((try dsimp only); refine' backR ?H_V ?F_V ?N_V ?S_V ?R_V ?T_V ?B_V ?X_V ?TT_V ?D_V ?XB_V ?TB_V ?GG_V; (case H_V => assumption); (case F_V => k_asm); (case N_V => k_asm); (case S_V => exact fun p hp => hb1 p (hnw p hp)); (case T_V => first | assumption | exact KtsTurn.refl); (case B_V => first | assumption | exact Cx.B (by assumption)); (case X_V => first | assumption | exact Cx.X (by assumption)); (case TT_V => first | assumption | exact Cx.T (by assumption)); (case D_V => first | assumption | exact Cx.D (by assumption)); (case XB_V => first | assumption | exact Cx.XB (by assumption)); (case TB_V => first | assumption | exact Cx.TB (by assumption)); (case R_V => ktr_rel); (case GG_V => first | exact GRel.refl _ | assumption | exact GRel.trans (by assumption) (by assumption)))))
  k_with "@ktr_rel" => (guard_hyp hT27; (first | rfl | exact congrArg Value.bool (bne_iff_ne.mpr (by assumption)) | exact congrArg Value.bool (beq_iff_eq.mpr (by omega))))
  trivial
set_option maxRecDepth 100000 in
set_option maxHeartbeats 4000000 in
theorem c_alike (w : World) (news : Led) (x dx d : Addr) (c : Bool) (σ : Sgs) (t1 t2 : Tok) (n : Nat) (od : Obj) (kvs : List (Int × Value)) (ls : Led) (H : SetL w x c σ news dx d t1 t2 n od kvs ls) (rd pd : Addr) (ρ : Sgs) (π : List (Int × Int)) (now : Int → Option Int) (oR oP : Obj) (kR kP : List (Int × Value)) (lR : Led) (HR : DicL w rd ρ news oR kR lR) (HP : DicI w pd π news oP kP) (HT : Tells ρ π now) (code : Int) (u : Tok)
    (hcur : ∀ k, cur σ k = now k) (hkeys : ∀ k, (look σ k).isSome = (look ρ k).isSome) (hsl : σ.length < 60) (hrl : ρ.length < 60) (hcb : code.natAbs < 2 ^ 60) :
    SpecR w (.ref 432) [.ref x, .ref rd, .ref pd, .int code u] [] 12 news (fun v => v = .bool true) := by
  have hT27 := trivial; have g1 := trivial; have g2 := trivial; have g3 := trivial; have g4 := trivial; have g5 := trivial; have g6 := trivial
  have h1 := H.inst
  have h2 := H.dict
  have h3 := HR.isd
  have h4 := HR.body
  have h5 := HR.low
  intro dp un gd env outer A₀ base h₀ L m mg mb loose mean s Q E C hf hke hdp hun hret
  have X := C.X
  revert X; k_fill; intro X
  refine wpAny_call ?_
  have cF := C.F
  k_extra "@startC"
  obtain ⟨o1, o2, o3, hE, d1, d2, d3⟩ := CellsAre.three Y'
  subst hE
  clear Y'
  replace d1 : o1.data = .cell (some (.ref pd)) := d1
  replace d2 : o2.data = .cell (some (.ref rd)) := d2
  replace d3 : o3.data = .cell (some (.ref x)) := d3
  replace F' : Fr g' L' h' (mCode (.int code u)) := F'
  simp only [List.cons_append, List.nil_append] at N'
  have h9 : SetL w x c σ ((L' + 1 + 1 + 1, o1) :: (L' + 1 + 1, o2) :: (L' + 1, o3) :: news) dx d t1 t2 n od kvs ls := H.mono fun p hp => .tail _ (.tail _ (.tail _ hp))
  have h10 : DicL w rd ρ ((L' + 1 + 1 + 1, o1) :: (L' + 1 + 1, o2) :: (L' + 1, o3) :: news) oR kR lR := HR.mono fun p hp => .tail _ (.tail _ (.tail _ hp))
  have h11 : DicI w pd π ((L' + 1 + 1 + 1, o1) :: (L' + 1 + 1, o2) :: (L' + 1, o3) :: news) oP kP := HP.mono fun p hp => .tail _ (.tail _ (.tail _ hp))
  have hnw : ∀ p ∈ news, p ∈ ((L' + 1 + 1 + 1, o1) :: (L' + 1 + 1, o2) :: (L' + 1, o3) :: news) := fun p hp => .tail _ (.tail _ (.tail _ hp))
  have w1 : (L' + 1 + 1 + 1, o1) ∈ ((L' + 1 + 1 + 1, o1) :: (L' + 1 + 1, o2) :: (L' + 1, o3) :: news) := .head _
  have w2 : (L' + 1 + 1, o2) ∈ ((L' + 1 + 1 + 1, o1) :: (L' + 1 + 1, o2) :: (L' + 1, o3) :: news) := .tail _ (.head _)
  have w3 : (L' + 1, o3) ∈ ((L' + 1 + 1 + 1, o1) :: (L' + 1 + 1, o2) :: (L' + 1, o3) :: news) := .tail _ (.tail _ (.head _))
  generalize ((L' + 1 + 1 + 1, o1) :: (L' + 1 + 1, o2) :: (L' + 1, o3) :: news) = n₀ at N' h9 h10 h11 hnw w1 w2 w3
  have kvl : kvs.length < 64 := by have hq := congrArg List.length H.dic.lists.keys; simp only [List.length_map] at hq; omega
  have kRl : kR.length < 64 := by have hq := congrArg List.length HR.lists.keys; simp only [List.length_map] at hq; omega
  refine cut KtsTurn.refl (GRel.refl _) ⟨B', F', N', X', T', D', XB', TB'⟩ (fun m' n' => AJ1 (.int code u) n₀ m' n') ?_ fun m₁ n₁ h₁ gn tk g₁ hJ hTn hGn C' => ?_
  · k_steps
  obtain ⟨hj1, hb1⟩ := hJ; rw [hj1.eqM] at C'; have S1 := h9.mono hb1; have R1 := h10.mono hb1; have P1 := h11.mono hb1; have i1 := S1.inst; have i2 := S1.dict; have z1 := hb1 _ w1; have z2 := hb1 _ w2; have z3 := hb1 _ w3; obtain ⟨B', F', N', X', T', D', XB', TB'⟩ := C'; (try k_lift B'); (try k_fold); have hTm := hTn; have hGm := hGn
  refine cut hTm hGm ⟨B', F', N', X', T', D', XB', TB'⟩ (fun m' n' => AJ2 (now code) (.int code u) n₀ m' n') ?_ fun m₁ n₁ h₁ gn tk g₁ hJ hTn hGn C' => ?_
  · k_steps
  obtain ⟨v, hv1, hj1, hb1⟩ := hJ; rw [hj1.eqM] at C'; have S1 := h9.mono hb1; have R1 := h10.mono hb1; have P1 := h11.mono hb1; have i1 := S1.inst; have i2 := S1.dict; have z1 := hb1 _ w1; have z2 := hb1 _ w2; have z3 := hb1 _ w3; obtain ⟨B', F', N', X', T', D', XB', TB'⟩ := C'; (try k_lift B'); (try k_fold); have hTm := hTn; have hGm := hGn
  refine cut hTm hGm ⟨B', F', N', X', T', D', XB', TB'⟩ (fun m' n' => AJ2 (now code) (.int code u) n₀ m' n') ?_ fun m₁ n₁ h₁ gn tk g₁ hJ hTn hGn C' => ?_
  · rcases hv1.out with ⟨hv2, rfl⟩ | ⟨i1, u1, hv2, rfl⟩ <;> k_steps
  obtain ⟨v, hv1, hj1, hb1⟩ := hJ; rw [hj1.eqM] at C'; have S1 := h9.mono hb1; have R1 := h10.mono hb1; have P1 := h11.mono hb1; have i1 := S1.inst; have i2 := S1.dict; have z1 := hb1 _ w1; have z2 := hb1 _ w2; have z3 := hb1 _ w3; obtain ⟨B', F', N', X', T', D', XB', TB'⟩ := C'; (try k_lift B'); (try k_fold); have hTm := hTn; have hGm := hGn
  refine cut hTm hGm ⟨B', F', N', X', T', D', XB', TB'⟩ (fun m' n' => AJ4 (now code) (now 3) (.int code u) n₀ m' n') ?_ fun m₁ n₁ h₁ gn tk g₁ hJ hTn hGn C' => ?_
  · k_steps
  obtain ⟨v, v2, hv1, hv3, hj1, hb1⟩ := hJ; rw [hj1.eqM] at C'; have S1 := h9.mono hb1; have R1 := h10.mono hb1; have P1 := h11.mono hb1; have i1 := S1.inst; have i2 := S1.dict; have z1 := hb1 _ w1; have z2 := hb1 _ w2; have z3 := hb1 _ w3; obtain ⟨B', F', N', X', T', D', XB', TB'⟩ := C'; (try k_lift B'); (try k_fold); have hTm := hTn; have hGm := hGn
  refine cut hTm hGm ⟨B', F', N', X', T', D', XB', TB'⟩ (fun m' n' => AJ4 (now code) (now 3) (.int code u) n₀ m' n') ?_ fun m₁ n₁ h₁ gn tk g₁ hJ hTn hGn C' => ?_
  · rcases hv3.out with ⟨hv4, rfl⟩ | ⟨i1, u1, hv4, rfl⟩ <;> k_steps
  obtain ⟨v, v2, hv1, hv3, hj1, hb1⟩ := hJ; rw [hj1.eqM] at C'; have S1 := h9.mono hb1; have R1 := h10.mono hb1; have P1 := h11.mono hb1; have i1 := S1.inst; have i2 := S1.dict; have z1 := hb1 _ w1; have z2 := hb1 _ w2; have z3 := hb1 _ w3; obtain ⟨B', F', N', X', T', D', XB', TB'⟩ := C'; (try k_lift B'); (try k_fold); have hTm := hTn; have hGm := hGn
  refine cut hTm hGm ⟨B', F', N', X', T', D', XB', TB'⟩ (fun m' n' => AJ4 (now code) (now 3) (.int code u) n₀ m' n') ?_ fun m₁ n₁ h₁ gn tk g₁ hJ hTn hGn C' => ?_
  · k_steps
  obtain ⟨v, v2, hv1, hv3, hj1, hb1⟩ := hJ; rw [hj1.eqM] at C'; have S1 := h9.mono hb1; have R1 := h10.mono hb1; have P1 := h11.mono hb1; have i1 := S1.inst; have i2 := S1.dict; have z1 := hb1 _ w1; have z2 := hb1 _ w2; have z3 := hb1 _ w3; obtain ⟨B', F', N', X', T', D', XB', TB'⟩ := C'; (try k_lift B'); (try k_fold); have hTm := hTn; have hGm := hGn
  refine cut hTm hGm ⟨B', F', N', X', T', D', XB', TB'⟩ (fun m' n' => AJ4 (now code) (now 3) (.int code u) n₀ m' n') ?_ fun m₁ n₁ h₁ gn tk g₁ hJ hTn hGn C' => ?_
  · rcases hv1.out with ⟨hv2, rfl⟩ | ⟨i1, u1, hv2, rfl⟩ <;> k_steps
  obtain ⟨v, v2, hv1, hv3, hj0, hb1⟩ := hJ; have hj1 := hj0.drop.drop; rw [hj1.eqM] at C'; have S1 := h9.mono hb1; have R1 := h10.mono hb1; have P1 := h11.mono hb1; have i1 := S1.inst; have i2 := S1.dict; have z1 := hb1 _ w1; have z2 := hb1 _ w2; have z3 := hb1 _ w3; obtain ⟨B', F', N', X', T', D', XB', TB'⟩ := C'; (try k_lift B'); (try k_fold); have hTm := hTn; have hGm := hGn
  refine cut hTm hGm ⟨B', F', N', X', T', D', XB', TB'⟩ (fun m' n' => AJ8 ((kvs.map (·.1)).filter fun k => (now k).isSome) (.int code u) n₀ m' n') ?_ fun m₁ n₁ h₁ gn tk g₁ hJ hTn hGn C' => ?_
  · k_steps
  obtain ⟨D1, ⟨vs1, c1, ns1, q1, q2, q3, q4⟩, hj1, hb1⟩ := hJ; rw [hj1.eqM] at C'; have S1 := h9.mono hb1; have R1 := h10.mono hb1; have P1 := h11.mono hb1; have i1 := S1.inst; have i2 := S1.dict; have z1 := hb1 _ w1; have z2 := hb1 _ w2; have z3 := hb1 _ w3; obtain ⟨B', F', N', X', T', D', XB', TB'⟩ := C'; (try k_lift B'); (try k_fold); have hTm := hTn; have hGm := hGn
  refine cut hTm hGm ⟨B', F', N', X', T', D', XB', TB'⟩ (fun m' n' => AJ9 ((kvs.map (·.1)).filter fun k => (now k).isSome) ((kR.map (·.1)).filter fun k => (now k).isSome) (.int code u) n₀ m' n') ?_ fun m₁ n₁ h₁ gn tk g₁ hJ hTn hGn C' => ?_
  · k_steps
  obtain ⟨D1, D2, ⟨vs1, c1, ns1, q1, q2, q3, q4⟩, ⟨vs2, c2, ns2, r1, r2, r3, r4⟩, hne, hj1, hb1⟩ := hJ; rw [hj1.eqM] at C'; have S1 := h9.mono hb1; have R1 := h10.mono hb1; have P1 := h11.mono hb1; have i1 := S1.inst; have i2 := S1.dict; have z1 := hb1 _ w1; have z2 := hb1 _ w2; have z3 := hb1 _ w3; obtain ⟨B', F', N', X', T', D', XB', TB'⟩ := C'; (try k_lift B'); (try k_fold)
  obtain ⟨hp1, hlen⟩ := same_keys H.dic HR hkeys
  have heq := sorted_same (hp1.filter fun k => (now k).isSome) q3 r3 q4 r4
  have hl2 : vs2.length ≤ 1000 := by
    have e1 := r2.len; have e2 := r3.length_eq; have e3 := List.length_filter_le (fun k => (now k).isSome) (kR.map (·.1))
    simp only [List.length_map] at e3
    omega
  k_steps
  all_goals k_extra "@kwd"
theorem execs_app {M : Model} {A : Around} {E : Value → Shared → Prop} {P Q : Flow → Shared → Prop} {env : Env} {rest : List Stmt} (fin : ∀ f s', P f s' → f = .next ∧ wpAny M A (execs rest env) Q E s') : ∀ (pre : List Stmt) {s : Shared}, wpAny M A (execs pre env) P E s → wpAny M A (execs (pre ++ rest) env) Q E s := by
  have key : ∀ (Γ : PySem.Ctx), Γ.In A → ∀ (pre : List Stmt) (p : Pos) (s : Shared), Sem.wp M Γ (execs pre env) (fun f _ s' => P f s') (fun e _ s' => E e s') p s → Sem.wp M Γ (execs (pre ++ rest) env) (fun f _ s' => Q f s') (fun e _ s' => E e s') p s := by
    intro Γ hΓ pre
    induction pre with
    | nil => intro p s h; exact (fin _ _ h).2 Γ p hΓ
    | cons st pre ih =>
      intro p s h
      rw [List.cons_append, execs_cons, Sem.wp_bind']
      rw [execs_cons, Sem.wp_bind'] at h
      refine Sem.wp_mono M Γ _ (fun f p' s' h' => ?_) (fun _ _ _ x => x) _ _ h
      cases f with
      | next => exact ih p' s' h'
      | cont => exact absurd (fin _ _ h').1 (by intro x; cases x)
      | brk => exact absurd (fin _ _ h').1 (by intro x; cases x)
      | ret v => exact absurd (fin _ _ h').1 (by intro x; cases x)
  exact fun pre s h Γ p hΓ => key Γ hΓ pre p s (h Γ p hΓ)
section
variable {w : World} {A A₀ : Around} {base h₀ h00 : Heap} {outer : List Env} {loose : List Str} {mean : ExcName → Option Value} {mg mb : Str → Option Value} {L : Addr} {m : Str → Option Value} {news : Led} {s : Shared} {Q : Flow → Shared → Prop} {E : Value → Shared → Prop} {env : Env} {a b c d : Stmt} {rest : List Stmt} {g00 : Array GenState}
theorem cutN (pre : List Stmt) (T00 : KtsTurn (outer.filterMap (·.frame)) h00 h₀) (G00 : GRel g00 s.gens) (C : Cx w A₀ base outer loose mean mg mb h₀ L m news s.heap) (J : (Str → Option Value) → Led → Prop)
    (h1 : wpAny (model Challenge.rw_ix0031_01.row.prog w) A (execs pre env) (SeamEnd w A₀ base outer loose mean mg mb h00 g00 L s (fun m' n' _ => J m' n')) E s)
    (h2 : ∀ m₁ n₁ h₁ gn tk g₁, J m₁ n₁ → KtsTurn (outer.filterMap (·.frame)) h00 g₁ → GRel g00 gn → Cx w A₀ base outer loose mean mg mb g₁ L m₁ n₁ h₁ → wpAny (model Challenge.rw_ix0031_01.row.prog w) A (execs rest env) Q E { s with heap := h₁, gens := gn, toks := tk }) :
    wpAny (model Challenge.rw_ix0031_01.row.prog w) A (execs (pre ++ rest) env) Q E s := by
  refine execs_app (fun f s₄ h₄ => ?_) pre h1
  cases f with
  | next =>
    (refine hide fun G__ k__ => ?_; obtain ⟨h', gn', tk', m', news', h₀', rfl, T, G, C, hJ⟩ := h₄; refine k__ ?_; clear k__ G__)
    exact ⟨rfl, h2 m' news' h' gn' tk' h₀' hJ T G C⟩
  | cont => exact h₄.elim
  | brk => exact h₄.elim
  | ret v => exact h₄.elim
end
noncomputable def IL (l : Addr) (ns : List Int) (n : Led) : Prop := ∃ vs c, (l, W.listOf (List.toArray vs) c) ∈ n ∧ IntsV ns vs
theorem IL.up {l : Addr} {ns : List Int} {n n' : Led} (h : IL l ns n) (hs : ∀ p ∈ n, p ∈ n') : IL l ns n' := let ⟨vs, c, h1, h2⟩ := h; ⟨vs, c, hs _ h1, h2⟩
section
variable {prog : Program} {w : World} {A : Around} {E : Value → Shared → Prop} {s : Shared} {h₀ : Heap} {L l : Addr} {m : Str → Option Value} {news big : Led} {ns : List Int}
theorem truthy_il {Q : Bool → Shared → Prop} (N : News h₀ L s.heap big) (H : IL l ns big) (hl : ns.length ≤ 1000) {b : Bool} (hb : decide (0 < ns.length) = b) (h : Q b { s with toks := s.toks + 1 + 1 }) : wpAny (model prog w) A (truthy (.ref l)) Q E s := by
  subst hb
  obtain ⟨vs, c, h1, h2⟩ := H
  have e : (!vs.toArray.isEmpty) = decide (0 < ns.length) := by
    rw [← h2.len]
    cases vs <;> simp
  refine wpAny_truthy_list (items := vs.toArray) ⟨_, (N _ h1).1, rfl, c, rfl⟩ (by rw [List.size_toArray, h2.len]; omega) ?_
  rw [e]; exact h
theorem item_il {value slice : Expr} {k : Int} {u : Tok} {i : Int} {Q : Value → Shared → Prop} (N : News h₀ L s.heap big) (H : IL l ns big) (h0 : 0 ≤ k) (hhi : k < 2 ^ 63) (hx : ns[k.toNat]? = some i) (h : ∀ t, Q (.int i t) s)
    (hs : subscripted slice false (.ref l) (.int k u) = operate [.ref l, .int k u] (getItem (.ref l) (.int k u))) :
    wpAny (model Challenge.rw_ix0031_01.row.prog w) A (subscriptTail value slice (.ref l) (.int k u)) Q E s := by
  obtain ⟨vs, c, h1, h2⟩ := H
  obtain ⟨t, e⟩ := h2.at hx
  exact item_led (w := w) N h1 h0 hhi e (h t) hs
theorem slice_il {value slice : Expr} {vl vu : Value} {lo hi : Option Int} {ms : List Int} {Q : Value → Shared → Prop} (F : Fr h₀ L s.heap m) (N : News h₀ L s.heap big) (H : IL l ns big) (hl : ns.length ≤ 1000) (pl : IsPart vl lo) (pu : IsPart vu hi)
    (hm : ∀ vs : List Value, IntsAre vs ns → IntsAre (slicePick vs.toArray lo hi none).toList ms)
    (h : ∀ D o h', Fr h₀ L h' m → News h₀ L h' ((D, o) :: big) → (∀ p ∈ big, p.1 < D) → IL D ms ((D, o) :: big) → Q (.ref D) { s with heap := h' })
    (hs : subscripted slice false (.ref l) (.ref s.heap.objs.size) = operate [.ref s.heap.objs.size, .ref l] (getItem (.ref l) (.ref s.heap.objs.size))) (ht : ∀ r, letTemporaryGo value (.ref l) r = pure ()) :
    wpAny (model prog w) A (subscriptTail value slice (.ref l) (.ref s.heap.objs.size)) Q E { s with heap := s.heap.push { cls := .type "slice", data := .fields #[vl, vu, .none] } } := by
  obtain ⟨c, h1, h2⟩ := Classical.choose_spec H
  have hle := hm _ h2.are
  refine kmk_slice F N ⟨_, (N _ h1).1, rfl, c, rfl⟩ pl pu (fun D h' F' N' l1 => ?_) hs ht (by rw [List.size_toArray, h2.len, sizeLine_eq]; omega)
  refine h D _ h' F' N' l1 ⟨_, 0, ?_, .of hle⟩
  rw [Array.toArray_toList]; exact .head _
end
noncomputable def CellIn (c : Addr) (v : Option Value) (n : Led) : Prop := ∃ o, (c, o) ∈ n ∧ o.data = .cell v
theorem CellIn.up {c : Addr} {v : Option Value} {n n' : Led} (h : CellIn c v n) (hs : ∀ p ∈ n, p ∈ n') : CellIn c v n' := let ⟨o, h1, h2⟩ := h; ⟨o, hs _ h1, h2⟩
noncomputable def notCell (o : Obj) : Bool := match o.data with
  | .cell _ => false
  | _ => true
@[reducible] noncomputable def NC (n n' : Led) : Prop := ∀ p ∈ n, notCell p.2 = true → p ∈ n'
theorem DicL.nc {w : World} {d : Addr} {σ : Sgs} {n n' : Led} {od : Obj} {kvs : List (Int × Value)} {ls : Led} (H : DicL w d σ n od kvs ls) (h : NC n n') : DicL w d σ n' od kvs ls := by
  refine ⟨h _ H.body ?_, H.isd, H.lists, fun p hp => h _ (H.lsin p hp) ?_, H.low, H.ne, H.nd, H.fit⟩
  · (refine hide fun G__ k__ => ?_; obtain ⟨es, ep, hx, hd, _⟩ := H.isd; refine k__ ?_; clear k__ G__)
    unfold notCell; rw [hd]
  · (refine hide fun G__ k__ => ?_; obtain ⟨row, vs, c, e, _⟩ := H.lists.objs hp; refine k__ ?_; clear k__ G__)
    rw [e]; rfl
theorem SetL.nc {w : World} {x : Addr} {c : Bool} {σ : Sgs} {n n' : Led} {dx d : Addr} {t1 t2 : Tok} {k : Nat} {od : Obj} {kvs : List (Int × Value)} {ls : Led} (H : SetL w x c σ n dx d t1 t2 k od kvs ls) (h : NC n n') : SetL w x c σ n' dx d t1 t2 k od kvs ls := ⟨h _ H.inst rfl, h _ H.dict rfl, H.sep, H.dic.nc h⟩
theorem DicI.nc {w : World} {d : Addr} {π : List (Int × Int)} {n n' : Led} {od : Obj} {kvs : List (Int × Value)} (H : DicI w d π n od kvs) (h : NC n n') : DicI w d π n' od kvs := by
  refine ⟨h _ H.body ?_, H.isd, H.nums, H.low⟩
  (refine hide fun G__ k__ => ?_; obtain ⟨es, ep, hx, hd, _⟩ := H.isd; refine k__ ?_; clear k__ G__)
  unfold notCell; rw [hd]
theorem IL.nc {l : Addr} {ns : List Int} {n n' : Led} (H : IL l ns n) (h : NC n n') : IL l ns n' := let ⟨vs, c, h1, h2⟩ := H; ⟨vs, c, h _ h1 rfl, h2⟩
theorem CellIn.wr {c d : Addr} {v : Option Value} {n : Led} {o : Obj} (h : CellIn c v n) (hne : c ≠ d) : CellIn c v (wrL n d o) := let ⟨o', h1, h2⟩ := h; ⟨o', wrL.keep h1 hne, h2⟩
section
variable {M : Model} {A : Around} {E : Value → Shared → Prop} {s : Shared} {env : Env} {h₀ : Heap} {L c : Addr} {m : Str → Option Value} {n : Led} {x : Str} {v : Value} {v₀ : Option Value}
theorem store_cell {Q : Unit → Shared → Prop} (F : Fr h₀ L s.heap m) (N : News h₀ L s.heap n) (hc : env.cells.lookup x = some c) (H : CellIn c v₀ n) (hk : env.scope.kind = .function) (hx : env.kindOf x = some .cell)
    (h : ∀ h' n', Fr h₀ L h' m → News h₀ L h' n' → NC n n' → CellIn c (some v) n' → (∀ c' v', c' ≠ c → CellIn c' v' n → CellIn c' v' n') → Q () { s with heap := h' }) : wpAny M A (storeName env x v) Q E s := by
  obtain ⟨o, h1, h2⟩ := H
  refine wpAny_storeName_cell hk hx hc ⟨o, (N _ h1).1, h2⟩ fun h' hv hs => ?_
  obtain ⟨o', ho', hd'⟩ := hv
  refine h h' (wrL n c o') (F.change hs (N _ h1).2.1 (N _ h1).2.2) (News.wr N h1 hs ho') (fun p hp hq => wrL.keep hp fun e => ?_) ⟨o', .head _, hd'⟩ fun c' v' hne hc' => hc'.wr hne
  have h3 : (c, p.2) ∈ n := e ▸ hp
  rw [led_eq N h3 h1] at hq
  unfold notCell at hq
  rw [h2] at hq; cases hq
end
section
variable {prog : Program} {w : World} {A : Around} {E : Value → Shared → Prop} {s : Shared} {env : Env} {h₀ : Heap} {L : Addr} {m : Str → Option Value} {x : Str} {p p' : Pos} {c : Bool} {a b : Int} {l r : Expr}
theorem EvV.ife (F : Fr h₀ env.locals s.heap m) (hv : m x = some (.bool c)) (hk : env.scope.kind = .function) (hl : env.kindOf x = some .local) (hd : (x == ("__debug__" : Str)) = false) (h1 : EvV (model prog w) A E env s l (IsI a)) (h2 : EvV (model prog w) A E env s r (IsI b)) :
    EvV (model prog w) A E env s (.IfExp (.Name x p) l r p') (IsI (if c = true then a else b)) := fun t Q hq => by
  refine wpAny_IfExp (wpAny_isTrue_value (Ld.loc (s := { s with toks := t }) F hv hk hl hd _ _ (wpAny_truthy_bool ?_)))
  cases c with
  | true => exact h1 t Q hq
  | false => exact h2 t Q hq
end
theorem rows_of {w : World} {news : Led} {c : Bool} {D d a1 a2 a3 a4 a5 : Addr} {oD od : Obj} {k1 k2 k3 k4 k5 : Tok}
    (hd : od.IsDictOf (intKind Challenge.rw_ix0031_01.row.prog w) [(1, .ref a1), (2, .ref a2), (4, .ref a3), (5, .ref a4), (8, .ref a5)]) (lo : (d == sysModules) = false)
    (m2 : a1 < a2 ∧ d < a2 ∧ D < a2 ∧ AllLt a2 news) (m3 : a2 < a3 ∧ a1 < a3 ∧ d < a3 ∧ D < a3 ∧ AllLt a3 news)
    (m4 : a3 < a4 ∧ a2 < a4 ∧ a1 < a4 ∧ d < a4 ∧ D < a4 ∧ AllLt a4 news) (m5 : a4 < a5 ∧ a3 < a5 ∧ a2 < a5 ∧ a1 < a5 ∧ d < a5 ∧ D < a5 ∧ AllLt a5 news) :
    ∃ kvs ls, DicL w d (defaults c) ((a5, W.listOf (List.toArray [.int 0 k5]) 0) :: (a4, W.listOf (List.toArray [.int 16384 k4]) 0) :: (a3, W.listOf (List.toArray [.int 65535 k3]) 0) :: (a2, W.listOf (List.toArray [.int (if c = true then 1 else 0) k2]) 0) :: (a1, W.listOf (List.toArray [.int 4096 k1]) 0) :: (d, od) :: (D, oD) :: news) od kvs ls := by
  refine ⟨_, _, dic_of (k1 := k1) (k2 := k2) (k3 := k3) (k4 := k4) (k5 := k5) (by repeat' (first | exact List.Mem.head _ | refine List.Mem.tail _ ?_)) hd lo (fun p hp => ?_) (nd5 m2.1 m3.1 m4.1 m5.1)⟩
  simp only [List.mem_cons, List.not_mem_nil, or_false] at hp
  rcases hp with rfl | rfl | rfl | rfl | rfl <;> repeat' (first | exact List.Mem.head _ | refine List.Mem.tail _ ?_)
set_option maxRecDepth 100000
section
variable {prog : Program} {w : World} {A₀ : Around} {E : Value → Shared → Prop} {s' : Shared} {base h g g₀ : Heap} {outer : List Env} {L a e : Addr} {m : Str → Option Value} {name : Str} {scope : Scope} {cd : Value} {b₀ : Stmt} {suite : List Stmt} {pos np : Pos} {rest : List ExceptHandler} {Q : Flow → Shared → Prop} {news : Led}
  {KF : Frag} {p : Program} {loose : List Str} {mean : ExcName → Option Value} {mg mb : Str → Option Value} {x : Str} {X T' : String}
theorem caughtHere (hx : Heap.NewExc h s'.heap e X) (F : Fr g L h m) (N : News g L h news) (K : Below A₀ base outer g) (XB : KF.In base) (TB : Top p loose mean mg mb base)
    (D : KtsDicts (outer.filterMap (·.frame)) g) (T0 : KtsTurn (outer.filterMap (·.frame)) g₀ g)
    (ex : nsIn KF mainGlobals x = some none) (hv : bootBuiltins x = some (.type T')) (hn' : x ≠ "__name__")
    (hexc : isSubtype (.type T') (.type "BaseException") = pure true) (hnt : isSubtype (.type ((Manifest.find? T').elim "type" fun y => y.metatype)) (.type "tuple") = pure false) (hsub : isSubtype (.type X) (.type T') = pure true)
    (k : ∀ h' g', KtsTurn (outer.filterMap (·.frame)) g₀ g' → Fr g' L h' m → News g' L h' news → Below A₀ base outer g' → KF.In g' → Top p loose mean mg mb g' → KtsDicts (outer.filterMap (·.frame)) g' →
      wpAny (model prog w) ((A₀.deeper (envOf name scope L a cd)).mark (some (.ref e))) (execs (b₀ :: suite) (envOf name scope L a cd)) Q E { s' with heap := h' })
    (hk : scope.kind = .function := by rfl) (hg : (envOf name scope L a cd).kindOf x = some .globalImplicit := by rfl) (hd : (x == ("__debug__" : Str)) = false := by decide)
    (hE : PassesOwnAt (model prog w) ((A₀.deeper (envOf name scope L a cd)).mark (some (.ref e))) (A₀.deeper (envOf name scope L a cd)) (envOf name scope L a cd) E := by passes_own) :
    wpAny (model prog w) (A₀.deeper (envOf name scope L a cd)) (noteFrame (.ref e) (envOf name scope L a cd))
      (fun _ s₂ => wpAny (model prog w) (A₀.deeper (envOf name scope L a cd)) (setFlight (.ref e) none) (fun _ s₃ =>
        wpAny (model prog w) (A₀.deeper (envOf name scope L a cd)) (handleBy (.ref e) (envOf name scope L a cd) (.ExceptHandler (some (.Name x np)) none (b₀ :: suite) pos :: rest)) Q E s₃) E s₂) E s' := by
  have K' := K.push (name := name) (a := a) (cd := cd) F hk
  (refine hide fun G__ k__ => ?_; obtain ⟨ob, t, he, hc, hdat⟩ := hx.there; refine k__ ?_; clear k__ G__)
  have hin : ∀ env ∈ (envOf name scope L a cd :: outer), ∀ b, env.frame = some b → b ∈ (envOf name scope L a cd :: outer).filterMap (·.frame) := fun env he b hb => List.mem_filterMap.mpr ⟨env, he, hb⟩
  let B := hideAll h ((envOf name scope L a cd :: outer).filterMap (·.frame))
  have hB : base.StaysIn B := fun b o q => hideAll_get _ (K'.stays b o q) fun hm => by
    rw [(K'.frames.mem hm).1] at q; cases q
  have hBG : ∀ b o, h.get? b = some o → b ∉ (envOf name scope L a cd :: outer).filterMap (·.frame) → B.get? b = some o := fun b o q nm => hideAll_get _ q nm
  have hBs : B.StaysIn s'.heap := fun b o q => hx.keeps _ _ (of_hideAll _ q)
  have hBe : B.get? e = none := by
    cases z : B.get? e with
    | none => rfl
    | some o => have := of_hideAll _ z; rw [hx.new] at this; cases this
  have hL : B.get? L = none := hideAll_none _ (hin _ (.head _) L rfl)
  have hl : ∀ q ∈ news, B.get? q.1 = some q.2 ∧ g.get? q.1 = none := fun q hq => by
    refine ⟨hideAll_get _ (N q hq).1 fun hm => ?_, (N q hq).2.2⟩
    rcases kts_mem hm with z | z
    · exact (N q hq).2.1 z
    · (refine hide fun G__ k__ => ?_; obtain ⟨o, ho, _⟩ := (K.frames.mem z).2; refine k__ ?_; clear k__ G__)
      rw [(N q hq).2.2] at ho; cases ho
  have hff : s'.heap.FunFrames B (envOf name scope L a cd :: outer) := by
    have := funFrames_hide K'.frames hin
    exact this.of_keeps fun b o e' _ => ⟨o, hx.keeps _ _ e', rfl⟩
  have hsm : h.UpToSlots s'.heap := Heap.UpToSlots.of_keeps hx.keeps
  have note : ∀ {Q : Unit → Shared → Prop}, (∀ h', Heap.NotedW B (envOf name scope L a cd :: outer) e ob.cls t (rawInt L) s'.heap h' → Q () { s' with heap := h' }) → wpAny (model prog w) (A₀.deeper (envOf name scope L a cd)) (noteFrame (.ref e) (envOf name scope L a cd)) Q E s' := fun hq => by
    have hf : (envOf name scope L a cd).frame = some L := rfl
    unfold noteFrame
    simp only [hf]
    refine wpAny_bind (wpAny_field he hdat (x := .none) rfl ?_)
    rw [if_neg (by decide)]
    exact wpAny_entryW (Around.frames_deeper K.stack) hff rfl he hBs hBe hdat (by simp) rfl hq
  refine note fun h₄ hN => ?_
  have hheld₄ : Heap.HeldW B (envOf name scope L a cd :: outer) e ob.cls t L h₄ := ⟨hN.1, hBe, hN.2.1, hN.2.2.1⟩
  have hsm₄ : s'.heap.UpToSlots h₄ := hN.2.2.2
  refine wpAny_landsW hheld₄ fun h₅ hheld hsm₅' => ?_
  have hsm₅ := hsm₄.trans hsm₅'
  (refine hide fun G__ k__ => ?_; obtain ⟨g₅, T₅, F₅, K₅⟩ := kts_ground K F hBG hheld.1 (hsm.trans hsm₅); refine k__ ?_; clear k__ G__)
  have X₅ : KF.In g₅ := XB.keeps K₅.stays
  have P₅ : TopRead p loose mg mb g₅ := topRead_of (TB.keeps K₅.stays)
  (refine hide fun G__ k__ => ?_; obtain ⟨ob', hob, hobc⟩ := hheld.there; refine k__ ?_; clear k__ G__)
  refine wpAny_handleBy_builtin (X := X) (T := T') (b := true) hexc hnt hsub (name_B F₅ X₅ P₅ ex hv hn' ⟨rfl, ⟨ob', hob, hobc.trans hc⟩, ?_⟩ hk hg hd)
  refine lands_againW hheld fun h₆ hfl₆ hsm₆ => ?_
  (refine hide fun G__ k__ => ?_; obtain ⟨g₆, T₆, F₆, K₆⟩ := kts_ground K F hBG hfl₆.1 ((hsm.trans hsm₅).trans hsm₆); refine k__ ?_; clear k__ G__)
  have Nl : News g₆ L h₆ news := fun q hq => ⟨hfl₆.1 _ _ (hl q hq).1, (fun z => by have := (hl q hq).1; rw [z, hL] at this; cases this), T₆.none_ _ (hl q hq).2⟩
  have X₆ : KF.In g₆ := XB.keeps K₆.stays
  have P₆ : Top p loose mean mg mb g₆ := TB.keeps K₆.stays
  have D₆ : KtsDicts (outer.filterMap (·.frame)) g₆ := D.turn T₆
  exact wpAny_passesOwnAt hE (k h₆ g₆ (T0.trans T₆) F₆ Nl K₆ X₆ P₆ D₆)
end
theorem words_T10_1 : True := by
  trivial
theorem words_T10_2 : True := by
  k_with "noteFrame ref" => (guard_hyp hT10_2; ((k_here; (rename Heap.NewExc _ _ _ _ => nxX); k_dflt (refine' caughtHere (T' := "KeyError") nxX ?F_aj ?N_aj ?K_aj ?XB_aj ?TB_aj ?D_aj ?T0_aj ?ex_aj PyProof.Rows.Boot.«KeyError» ?hn_aj kr_isExc_KeyError kr_notTuple_KeyError ?hs_aj (fun h' g' T' F' N' K' X' P' D' => ?_); (case F_aj => k_asm); (case N_aj => k_asm); (case K_aj => assumption); (case XB_aj => assumption); (case TB_aj => assumption); (case D_aj => assumption); (case T0_aj => first | assumption | exact KtsTurn.refl); (case hs_aj => kts_sub); (case ex_aj => k_is); (case hn_aj => decide)); (try dsimp only); (try k_lift K'))))
  k_with "subscriptTail" => (guard_hyp hT10_2; ((k_here; (with_reducible show wpAny _ _ (subscriptTail _ _ (Value.ref _) (Value.int _ _)) _ _ _); (refine' item_rowsV ?k1_aN ?k2_aN ?k3_aN (fun row a vs n hq hm hr hv hal => ?_) (fun hq h' e' x' => ?_) ?k8_aN; (case k1_aN => k_asm); (case k2_aN => first | exact SetL.dic (by assumption) | exact (SetL.mono (by assumption) (by intro p hp; repeat' (first | exact hp | refine List.Mem.tail _ ?_))).dic); (case k3_aN => rfl); (case k8_aN => with_unfolding_all rfl)))))
  k_with "setItem ref int" => (guard_hyp hT10_2; ((k_here; k_dflt (refine' store_row ?F_as ?N_as ?H_as ?hm_as ?hr_as ?hne_as ?hna_as ?hfit_as (fun h' n' od' kvs' ls' F' N' H' hm' hv' hkp hls => ?_); (case F_as => k_asm); (case N_as => k_asm); (case H_as => first | assumption | exact SetL.mono (by assumption) (by intro p hp; repeat' (first | exact hp | refine List.Mem.tail _ ?_))); (case hm_as => k_mem); (case hr_as => exact .cons .none .nil); (case hne_as => exact List.cons_ne_nil _ _); (case hna_as => exact fresh_row (SetL.dic (by assumption)) (fun p hp => (by assumption : ∀ p ∈ _, p.1 < _) p (by (repeat' (first | exact hp | refine List.Mem.tail _ ?_))))); (case hfit_as => exact fit0 (by assumption) (by assumption))))))
  k_with "call builtin:list.append" => (guard_hyp hT10_2; ((k_here; k_dflt (refine' append_row ?F_al ?N_al ?H_al ?hv_al ?hq_al ?hm_al ?hr_al ?ho_al ?hfit_al (fun h' n' ls' F' N' H' e' hkp => ?_); (case F_al => k_asm); (case N_al => k_asm); (case H_al => first | assumption | exact SetL.mono (by assumption) (by intro p hp; repeat' (first | exact hp | refine List.Mem.tail _ ?_))); (case hv_al => assumption); (case hq_al => first | assumption | (rw [look_put, if_pos rfl])); (case hm_al => first | assumption | k_mem); (case hr_al => first | assumption | exact .cons .none .nil); (case ho_al => exact .int); (case hfit_al => first | exact fit1 (by assumption) (by assumption) | exact fit2 (by assumption) (by assumption))))))
  k_with "@ktr_rel" => (guard_hyp hT10_2; (first | exact ⟨rfl, by omega, ret1 (by assumption) (by assumption) (by assumption) (by assumption) (by assumption)⟩ | exact ⟨rfl, by omega, ret2 (by assumption) (by assumption) (by assumption) (by assumption) (by assumption) (fun p hp hd => (by assumption : ∀ p ∈ _, p.1 ≠ _ → p ∈ _) p (by (repeat' (first | exact hp | refine List.Mem.tail _ ?_))) hd) (fun p hp => (by assumption : ∀ p ∈ _, p.1 < _) p (by (repeat' (first | exact hp | refine List.Mem.tail _ ?_))))⟩))
  trivial
set_option maxRecDepth 100000 in
set_option maxHeartbeats 4000000 in
theorem c_setitem (w : World) (news : Led) (x dx d : Addr) (c : Bool) (σ : Sgs) (t1 t2 : Tok) (n : Nat) (od : Obj) (kvs : List (Int × Value)) (ls : Led) (H : SetL w x c σ news dx d t1 t2 n od kvs ls) (k v : Int) (tk tv : Tok) (hkb : k.natAbs < 2 ^ 60) (hvb : v.natAbs < 2 ^ 60) (hfit : Fit (putR σ k (newRow σ k v))) :
    SpecX w (.ref 271) [.ref x, .int k tk, .int v tv] [] 8 news (fun v' n' => v' = .none ∧ fault k v = 0 ∧ Stored w x c (putR σ k (newRow σ k v)) news n' dx d t1 t2 n ls) (fun r n' => r = fault k v ∧ r ≠ 0 ∧ ∀ p ∈ news, p ∈ n') := by
  have hT10_1 := trivial; have hT10_2 := trivial; have g0 := trivial; have g1 := trivial
  have h1 := H.inst
  have h2 := H.dict
  intro dp un gd env outer A₀ base h₀ L m mg mb loose mean s Q E C hf hke hdp hun hret herr
  have X := C.X
  revert X; k_fill; intro X
  tb_start
  k_steps
  all_goals (first | kwd_less | tb_rel)
theorem initJ_of {w : World} {init : List (Int × Int)} {mm : Str → Option Value} {v f : Addr} {news : Led} {c : Bool} {x dx d a1 a2 a3 a4 a5 : Addr} {od : Obj} {k1 k2 k3 k4 k5 t1 t2 : Tok} {n : Nat}
    (hd : od.IsDictOf (intKind Challenge.rw_ix0031_01.row.prog w) [(1, .ref a1), (2, .ref a2), (4, .ref a3), (5, .ref a4), (8, .ref a5)]) (lo : (d == sysModules) = false) (_l : dx < x) (l0 : ∀ p ∈ news, p.1 < dx)
    (ld : x < d ∧ dx < d ∧ AllLt d news) (m1 : d < a1 ∧ x < a1 ∧ dx < a1 ∧ AllLt a1 news) (m2 : a1 < a2 ∧ d < a2 ∧ x < a2 ∧ dx < a2 ∧ AllLt a2 news) (m3 : a2 < a3 ∧ a1 < a3 ∧ d < a3 ∧ x < a3 ∧ dx < a3 ∧ AllLt a3 news)
    (m4 : a3 < a4 ∧ a2 < a4 ∧ a1 < a4 ∧ d < a4 ∧ x < a4 ∧ dx < a4 ∧ AllLt a4 news) (m5 : a4 < a5 ∧ a3 < a5 ∧ a2 < a5 ∧ a1 < a5 ∧ d < a5 ∧ x < a5 ∧ dx < a5 ∧ AllLt a5 news) :
    InitJ w x dx d c t1 t2 n init mm news 0 mm ((v, viewO f) :: ((a5, W.listOf (List.toArray [.int 0 k5]) 0) :: (a4, W.listOf (List.toArray [.int 16384 k4]) 0) :: (a3, W.listOf (List.toArray [.int 65535 k3]) 0) :: (a2, W.listOf (List.toArray [.int (if c = true then 1 else 0) k2]) 0) :: (a1, W.listOf (List.toArray [.int 4096 k1]) 0) :: (d, od) :: (x, instObj 338 dx) ::
      (dx, dictOf [⟨PyData.keyHash w.params (Str.ofString "_client"), .str (Str.ofString "_client") t1, .bool c⟩, ⟨PyData.keyHash w.params (Str.ofString "_settings"), .str (Str.ofString "_settings") t2, .ref d⟩] n) :: news)) := by
  obtain ⟨kvs, ls, h1, h2⟩ := set_of (w := w) (c := c) (k1 := k1) (k2 := k2) (k3 := k3) (k4 := k4) (k5 := k5) (t1 := t1) (t2 := t2) (n := n) hd lo _l l0 ld m1 m2 m3 m4 m5
  exact ⟨.refl, fun p hp => by simp [hp], by simp, od, kvs, ls, h1.mono (fun p hp => .tail _ hp), h2⟩
theorem words_T21 : True := by
  k_with "pyIter ref" => (guard_hyp hT21; ((k_here; (k_dflt (refine' iter_itemsC ?T00_d ?G00_d ⟨?B_d, ?F_d, ?N_d, ?X_d, ?T_d, ?D_d, ?XB_d, ?TB_d⟩ rfl (List.Mem.head _) ?hm_d H.isd rfl rfl rfl rfl (InitJ w x _ _ c _ _ _ init _ news) ?h0_d (fun lo hlo => InitJ.kept ?hb_d hlo) (fun I ep i k y t m₁ n₁ h₁ gn tk g₁ hk hJ hS hT hG C' => ?_) (fun m₁ n₁ h₁ gn tk g₁ hJ hT hG C' => ?_); (case B_d => k_asm); (case F_d => k_asm); (case N_d => k_asm); (case X_d => k_asm); (case T_d => k_asm); (case D_d => assumption); (case XB_d => assumption); (case TB_d => assumption); (case T00_d => first | assumption | exact KtsTurn.refl); (case G00_d => first | assumption | exact GRel.refl _); (case h0_d => exact initJ_of (by assumption) (by assumption) (by assumption) (by assumption) (by assumption) (by assumption) (by assumption) (by assumption) (by assumption) (by assumption)); (case hm_d => (repeat' (first | assumption | refine List.Mem.tail _ ?_))); (case hb_d => (intro p hp; repeat' (first | exact hp | refine List.Mem.tail _ ?_))))); rotate_left; (rw [H.nums.len] at hJ; obtain ⟨hN1, hN2⟩ := hJ.done; obtain ⟨B', F', N', X', T', D', XB', TB'⟩ := C'; (try k_lift B'); (try k_fold)); rotate_right; (obtain ⟨p', tp, hp, he⟩ := H.nums.get hk; subst he; have hj1 := hJ.1; have hpb := hb (k, p') (List.mem_of_getElem? hp); have hkb := hpb.1; have hvb := hpb.2; have hfit : Fit (putR (putAll (defaults c) (init.take i)) k [some p']) := (by rw [← putAll_snoc, ← take_snoc hp]; exact putAll_fit (Nat.le_trans (by simp; omega) hlen)); rw [hj1.eq] at C'; obtain ⟨hj0, hj2, hj3, od1, kvs1, ls1, hS1, hj4⟩ := hJ; have hi1 := hS1.inst; have hi2 := hS1.dict; obtain ⟨B', F', N', X', T', D', XB', TB'⟩ := C'; (try k_lift B'); (try k_fold)))))
  k_with "setItem ref int" => (guard_hyp hT21; ((k_here; k_dflt (refine' store_row ?F_l ?N_l ?H_l ?hm_l ?hr_l ?hne_l ?hna_l ?hfit_l (fun h' n' od' kvs' ls' F' N' H' hm' hv' hkp hls => ?_); (case F_l => k_asm); (case N_l => k_asm); (case H_l => first | assumption | exact SetL.mono (by assumption) (by intro p hp; repeat' (first | exact hp | refine List.Mem.tail _ ?_))); (case hm_l => k_mem); (case hr_l => exact .cons .int .nil); (case hne_l => exact List.cons_ne_nil _ _); (case hna_l => exact fresh_row (by assumption : SetL _ _ _ _ _ _ _ _ _ _ _ _ _).dic (by assumption)); (case hfit_l => assumption)))))
  k_with "@J" => (guard_hyp hT21; (k_dflt (exact init_step (by assumption) (by assumption) (by omega) (by repeat (first | exact SameOff.eqs (by assumption) | refine SameOff.ite (by rfl) ?_)) (by assumption) (by assumption) (by assumption) (by assumption) (by assumption) (by assumption) (by assumption) (by assumption) (by assumption) (by assumption))))
  k_with "@ktr_rel" => (guard_hyp hT21; (first | exact ⟨by assumption, by assumption⟩ | exact ⟨(ffault_at (by assumption) (by assumption) (by omega)).symm ▸ (by assumption), by assumption, fun p hp => (by assumption : ∀ p ∈ _, p ∈ _) _ ((by assumption : ∀ p ∈ _, p ∈ _) _ hp)⟩))
  k_with "InitBack" => (guard_hyp hT21; ((dsimp only [InitBack])))
  trivial
set_option maxRecDepth 100000 in
set_option maxHeartbeats 4000000 in
theorem c_newF (w : World) (news : Led) (c : Bool) (f : Addr) (init : List (Int × Int)) (oF : Obj) (kF : List (Int × Value)) (H : DicI w f init news oF kF) (hb : ∀ p ∈ init, p.1.natAbs < 2 ^ 60 ∧ p.2.natAbs < 2 ^ 60) (hlen : init.length ≤ 900) :
    SpecX w (.ref 338) [.bool c, .ref f] [] 20 news (fun v n' => NewSet w c (putAll (defaults c) init) v news n' ∧ ffault init = 0) (fun r n' => r = ffault init ∧ r ≠ 0 ∧ ∀ p ∈ news, p ∈ n') := by
  have hT21 := trivial; have g1 := trivial; have g2 := trivial; have g3 := trivial; have g5 := trivial; have g7 := trivial
  have h1 := H.isd
  have h2 := H.low
  have h3 := H.body
  intro dp un gd env outer A₀ base h₀ L m mg mb loose mean s Q E C hf hke hdp hun hret herr
  have X := C.X
  revert X; k_fill; intro X
  k_dflt (refine' call_clsK C.F C.X C.N ?q1 ?q2 ?q3 ?_; (case q1 => k_is); (case q2 => k_is); (case q3 => k_is))
  intro x dx h' F0 N0 l1 l2
  replace l2 := ltN l2
  (have cF := F0; k_dflt (refine' enterG ?C ?kA ?kf ?kk ?k6 ?k7 ?k8 ?k9 ?kB ?_ ?c2 ?c3 ?c4 ?c5; (case C => exact ⟨C.B, F0, N0, C.X, C.T, C.D, C.XB, C.TB⟩); (case kA => exact rfl); (case kf => assumption); (case kk => assumption); (case k6 => k_is); (case k7 => k_is); (case k8 => k_room); (case k9 => first | exact BindsTo.of_eq rfl | exact binds_K (by k_in) rfl (by k_is) rfl rfl rfl | (refine' kp_binds ?kx ?ke; (case kx => k_in); (case ke => exact fun _ => rfl))); (case kB => exact locs rfl); (case c2 => exact rfl); (case c3 => exact rfl); (case c4 => exact rfl); (case c5 => decide); k_whole; intro g' L' h' FG' F' N' B' X' T' D' XB' TB' QQ RR hQQ hRR; (try dsimp only); (try k_lift B'); (try k_fold)))
  k_steps
  all_goals (first | kwd_less | tb_rel)
theorem words_T8_1 : True := by
  k_with "call ref" => (guard_hyp hT8_1; ((k_here; (with_reducible show wpAny _ _ (call (Value.ref 350) _ _) _ _ _); k_dflt (refine' SpecR.use (c_validS _ _ _ _ _ _ _) ?hA_W ?B_W ?F_W ?N_W ?X_W ?T_W ?D_W ?XB_W ?TB_W ?hf_W ?hke_W ?hdp_W ?hun_W (fun v h' gn' tk' g' hR kT kF kN kB kX₀ kP kD kX kG => ?_); (case F_W => k_asm); (case N_W => k_asm); skip; (case hA_W => exact rfl); (case B_W => k_asm); (case X_W => k_asm); (case T_W => k_asm); (case D_W => assumption); (case XB_W => assumption); (case TB_W => assumption); (case hf_W => exact rfl); (case hke_W => exact rfl); (case hdp_W => k_room); (case hun_W => k_units); (all_goals (try (have kT2 := KtsTurn.trans (by assumption) kT; clear kT))); (all_goals (try (have kG2 := GRel.trans (by assumption) kG; clear kG))); obtain ⟨r', t', he, hr⟩ := hR; subst he; (try dsimp only); (try k_lift kB); (try k_fold)))))
  trivial
theorem words_T8_2 : True := by
  k_with "@ktr_rel" => (guard_hyp hT8_2; (exact ⟨rfl, by omega⟩))
  trivial
set_option maxRecDepth 100000 in
set_option maxHeartbeats 4000000 in
theorem c_vrs (w : World) (news : Led) (x dx d : Addr) (c : Bool) (σ : Sgs) (t1 t2 : Tok) (n : Nat) (od : Obj) (kvs : List (Int × Value)) (ls : Led) (H : SetL w x c σ news dx d t1 t2 n od kvs ls) (k v : Int) (tk tv : Tok) (hkb : k.natAbs < 2 ^ 60) (hvb : v.natAbs < 2 ^ 60) :
    SpecX w (.ref 278) [.ref x, .int k tk, .int v tv] [] 8 news (fun v' n' => n' = news ∧ v' = .none ∧ vfault k v c = 0) (fun r n' => r = vfault k v c ∧ r ≠ 0 ∧ ∀ p ∈ news, p ∈ n') := by
  have hT8_1 := trivial; have hT8_2 := trivial; have g0 := trivial
  have h1 := H.inst
  have h2 := H.dict
  intro dp un gd env outer A₀ base h₀ L m mg mb loose mean s Q E C hf hke hdp hun hret herr
  have X := C.X
  revert X; k_fill; intro X
  tb_start
  k_steps
  all_goals (first | kwd_rel | kwd_less)
open Builtin Builtin.ObjectAttr
set_option maxRecDepth 100000
section
variable {prog : Program} {w : World} {A : Around} {E : Value → Shared → Prop} {s : Shared} {K : Frag} {x C : Addr} {ox : Obj} {od : Option Obj} {name : Str} {expr : Bool} {Q : Value → Shared → Prop} {v : Value}
theorem err_kind : builtinKind "BaseException.__getattribute__" = some .slot := by decide +kernel
theorem err_split : splitId "BaseException.__getattribute__" = some ("BaseException", "__getattribute__") := by decide +kernel
theorem get_err (X : K.In s.heap) (I : InstAt s.heap x ox C od) (hga : findIn K (.ref C) "__getattribute__" = some (some (.builtin "BaseException.__getattribute__"))) (hgt : findIn K (.ref C) "__getattr__" = some none) (hsub : mroIn K C (.type "BaseException") = some true)
    (hf : findObj K C od name = some (.value v)) (hh : handedIn v = true) (h : Q v { s with toks := s.toks + 1 }) : wpAny (model prog w) A (getAttr (.ref x) name expr) Q E s := by
  (refine hide fun G__ k__ => ?_; obtain ⟨hp, g, d, t, os⟩ := s; refine k__ ?_; clear k__ G__)
  have FB := PySem.F.attr_Exception
  have L0 := I.type (M := model prog w)
  have L1 := looks_findIn (M := model prog w) X hga
  have L2 := looks_findIn (M := model prog w) X hgt
  have L3 := looks_find (M := model prog w) X I hf
  have L4 : Looks (model prog w) hp (isInstance (.ref x) (.type "BaseException")) true := L0.andThen (looks_mroIn X hsub)
  have hx0 : (expr && onTheHeap (Value.builtin "BaseException.__getattribute__")) = false := by cases expr <;> rfl
  unfold getAttr getAttrBy
  refine wpAny_bind (wpAny_mkText (wpAny_holding (wpAny_bind (L0.at (wpAny_bind (L1.at ?_))))))
  show wpAny _ _ (getAttrByItsOwn _ _ _ _ _ _) _ _ _
  unfold getAttrByItsOwn hookBefore callGetattribute boundAndCalled
  rw [hx0]
  refine wpAny_bind (L2.at ?_)
  refine wpAny_bind (wpAny_attempt (wpAny_holding ?_))
  show wpAny _ _ (bindSpecial (.builtin "BaseException.__getattribute__") (.ref x) >>= _) _ _ _
  rw [FB.ga.bind]
  refine wpAny_bind (wpAny_pure ?_)
  refine wpAny_call (codeAny_call_builtin FB.ga.plain PySem.F.entry_bexc_ga (@check_slot (model prog w) _ _ _ "BaseException.__getattribute__" "BaseException" "__getattribute__" (.ref x) [.str name t] [] _ err_kind err_split L4 (PySem.F.args_bexc_ga _ _) ?_))
  refine wpAny_bind (wpAny_pure (wpAny_bind (wpAny_pure (wpAny_bind (L0.at (wpAny_bind (L3.at ?_)))))))
  refine wpAny_pure ?_
  show wpAny _ _ (handedOut v) _ _ _
  rw [handedOut_of hh]
  exact wpAny_pure h
theorem look_err {r : Int} {tk tr : Tok} {n : Nat} : lookIn "error_code" (errDict w r tk tr n) = some (some (.int r tr)) := by rw [lookIn_dict]; rfl
end
theorem inst_err {w : World} {h₀ h : Heap} {L e de : Addr} {news : Led} {ws : Array Value} {sl : Array (Option Value)} {r : Int} {t1 t2 : Tok} {n : Nat} (N : News h₀ L h news) (h1 : (e, (⟨.ref 79, some de, .fields ws, sl⟩ : Obj)) ∈ news) (h2 : (de, errDict w r t1 t2 n) ∈ news) :
    InstAt h e ⟨.ref 79, some de, .fields ws, sl⟩ 79 (some (errDict w r t1 t2 n)) := ⟨(N _ h1).1, rfl, rfl, (N _ h2).1⟩
theorem words_T9_1 : True := by
  k_with "call ref" => (guard_hyp hT9_1; ((k_here; (with_reducible show wpAny _ _ (call (Value.ref 278) _ _) _ _ _); k_dflt (refine' SpecX.use (c_vrs _ _ _ _ _ _ _ _ _ _ _ _ _ ?H_E _ _ _ _ ?hk_E ?hv_E) ?hA_E ?B_E ?F_E ?N_E ?X_E ?T_E ?D_E ?XB_E ?TB_E ?hf_E ?hke_E ?hdp_E ?hun_E (fun v n' h' gn' tk' g' hR kT kF kN kB kX₀ kP kD kX kG => ?_) (fun e' r' n' h' gn' tk' G' g' hR kT kF kB kD kR kG => ?_); (case F_E => k_asm); (case N_E => k_asm); (case H_E => assumption); (case hk_E => assumption); (case hv_E => assumption); (case hA_E => exact rfl); (case B_E => k_asm); (case X_E => k_asm); (case T_E => k_asm); (case D_E => assumption); (case XB_E => assumption); (case TB_E => assumption); (case hf_E => exact rfl); (case hke_E => exact rfl); (case hdp_E => k_room); (case hun_E => k_units); (all_goals (try (have kT2 := KtsTurn.trans (by assumption) kT; clear kT))); (all_goals (try (have kG2 := GRel.trans (by assumption) kG; clear kG))); have hE := hR.1.symm; replace hR := hR.2; subst hE; rotate_left; obtain ⟨hr1, hr2, hr3⟩ := hR; rotate_right; (try dsimp only); (try k_lift kB); (try k_fold)))))
  trivial
theorem words_T9_2 : True := by
  k_with "@ktr_rel" => (guard_hyp hT9_2; (first | exact ⟨_, congrArg (Value.int · _) (And.right (by assumption : _ ∧ vfault _ _ _ = 0)).symm⟩ | exact ⟨_, congrArg (Value.int · _) (by assumption : _ = vfault _ _ _)⟩))
  trivial
set_option maxRecDepth 100000 in
set_option maxHeartbeats 4000000 in
theorem c_received (w : World) (news : Led) (x dx d : Addr) (c : Bool) (σ : Sgs) (t1 t2 : Tok) (n : Nat) (od : Obj) (kvs : List (Int × Value)) (ls : Led) (H : SetL w x c σ news dx d t1 t2 n od kvs ls) (k v : Int) (tk tv : Tok) (hkb : k.natAbs < 2 ^ 60) (hvb : v.natAbs < 2 ^ 60) :
    SpecR w (.ref 392) [.ref x, .int k tk, .int v tv] [] 12 news (fun v' => ∃ t, v' = .int (vfault k v c) t) := by
  have hT9_1 := trivial; have hT9_2 := trivial; have g0 := trivial
  have h1 := H.inst
  have h2 := H.dict
  intro dp un gd env outer A₀ base h₀ L m mg mb loose mean s Q E C hf hke hdp hun hret
  have X := C.X
  revert X; k_fill; intro X
  tb_start
  k_steps
  all_goals kwd_rel
theorem NewSet.mono {w : World} {c : Bool} {σ : Sgs} {v : Value} {news n1 n2 : Led} (H : NewSet w c σ v news n1) (h : ∀ p ∈ n1, p ∈ n2) : NewSet w c σ v news n2 := by
  (refine hide fun G__ k__ => ?_; obtain ⟨x, dx, d, t1, t2, n, od, kvs, ls, e, h1, h2, h3⟩ := H; refine k__ ?_; clear k__ G__)
  exact ⟨x, dx, d, t1, t2, n, od, kvs, ls, e, h1.mono h, fun p hp => h p (h2 p hp), h3⟩
noncomputable def LawNew (w : World) (c : Bool) (init : List (Int × Int)) (v : Value) (news n' : Led) : Prop :=
  ∃ tp, v = .ref tp ∧ ((ffault init = 0 ∧ ∃ sv t, NewSet w c (putAll (defaults c) init) sv news n' ∧ (tp, tupObj [sv, .int 0 t]) ∈ n') ∨ (ffault init ≠ 0 ∧ (∃ t, (tp, tupObj [.none, .int (ffault init) t]) ∈ n') ∧ ∀ p ∈ news, p ∈ n'))
theorem words_T22 : True := by
  k_with "call ref" => (guard_hyp hT22; ((k_here; (with_reducible show wpAny _ _ (call (Value.ref 338) _ _) _ _ _); k_dflt (refine' SpecX.use (c_newF _ _ _ _ _ _ _ ?H_o ?hb_o ?hl_o) ?hA_o ?B_o ?F_o ?N_o ?X_o ?T_o ?D_o ?XB_o ?TB_o ?hf_o ?hke_o ?hdp_o ?hun_o (fun v n' h' gn' tk' g' hR kT kF kN kB kX₀ kP kD kX kG => ?_) (fun e' r' n' h' gn' tk' G' g' hR kT kF kB kD kR kG => ?_); (case F_o => k_asm); (case N_o => k_asm); (case H_o => assumption); (case hb_o => assumption); (case hl_o => assumption); (case hA_o => exact rfl); (case B_o => k_asm); (case X_o => k_asm); (case T_o => k_asm); (case D_o => assumption); (case XB_o => assumption); (case TB_o => assumption); (case hf_o => exact rfl); (case hke_o => exact rfl); (case hdp_o => k_room); (case hun_o => k_units); (all_goals (try (have kT2 := KtsTurn.trans (by assumption) kT; clear kT))); (all_goals (try (have kG2 := GRel.trans (by assumption) kG; clear kG))); skip; rotate_left; obtain ⟨hr1, hr2, hr3⟩ := hR; rotate_right; (try dsimp only); (try k_lift kB); (try k_fold)))))
  k_with "@ktr_rel" => (guard_hyp hT22; (first | exact ⟨_, rfl, .inl ⟨(by assumption : _ ∧ ffault _ = 0).2, _, _, NewSet.mono (by assumption : _ ∧ ffault _ = 0).1 (fun p hp => .tail _ hp), .head _⟩⟩ | (subst_vars; exact ⟨_, rfl, .inr ⟨by assumption, ⟨_, .head _⟩, fun p hp => .tail _ (.tail _ (.tail _ ((by assumption : ∀ p ∈ _, p ∈ _) p hp)))⟩⟩)))
  trivial
set_option maxRecDepth 100000 in
set_option maxHeartbeats 4000000 in
theorem c_lawnew (w : World) (news : Led) (c : Bool) (f : Addr) (init : List (Int × Int)) (oF : Obj) (kF : List (Int × Value)) (H : DicI w f init news oF kF) (hb : ∀ p ∈ init, p.1.natAbs < 2 ^ 60 ∧ p.2.natAbs < 2 ^ 60) (hlen : init.length ≤ 900) :
    Spec w (.ref 378) [.bool c, .ref f] [] 24 news (fun v n' => LawNew w c init v news n') := by
  have hT22 := trivial; have g1 := trivial; have g2 := trivial; have g3 := trivial
  intro dp un gd env outer A₀ base h₀ L m mg mb loose mean s Q E C hf hke hdp hun hret
  have X := C.X
  revert X; k_fill; intro X
  tb_start
  k_steps
  all_goals tb_rel
theorem IntsL.any {π : List (Int × Int)} {kvs : List (Int × Value)} (H : IntsL π kvs) (k : Int) : kvs.any (fun p => p.1 = k) = π.any (fun p => p.1 = k) := by
  induction H with
  | nil => rfl
  | cons _ ih => simp only [List.any_cons, ih]
theorem IntsL.app {π π' : List (Int × Int)} {kvs kvs' : List (Int × Value)} (H : IntsL π kvs) (H' : IntsL π' kvs') : IntsL (π ++ π') (kvs ++ kvs') := by
  induction H with
  | nil => exact H'
  | cons _ ih => exact .cons ih
theorem IntsL.put {π : List (Int × Int)} {kvs : List (Int × Value)} (H : IntsL π kvs) (k p : Int) (t : Tok) : IntsL (putR π k p) (stored kvs k (.int p t)) := by
  unfold putR stored
  rw [H.any]
  cases π.any (fun p => p.1 = k) with
  | false => rw [if_neg (by decide), if_neg (by decide)]; exact H.app (.cons .nil)
  | true =>
    rw [if_pos rfl, if_pos rfl]
    induction H with
    | nil => exact .nil
    | @cons j q u π kvs _ ih =>
      simp only [List.map_cons]
      by_cases e : j = k
      · rw [if_pos e, if_pos e]; exact .cons ih
      · rw [if_neg e, if_neg e]; exact .cons ih
theorem IntsL.len' {π : List (Int × Int)} {kvs : List (Int × Value)} (H : IntsL π kvs) : kvs.length = π.length := by
  induction H with
  | nil => rfl
  | cons _ ih => simp [ih]
section
variable {w : World} {A : Around} {E : Value → Shared → Prop} {s : Shared} {h₀ : Heap} {L d f a : Addr} {m : Str → Option Value} {big : Led} {od : Obj} {kvs : List (Int × Value)} {σ : Sgs} {π : List (Int × Int)} {ls : Led} {k p : Int} {t u : Tok} {nn : Nat} {its : List Value} {row : Row}
theorem store_int {Q : Unit → Shared → Prop} (F : Fr h₀ L s.heap m) (N : News h₀ L s.heap big) (H : DicI w f π big od kvs) (hlen : π.length ≤ 1000)
    (h : ∀ h' n' od' kvs', Fr h₀ L h' m → News h₀ L h' n' → DicI w f (putR π k p) n' od' kvs' → (∀ q ∈ big, q.1 ≠ f → q ∈ n') → Q () { s with heap := h', toks := s.toks + 1 }) :
    wpAny (model Challenge.rw_ix0031_01.row.prog w) A (setItem (.ref f) (.int k t) (.int p u)) Q E s :=
  store_dict F N H.body H.isd (by rw [H.nums.len']; exact hlen) fun h' od' F' N' hi => h h' _ od' _ F' N' ⟨.head _, hi, H.nums.put k p u, H.low⟩ fun q hq hne => wrL.keep hq hne
theorem store_rowD {Q : Unit → Shared → Prop} (F : Fr h₀ L s.heap m) (N : News h₀ L s.heap big) (H : DicL w d σ big od kvs ls) (hm : (a, W.listOf its.toArray nn) ∈ big) (hr : RowV row its) (hne : row ≠ []) (hna : a ∉ ls.map (·.1)) (hfit : Fit (putR σ k row))
    (h : ∀ h' n' od' kvs' ls', Fr h₀ L h' m → News h₀ L h' n' → DicL w d (putR σ k row) n' od' kvs' ls' → (∀ p ∈ big, p.1 ≠ d → p ∈ n') → (∀ q ∈ ls', q.1 = a ∨ q ∈ ls) → Q () { s with heap := h', toks := s.toks + 1 }) :
    wpAny (model Challenge.rw_ix0031_01.row.prog w) A (setItem (.ref d) (.int k t) (.ref a)) Q E s := by
  refine wpAny_setItem_pairs (knd := intKind Challenge.rw_ix0031_01.row.prog w) (intKind_is _ w k t) (H.at N) (fun h' hd' hs => ?_) (by have := H.klen; rw [sizeLine_eq]; omega)
  obtain ⟨od', ho', hi'⟩ := Heap.dictOf_iff.mp hd'
  have F' := F.change hs (N _ H.body).2.1 (N _ H.body).2.2
  have N' := News.wr N H.body hs ho'
  obtain ⟨ls', g1, g2, g3⟩ := H.lists.putNew H.keysNd H.nd (k := k) (row := row) (a := a) (o := W.listOf its.toArray nn) ⟨_, _, rfl, hr⟩ hna
  (refine hide fun G__ k__ => ?_; obtain ⟨es, ep, hx, hd, _⟩ := id H.isd; refine k__ ?_; clear k__ G__)
  have n2 : a ≠ d := led_ne N hm H.body (fun q => by rw [← q] at hd; cases hd)
  refine h h' _ od' _ ls' F' N' ⟨.head _, hi', g1, fun p hp => ?_, H.low, fun j rw' hj => ?_, g2, hfit⟩ (fun p hp hne => wrL.keep hp hne) fun q hq => ?_
  · rcases g3 p hp with z | z
    · rw [z]; exact wrL.keep hm n2
    · exact wrL.keep (H.lsin p z) (Ne.symm (H.body_ne N z))
  · rw [look_put] at hj
    by_cases e : j = k
    · rw [if_pos e] at hj; cases hj; exact hne
    · rw [if_neg e] at hj; exact H.ne _ _ hj
  · rcases g3 q hq with z | z
    · rw [z]; exact .inl rfl
    · exact .inr z
end
theorem at_mod {l : List Int} {n : Int} (hn : (l.length : Int) = n) (hp : 0 < n) (d : Int) : ∃ k, l[(d.fmod n).toNat]? = some k ∧ k ∈ l ∧ 0 ≤ d.fmod n ∧ d.fmod n < n := by
  have h1 := Int.fmod_nonneg_of_pos d hp
  have h2 := Int.fmod_lt_of_pos d hp
  have h3 : (d.fmod n).toNat < l.length := by omega
  exact ⟨l[(d.fmod n).toNat], by simp [h3], List.getElem_mem h3, h1, h2⟩
theorem codes_small : ∀ k ∈ codes, k.natAbs < 2 ^ 60 := by decide
theorem values_small : ∀ k ∈ values, k.natAbs < 2 ^ 60 := by decide
@[reducible] noncomputable def mScr (v : Value) : Str → Option Value := fun y => if y = Str.ofString "script" then some v else none
@[reducible] noncomputable def mStart (a v : Value) : Str → Option Value := fun y => if y = Str.ofString "start" then some a else mScr v y
@[reducible] noncomputable def mFst (f nb cl st sc : Value) : Str → Option Value := fun y => if y = Str.ofString "first" then some f else if y = Str.ofString "numbers" then some nb else if y = Str.ofString "client" then some cl else mStart st sc y
@[reducible] noncomputable def mF5 (fa fi nb cl : Value) : Str → Option Value := fun y => if y = Str.ofString "fault" then some fa else if y = Str.ofString "first" then some fi else if y = Str.ofString "numbers" then some nb else if y = Str.ofString "client" then some cl else none
@[reducible] noncomputable def off5 : List Str := [Str.ofString "start", Str.ofString "script", Str.ofString "drawn", Str.ofString "settings", Str.ofString "value"]
theorem off5_start {fa fi f nb cl st sc : Value} : SameOff off5 (mF5 fa fi nb cl) (fun y => if y = Str.ofString "fault" then some fa else if y = Str.ofString "first" then some fi else mFst f nb cl st sc y) := fun z hz => by
  simp only [List.contains_cons, List.contains_nil, Bool.or_eq_false_iff, beq_eq_false_iff_ne, ne_eq] at hz
  (refine hide fun G__ k__ => ?_; obtain ⟨h1, h2, h3, h4, h5, _⟩ := hz; refine k__ ?_; clear k__ G__)
  simp only [if_neg h1, if_neg h2]
  by_cases e1 : z = Str.ofString "fault"
  · simp only [if_pos e1]
  · by_cases e2 : z = Str.ofString "first"
    · simp only [if_neg e1, if_pos e2]
    · simp only [if_neg e1, if_neg e2, mStart, mScr, if_neg h1, if_neg h2]
noncomputable def CellAny (c : Addr) (n : Led) : Prop := ∃ v, CellIn c v n
theorem CellIn.kept {c : Addr} {v : Option Value} {n n' : Led} {lo : Nat} (h : CellIn c v n) (hc : (c : Nat) < lo) (hk : ∀ p ∈ n, Kept lo p → p ∈ n') : CellIn c v n' := let ⟨o, h1, h2⟩ := h; ⟨o, hk _ h1 (.inr hc), h2⟩
theorem CellAny.kept {c : Addr} {n n' : Led} {lo : Nat} (h : CellAny c n) (hc : (c : Nat) < lo) (hk : ∀ p ∈ n, Kept lo p → p ∈ n') : CellAny c n' := let ⟨v, h1⟩ := h; ⟨v, h1.kept hc hk⟩
theorem CellIn.lt {c : Addr} {v : Option Value} {n : Led} {lo : Nat} (h : CellIn c v n) (hlo : ∀ p ∈ n, (p.1 : Nat) < lo) : (c : Nat) < lo := let ⟨_, h1, _⟩ := h; hlo _ h1
theorem IL.kept {l : Addr} {ns : List Int} {n n' : Led} {lo : Nat} (h : IL l ns n) (hk : ∀ p ∈ n, Kept lo p → p ∈ n') : IL l ns n' := let ⟨vs, c, h1, h2⟩ := h; ⟨vs, c, hk _ h1 (.inl rfl), h2⟩
structure LJ5a (w : World) (ns : List Int) (L : Addr) (k : Nat) (ρ : Sgs) (init : List (Int × Int)) (fd ln rd : Addr) (n' : Led) : Prop where
  nums : IL ln ns n'
  rows : ∃ oR kR lR, DicL w rd ρ n' oR kR lR
  first : ∃ oF kF, DicI w fd init n' oF kF
  small : ∀ p ∈ init, p.1.natAbs < 2 ^ 60 ∧ p.2.natAbs < 2 ^ 60
  keys : ∀ p ∈ init, p.1 ∈ codes
  len : init.length ≤ k
  c1 : CellIn (L + 1) (some (.ref rd)) n'
  c2 : CellAny (L + 1 + 1) n'
  c3 : CellAny (L + 1 + 1 + 1) n'
  c4 : CellIn (L + 1 + 1 + 1 + 1) none n'
  sep : fd ≠ rd
theorem LJ5a.kept {w : World} {ns : List Int} {L : Addr} {k : Nat} {ρ : Sgs} {init : List (Int × Int)} {fd ln rd : Addr} {n n' : Led} {lo : Nat} (H : LJ5a w ns L k ρ init fd ln rd n) (hc : (L : Nat) + 1 + 1 + 1 + 1 < lo) (hk : ∀ p ∈ n, Kept lo p → p ∈ n') : LJ5a w ns L k ρ init fd ln rd n' := by
  obtain ⟨oR, kR, lR, hR⟩ := H.rows
  obtain ⟨oF, kF, hF⟩ := H.first
  have h3 : (L : Nat) + 1 + 1 + 1 < lo := Nat.lt_of_succ_lt hc
  have h2 : (L : Nat) + 1 + 1 < lo := Nat.lt_of_succ_lt h3
  have h1 : (L : Nat) + 1 < lo := Nat.lt_of_succ_lt h2
  exact ⟨H.nums.kept hk, ⟨oR, kR, lR, hR.kept hk⟩, ⟨oF, kF, hF.kept hk⟩, H.small, H.keys, H.len, H.c1.kept h1 hk, H.c2.kept h2 hk, H.c3.kept h3 hk, H.c4.kept hc hk, H.sep⟩
theorem LJ5a.up {w : World} {ns : List Int} {L : Addr} {k : Nat} {ρ : Sgs} {init : List (Int × Int)} {fd ln rd : Addr} {n n' : Led} (H : LJ5a w ns L k ρ init fd ln rd n) (hk : ∀ p ∈ n, p ∈ n') : LJ5a w ns L k ρ init fd ln rd n' := by
  obtain ⟨oR, kR, lR, hR⟩ := H.rows
  obtain ⟨oF, kF, hF⟩ := H.first
  obtain ⟨v2, h2⟩ := H.c2
  obtain ⟨v3, h3⟩ := H.c3
  exact ⟨H.nums.up hk, ⟨oR, kR, lR, hR.mono hk⟩, ⟨oF, kF, hF.mono hk⟩, H.small, H.keys, H.len, H.c1.up hk, ⟨v2, h2.up hk⟩, ⟨v3, h3.up hk⟩, H.c4.up hk, H.sep⟩
theorem LJ5a.code {w : World} {ns : List Int} {L : Addr} {k : Nat} {ρ : Sgs} {init : List (Int × Int)} {fd ln rd : Addr} {n n' : Led} {v : Value} (H : LJ5a w ns L k ρ init fd ln rd n) (hnc : NC n n') (hcl : CellIn (L + 1 + 1) (some v) n') (hco : ∀ c' v', c' ≠ L + 1 + 1 → CellIn c' v' n → CellIn c' v' n') : LJ5a w ns L k ρ init fd ln rd n' := by
  obtain ⟨oR, kR, lR, hR⟩ := H.rows
  obtain ⟨oF, kF, hF⟩ := H.first
  obtain ⟨v3, h3⟩ := H.c3
  have ne1 : (L + 1 : Nat) ≠ L + 1 + 1 := Nat.ne_of_lt (Nat.lt_succ_self _)
  have ne3 : (L + 1 + 1 + 1 : Nat) ≠ L + 1 + 1 := Nat.succ_ne_self _
  have ne4 : (L + 1 + 1 + 1 + 1 : Nat) ≠ L + 1 + 1 := Nat.ne_of_gt (Nat.lt_succ_of_lt (Nat.lt_succ_self _))
  exact ⟨H.nums.nc hnc, ⟨oR, kR, lR, hR.nc hnc⟩, ⟨oF, kF, hF.nc hnc⟩, H.small, H.keys, H.len, hco _ _ ne1 H.c1, ⟨_, hcl⟩, ⟨v3, hco _ _ ne3 h3⟩, hco _ _ ne4 H.c4, H.sep⟩
theorem CellIn.neDict {c d : Addr} {v : Option Value} {n : Led} {h₀ h : Heap} {L : Addr} {knd : Obj} {od : Obj} (h1 : CellIn c v n) (N : News h₀ L h n) (h2 : (d, od) ∈ n) (h3 : notCell od = true) : c ≠ d := fun e => by
  obtain ⟨o, h4, h5⟩ := h1
  subst e
  rw [← led_eq N h4 h2] at h3
  unfold notCell at h3
  rw [h5] at h3; cases h3
theorem LJ5a.put {w : World} {ns : List Int} {L : Addr} {k : Nat} {ρ : Sgs} {init : List (Int × Int)} {fd ln rd : Addr} {n n' : Led} {h₀ h : Heap} {F : Addr} {kk i : Int} {od' : Obj} {kvs' : List (Int × Value)} (N : News h₀ F h n) (H : LJ5a w ns L k ρ init fd ln rd n) (hkk : kk ∈ codes) (hi : i.natAbs < 2 ^ 60)
    (hD : DicI w fd (putR init kk i) n' od' kvs') (hk : ∀ q ∈ n, q.1 ≠ fd → q ∈ n') : LJ5a w ns L (k + 1) ρ (putR init kk i) fd ln rd n' := by
  obtain ⟨oR, kR, lR, hR⟩ := H.rows
  obtain ⟨oF, kF, hF⟩ := H.first
  obtain ⟨v2, h2⟩ := H.c2
  obtain ⟨v3, h3⟩ := H.c3
  obtain ⟨vs, cc, hl, hv⟩ := H.nums
  (refine hide fun G__ k__ => ?_; obtain ⟨es, ep, hx, hd, _⟩ := hF.isd; refine k__ ?_; clear k__ G__)
  have nocell : notCell oF = true := by unfold notCell; rw [hd]
  have cell : ∀ {c : Addr} {v : Option Value}, CellIn c v n → CellIn c v n' := fun hc => by
    have hne := CellIn.neDict (knd := oF) hc N hF.body nocell
    obtain ⟨o, q1, q2⟩ := hc
    exact ⟨o, hk _ q1 hne, q2⟩
  have mem : ∀ p ∈ putR init kk i, p ∈ init ∨ (p.1 = kk ∧ p.2 = i) := fun p hp => by
    unfold putR at hp
    split at hp
    · obtain ⟨q, hq, e⟩ := List.mem_map.mp hp
      by_cases z : q.1 = kk
      · rw [if_pos z] at e; subst e; exact .inr ⟨z, rfl⟩
      · rw [if_neg z] at e; subst e; exact .inl hq
    · rcases List.mem_append.mp hp with q | q
      · exact .inl q
      · rw [List.mem_singleton.mp q]; exact .inr ⟨rfl, rfl⟩
  refine ⟨⟨vs, cc, hk _ hl (led_ne N hl hF.body fun e => by rw [← e] at hd; cases hd), hv⟩, ⟨oR, kR, lR, hk _ hR.body (Ne.symm H.sep), hR.isd, hR.lists, fun p hp => hk _ (hR.lsin p hp) (led_ne N (hR.lsin p hp) hF.body fun e => ?_), hR.low, hR.ne, hR.nd, hR.fit⟩, ⟨_, _, hD⟩, fun p hp => ?_, fun p hp => ?_, ?_, cell H.c1, ⟨v2, cell h2⟩, ⟨v3, cell h3⟩, cell H.c4, H.sep⟩
  · (refine hide fun G__ k__ => ?_; obtain ⟨row, vs', c', e', _⟩ := hR.lists.objs hp; refine k__ ?_; clear k__ G__)
    rw [e'] at e; rw [← e] at hd; cases hd
  · rcases mem p hp with q | ⟨q1, q2⟩
    · exact H.small p q
    · rw [q1, q2]; exact ⟨codes_small _ hkk, hi⟩
  · rcases mem p hp with q | ⟨q1, _⟩
    · exact H.keys p q
    · rw [q1]; exact hkk
  · have := H.len
    unfold putR
    split
    · rw [List.length_map]; omega
    · rw [List.length_append, List.length_singleton]; omega
theorem LJ5a.start {w : World} {ns : List Int} {L : Addr} {ρ : Sgs} {fd ln rd : Addr} {n n' : Led} {od oR : Obj} {kR : List (Int × Value)} {lR : Led} {v1 v2 : Option Value} (hI : IL ln ns n) (HR : DicL w rd ρ n oR kR lR) (hc1 : CellIn (L + 1) (some (.ref rd)) n) (hc2 : CellIn (L + 1 + 1) v1 n) (hc3 : CellIn (L + 1 + 1 + 1) v2 n) (hc4 : CellIn (L + 1 + 1 + 1 + 1) none n)
    (hd : (fd, od) ∈ n') (isd : od.IsDictOf (intKind Challenge.rw_ix0031_01.row.prog w) []) (lo : (fd == sysModules) = false) (hlt : ∀ p ∈ n, p.1 < fd) (hs : ∀ p ∈ n, p ∈ n') : LJ5a w ns L 0 ρ [] fd ln rd n' :=
  ⟨hI.up hs, ⟨_, _, _, HR.mono hs⟩, ⟨_, _, ⟨hd, isd, .nil, lo⟩⟩, (fun _ h => nomatch h), (fun _ h => nomatch h), Nat.le_refl _, hc1.up hs, ⟨_, hc2.up hs⟩, ⟨_, hc3.up hs⟩, hc4.up hs, Nat.ne_of_gt (hlt _ HR.body)⟩
theorem DicL.empty {w : World} {d : Addr} {n : Led} {od : Obj} (hm : (d, od) ∈ n) (isd : od.IsDictOf (intKind Challenge.rw_ix0031_01.row.prog w) []) (lo : (d == sysModules) = false) : DicL w d [] n od [] [] :=
  ⟨hm, isd, .nil, (fun _ h => nomatch h), lo, (fun _ _ h => nomatch h), List.nodup_nil, Nat.zero_le _, fun _ _ h => nomatch h⟩
theorem LJ5a.le {w : World} {ns : List Int} {L : Addr} {k k' : Nat} {ρ : Sgs} {init : List (Int × Int)} {fd ln rd : Addr} {n : Led} (H : LJ5a w ns L k ρ init fd ln rd n) (h : k ≤ k') : LJ5a w ns L k' ρ init fd ln rd n := ⟨H.nums, H.rows, H.first, H.small, H.keys, Nat.le_trans H.len h, H.c1, H.c2, H.c3, H.c4, H.sep⟩
theorem StL.up {I l : Addr} {vs : List Value} {nn i : Nat} {n n' : Led} {g g' : Array GenState} (h : StL I l vs nn i n g) (hs : ∀ p ∈ n, p ∈ n') : StL I l vs nn i n' g' := let ⟨oI, h1, h2, h3, h4⟩ := h; ⟨oI, hs _ h1, h2, h3, hs _ h4⟩
theorem StL.nc {I l : Addr} {vs : List Value} {nn i : Nat} {n n' : Led} {g g' : Array GenState} (h : StL I l vs nn i n g) (hs : NC n n') : StL I l vs nn i n' g' := let ⟨oI, h1, h2, h3, h4⟩ := h; ⟨oI, hs _ h1 (by unfold notCell; rw [h3]), h2, h3, hs _ h4 rfl⟩
theorem StL.put {w : World} {h₀ h : Heap} {F I l d : Addr} {vs : List Value} {nn i : Nat} {n n' : Led} {g g' : Array GenState} {od : Obj} {kvs : List (Int × Value)} (H : StL I l vs nn i n g) (N : News h₀ F h n) (hm : (d, od) ∈ n) (hd : od.IsDictOf (intKind Challenge.rw_ix0031_01.row.prog w) kvs) (hs : ∀ p ∈ n, p.1 ≠ d → p ∈ n') : StL I l vs nn i n' g' := by
  (refine hide fun G__ k__ => ?_; obtain ⟨oI, h1, h2, h3, h4⟩ := H; refine k__ ?_; clear k__ G__)
  (refine hide fun G__ k__ => ?_; obtain ⟨es, ep, hx, hd, _⟩ := hd; refine k__ ?_; clear k__ G__)
  exact ⟨oI, hs _ h1 (led_ne N h1 hm fun e => by rw [← e, h3] at hd; cases hd), h2, h3, hs _ h4 (led_ne N h4 hm fun e => by rw [← e] at hd; cases hd)⟩
theorem StK.nc {I d : Addr} {od : Obj} {n ep i : Nat} {l l' : Led} {g g' : Array GenState} {w : World} {kvs : List (Int × Value)} (h : StK I d od n ep i l g) (hd : od.IsDictOf (intKind Challenge.rw_ix0031_01.row.prog w) kvs) (hs : NC l l') : StK I d od n ep i l' g' := by
  obtain ⟨oI, h1, h2, h3⟩ := h
  (refine hide fun G__ k__ => ?_; obtain ⟨es, e, hx, hd, _⟩ := hd; refine k__ ?_; clear k__ G__)
  exact ⟨oI, hs _ h1 (by unfold notCell; rw [h2.2]), h2, hs _ h3 (by unfold notCell; rw [hd])⟩
theorem StK.up {I d : Addr} {od : Obj} {n ep i : Nat} {l l' : Led} {g g' : Array GenState} (h : StK I d od n ep i l g) (hs : ∀ p ∈ l, p ∈ l') : StK I d od n ep i l' g' := let ⟨oI, h1, h2, h3⟩ := h; ⟨oI, hs _ h1, h2, hs _ h3⟩
theorem ffault_snoc (l : List (Int × Int)) (k p : Int) : ffault (l ++ [(k, p)]) = if ffault l = 0 then fault k p else ffault l := by
  induction l with
  | nil => by_cases e : fault k p = 0 <;> simp [ffault, e]
  | cons q r ih =>
    obtain ⟨a, b⟩ := q
    have e1 : ∀ x, ffault ((a, b) :: x) = if fault a b = 0 then ffault x else fault a b := fun _ => rfl
    rw [List.cons_append, e1]
    by_cases e : fault a b = 0
    · have e2 : ffault ((a, b) :: r) = ffault r := by rw [e1, if_pos e]
      rw [if_pos e]
      simp only [e2]
      exact ih
    · have e2 : ffault ((a, b) :: r) = fault a b := by rw [e1, if_neg e]
      rw [if_neg e]
      simp only [e2, if_neg e]
theorem IntsL.keys {π : List (Int × Int)} {kvs : List (Int × Value)} (H : IntsL π kvs) : kvs.map (·.1) = π.map (·.1) := by
  induction H with
  | nil => rfl
  | cons _ ih => simp [ih]
theorem DicI.keysNd {w : World} {d : Addr} {π : List (Int × Int)} {n : Led} {od : Obj} {kvs : List (Int × Value)} (H : DicI w d π n od kvs) : (π.map (·.1)).Nodup := by
  (refine hide fun G__ k__ => ?_; obtain ⟨es, ep, _, _, _, _, hn⟩ := H.isd; refine k__ ?_; clear k__ G__)
  rw [← H.nums.keys]; exact hn
theorem off5_fault {ns : List Str} {a a' fi nb cl : Value} {m : Str → Option Value} (h : SameOff ns (mF5 a fi nb cl) m) : SameOff ns (mF5 a' fi nb cl) (fun z => if z = Str.ofString "fault" then some a' else m z) := fun z hz => by
  by_cases e : z = Str.ofString "fault"
  · simp only [if_pos e]
  · simp only [if_neg e]
    rw [h z hz]
    simp only [if_neg e]
theorem ffault_step {l : List (Int × Int)} {i : Nat} {k p : Int} (h : l[i]? = some (k, p)) : ffault (l.take (i + 1)) = if ffault (l.take i) = 0 then fault k p else ffault (l.take i) := by
  rw [List.take_add_one, h]
  exact ffault_snoc _ _ _
theorem LJ5a.told {w : World} {ns : List Int} {L : Addr} {k : Nat} {ρ : Sgs} {init : List (Int × Int)} {fd ln rd : Addr} {n n' : Led} {v : Value} (H : LJ5a w ns L k ρ init fd ln rd n) (hnc : NC n n') (hcl : CellIn (L + 1 + 1 + 1) (some v) n') (hco : ∀ c' v', c' ≠ L + 1 + 1 + 1 → CellIn c' v' n → CellIn c' v' n') : LJ5a w ns L k ρ init fd ln rd n' := by
  obtain ⟨oR, kR, lR, hR⟩ := H.rows
  obtain ⟨oF, kF, hF⟩ := H.first
  obtain ⟨v2, h2⟩ := H.c2
  have ne1 : (L + 1 : Nat) ≠ L + 1 + 1 + 1 := Nat.ne_of_lt (Nat.lt_succ_of_lt (Nat.lt_succ_self _))
  have ne2 : (L + 1 + 1 : Nat) ≠ L + 1 + 1 + 1 := Nat.ne_of_lt (Nat.lt_succ_self _)
  have ne4 : (L + 1 + 1 + 1 + 1 : Nat) ≠ L + 1 + 1 + 1 := Nat.succ_ne_self _
  exact ⟨H.nums.nc hnc, ⟨oR, kR, lR, hR.nc hnc⟩, ⟨oF, kF, hF.nc hnc⟩, H.small, H.keys, H.len, hco _ _ ne1 H.c1, ⟨v2, hco _ _ ne2 h2⟩, ⟨_, hcl⟩, hco _ _ ne4 H.c4, H.sep⟩
theorem LawNew.out {w : World} {c : Bool} {init : List (Int × Int)} {v : Value} {news n' : Led} (h : LawNew w c init v news n') : ∃ tp sv t, v = .ref tp ∧ (tp, tupObj [sv, .int (ffault init) t]) ∈ n' ∧ (∀ p ∈ news, p ∈ n') ∧ ((ffault init = 0 ∧ ∃ a, sv = .ref a) ∨ (ffault init ≠ 0 ∧ sv = .none)) := by
  obtain ⟨tp, e, h | h⟩ := h
  · (refine hide fun G__ k__ => ?_; obtain ⟨hz, sv, t, hn, hm⟩ := h; refine k__ ?_; clear k__ G__)
    (refine hide fun G__ k__ => ?_; obtain ⟨x, dx, d, t1, t2, n, od, kvs, ls, e1, _, h2, _⟩ := hn; refine k__ ?_; clear k__ G__)
    exact ⟨tp, sv, t, e, by rw [hz]; exact hm, h2, .inl ⟨hz, x, e1⟩⟩
  · obtain ⟨hz, ⟨t, hm⟩, hs⟩ := h
    exact ⟨tp, .none, t, e, hm, hs, .inr ⟨hz, rfl⟩⟩
@[reducible] noncomputable def off4 : List Str := [Str.ofString "start", Str.ofString "script", Str.ofString "drawn", Str.ofString "value"]
@[reducible] noncomputable def mSet (sv fa fi nb cl : Value) : Str → Option Value := fun y => if y = Str.ofString "settings" then some sv else mF5 fa fi nb cl y
theorem off5_set {sv fa fi nb cl : Value} {m : Str → Option Value} (h : SameOff off5 (mF5 fa fi nb cl) m) : SameOff off4 (mSet sv fa fi nb cl) (fun z => if z = Str.ofString "settings" then some sv else m z) := fun z hz => by
  by_cases e : z = Str.ofString "settings"
  · simp only [if_pos e]
  · simp only [if_neg e]
    refine h z ?_
    simp only [List.contains_cons, List.contains_nil, Bool.or_eq_false_iff, beq_eq_false_iff_ne, ne_eq] at hz ⊢
    exact ⟨hz.1, hz.2.1, hz.2.2.1, e, hz.2.2.2.1, trivial⟩
theorem LJ5a.rowput {w : World} {ns : List Int} {L : Addr} {k : Nat} {ρ ρ' : Sgs} {init : List (Int × Int)} {fd ln rd : Addr} {n n' : Led} {h₀ h : Heap} {F : Addr} {oR od' : Obj} {kR kvs' : List (Int × Value)} {lR ls' : Led} (N : News h₀ F h n) (H : LJ5a w ns L k ρ init fd ln rd n) (hR : DicL w rd ρ n oR kR lR)
    (hD : DicL w rd ρ' n' od' kvs' ls') (hk : ∀ q ∈ n, q.1 ≠ rd → q ∈ n') : LJ5a w ns L k ρ' init fd ln rd n' := by
  obtain ⟨oF, kF, hF⟩ := H.first
  obtain ⟨v2, h2⟩ := H.c2
  obtain ⟨v3, h3⟩ := H.c3
  obtain ⟨vs, cc, hl, hv⟩ := H.nums
  (refine hide fun G__ k__ => ?_; obtain ⟨es, ep, hx, hd, _⟩ := hR.isd; refine k__ ?_; clear k__ G__)
  have nocell : notCell oR = true := by unfold notCell; rw [hd]
  have cell : ∀ {c : Addr} {v : Option Value}, CellIn c v n → CellIn c v n' := fun hc => by
    have hne := CellIn.neDict (knd := oR) hc N hR.body nocell
    obtain ⟨o, q1, q2⟩ := hc
    exact ⟨o, hk _ q1 hne, q2⟩
  exact ⟨⟨vs, cc, hk _ hl (led_ne N hl hR.body fun e => by rw [← e] at hd; cases hd), hv⟩, ⟨_, _, _, hD⟩, ⟨oF, kF, hk _ hF.body H.sep, hF.isd, hF.nums, hF.low⟩, H.small, H.keys, H.len, cell H.c1, ⟨v2, cell h2⟩, ⟨v3, cell h3⟩, cell H.c4, H.sep⟩
theorem StK.put {w : World} {h₀ h : Heap} {F I d rd : Addr} {od oR : Obj} {n ep i : Nat} {l l' : Led} {g g' : Array GenState} {kR : List (Int × Value)} (H : StK I d od n ep i l g) (N : News h₀ F h l) (hm : (rd, oR) ∈ l) (hd : oR.IsDictOf (intKind Challenge.rw_ix0031_01.row.prog w) kR) (hne : d ≠ rd) (hs : ∀ p ∈ l, p.1 ≠ rd → p ∈ l') : StK I d od n ep i l' g' := by
  obtain ⟨oI, h1, h2, h3⟩ := H
  (refine hide fun G__ k__ => ?_; obtain ⟨es, e, hx, hd, _⟩ := hd; refine k__ ?_; clear k__ G__)
  exact ⟨oI, hs _ h1 (led_ne N h1 hm fun e => by rw [← e, h2.2] at hd; cases hd), h2, hs _ h3 hne⟩
theorem DicI.put {w : World} {d rd : Addr} {π : List (Int × Int)} {n n' : Led} {od : Obj} {kvs : List (Int × Value)} (H : DicI w d π n od kvs) (hne : d ≠ rd) (hs : ∀ p ∈ n, p.1 ≠ rd → p ∈ n') : DicI w d π n' od kvs := ⟨hs _ H.body hne, H.isd, H.nums, H.low⟩
@[reducible] noncomputable def off7 : List Str := [Str.ofString "start", Str.ofString "script", Str.ofString "drawn", Str.ofString "value", Str.ofString "settings", Str.ofString "fault"]
@[reducible] noncomputable def mN (fi nb cl : Value) : Str → Option Value := fun y => if y = Str.ofString "first" then some fi else if y = Str.ofString "numbers" then some nb else if y = Str.ofString "client" then some cl else none
theorem off7_of {sv fa fi nb cl : Value} {m : Str → Option Value} (h : SameOff off4 (mSet sv fa fi nb cl) m) : SameOff off7 (mN fi nb cl) m := fun z hz => by
  simp only [List.contains_cons, List.contains_nil, Bool.or_eq_false_iff, beq_eq_false_iff_ne, ne_eq] at hz
  (refine hide fun G__ k__ => ?_; obtain ⟨h1, h2, h3, h4, h5, h6, _⟩ := hz; refine k__ ?_; clear k__ G__)
  rw [h z (by simp only [List.contains_cons, List.contains_nil, Bool.or_eq_false_iff, beq_eq_false_iff_ne, ne_eq]; exact ⟨h1, h2, h3, h4, trivial⟩)]
  simp only [mSet, mF5, if_neg h5, if_neg h6]
theorem off7_start {fi nb cl st sc : Value} : SameOff off7 (mN fi nb cl) (mFst fi nb cl st sc) := fun z hz => by
  simp only [List.contains_cons, List.contains_nil, Bool.or_eq_false_iff, beq_eq_false_iff_ne, ne_eq] at hz
  simp only [mFst, mStart, mScr, if_neg hz.1, if_neg hz.2.1]
theorem off7_num {fi nb nb' cl : Value} {m : Str → Option Value} (h : SameOff off7 (mN fi nb cl) m) : SameOff off7 (mN fi nb' cl) (fun z => if z = Str.ofString "numbers" then some nb' else m z) := fun z hz => by
  by_cases e : z = Str.ofString "numbers"
  · subst e; rfl
  · simp only [if_neg e]
    rw [h z hz]
    simp only [mN, if_neg e]
noncomputable def FirstV (w : World) (c : Bool) (fv : Value) (ρ : Sgs) (n : Led) : Prop := (fv = .none ∧ ρ = defaults c) ∨
  ∃ fd init oF kF, fv = .ref fd ∧ DicI w fd init n oF kF ∧ ffault init = 0 ∧ ρ = putAll (defaults c) init ∧ (∀ p ∈ init, p.1.natAbs < 2 ^ 60 ∧ p.2.natAbs < 2 ^ 60) ∧ (∀ p ∈ init, p.1 ∈ codes) ∧ init.length ≤ 3
structure LJ5 (w : World) (c : Bool) (L : Addr) (fv : Value) (ρ : Sgs) (ln rd : Addr) (ns : List Int) (n' : Led) : Prop where
  nums : IL ln ns n'
  nlen : ns.length ≤ 63
  rows : ∃ oR kR lR, DicL w rd ρ n' oR kR lR
  first : FirstV w c fv ρ n'
  c1 : CellIn (L + 1) (some (.ref rd)) n'
  c2 : CellAny (L + 1 + 1) n'
  c3 : CellAny (L + 1 + 1 + 1) n'
  c4 : CellIn (L + 1 + 1 + 1 + 1) none n'
theorem LJ5.of_a {w : World} {c : Bool} {L : Addr} {fv : Value} {ρ : Sgs} {init : List (Int × Int)} {fd ln D rd : Addr} {ns ns' : List Int} {n n' : Led} (H : LJ5a w ns L 3 ρ init fd ln rd n) (hc : (fv = .none ∧ ρ = defaults c) ∨ (fv = .ref fd ∧ ffault init = 0 ∧ ρ = putAll (defaults c) init)) (hI : IL D ns' n') (hl : ns'.length ≤ 63) (hs : ∀ p ∈ n, p ∈ n') : LJ5 w c L fv ρ D rd ns' n' := by
  have H' := H.up hs
  refine ⟨hI, hl, H'.rows, ?_, H'.c1, H'.c2, H'.c3, H'.c4⟩
  rcases hc with h | ⟨h1, h2, h3⟩
  · exact .inl h
  · obtain ⟨oF, kF, hF⟩ := H'.first
    exact .inr ⟨fd, init, oF, kF, h1, hF, h2, h3, H'.small, H'.keys, H'.len⟩
inductive LJ5e (w : World) (c : Bool) (L : Addr) (m' : Str → Option Value) (n' : Led) : Prop
  | mk : ∀ fv ρ ln rd ns, (SameOff off7 (mN fv (.ref ln) (.bool c)) m') → (LJ5 w c L fv ρ ln rd ns n') → LJ5e w c L m' n'
noncomputable def obS (o : Obj) : List Stmt := match o.data with
  | .func f => match f.body with
    | .stmts b => b
    | _ => []
  | _ => []
noncomputable def obSc (o : Obj) : Scope := match o.data with
  | .func f => f.scope
  | _ => { kind := .function, names := [], isGenerator := false, isCoroutine := false }
noncomputable def obCd (o : Obj) : Value := match o.data with
  | .func f => f.code
  | _ => .none
@[reducible] noncomputable def lawN : Str := Str.ofString "law"
@[reducible] noncomputable def lawE (o : Obj) (L : Addr) : Env := envOfC lawN (obSc o) L 437 (obCd o)
noncomputable def Go (w : World) (A₀ : Around) (base : Heap) (outer : List Env) (loose : List Str) (mean : ExcName → Option Value) (mg mb : Str → Option Value) (h00 : Heap) (g00 : Array GenState) (L : Addr) (s : Shared) (Q : Flow → Shared → Prop) (E : Value → Shared → Prop) (env : Env) (code : List Stmt) (J : (Str → Option Value) → Led → Prop) : Prop :=
  ∀ m n h gn tk g, J m n → KtsTurn (outer.filterMap (·.frame)) h00 g → GRel g00 gn → Cx w A₀ base outer loose mean mg mb g L m n h → wpAny (model Challenge.rw_ix0031_01.row.prog w) (A₀.deeper env) (execs code env) Q E { s with heap := h, gens := gn, toks := tk }
noncomputable def Fine (w : World) (A₀ : Around) (base : Heap) (outer : List Env) (loose : List Str) (mean : ExcName → Option Value) (mg mb : Str → Option Value) (h00 : Heap) (g00 : Array GenState) (L : Addr) (s : Shared) (Q : Flow → Shared → Prop) : Prop :=
  ∀ m n h gn tk g, KtsTurn (outer.filterMap (·.frame)) h00 g → GRel g00 gn → Cx w A₀ base outer loose mean mg mb g L m n h → Q (.ret (.bool true)) { s with heap := h, gens := gn, toks := tk }
theorem lookE {l : Option Obj} {a b : Obj} (h : l = some a) (k : l = some b) : a = b := Option.some.inj (h.symm.trans k)
noncomputable def nthS (n : Nat) (l : List Stmt) : List Stmt := (l.drop n).take 1
noncomputable def inFor : List Stmt → List Stmt
  | [.For _ _ b _ _] => b
  | _ => []
noncomputable def inIf : List Stmt → List Stmt
  | [.If _ b _ _] => b
  | _ => []
noncomputable def inElse : List Stmt → List Stmt
  | [.If _ _ b _] => b
  | _ => []
theorem execs_one {M : Model} {A : Around} {E : Value → Shared → Prop} {Q : Flow → Shared → Prop} {env : Env} {st : Stmt} {s : Shared} (h : wpAny M A (exec st env) Q E s) : wpAny M A (execs [st] env) Q E s :=
  wpAny_execs_cons (wpAny_mono h (fun f s' h' => by
    cases f with
    | next => exact wpAny_execs_nil h'
    | cont => exact h'
    | brk => exact h'
    | ret v => exact h') fun _ _ e => e)
structure LM (w : World) (c : Bool) (L x : Addr) (σ ρ : Sgs) (π : List (Int × Int)) (dx d : Addr) (t1 t2 : Tok) (nn : Nat) (od : Obj) (kvs : List (Int × Value)) (ls : Led) (rd : Addr) (oR : Obj) (kR : List (Int × Value)) (lR : Led) (pd : Addr) (oP : Obj) (kP : List (Int × Value)) (n : Led) : Prop where
  sets : SetL w x c σ n dx d t1 t2 nn od kvs ls
  rows : DicL w rd ρ n oR kR lR
  pls : DicI w pd π n oP kP
  c1 : CellIn (L + 1) (some (.ref rd)) n
  c2 : CellAny (L + 1 + 1) n
  c3 : CellAny (L + 1 + 1 + 1) n
  c4 : CellIn (L + 1 + 1 + 1 + 1) (some (.ref pd)) n
  gr : rd ≠ d
  gp : pd ≠ d
  rp : rd ≠ pd
  gl : ∀ p ∈ lR, p.1 ∉ ls.map (·.1)
section
variable {w : World} {c : Bool} {L x : Addr} {σ σ' ρ ρ' : Sgs} {π π' : List (Int × Int)} {dx d : Addr} {t1 t2 : Tok} {nn : Nat} {od : Obj} {kvs : List (Int × Value)} {ls : Led} {rd rd' : Addr} {oR oR' : Obj} {kR kR' : List (Int × Value)} {lR lR' : Led} {pd pd' : Addr} {oP oP' : Obj} {kP kP' : List (Int × Value)} {n n' : Led} {h₀ h : Heap} {F : Addr}
theorem CellAny.up {c : Addr} (h : CellAny c n) (hs : ∀ p ∈ n, p ∈ n') : CellAny c n' := let ⟨v, h1⟩ := h; ⟨v, h1.up hs⟩
theorem LM.up (H : LM w c L x σ ρ π dx d t1 t2 nn od kvs ls rd oR kR lR pd oP kP n) (hs : ∀ p ∈ n, p ∈ n') : LM w c L x σ ρ π dx d t1 t2 nn od kvs ls rd oR kR lR pd oP kP n' :=
  ⟨H.sets.mono hs, H.rows.mono hs, H.pls.mono hs, H.c1.up hs, H.c2.up hs, H.c3.up hs, H.c4.up hs, H.gr, H.gp, H.rp, H.gl⟩
theorem DicL.notCell (H : DicL w d σ n od kvs ls) : notCell od = true := by
  (refine hide fun G__ k__ => ?_; obtain ⟨es, ep, hx, hd, _⟩ := H.isd; refine k__ ?_; clear k__ G__)
  unfold Mine.notCell; rw [hd]
theorem CellIn.keep {cc : Addr} {v : Option Value} (H : CellIn cc v n) (hk : ∀ p ∈ n, notCell p.2 = false → p ∈ n') : CellIn cc v n' := by
  obtain ⟨o, h1, h2⟩ := H
  exact ⟨o, hk _ h1 (by unfold notCell; rw [h2]), h2⟩
theorem CellAny.keep {cc : Addr} (H : CellAny cc n) (hk : ∀ p ∈ n, notCell p.2 = false → p ∈ n') : CellAny cc n' := let ⟨v, h1⟩ := H; ⟨v, h1.keep hk⟩
theorem DicL.cellOff (N : News h₀ F h n) (H : DicL w d σ n od kvs ls) (p : Addr × Obj) (hp : p ∈ n) (hc : Mine.notCell p.2 = false) : p.1 ≠ d ∧ p.1 ∉ ls.map (·.1) := by
  refine ⟨led_ne N hp H.body fun e => ?_, fun q => ?_⟩
  · rw [e, H.notCell] at hc; cases hc
  · obtain ⟨r, hr, e⟩ := List.mem_map.mp q
    have h1 : (p.1, r.2) ∈ n := e ▸ H.lsin r hr
    have h2 := led_eq N h1 hp
    (refine hide fun G__ k__ => ?_; obtain ⟨row, vs, k, e', _⟩ := H.lists.objs hr; refine k__ ?_; clear k__ G__)
    rw [← h2, e'] at hc; cases hc
theorem DicL.dictOff (N : News h₀ F h n) (H : DicL w d σ n od kvs ls) {a : Addr} {o : Obj} (hp : (a, o) ∈ n) {K : List (Int × Value)} (hd : o.IsDictOf (intKind Challenge.rw_ix0031_01.row.prog w) K) : a ∉ ls.map (·.1) := fun q => by
  obtain ⟨r, hr, e⟩ := List.mem_map.mp q
  have h1 : (a, r.2) ∈ n := e ▸ H.lsin r hr
  have h2 := led_eq N h1 hp
  (refine hide fun G__ k__ => ?_; obtain ⟨row, vs, k, e', _⟩ := H.lists.objs hr; refine k__ ?_; clear k__ G__)
  (refine hide fun G__ k__ => ?_; obtain ⟨es, ep, hx, hd, _⟩ := hd; refine k__ ?_; clear k__ G__)
  rw [← h2, e'] at hd; cases hd
theorem LM.moved (N : News h₀ F h n) (H : LM w c L x σ ρ π dx d t1 t2 nn od kvs ls rd oR kR lR pd oP kP n) {od' : Obj} {kvs' : List (Int × Value)} {ls' : Led} (hS : SetL w x c σ' n' dx d t1 t2 nn od' kvs' ls') (hk : ∀ p ∈ n, p.1 ≠ d → p.1 ∉ ls.map (·.1) → p ∈ n')
    (hls : ∀ q ∈ ls', q.1 ∈ ls.map (·.1) ∨ ∀ p ∈ n, p.1 < q.1) : LM w c L x σ' ρ π dx d t1 t2 nn od' kvs' ls' rd oR kR lR pd oP kP n' := by
  have cell : ∀ p ∈ n, notCell p.2 = false → p ∈ n' := fun p hp hc => let ⟨h1, h2⟩ := H.sets.dic.cellOff N p hp hc; hk p hp h1 h2
  refine ⟨hS, ⟨hk _ H.rows.body H.gr (H.sets.dic.dictOff N H.rows.body H.rows.isd), H.rows.isd, H.rows.lists, fun p hp => hk _ (H.rows.lsin p hp) ?_ (H.gl p hp), H.rows.low, H.rows.ne, H.rows.nd, H.rows.fit⟩,
    ⟨hk _ H.pls.body H.gp (H.sets.dic.dictOff N H.pls.body H.pls.isd), H.pls.isd, H.pls.nums, H.pls.low⟩, H.c1.keep cell, H.c2.keep cell, H.c3.keep cell, H.c4.keep cell, H.gr, H.gp, H.rp, fun p hp q => ?_⟩
  · exact fun e => H.rows.dictOff N H.sets.dic.body H.sets.dic.isd (e ▸ List.mem_map_of_mem hp)
  · obtain ⟨r, hr, e⟩ := List.mem_map.mp q
    rcases hls r hr with z | z
    · exact H.gl p hp (e ▸ z)
    · exact Nat.lt_irrefl _ (Nat.lt_of_lt_of_le (z p (H.rows.lsin p hp)) (Nat.le_of_eq e))
theorem LM.nc (H : LM w c L x σ ρ π dx d t1 t2 nn od kvs ls rd oR kR lR pd oP kP n) (hnc : NC n n') (h1 : CellIn (L + 1) (some (.ref rd)) n') (h2 : CellAny (L + 1 + 1) n') (h3 : CellAny (L + 1 + 1 + 1) n') (h4 : CellIn (L + 1 + 1 + 1 + 1) (some (.ref pd)) n') :
    LM w c L x σ ρ π dx d t1 t2 nn od kvs ls rd oR kR lR pd oP kP n' := ⟨H.sets.nc hnc, H.rows.nc hnc, H.pls.nc hnc, h1, h2, h3, h4, H.gr, H.gp, H.rp, H.gl⟩
theorem lt4 (L : Nat) : (L + 1 : Nat) ≠ L + 1 + 1 ∧ (L + 1 : Nat) ≠ L + 1 + 1 + 1 ∧ (L + 1 : Nat) ≠ L + 1 + 1 + 1 + 1 ∧ (L + 1 + 1 : Nat) ≠ L + 1 + 1 + 1 ∧ (L + 1 + 1 : Nat) ≠ L + 1 + 1 + 1 + 1 ∧ (L + 1 + 1 + 1 : Nat) ≠ L + 1 + 1 + 1 + 1 :=
  have a (n : Nat) : n ≠ n + 1 := Nat.ne_of_lt (Nat.lt_succ_self n)
  have b (n : Nat) : n ≠ n + 1 + 1 := Nat.ne_of_lt (Nat.lt_succ_of_lt (Nat.lt_succ_self n))
  have c (n : Nat) : n ≠ n + 1 + 1 + 1 := Nat.ne_of_lt (Nat.lt_succ_of_lt (Nat.lt_succ_of_lt (Nat.lt_succ_self n)))
  ⟨a _, b _, c _, a _, b _, a _⟩
theorem LM.code {v : Value} (H : LM w c L x σ ρ π dx d t1 t2 nn od kvs ls rd oR kR lR pd oP kP n) (hnc : NC n n') (hcl : CellIn (L + 1 + 1) (some v) n') (hco : ∀ c' v', c' ≠ L + 1 + 1 → CellIn c' v' n → CellIn c' v' n') : LM w c L x σ ρ π dx d t1 t2 nn od kvs ls rd oR kR lR pd oP kP n' :=
  have ⟨a, _, _, b, e, _⟩ := lt4 L
  H.nc hnc (hco _ _ a H.c1) ⟨_, hcl⟩ (let ⟨v, h⟩ := H.c3; ⟨v, hco _ _ (Ne.symm b) h⟩) (hco _ _ (Ne.symm e) H.c4)
theorem LM.told {v : Value} (H : LM w c L x σ ρ π dx d t1 t2 nn od kvs ls rd oR kR lR pd oP kP n) (hnc : NC n n') (hcl : CellIn (L + 1 + 1 + 1) (some v) n') (hco : ∀ c' v', c' ≠ L + 1 + 1 + 1 → CellIn c' v' n → CellIn c' v' n') : LM w c L x σ ρ π dx d t1 t2 nn od kvs ls rd oR kR lR pd oP kP n' :=
  have ⟨_, a, _, b, _, e⟩ := lt4 L
  H.nc hnc (hco _ _ a H.c1) (let ⟨v, h⟩ := H.c2; ⟨v, hco _ _ b h⟩) ⟨_, hcl⟩ (hco _ _ (Ne.symm e) H.c4)
end
@[reducible] noncomputable def chgDict (w : World) (k : Int) (t : Tok) (v0 v1 : Value) (a1 a2 a3 : Tok) (n : Nat) : Obj := dictOf [⟨PyData.keyHash w.params (Str.ofString "setting"), .str (Str.ofString "setting") a1, .int k t⟩, ⟨PyData.keyHash w.params (Str.ofString "original_value"), .str (Str.ofString "original_value") a2, v0⟩, ⟨PyData.keyHash w.params (Str.ofString "new_value"), .str (Str.ofString "new_value") a3, v1⟩] n
theorem words_T23 : True := by
  k_with "@ktr_rel" => (guard_hyp hT23; (exact ⟨_, _, _, _, _, _, rfl, .head _, .tail _ (.head _), fun p hp => ⟨.tail _ (.tail _ hp), (by assumption : ∀ p ∈ _, p.1 < _) p hp⟩, by assumption⟩))
  trivial
set_option maxRecDepth 100000 in
set_option maxHeartbeats 4000000 in
theorem c_chg (w : World) (news : Led) (k : Int) (t : Tok) (v0 v1 : Value) :
    Spec w (.ref 112) [.int k t, v0, v1] [] 4 news (fun v n' => ∃ y dy a1 a2 a3 n, v = .ref y ∧ (y, instObj 112 dy) ∈ n' ∧ (dy, chgDict w k t v0 v1 a1 a2 a3 n) ∈ n' ∧ (∀ p ∈ news, p ∈ n' ∧ p.1 < dy) ∧ dy < y) := by
  have hT23 := trivial; have g2 := trivial; have g3 := trivial
  intro dp un gd env outer A₀ base h₀ L m mg mb loose mean s Q E C hf hke hdp hun hret
  have X := C.X
  revert X; k_fill; intro X
  k_dflt (refine' call_clsK C.F C.X C.N ?q1 ?q2 ?q3 ?_; (case q1 => k_is); (case q2 => k_is); (case q3 => k_is))
  intro x dx h' F0 N0 l1 l2
  replace l2 := ltN l2
  (have cF := F0; k_dflt (refine' enterG ?C ?kA ?kf ?kk ?k6 ?k7 ?k8 ?k9 ?kB ?_ ?c2 ?c3 ?c4 ?c5; (case C => exact ⟨C.B, F0, N0, C.X, C.T, C.D, C.XB, C.TB⟩); (case kA => exact rfl); (case kf => assumption); (case kk => assumption); (case k6 => k_is); (case k7 => k_is); (case k8 => k_room); (case k9 => first | exact BindsTo.of_eq rfl | exact binds_K (by k_in) rfl (by k_is) rfl rfl rfl | (refine' kp_binds ?kx ?ke; (case kx => k_in); (case ke => exact fun _ => rfl))); (case kB => exact locs rfl); (case c2 => exact rfl); (case c3 => exact rfl); (case c4 => exact rfl); (case c5 => decide); k_whole; intro g' L' h' FG' F' N' B' X' T' D' XB' TB' QQ RR hQQ hRR; (try dsimp only); (try k_lift B'); (try k_fold)))
  k_steps
  all_goals tb_rel
noncomputable def ackRow : Row → Row
  | _ :: b :: r => b :: r
  | r => r
noncomputable def ack1 (p : Int × Row) : Int × Row := (p.1, ackRow p.2)
noncomputable abbrev Tel := Int × Option Int × Option Int
noncomputable def tel1 (p : Int × Row) : List Tel := match p.2 with
  | a :: b :: _ => [(p.1, a, b)]
  | _ => []
noncomputable def ackT (σ : Sgs) : List Tel := σ.flatMap tel1
inductive ChgAt (w : World) (td : Addr) (n : Led) (k : Int) (old new : Option Int) (v : Value) : Prop
  | mk : ∀ y dy t a1 a2 a3 nn v0 v1, (v = .ref y) → ((y, instObj 112 dy) ∈ n) → ((dy, chgDict w k t v0 v1 a1 a2 a3 nn) ∈ n) → (OV old v0) → (OV new v1) → (dy ≠ td) → ChgAt w td n k old new v
inductive TeldL (w : World) (td : Addr) (n : Led) : List Tel → List (Int × Value) → Prop
  | nil : TeldL w td n [] []
  | cons {k : Int} {old new : Option Int} {v : Value} {τ : List Tel} {kvs : List (Int × Value)} : ChgAt w td n k old new v → TeldL w td n τ kvs → TeldL w td n ((k, old, new) :: τ) ((k, v) :: kvs)
theorem TeldL.snoc {w : World} {td : Addr} {n : Led} {τ : List Tel} {kvs : List (Int × Value)} (H : TeldL w td n τ kvs) {k : Int} {old new : Option Int} {v : Value} (h : ChgAt w td n k old new v) : TeldL w td n (τ ++ [(k, old, new)]) (kvs ++ [(k, v)]) := by
  induction H with
  | nil => exact .cons h .nil
  | cons h1 _ ih => exact .cons h1 ih
theorem TeldL.keys {w : World} {td : Addr} {n : Led} {τ : List Tel} {kvs : List (Int × Value)} (H : TeldL w td n τ kvs) : kvs.map (·.1) = τ.map (·.1) := by
  induction H with
  | nil => rfl
  | cons _ _ ih => simp [ih]
theorem TeldL.go {w : World} {td : Addr} {n n' : Led} {τ : List Tel} {kvs : List (Int × Value)} (H : TeldL w td n τ kvs) (h : ∀ y dy, (y, instObj 112 dy) ∈ n → (y, instObj 112 dy) ∈ n') (h' : ∀ dy k t v0 v1 a1 a2 a3 nn, dy ≠ td → (dy, chgDict w k t v0 v1 a1 a2 a3 nn) ∈ n → (dy, chgDict w k t v0 v1 a1 a2 a3 nn) ∈ n') : TeldL w td n' τ kvs := by
  induction H with
  | nil => exact .nil
  | cons h1 _ ih =>
    (refine hide fun G__ k__ => ?_; obtain ⟨y, dy, t, a1, a2, a3, nn, v0, v1, e, h2, h3, h4, h5, h6⟩ := h1; refine k__ ?_; clear k__ G__)
    exact .cons ⟨y, dy, t, a1, a2, a3, nn, v0, v1, e, h _ _ h2, h' _ _ _ _ _ _ _ _ _ h6 h3, h4, h5, h6⟩ ih
theorem ackT_keys (σ : Sgs) : ∀ p ∈ ackT σ, p.1 ∈ σ.map (·.1) := by
  intro p hp
  (refine hide fun G__ k__ => ?_; obtain ⟨q, hq, h⟩ := List.mem_flatMap.mp hp; refine k__ ?_; clear k__ G__)
  obtain ⟨k, row⟩ := q
  have : p.1 = k := by
    unfold tel1 at h
    split at h
    · rw [List.mem_singleton.mp h]
    · cases h
  rw [this]; exact List.mem_map_of_mem (f := fun p : Int × Row => p.1) hq
inductive AckJ (w : World) (x dx d td : Addr) (c : Bool) (t1 t2 : Tok) (n : Nat) (od : Obj) (kvs : List (Int × Value)) (ls : Led) (σ : Sgs) (m₀ : Str → Option Value) (news : Led) (i : Nat) (m₁ : Str → Option Value) (n₁ : Led) : Prop
  | mk : (SameOff [Str.ofString "k", Str.ofString "v", Str.ofString "old_setting", Str.ofString "new_setting"] m₀ m₁) → ((∀ p ∈ news, p.1 ∉ ls.map (·.1) → p ∈ n₁)) → ((∃ σ' ls', SetL w x c σ' n₁ dx d t1 t2 n od kvs ls' ∧ ls'.map (·.1) = ls.map (·.1) ∧ ∀ j, σ'[j]? = if j < i then (σ[j]?).map ack1 else σ[j]?)) → (∃ oT tkvs, (td, oT) ∈ n₁ ∧ oT.IsDictOf (intKind Challenge.rw_ix0031_01.row.prog w) tkvs ∧ TeldL w td n₁ (ackT (σ.take i)) tkvs) → AckJ w x dx d td c t1 t2 n od kvs ls σ m₀ news i m₁ n₁
theorem AckJ.kept {w : World} {x dx d td : Addr} {c : Bool} {t1 t2 : Tok} {n : Nat} {od : Obj} {kvs : List (Int × Value)} {ls : Led} {σ : Sgs} {m₀ : Str → Option Value} {news big : Led} {lo : Nat} (hb : ∀ p ∈ news, p ∈ big) (hlo : ∀ p ∈ big, (p.1 : Nat) < lo) :
    ∀ i m n₁ n₂, AckJ w x dx d td c t1 t2 n od kvs ls σ m₀ news i m n₁ → (∀ p ∈ n₁, Kept lo p → p ∈ n₂) → AckJ w x dx d td c t1 t2 n od kvs ls σ m₀ news i m n₂ := by
  rintro i m n₁ n₂ hZ__ h; (refine hide fun G__ k__ => ?_; obtain ⟨h1, h2, ⟨σ', ls', h3, h4, h5⟩, oT, tkvs, h6, h7, h8⟩ := hZ__; refine k__ ?_; clear k__ G__)
  exact ⟨h1, fun p hp hn => h p (h2 p hp hn) (.inr (hlo p (hb p hp))), ⟨σ', ls', h3.kept h, h4, h5⟩, oT, tkvs, h _ h6 (.inl (plain_dict h7)), h7, h8.go (fun y dy hm => h _ hm (.inl rfl)) fun dy k t v0 v1 a1 a2 a3 nn _ hm => h _ hm (.inl rfl)⟩
theorem AckJ.start {w : World} {x dx d td : Addr} {c : Bool} {t1 t2 : Tok} {n : Nat} {od oT : Obj} {kvs : List (Int × Value)} {ls : Led} {σ : Sgs} {m : Str → Option Value} {news n₁ : Led} (H : SetL w x c σ news dx d t1 t2 n od kvs ls) (h : ∀ p ∈ news, p ∈ n₁) (hT : (td, oT) ∈ n₁) (hd : oT.IsDictOf (intKind Challenge.rw_ix0031_01.row.prog w) []) :
    AckJ w x dx d td c t1 t2 n od kvs ls σ m news 0 m n₁ := ⟨.refl, fun p hp _ => h p hp, ⟨σ, ls, H.mono h, rfl, fun j => by simp⟩, oT, [], hT, hd, by simpa [ackT] using TeldL.nil⟩
section
variable {w : World} {x dx d td I a : Addr} {c : Bool} {t1 t2 : Tok} {n i ep : Nat} {od oT oT' : Obj} {kvs tkvs : List (Int × Value)} {ls ls1 ls2 : Led} {σ σ1 : Sgs} {m₀ m' : Str → Option Value} {news n₁ n₂ n₃ : Led} {k : Int} {r0 r1 : Option Int} {rs : Row} {v0 v1 : Value} {vs : List Value} {nn nn' : Nat}
theorem take_len {α : Type} {l : List α} {i : Nat} {a : α} (h : l[i]? = some a) : i < l.length := (List.getElem?_eq_some_iff.mp h).1
theorem ack_step1 (hm : SameOff [Str.ofString "k", Str.ofString "v", Str.ofString "old_setting", Str.ofString "new_setting"] m₀ m') (hb : ∀ p ∈ news, p.1 ∉ ls.map (·.1) → p ∈ n₁) (hS : SetL w x c σ1 n₁ dx d t1 t2 n od kvs ls1) (hl : ls1.map (·.1) = ls.map (·.1)) (hσ : ∀ j, σ1[j]? = if j < i then (σ[j]?).map ack1 else σ[j]?)
    (hT : (td, oT) ∈ n₁) (hTd : oT.IsDictOf (intKind Challenge.rw_ix0031_01.row.prog w) tkvs) (hTl : TeldL w td n₁ (ackT (σ.take i)) tkvs) (hp : σ1[i]? = some (k, [r0])) (hI : StI I d od kvs.length ep (i + 1) n₁) :
    AckJ w x dx d td c t1 t2 n od kvs ls σ m₀ news (i + 1) m' n₁ ∧ StI I d od kvs.length ep (i + 1) n₁ := by
  have hp' : σ[i]? = some (k, [r0]) := by rw [hσ i, if_neg (Nat.lt_irrefl _)] at hp; exact hp
  refine ⟨⟨hm, hb, ⟨σ1, ls1, hS, hl, fun j => ?_⟩, oT, tkvs, hT, hTd, ?_⟩, hI⟩
  · rw [hσ j]
    by_cases e : j = i
    · subst e; rw [if_neg (Nat.lt_irrefl _), if_pos (Nat.lt_succ_self _), hp']; rfl
    · by_cases q : j < i
      · rw [if_pos q, if_pos (Nat.lt_succ_of_lt q)]
      · rw [if_neg q, if_neg (by omega)]
  · rw [take_snoc hp', ackT, List.flatMap_append]
    simpa [tel1, ackT] using hTl
theorem ack_step2 (hm : SameOff [Str.ofString "k", Str.ofString "v", Str.ofString "old_setting", Str.ofString "new_setting"] m₀ m') (hb : ∀ p ∈ news, p.1 ∉ ls.map (·.1) → p ∈ n₁) (hS : SetL w x c σ1 n₁ dx d t1 t2 n od kvs ls1) (hl : ls1.map (·.1) = ls.map (·.1)) (hσ : ∀ j, σ1[j]? = if j < i then (σ[j]?).map ack1 else σ[j]?)
    (hT : (td, oT) ∈ n₁) (hTd : oT.IsDictOf (intKind Challenge.rw_ix0031_01.row.prog w) tkvs) (hTl : TeldL w td n₁ (ackT (σ.take i)) tkvs) (hp : σ1[i]? = some (k, r0 :: r1 :: rs)) (hI : StI I d od kvs.length ep (i + 1) n₁)
    {g1 h1 : Heap} {L1 : Addr} (N1 : News g1 L1 h1 n₁) (ha : (a, W.listOf (v0 :: v1 :: vs).toArray nn) ∈ n₁) (hal : a ∈ ls.map (·.1)) (hS2 : SetL w x c (putR σ1 k (r1 :: rs)) n₂ dx d t1 t2 n od kvs ls2) (hl2 : ls2.map (·.1) = ls1.map (·.1)) (hk2 : ∀ p ∈ n₁, p.1 ≠ a → p ∈ n₂)
    {y dy : Addr} {t a1 a2 a3 : Tok} {n4 : Nat} (hy1 : (y, instObj 112 dy) ∈ n₃) (hy2 : (dy, chgDict w k t v0 v1 a1 a2 a3 n4) ∈ n₃) (hk3 : ∀ p ∈ n₂, p ∈ n₃ ∧ p.1 < dy) (ho0 : OV r0 v0) (ho1 : OV r1 v1)
    {g3 h3 : Heap} {L3 : Addr} (N3 : News g3 L3 h3 n₃) (hd3 : d ≠ td) (hx3 : dx ≠ td) (hnd : (σ.map (·.1)).Nodup) (htn : ∀ p ∈ news, p.1 ≠ td) (hTd' : oT'.IsDictOf (intKind Challenge.rw_ix0031_01.row.prog w) (stored tkvs k (.ref y))) :
    AckJ w x dx d td c t1 t2 n od kvs ls σ m₀ news (i + 1) m' (wrL n₃ td oT') ∧ StI I d od kvs.length ep (i + 1) (wrL n₃ td oT') := by
  have hp' : σ[i]? = some (k, r0 :: r1 :: rs) := by rw [hσ i, if_neg (Nat.lt_irrefl _)] at hp; exact hp
  have hta : td ≠ a := led_ne N1 hT ha (fun q => by
    obtain ⟨es, ep', hx, _⟩ := hTd
    have := hx.1
    rw [q] at this
    exact absurd (Value.type.inj this) (by decide))
  have hT2 := hk2 _ hT hta
  have hT3 := (hk3 _ hT2).1
  have hdyt : dy ≠ td := Ne.symm (Nat.ne_of_lt (hk3 _ hT2).2)
  have hyt : y ≠ td := led_ne N3 hy1 hT3 (fun q => by
    obtain ⟨es, ep', hx, _⟩ := hTd
    have := hx.1
    rw [← q] at this
    cases this)
  have keep : ∀ p ∈ n₂, p.1 ≠ td → p ∈ wrL n₃ td oT' := fun p hp hne => wrL.keep (hk3 p hp).1 hne
  obtain ⟨⟨ok, ov, hI1⟩, hI2⟩ := hI
  have hia : I ≠ a := led_ne N1 hI1 ha (cls_ne (by show Value.type "dict_itemiterator" ≠ Value.type "list"; decide))
  have hit : I ≠ td := led_ne N1 hI1 hT (fun q => by
    obtain ⟨es, ep', hx, _⟩ := hTd
    have := hx.1
    rw [← q] at this
    exact absurd (Value.type.inj this) (by decide))
  have hda : d ≠ a := led_ne N1 hS.dic.body ha (fun q => by
    (refine hide fun G__ k__ => ?_; obtain ⟨es, ep', hx, _⟩ := hS.dic.isd; refine k__ ?_; clear k__ G__)
    have := hx.1
    rw [q] at this
    exact absurd (Value.type.inj this) (by decide))
  have hst : SetL w x c (putR σ1 k (r1 :: rs)) (wrL n₃ td oT') dx d t1 t2 n od kvs ls2 := by
    refine ⟨keep _ hS2.inst (led_ne (fun p hp => N3 p (hk3 p hp).1) hS2.inst hT2 (fun q => ?_)), keep _ hS2.dict hx3, hS2.sep, ⟨keep _ hS2.dic.body hd3, hS2.dic.isd, hS2.dic.lists, fun p hp => keep _ (hS2.dic.lsin p hp) (led_ne (fun p hp => N3 p (hk3 p hp).1) (hS2.dic.lsin p hp) hT2 (fun q => ?_)), hS2.dic.low, hS2.dic.ne, hS2.dic.nd, hS2.dic.fit⟩⟩
    · obtain ⟨es, ep', hx, _⟩ := hTd
      have := hx.1
      rw [← q] at this
      cases this
    · (refine hide fun G__ k__ => ?_; obtain ⟨row, vs', n', e, _⟩ := hS2.dic.lists.objs hp; refine k__ ?_; clear k__ G__)
      obtain ⟨es, ep', hx, _⟩ := hTd
      have := hx.1
      rw [← q, e] at this
      exact absurd (Value.type.inj this) (by decide)
  have hkk : k ∉ tkvs.map (·.1) := fun hm => by
    rw [hTl.keys] at hm
    (refine hide fun G__ k__ => ?_; obtain ⟨p, hp1, e⟩ := List.mem_map.mp hm; refine k__ ?_; clear k__ G__)
    have := ackT_keys _ _ hp1
    rw [e] at this
    (refine hide fun G__ k__ => ?_; obtain ⟨q, hq, e2⟩ := List.mem_map.mp this; refine k__ ?_; clear k__ G__)
    obtain ⟨j, hj1⟩ := List.mem_iff_getElem?.mp hq
    rw [List.getElem?_take] at hj1
    split at hj1
    · rename_i hji
      have h1 : (σ.map (·.1))[j]? = some k := by rw [List.getElem?_map, hj1]; exact congrArg some e2
      have h2 : (σ.map (·.1))[i]? = some k := by rw [List.getElem?_map, hp']; rfl
      have hjl : j < (σ.map (·.1)).length := take_len h1
      have := (List.getElem?_inj hjl hnd).mp (h1.trans h2.symm)
      omega
    · cases hj1
  have hsto : stored tkvs k (.ref y) = tkvs ++ [(k, .ref y)] := by
    unfold stored
    have : (tkvs.any fun p => decide (p.1 = k)) = false := by
      rw [List.any_eq_false]
      intro p hp
      simp only [decide_eq_true_eq]
      exact fun e => hkk (e ▸ List.mem_map_of_mem hp)
    simp [this]
  refine ⟨⟨hm, fun p hp hn => keep _ (hk2 p (hb p hp hn) (fun e => hn (e ▸ hal))) (htn p hp), ⟨_, ls2, hst, hl2.trans hl, fun j => ?_⟩, oT', _, .head _, hTd', ?_⟩, ⟨ok, ov, keep _ (hk2 _ hI1 hia) hit⟩, keep _ (hk2 _ hI2 hda) hd3⟩
  · rw [put_get hS.dic.keysNd hp j, hσ j]
    by_cases e : j = i
    · subst e; rw [if_pos rfl, if_pos (Nat.lt_succ_self _), hp']; rfl
    · rw [if_neg e]
      by_cases q : j < i
      · rw [if_pos q, if_pos (Nat.lt_succ_of_lt q)]
      · rw [if_neg q, if_neg (by omega)]
  · rw [take_snoc hp', ackT, List.flatMap_append, hsto]
    refine TeldL.snoc (TeldL.go hTl (fun y' dy' hm' => keep _ (hk2 _ hm' ?_) ?_) fun dy' k' t' w0 w1 b1 b2 b3 bn hne hm' => keep _ (hk2 _ hm' ?_) hne) ⟨y, dy, t, a1, a2, a3, n4, v0, v1, rfl, wrL.keep hy1 hyt, wrL.keep hy2 hdyt, ho0, ho1, hdyt⟩
    · exact led_ne N1 hm' ha (cls_ne (by intro q; cases q))
    · exact led_ne N1 hm' hT (fun q => by
        obtain ⟨es, ep', hx, _⟩ := hTd
        have := hx.1
        rw [← q] at this
        cases this)
    · exact led_ne N1 hm' ha (cls_ne (by show Value.type "dict" ≠ Value.type "list"; decide))
end
theorem AckJ.done {w : World} {x dx d td : Addr} {c : Bool} {t1 t2 : Tok} {n : Nat} {od : Obj} {kvs : List (Int × Value)} {ls : Led} {σ : Sgs} {m₀ m : Str → Option Value} {news n₁ : Led} (hlen : kvs.length = σ.length) (H : AckJ w x dx d td c t1 t2 n od kvs ls σ m₀ news kvs.length m n₁) :
    (∀ p ∈ news, p.1 ∉ ls.map (·.1) → p ∈ n₁) ∧ (∃ ls', SetL w x c (σ.map ack1) n₁ dx d t1 t2 n od kvs ls' ∧ ls'.map (·.1) = ls.map (·.1)) ∧ ∃ oT tkvs, (td, oT) ∈ n₁ ∧ oT.IsDictOf (intKind Challenge.rw_ix0031_01.row.prog w) tkvs ∧ TeldL w td n₁ (ackT σ) tkvs := by
  (refine hide fun G__ k__ => ?_; obtain ⟨h1, h2, ⟨σ', ls', h3, h4, h5⟩, oT, tkvs, h6, h7, h8⟩ := H; refine k__ ?_; clear k__ G__)
  rw [hlen, List.take_length] at h8
  refine ⟨h2, ⟨ls', ?_, h4⟩, oT, tkvs, h6, h7, h8⟩
  have : σ' = σ.map ack1 := by
    refine List.ext_getElem? fun j => ?_
    rw [h5 j, List.getElem?_map, hlen]
    by_cases q : j < σ.length
    · rw [if_pos q]
    · rw [if_neg q, List.getElem?_eq_none (by omega)]; rfl
  exact this ▸ h3
theorem fit_shrink {σ : Sgs} {k : Int} {r0 : Option Int} {row : Row} (f : Fit σ) (h : look σ k = some (r0 :: row)) : Fit (putR σ k row) := by
  refine ⟨?_, fun j r hj => ?_⟩
  · have : (putR σ k row).length = σ.length := by
      unfold putR
      rw [if_pos (look_some_any h)]; simp
    rw [this]; exact f.1
  · rw [look_put] at hj
    by_cases e : j = k
    · rw [if_pos e] at hj; cases hj
      have := f.2 _ _ h
      simp at this
      omega
    · rw [if_neg e] at hj; exact f.2 _ _ hj
section
variable {w : World} {A : Around} {E : Value → Shared → Prop} {s : Shared} {h₀ : Heap} {L : Addr} {m : Str → Option Value} {big : Led} {d a x dx : Addr} {od : Obj} {kvs : List (Int × Value)} {σ : Sgs} {ls : Led} {k : Int} {t t1 t2 : Tok} {c : Bool} {n nn : Nat} {its : List Value} {r0 r1 : Option Int} {rs : Row} {v0 v1 : Value}
theorem pop_row {i : Int} {u : Tok} {Q : Value → Shared → Prop} (F : Fr h₀ L s.heap m) (N : News h₀ L s.heap big) (H : SetL w x c σ big dx d t1 t2 n od kvs ls) (hv : valueAt kvs k = some (.ref a)) (hq : look σ k = some (r0 :: r1 :: rs)) (hm : (a, W.listOf (v0 :: v1 :: its).toArray nn) ∈ big) (hr : RowV (r0 :: r1 :: rs) (v0 :: v1 :: its)) (hi : i = 0)
    (h : ∀ h' n' ls', Fr h₀ L h' m → News h₀ L h' n' → SetL w x c (putR σ k (r1 :: rs)) n' dx d t1 t2 n od kvs ls' → ls'.map (·.1) = ls.map (·.1) → (a, W.listOf (v1 :: its).toArray (nn + 1)) ∈ n' → (∀ p ∈ big, p.1 ≠ a → p ∈ n') → Q v0 { s with heap := h' }) :
    wpAny (model Challenge.rw_ix0031_01.row.prog w) A (call (.builtin "list.pop") [.ref a, .int i u]) Q E s := by
  have hz := H.dic.len_at hq hr
  refine pop0_led F N hm (by simpa using hz) hi fun h' F' N' => ?_
  cases hr with
  | cons hv0 hr' =>
    (refine hide fun G__ k__ => ?_; obtain ⟨ls', g1, g2⟩ := SetL.write (s' := h') (its' := v1 :: its) (nn' := nn + 1) N H hv hm hr' (List.cons_ne_nil _ _) (fit_shrink H.dic.fit hq); refine k__ ?_; clear k__ G__)
    exact h h' _ ls' F' N' g1 g2 (.head _) fun p hp hne => wrL.keep hp hne
theorem len_one {Q : Value → Shared → Prop} (N : News h₀ L s.heap big) (hm : (a, W.listOf (List.toArray [v0]) nn) ∈ big) (h : ∀ tk, Q (.int 1 tk) { s with toks := s.toks + 1 + 1 }) :
    wpAny (model Challenge.rw_ix0031_01.row.prog w) A (call (.builtin "len") [.ref a]) Q E s := len_led N hm (by simp) (h _)
theorem len_two {Q : Value → Shared → Prop} (N : News h₀ L s.heap big) (hm : (a, W.listOf (v0 :: v1 :: its).toArray nn) ∈ big) (hsz : its.length + 2 ≤ 1000) (h : ∀ (q : Int) tk, 1 < q → Q (.int q tk) { s with toks := s.toks + 1 + 1 }) :
    wpAny (model Challenge.rw_ix0031_01.row.prog w) A (call (.builtin "len") [.ref a]) Q E s := len_led N hm (by simpa using hsz) (h _ _ (by simp only [List.length_cons]; omega))
end
theorem RowV.two {row : Row} {vs : List Value} (h : RowV row vs) (hne : row ≠ []) : (∃ r0 v0, row = [r0] ∧ vs = [v0] ∧ OV r0 v0) ∨ ∃ r0 r1 rs v0 v1 vs', row = r0 :: r1 :: rs ∧ vs = v0 :: v1 :: vs' ∧ OV r0 v0 ∧ OV r1 v1 ∧ RowV rs vs' := by
  cases h with
  | nil => exact absurd rfl hne
  | cons h0 h1 =>
    cases h1 with
    | nil => exact .inl ⟨_, _, rfl, rfl, h0⟩
    | cons h1 h2 => exact .inr ⟨_, _, _, _, _, _, rfl, rfl, h0, h1, h2⟩
theorem dict_ne_list {w : World} {g h : Heap} {L td a : Addr} {n : Led} {oT : Obj} {tkvs : List (Int × Value)} {its : List Value} {nn : Nat} (N : News g L h n) (hT : (td, oT) ∈ n) (hd : oT.IsDictOf (intKind Challenge.rw_ix0031_01.row.prog w) tkvs) (ha : (a, W.listOf its.toArray nn) ∈ n) : td ≠ a := led_ne N hT ha (fun q => by
    obtain ⟨es, ep', hx, _⟩ := hd
    have := hx.1
    rw [q] at this
    exact absurd (Value.type.inj this) (by decide))
theorem ackT_len (σ : Sgs) : (ackT σ).length ≤ σ.length := by
  induction σ with
  | nil => exact Nat.le_refl _
  | cons p σ ih =>
    have e : (tel1 p).length ≤ 1 := by unfold tel1; split <;> simp
    simp only [ackT, List.flatMap_cons, List.length_append, List.length_cons] at ih ⊢
    omega
theorem teld_len {w : World} {td : Addr} {n : Led} {σ : Sgs} {i : Nat} {tkvs : List (Int × Value)} (H : TeldL w td n (ackT (σ.take i)) tkvs) (hf : σ.length ≤ 1000) : tkvs.length ≤ 1000 := by
  have e := congrArg List.length H.keys
  simp only [List.length_map] at e
  have h1 := ackT_len (σ.take i)
  have h2 : (σ.take i).length ≤ σ.length := by rw [List.length_take]; omega
  omega
theorem ListsL.klen {σ : Sgs} {kvs : List (Int × Value)} {ls : Led} (H : ListsL σ kvs ls) : kvs.length = σ.length := by
  have := congrArg List.length H.keys
  simpa using this
theorem DicL.kvNd {w : World} {d : Addr} {σ : Sgs} {news : Led} {od : Obj} {kvs : List (Int × Value)} {ls : Led} (H : DicL w d σ news od kvs ls) : (kvs.map (·.1)).Nodup := by rw [H.lists.keys]; exact H.keysNd
theorem words_T24 : True := by
  k_with "eval Dict nil nil" => (guard_hyp hT24; ((k_here; k_dflt (refine' newDict_K ?k1_o ?k2_o ?b_o (fun d' h' o' F' N' l1 lo' hs' fs' hi' fi' => ?_); (case k1_o => k_asm); (case k2_o => k_asm); (case b_o => exact Top.nolimit (by k_asm))); have htn := all_ne_lt l1)))
  k_with "pyIter ref" => (guard_hyp hT24; ((k_here; k_dflt (refine' iter_itemsC ?T00_f ?G00_f ⟨?B_f, ?F_f, ?N_f, ?X_f, ?T_f, ?D_f, ?XB_f, ?TB_f⟩ rfl (List.Mem.head _) ?hm_f H.dic.isd rfl rfl rfl rfl (AckJ w x dx d _ c t1 t2 n od kvs ls σ _ news) ?h0_f (fun lo hlo => AckJ.kept ?hb_f hlo) (fun I ep i k y t m₁ n₁ h₁ gn tk g₁ hk hJ hI hTn hG C' => ?_) (fun m₁ n₁ h₁ gn tk g₁ hJ hTn hG C' => ?_); (case B_f => k_asm); (case F_f => k_asm); (case N_f => k_asm); (case X_f => k_asm); (case T_f => k_asm); (case D_f => assumption); (case XB_f => assumption); (case TB_f => assumption); (case T00_f => first | assumption | exact KtsTurn.refl); (case G00_f => first | assumption | exact GRel.refl _); (case hm_f => (repeat' (first | assumption | refine List.Mem.tail _ ?_))); (case h0_f => exact AckJ.start H (fun p hp => .tail _ (.tail _ hp)) (.tail _ (.head _)) (by assumption)); (case hb_f => (intro p hp; repeat' (first | exact hp | refine List.Mem.tail _ ?_)))); rotate_left; (have hj1 := hJ.1; rw [hj1.eq] at C'; (refine hide fun G__ k__ => ?_; obtain ⟨hD1, hD2, hD3⟩ := hJ.done H.dic.lists.klen; refine k__ ?_; clear k__ G__); obtain ⟨B', F', N', X', T', D', XB', TB'⟩ := C'; (try k_lift B'); (try k_fold)); rotate_right; (obtain ⟨hj1, hj2, ⟨σ1, ls1, hS1, hl1, hσ1⟩, oT, tkvs, hT, hTd, hTl⟩ := hJ; rw [hj1.eq] at C'; (refine hide fun G__ k__ => ?_; obtain ⟨row, a, oa, hp, he, hal, vs0, nn, hoe, hr⟩ := hS1.dic.lists.get hk; refine k__ ?_; clear k__ G__); subst he; subst hoe; have ha := hS1.dic.lsin _ hal; have hal2 := hl1 ▸ List.mem_map_of_mem (f := fun p : Addr × Obj => p.1) hal; have hlk := look_get hS1.dic.keysNd hp; have hvk := look_get (α := Value) H.dic.kvNd hk; obtain ⟨B', F', N', X', T', D', XB', TB'⟩ := C'; (try k_lift B'); (try k_fold); have N1 := N'; have hta := dict_ne_list N1 hT hTd ha; rcases hr.two (hS1.dic.ne _ _ hlk) with ⟨r0, v0, e1, e2, ho0⟩ | ⟨r0, r1, rs, v0, v1, vs', e1, e2, ho0, ho1, hrs⟩ <;> subst e1 <;> subst e2))))
  k_with "call builtin:len" => (guard_hyp hT24; ((k_here; k_dflt (first | (refine' len_two ?N_z ha ?z_z (fun q tk2 hq2 => ?_); (case N_z => k_asm); (case z_z => (have hz0 := hS1.dic.len_at hlk (.cons ho0 (.cons ho1 hrs)); simpa using hz0))) | (refine' len_one ?N2_z ha (fun tk2 => ?_); (case N2_z => k_asm))))))
  k_with "getMethod ref" => (guard_hyp hT24; ((k_here; (with_reducible show wpAny _ _ (getMethod (Value.ref _) (PySem.Str.ofString "pop") _) _ _ _); k_dflt (refine' kl_method ?N_x ha PySem.F.slot_list_pop PySem.F.type_list_pop ?_; (case N_x => k_asm)))))
  k_with "call builtin:list.pop" => (guard_hyp hT24; ((k_here; k_dflt (refine' pop_row ?F_au ?N_au hS1 hvk hlk ha (.cons ho0 (.cons ho1 hrs)) rfl (fun h2 n2 ls2 F2 N2 hS2 hl2 ha2 hk2 => ?_); (case F_au => k_asm); (case N_au => k_asm)))))
  k_with "subscriptTail" => (guard_hyp hT24; ((k_here; (with_reducible show wpAny _ _ (subscriptTail _ _ (Value.ref _) (Value.int _ _)) _ _ _); (refine' item_led ?k1_ad ha2 ?k3_ad ?k4_ad ?k5_ad ?_ ?k8_ad; (case k1_ad => k_asm); (case k3_ad => decide); (case k4_ad => decide); (case k5_ad => rfl); (case k8_ad => with_unfolding_all rfl); k_whole))))
  k_with "call ref" => (guard_hyp hT24; ((k_here; (with_reducible show wpAny _ _ (call (Value.ref 112) _ _) _ _ _); k_dflt (refine' Spec.use (c_chg _ _ _ _ _ _) ?hA_L ?B_L ?F_L ?N_L ?X_L ?T_L ?D_L ?XB_L ?TB_L ?hf_L ?hke_L ?hdp_L ?hun_L (fun v n' h' gn' tk' g' hR kT kF kN kB kX₀ kP kD kX kG => ?_); (case F_L => k_asm); (case N_L => k_asm); skip; (case hA_L => exact rfl); (case B_L => k_asm); (case X_L => k_asm); (case T_L => k_asm); (case D_L => assumption); (case XB_L => assumption); (case TB_L => assumption); (case hf_L => exact rfl); (case hke_L => exact rfl); (case hdp_L => k_room); (case hun_L => k_units); (all_goals (try (have kT2 := KtsTurn.trans (by assumption) kT; clear kT))); (all_goals (try (have kG2 := GRel.trans (by assumption) kG; clear kG))); obtain ⟨y', dy, a1', a2', a3', n4, he, hy1, hy2, hk3, hlt3⟩ := hR; subst he; have N3 := kN; (try dsimp only); (try k_lift kB); (try k_fold)))))
  k_with "setItem ref int ref" => (guard_hyp hT24; ((k_here; k_dflt (refine' store_dict ?F_aq N3 (hk3 _ (hk2 _ hT hta)).1 hTd (teld_len hTl H.dic.fit.1) (fun h' oT' F' N' hd' => ?_); (case F_aq => k_asm)))))
  k_with "@J" => (guard_hyp hT24; (k_dflt (first | exact ack_step1 (by repeat (first | exact SameOff.eqs (by assumption) | exact SameOff.refl | refine SameOff.ite (by rfl) ?_)) hj2 hS1 hl1 hσ1 hT hTd hTl hp hI | exact ack_step2 (by repeat (first | exact SameOff.eqs (by assumption) | exact SameOff.refl | refine SameOff.ite (by rfl) ?_)) hj2 hS1 hl1 hσ1 hT hTd hTl hp hI N1 ha hal2 hS2 hl2 hk2 hy1 hy2 hk3 ho0 ho1 N3 (htn _ H.dic.body) (htn _ H.dict) H.dic.keysNd htn hd')))
  k_with "@ktr_rel" => (guard_hyp hT24; (exact ⟨_, rfl, by assumption, htn, hD1, hD2, hD3⟩))
  trivial
set_option maxRecDepth 100000 in
set_option maxHeartbeats 4000000 in
theorem c_ack (w : World) (news : Led) (x dx d : Addr) (c : Bool) (σ : Sgs) (t1 t2 : Tok) (n : Nat) (od : Obj) (kvs : List (Int × Value)) (ls : Led) (H : SetL w x c σ news dx d t1 t2 n od kvs ls) :
    Spec w (.ref 138) [.ref x] [] 8 news (fun v n' => ∃ td, v = .ref td ∧ (td == sysModules) = false ∧ (∀ p ∈ news, p.1 ≠ td) ∧ (∀ p ∈ news, p.1 ∉ ls.map (·.1) → p ∈ n') ∧ (∃ ls', SetL w x c (σ.map ack1) n' dx d t1 t2 n od kvs ls' ∧ ls'.map (·.1) = ls.map (·.1)) ∧
      ∃ oT tkvs, (td, oT) ∈ n' ∧ oT.IsDictOf (intKind Challenge.rw_ix0031_01.row.prog w) tkvs ∧ TeldL w td n' (ackT σ) tkvs) := by
  have hT24 := trivial; have g1 := trivial; have g2 := trivial; have g5 := trivial; have g7 := trivial; have g8 := trivial
  have h1 := H.inst
  have h2 := H.dict
  have h3 := H.dic.isd
  have h4 := H.dic.body
  have h5 := H.dic.low
  intro dp un gd env outer A₀ base h₀ L m mg mb loose mean s Q E C hf hke hdp hun hret
  have X := C.X
  revert X; k_fill; intro X
  tb_start
  k_steps
  all_goals tb_rel
theorem words_T25 : True := by
  k_with "compareOp Eq ref ref" => (guard_hyp hT25; ((k_here; k_dflt (refine' dicts_eq ?N_f H.dic H'.dic ?u_f (fun b hb => ?_); (case N_f => k_asm); (case u_f => k_units)))))
  trivial
set_option maxRecDepth 100000 in
set_option maxHeartbeats 4000000 in
theorem c_eq (w : World) (news : Led) (x dx d : Addr) (c : Bool) (σ : Sgs) (t1 t2 : Tok) (n : Nat) (od : Obj) (kvs : List (Int × Value)) (ls : Led) (H : SetL w x c σ news dx d t1 t2 n od kvs ls) (y dy d' : Addr) (c' : Bool) (σ' : Sgs) (t1' t2' : Tok) (n' : Nat) (od' : Obj) (kvs' : List (Int × Value)) (ls' : Led) (H' : SetL w y c' σ' news dy d' t1' t2' n' od' kvs' ls') :
    SpecR w (.ref 328) [.ref x, .ref y] [] 4 news (fun v => ∃ b : Bool, v = .bool b ∧ (b = true ↔ ∀ k, look σ k = look σ' k)) := by
  have hT25 := trivial; have g1 := trivial; have g2 := trivial; have g8 := trivial
  have h1 := H.inst
  have h2 := H.dict
  have h3 := H'.inst
  have h4 := H'.dict
  intro dp un gd env outer A₀ base h₀ L m mg mb loose mean s Q E C hf hke hdp hun hret
  have X := C.X
  revert X; k_fill; intro X
  tb_start
  k_steps
  all_goals kwd_rel
theorem words_T25b : True := by
  k_with "call ref" => (guard_hyp hT25b; ((k_here; (with_reducible show wpAny _ _ (call (Value.ref 328) _ _) _ _ _); k_dflt (refine' SpecR.use (c_eq _ _ _ _ _ _ _ _ _ _ _ _ _ ?H_x _ _ _ _ _ _ _ _ _ _ _ ?H2_x) ?hA_x ?B_x ?F_x ?N_x ?X_x ?T_x ?D_x ?XB_x ?TB_x ?hf_x ?hke_x ?hdp_x ?hun_x (fun v h' gn' tk' g' hR kT kF kN kB kX₀ kP kD kX kG => ?_); (case F_x => k_asm); (case N_x => k_asm); (case H_x => first | exact H | exact H.mono (by intro p hp; repeat' (first | exact hp | refine List.Mem.tail _ ?_))); (case H2_x => first | exact H' | exact H'.mono (by intro p hp; repeat' (first | exact hp | refine List.Mem.tail _ ?_))); (case hA_x => exact rfl); (case B_x => k_asm); (case X_x => k_asm); (case T_x => k_asm); (case D_x => assumption); (case XB_x => assumption); (case TB_x => assumption); (case hf_x => exact rfl); (case hke_x => exact rfl); (case hdp_x => k_room); (case hun_x => k_units); (all_goals (try (have kT2 := KtsTurn.trans (by assumption) kT; clear kT))); (all_goals (try (have kG2 := GRel.trans (by assumption) kG; clear kG))); obtain ⟨b, he, hb⟩ := hR; subst he; (try dsimp only [PySem.W.CmpBack]); (try dsimp only); (try k_lift kB); (try k_fold)))))
  trivial
set_option maxRecDepth 100000 in
set_option maxHeartbeats 4000000 in
theorem c_ne (w : World) (news : Led) (x dx d : Addr) (c : Bool) (σ : Sgs) (t1 t2 : Tok) (n : Nat) (od : Obj) (kvs : List (Int × Value)) (ls : Led) (H : SetL w x c σ news dx d t1 t2 n od kvs ls) (y dy d' : Addr) (c' : Bool) (σ' : Sgs) (t1' t2' : Tok) (n' : Nat) (od' : Obj) (kvs' : List (Int × Value)) (ls' : Led) (H' : SetL w y c' σ' news dy d' t1' t2' n' od' kvs' ls') :
    SpecR w (.ref 335) [.ref x, .ref y] [] 8 news (fun v => ∃ b : Bool, v = .bool (!b) ∧ (b = true ↔ ∀ k, look σ k = look σ' k)) := by
  have hT25 := trivial; have hT25b := trivial; have g1 := trivial; have g2 := trivial; have g8 := trivial
  have h1 := H.inst
  have h2 := H.dict
  have h3 := H'.inst
  have h4 := H'.dict
  intro dp un gd env outer A₀ base h₀ L m mg mb loose mean s Q E C hf hke hdp hun hret
  have X := C.X
  revert X; k_fill; intro X
  tb_start
  k_steps
  all_goals kwd_rel
theorem words_T12_1 : True := by
  trivial
theorem words_T12_2 : True := by
  trivial
theorem words_T12_3 : True := by
  k_with "@ktr_rel" => (guard_hyp hT12_3; (first | exact ⟨⟨_, congrArg (Value.int · _) (by assumption : fault _ _ = 0).symm⟩, .inl ⟨by assumption, by assumption⟩⟩ | exact ⟨⟨_, congrArg (Value.int · _) (by assumption : _ = fault _ _)⟩, .inr ⟨by omega, fun p hp => by repeat' (first | exact hp | refine List.Mem.tail _ ?_ | exact (by assumption : ∀ p ∈ _, p ∈ _) _ hp)⟩⟩))
  trivial
set_option maxRecDepth 100000 in
set_option maxHeartbeats 4000000 in
theorem c_put_false (w : World) (news : Led) (x dx d : Addr) (c : Bool) (σ : Sgs) (t1 t2 : Tok) (n : Nat) (od : Obj) (kvs : List (Int × Value)) (ls : Led) (H : SetL w x c σ news dx d t1 t2 n od kvs ls) (k v : Int) (tk tv : Tok) (hkb : k.natAbs < 2 ^ 60) (hvb : v.natAbs < 2 ^ 60) (hfit : Fit (putR σ k (newRow σ k v))) :
    Spec w (.ref 385) [.ref x, .int k tk, .int v tv, .bool false] [] 14 news (fun v' n' => (∃ t, v' = .int (fault k v) t) ∧ ((fault k v = 0 ∧ Stored w x c (putR σ k (newRow σ k v)) news n' dx d t1 t2 n ls) ∨ (fault k v ≠ 0 ∧ ∀ p ∈ news, p ∈ n'))) := by
  have hT12_1 := trivial; have hT12_2 := trivial; have hT12_3 := trivial; have g0 := trivial; have g1 := trivial
  have h1 := H.inst
  have h2 := H.dict
  intro dp un gd env outer A₀ base h₀ L m mg mb loose mean s Q E C hf hke hdp hun hret
  have X := C.X
  revert X; k_fill; intro X
  tb_start
  k_steps
  all_goals tb_rel
theorem words_T14_1 : True := by
  k_with "@ktr_rel" => (guard_hyp hT14_1; (exact ⟨rfl, by assumption, by assumption⟩))
  k_with "@tb_start" => (guard_hyp hT14_1; ((have cF := Cx.F (by assumption); k_dflt (refine' enterG ?C_I ?kA_I ?kf_I ?kk_I ?k6_I ?k7_I ?k8_I ?k9_I ?kB_I ?_ ?c2_I ?c3_I ?c4_I ?c5_I; (case C_I => assumption); (case kA_I => exact rfl); (case kf_I => assumption); (case kk_I => assumption); (case k6_I => k_is); (case k7_I => k_is); (case k8_I => k_room); (case k9_I => first | exact BindsTo.of_eq rfl | exact binds_K (by k_in) rfl (by k_is) rfl rfl rfl | (refine' kp_binds ?kx_I ?ke_I; (case kx_I => k_in); (case ke_I => exact fun _ => rfl))); (case kB_I => exact locs rfl); (case c2_I => exact rfl); (case c3_I => exact rfl); (case c4_I => exact rfl); (case c5_I => decide); k_whole; intro g' L' h' FG' F' N' B' X' T' D' XB' TB' QQ RR hQQ hRR; (try dsimp only); (try k_lift B'); (try k_fold)))))
  k_with "@tb_rel" => (guard_hyp hT14_1; (((try dsimp only); refine' backC ?H_Z ?F_Z ?N_Z ?R_Z ?T_Z ?B_Z ?X_Z ?TT_Z ?D_Z ?XB_Z ?TB_Z ?GG_Z; (case H_Z => assumption); (case F_Z => k_asm); (case N_Z => k_asm); (case T_Z => first | assumption | exact KtsTurn.refl); (case B_Z => first | assumption | exact Cx.B (by assumption)); (case X_Z => first | assumption | exact Cx.X (by assumption)); (case TT_Z => first | assumption | exact Cx.T (by assumption)); (case D_Z => first | assumption | exact Cx.D (by assumption)); (case XB_Z => first | assumption | exact Cx.XB (by assumption)); (case TB_Z => first | assumption | exact Cx.TB (by assumption)); (case R_Z => ktr_rel); (case GG_Z => first | exact GRel.refl _ | assumption))))
  k_with "@kwd_less" => (guard_hyp hT14_1; (((try dsimp only); refine' backEC ?H_at ?R_at ?T_at ?F_at ?hf_at ?B_at ?X_at ?GG_at; (case H_at => assumption); (case R_at => assumption); (case T_at => first | assumption | exact KtsTurn.refl); (case F_at => assumption); (case hf_at => assumption); (case B_at => exact Cx.B (by assumption)); (case X_at => first | exact ⟨by assumption, by assumption, by assumption⟩ | ktr_rel); (case GG_at => first | exact GRel.refl _ | assumption))))
  trivial
set_option maxRecDepth 100000 in
set_option maxHeartbeats 4000000 in
theorem c_set1C (w : World) (news : Led) (x dx d : Addr) (c : Bool) (σ : Sgs) (t1 t2 : Tok) (n : Nat) (od : Obj) (kvs : List (Int × Value)) (ls : Led) (H : SetL w x c σ news dx d t1 t2 n od kvs ls) (v : Int) (tv : Tok) (hvb : v.natAbs < 2 ^ 60) (hfit : Fit (putR σ 1 (newRow σ 1 v))) :
    SpecXC w (.ref 154) [.ref x, .int v tv] [] 10 news (fun v' n' => v' = .none ∧ fault 1 v = 0 ∧ Stored w x c (putR σ 1 (newRow σ 1 v)) news n' dx d t1 t2 n ls) (fun r n' => r = fault 1 v ∧ r ≠ 0 ∧ ∀ p ∈ news, p ∈ n') := by
  have hT14_1 := trivial; have g0 := trivial; have g1 := trivial
  have h1 := H.inst
  have h2 := H.dict
  intro dp un gd env outer A₀ base h₀ L m mg mb loose mean s R C hf hke hdp hun hret herr
  have X := C.X
  revert X; k_fill; intro X
  tb_start
  k_steps
  all_goals (first | kwd_less | tb_rel)
set_option maxRecDepth 100000 in
set_option maxHeartbeats 4000000 in
theorem c_set2C (w : World) (news : Led) (x dx d : Addr) (c : Bool) (σ : Sgs) (t1 t2 : Tok) (n : Nat) (od : Obj) (kvs : List (Int × Value)) (ls : Led) (H : SetL w x c σ news dx d t1 t2 n od kvs ls) (v : Int) (tv : Tok) (hvb : v.natAbs < 2 ^ 60) (hfit : Fit (putR σ 2 (newRow σ 2 v))) :
    SpecXC w (.ref 171) [.ref x, .int v tv] [] 10 news (fun v' n' => v' = .none ∧ fault 2 v = 0 ∧ Stored w x c (putR σ 2 (newRow σ 2 v)) news n' dx d t1 t2 n ls) (fun r n' => r = fault 2 v ∧ r ≠ 0 ∧ ∀ p ∈ news, p ∈ n') := by
  have hT14_1 := trivial; have g0 := trivial; have g1 := trivial
  have h1 := H.inst
  have h2 := H.dict
  intro dp un gd env outer A₀ base h₀ L m mg mb loose mean s R C hf hke hdp hun hret herr
  have X := C.X
  revert X; k_fill; intro X
  tb_start
  k_steps
  all_goals (first | kwd_less | tb_rel)
set_option maxRecDepth 100000 in
set_option maxHeartbeats 4000000 in
theorem c_set4C (w : World) (news : Led) (x dx d : Addr) (c : Bool) (σ : Sgs) (t1 t2 : Tok) (n : Nat) (od : Obj) (kvs : List (Int × Value)) (ls : Led) (H : SetL w x c σ news dx d t1 t2 n od kvs ls) (v : Int) (tv : Tok) (hvb : v.natAbs < 2 ^ 60) (hfit : Fit (putR σ 4 (newRow σ 4 v))) :
    SpecXC w (.ref 188) [.ref x, .int v tv] [] 10 news (fun v' n' => v' = .none ∧ fault 4 v = 0 ∧ Stored w x c (putR σ 4 (newRow σ 4 v)) news n' dx d t1 t2 n ls) (fun r n' => r = fault 4 v ∧ r ≠ 0 ∧ ∀ p ∈ news, p ∈ n') := by
  have hT14_1 := trivial; have g0 := trivial; have g1 := trivial
  have h1 := H.inst
  have h2 := H.dict
  intro dp un gd env outer A₀ base h₀ L m mg mb loose mean s R C hf hke hdp hun hret herr
  have X := C.X
  revert X; k_fill; intro X
  tb_start
  k_steps
  all_goals (first | kwd_less | tb_rel)
set_option maxRecDepth 100000 in
set_option maxHeartbeats 4000000 in
theorem c_set5C (w : World) (news : Led) (x dx d : Addr) (c : Bool) (σ : Sgs) (t1 t2 : Tok) (n : Nat) (od : Obj) (kvs : List (Int × Value)) (ls : Led) (H : SetL w x c σ news dx d t1 t2 n od kvs ls) (v : Int) (tv : Tok) (hvb : v.natAbs < 2 ^ 60) (hfit : Fit (putR σ 5 (newRow σ 5 v))) :
    SpecXC w (.ref 205) [.ref x, .int v tv] [] 10 news (fun v' n' => v' = .none ∧ fault 5 v = 0 ∧ Stored w x c (putR σ 5 (newRow σ 5 v)) news n' dx d t1 t2 n ls) (fun r n' => r = fault 5 v ∧ r ≠ 0 ∧ ∀ p ∈ news, p ∈ n') := by
  have hT14_1 := trivial; have g0 := trivial; have g1 := trivial
  have h1 := H.inst
  have h2 := H.dict
  intro dp un gd env outer A₀ base h₀ L m mg mb loose mean s R C hf hke hdp hun hret herr
  have X := C.X
  revert X; k_fill; intro X
  tb_start
  k_steps
  all_goals (first | kwd_less | tb_rel)
set_option maxRecDepth 100000 in
set_option maxHeartbeats 4000000 in
theorem c_set3C (w : World) (news : Led) (x dx d : Addr) (c : Bool) (σ : Sgs) (t1 t2 : Tok) (n : Nat) (od : Obj) (kvs : List (Int × Value)) (ls : Led) (H : SetL w x c σ news dx d t1 t2 n od kvs ls) (v : Int) (tv : Tok) (hvb : v.natAbs < 2 ^ 60) (hfit : Fit (putR σ 3 (newRow σ 3 v))) :
    SpecXC w (.ref 222) [.ref x, .int v tv] [] 10 news (fun v' n' => v' = .none ∧ fault 3 v = 0 ∧ Stored w x c (putR σ 3 (newRow σ 3 v)) news n' dx d t1 t2 n ls) (fun r n' => r = fault 3 v ∧ r ≠ 0 ∧ ∀ p ∈ news, p ∈ n') := by
  have hT14_1 := trivial; have g0 := trivial; have g1 := trivial
  have h1 := H.inst
  have h2 := H.dict
  intro dp un gd env outer A₀ base h₀ L m mg mb loose mean s R C hf hke hdp hun hret herr
  have X := C.X
  revert X; k_fill; intro X
  tb_start
  k_steps
  all_goals (first | kwd_less | tb_rel)
set_option maxRecDepth 100000 in
set_option maxHeartbeats 4000000 in
theorem c_set6C (w : World) (news : Led) (x dx d : Addr) (c : Bool) (σ : Sgs) (t1 t2 : Tok) (n : Nat) (od : Obj) (kvs : List (Int × Value)) (ls : Led) (H : SetL w x c σ news dx d t1 t2 n od kvs ls) (v : Int) (tv : Tok) (hvb : v.natAbs < 2 ^ 60) (hfit : Fit (putR σ 6 (newRow σ 6 v))) :
    SpecXC w (.ref 239) [.ref x, .int v tv] [] 10 news (fun v' n' => v' = .none ∧ fault 6 v = 0 ∧ Stored w x c (putR σ 6 (newRow σ 6 v)) news n' dx d t1 t2 n ls) (fun r n' => r = fault 6 v ∧ r ≠ 0 ∧ ∀ p ∈ news, p ∈ n') := by
  have hT14_1 := trivial; have g0 := trivial; have g1 := trivial
  have h1 := H.inst
  have h2 := H.dict
  intro dp un gd env outer A₀ base h₀ L m mg mb loose mean s R C hf hke hdp hun hret herr
  have X := C.X
  revert X; k_fill; intro X
  tb_start
  k_steps
  all_goals (first | kwd_less | tb_rel)
set_option maxRecDepth 100000 in
set_option maxHeartbeats 4000000 in
theorem c_set8C (w : World) (news : Led) (x dx d : Addr) (c : Bool) (σ : Sgs) (t1 t2 : Tok) (n : Nat) (od : Obj) (kvs : List (Int × Value)) (ls : Led) (H : SetL w x c σ news dx d t1 t2 n od kvs ls) (v : Int) (tv : Tok) (hvb : v.natAbs < 2 ^ 60) (hfit : Fit (putR σ 8 (newRow σ 8 v))) :
    SpecXC w (.ref 256) [.ref x, .int v tv] [] 10 news (fun v' n' => v' = .none ∧ fault 8 v = 0 ∧ Stored w x c (putR σ 8 (newRow σ 8 v)) news n' dx d t1 t2 n ls) (fun r n' => r = fault 8 v ∧ r ≠ 0 ∧ ∀ p ∈ news, p ∈ n') := by
  have hT14_1 := trivial; have g0 := trivial; have g1 := trivial
  have h1 := H.inst
  have h2 := H.dict
  intro dp un gd env outer A₀ base h₀ L m mg mb loose mean s R C hf hke hdp hun hret herr
  have X := C.X
  revert X; k_fill; intro X
  tb_start
  k_steps
  all_goals (first | kwd_less | tb_rel)
inductive PutN (w : World) (A₀ : Around) (base : Heap) (outer : List Env) (loose : List Str) (mean : ExcName → Option Value) (mg mb : Str → Option Value) (h₀ : Heap) (L : Addr) (m : Str → Option Value) (s : Shared) (J : Led → Prop) : Flow → Shared → Prop
  | mk : ∀ n' h' gn' tk' g', J n' → KtsTurn (outer.filterMap (·.frame)) h₀ g' → GRel s.gens gn' → Cx w A₀ base outer loose mean mg mb g' L m n' h' → PutN w A₀ base outer loose mean mg mb h₀ L m s J .next { s with heap := h', gens := gn', toks := tk' }
inductive PutE (w : World) (A₀ : Around) (base : Heap) (outer : List Env) (loose : List Str) (mean : ExcName → Option Value) (mg mb : Str → Option Value) (h₀ : Heap) (L : Addr) (m : Str → Option Value) (s : Shared) (env : Env) (X : Int → Led → Prop) : Value → Shared → Prop
  | mk : ∀ e r n' h' gn' tk' G g', X r n' → KtsTurn (outer.filterMap (·.frame)) h₀ g' → Fr g' L G m → Below A₀ base outer g' → KtsDicts (outer.filterMap (·.frame)) g' → Err w base G (env :: outer) e r n' h' → GRel s.gens gn' → PutE w A₀ base outer loose mean mg mb h₀ L m s env X (.ref e) { s with heap := h', gens := gn', toks := tk' }
theorem put_cut {w : World} {A A₀ : Around} {base h₀ : Heap} {env : Env} {outer : List Env} {loose : List Str} {mean : ExcName → Option Value} {mg mb : Str → Option Value} {L : Addr} {m : Str → Option Value} {s : Shared} {c : Sem Flow} {Q : Flow → Shared → Prop} {E : Value → Shared → Prop} {J : Led → Prop} {X : Int → Led → Prop} (_ : Fr h₀ L s.heap m) (_ : Below A₀ base outer h₀) (_ : Top hd.view_39 loose mean mg mb h₀)
    (h1 : wpAny (model Challenge.rw_ix0031_01.row.prog w) (A.deeper env) c (PutN w A₀ base outer loose mean mg mb h₀ L m s J) (PutE w A₀ base outer loose mean mg mb h₀ L m s env X) s)
    (h2 : ∀ n' h' gn' tk' g', J n' → KtsTurn (outer.filterMap (·.frame)) h₀ g' → GRel s.gens gn' → Cx w A₀ base outer loose mean mg mb g' L m n' h' → Q .next { s with heap := h', gens := gn', toks := tk' })
    (h3 : ∀ e r n' h' gn' tk' G g', X r n' → KtsTurn (outer.filterMap (·.frame)) h₀ g' → Fr g' L G m → Below A₀ base outer g' → KtsDicts (outer.filterMap (·.frame)) g' → Err w base G (env :: outer) e r n' h' → GRel s.gens gn' → E (.ref e) { s with heap := h', gens := gn', toks := tk' }) :
    wpAny (model Challenge.rw_ix0031_01.row.prog w) (A.deeper env) c Q E s :=
  wpAny_mono h1 (fun _ _ ⟨n', h', gn', tk', g', a, b, c, d⟩ => h2 n' h' gn' tk' g' a b c d) fun _ _ ⟨e, r, n', h', gn', tk', G, g', a, b, c, d, f, i, j⟩ => h3 e r n' h' gn' tk' G g' a b c d f i j
theorem put_gJ {w : World} {x dx d : Addr} {c : Bool} {σ : Sgs} {t1 t2 : Tok} {n : Nat} {ls news n' : Led} {k k' v : Int} (h : k = k') (hf : fault k' v = 0) (S : Stored w x c (putR σ k' (newRow σ k' v)) news n' dx d t1 t2 n ls) : fault k v = 0 ∧ Stored w x c (putR σ k (newRow σ k v)) news n' dx d t1 t2 n ls := by
  subst h
  exact ⟨hf, S⟩
theorem put_bX {k k' v r : Int} {P : Prop} (h : k = k') (hr : r = fault k' v ∧ r ≠ 0 ∧ P) : r = fault k v ∧ r ≠ 0 ∧ P := by
  subst h
  exact hr
theorem put_good {w : World} {x dx d : Addr} {c : Bool} {σ : Sgs} {t1 t2 tt : Tok} {n : Nat} {ls news n' : Led} {k k' v : Int} (h : k = k') (hf : fault k' v = 0) (S : Stored w x c (putR σ k' (newRow σ k' v)) news n' dx d t1 t2 n ls) : (∃ t, Value.int 0 tt = .int (fault k v) t) ∧ ((fault k v = 0 ∧ Stored w x c (putR σ k (newRow σ k v)) news n' dx d t1 t2 n ls) ∨ (fault k v ≠ 0 ∧ ∀ p ∈ news, p ∈ n')) := by
  subst h
  exact ⟨⟨_, congrArg (Value.int · _) hf.symm⟩, .inl ⟨hf, S⟩⟩
theorem put_bad {w : World} {x dx d : Addr} {c : Bool} {σ : Sgs} {t1 t2 tt : Tok} {n : Nat} {ls news n' : Led} {k k' v r : Int} (h : k = k') (hr : r = fault k' v) (h0 : r ≠ 0) (hs : ∀ p ∈ news, p ∈ n') : (∃ t, Value.int r tt = .int (fault k v) t) ∧ ((fault k v = 0 ∧ Stored w x c (putR σ k (newRow σ k v)) news n' dx d t1 t2 n ls) ∨ (fault k v ≠ 0 ∧ ∀ p ∈ news, p ∈ n')) := by
  subst h
  exact ⟨⟨_, congrArg (Value.int · _) hr⟩, .inr ⟨fun q => h0 (hr.trans q), hs⟩⟩
theorem fit_eq {σ : Sgs} {k k' v : Int} (h : k = k') (f : Fit (putR σ k (newRow σ k v))) : Fit (putR σ k' (newRow σ k' v)) := h ▸ f
theorem words_T13_1 : True := by
  k_with "setAttr ref" => (guard_hyp hT13_1; ((k_here; k_dflt ((first | ((with_reducible show wpAny _ _ (setAttr (Value.ref _) (PySem.Str.ofString "header_table_size") _) _ _ _); refine' set_prop ?sF_a ?sX_a ?sI_a ?s1_a ?s2_a ?s3_a ?s4_a ?s5_a (SpecXC.use (c_set1C _ _ _ _ _ _ _ _ _ _ _ _ _ ?H_a _ _ ?hv_a ?hft_a) ?hA_a ?B_a ?F_a ?N_a ?X_a ?T_a ?D_a ?XB_a ?TB_a ?hf_a ?hke_a ?hdp_a ?hun_a (fun v n' h' gn' tk' g' hR kT kF kN kB kX₀ kP kD kX kG => ?_) (fun e' r' n' h' gn' tk' G' g' hR kT kF kB kD kR kG => ?_))) | ((with_reducible show wpAny _ _ (setAttr (Value.ref _) (PySem.Str.ofString "enable_push") _) _ _ _); refine' set_prop ?sF_a ?sX_a ?sI_a ?s1_a ?s2_a ?s3_a ?s4_a ?s5_a (SpecXC.use (c_set2C _ _ _ _ _ _ _ _ _ _ _ _ _ ?H_a _ _ ?hv_a ?hft_a) ?hA_a ?B_a ?F_a ?N_a ?X_a ?T_a ?D_a ?XB_a ?TB_a ?hf_a ?hke_a ?hdp_a ?hun_a (fun v n' h' gn' tk' g' hR kT kF kN kB kX₀ kP kD kX kG => ?_) (fun e' r' n' h' gn' tk' G' g' hR kT kF kB kD kR kG => ?_))) | ((with_reducible show wpAny _ _ (setAttr (Value.ref _) (PySem.Str.ofString "initial_window_size") _) _ _ _); refine' set_prop ?sF_a ?sX_a ?sI_a ?s1_a ?s2_a ?s3_a ?s4_a ?s5_a (SpecXC.use (c_set4C _ _ _ _ _ _ _ _ _ _ _ _ _ ?H_a _ _ ?hv_a ?hft_a) ?hA_a ?B_a ?F_a ?N_a ?X_a ?T_a ?D_a ?XB_a ?TB_a ?hf_a ?hke_a ?hdp_a ?hun_a (fun v n' h' gn' tk' g' hR kT kF kN kB kX₀ kP kD kX kG => ?_) (fun e' r' n' h' gn' tk' G' g' hR kT kF kB kD kR kG => ?_))) | ((with_reducible show wpAny _ _ (setAttr (Value.ref _) (PySem.Str.ofString "max_frame_size") _) _ _ _); refine' set_prop ?sF_a ?sX_a ?sI_a ?s1_a ?s2_a ?s3_a ?s4_a ?s5_a (SpecXC.use (c_set5C _ _ _ _ _ _ _ _ _ _ _ _ _ ?H_a _ _ ?hv_a ?hft_a) ?hA_a ?B_a ?F_a ?N_a ?X_a ?T_a ?D_a ?XB_a ?TB_a ?hf_a ?hke_a ?hdp_a ?hun_a (fun v n' h' gn' tk' g' hR kT kF kN kB kX₀ kP kD kX kG => ?_) (fun e' r' n' h' gn' tk' G' g' hR kT kF kB kD kR kG => ?_))) | ((with_reducible show wpAny _ _ (setAttr (Value.ref _) (PySem.Str.ofString "max_concurrent_streams") _) _ _ _); refine' set_prop ?sF_a ?sX_a ?sI_a ?s1_a ?s2_a ?s3_a ?s4_a ?s5_a (SpecXC.use (c_set3C _ _ _ _ _ _ _ _ _ _ _ _ _ ?H_a _ _ ?hv_a ?hft_a) ?hA_a ?B_a ?F_a ?N_a ?X_a ?T_a ?D_a ?XB_a ?TB_a ?hf_a ?hke_a ?hdp_a ?hun_a (fun v n' h' gn' tk' g' hR kT kF kN kB kX₀ kP kD kX kG => ?_) (fun e' r' n' h' gn' tk' G' g' hR kT kF kB kD kR kG => ?_))) | ((with_reducible show wpAny _ _ (setAttr (Value.ref _) (PySem.Str.ofString "max_header_list_size") _) _ _ _); refine' set_prop ?sF_a ?sX_a ?sI_a ?s1_a ?s2_a ?s3_a ?s4_a ?s5_a (SpecXC.use (c_set6C _ _ _ _ _ _ _ _ _ _ _ _ _ ?H_a _ _ ?hv_a ?hft_a) ?hA_a ?B_a ?F_a ?N_a ?X_a ?T_a ?D_a ?XB_a ?TB_a ?hf_a ?hke_a ?hdp_a ?hun_a (fun v n' h' gn' tk' g' hR kT kF kN kB kX₀ kP kD kX kG => ?_) (fun e' r' n' h' gn' tk' G' g' hR kT kF kB kD kR kG => ?_))) | ((with_reducible show wpAny _ _ (setAttr (Value.ref _) (PySem.Str.ofString "enable_connect_protocol") _) _ _ _); refine' set_prop ?sF_a ?sX_a ?sI_a ?s1_a ?s2_a ?s3_a ?s4_a ?s5_a (SpecXC.use (c_set8C _ _ _ _ _ _ _ _ _ _ _ _ _ ?H_a _ _ ?hv_a ?hft_a) ?hA_a ?B_a ?F_a ?N_a ?X_a ?T_a ?D_a ?XB_a ?TB_a ?hf_a ?hke_a ?hdp_a ?hun_a (fun v n' h' gn' tk' g' hR kT kF kN kB kX₀ kP kD kX kG => ?_) (fun e' r' n' h' gn' tk' G' g' hR kT kF kB kD kR kG => ?_)))); (case sF_a => k_asm); (case sX_a => k_asm); (case sI_a => k_inst); (case s1_a => k_is); (case s2_a => k_is); (case s3_a => k_is); (case s4_a => k_is); (case s5_a => k_is); (case F_a => k_asm); (case N_a => k_asm); (case H_a => first | assumption | exact SetL.mono (by assumption) (by intro p hp; repeat' (first | exact hp | refine List.Mem.tail _ ?_))); (case hv_a => assumption); (case hft_a => first | assumption | exact fit_eq (by assumption) (by assumption)); (case hA_a => exact rfl); (case B_a => k_asm); (case X_a => k_asm); (case T_a => k_asm); (case D_a => assumption); (case XB_a => assumption); (case TB_a => assumption); (case hf_a => exact rfl); (case hke_a => exact rfl); (case hdp_a => k_room); (case hun_a => k_units); (all_goals (try (have kT2 := KtsTurn.trans (by assumption) kT; clear kT))); (all_goals (try (have kG2 := GRel.trans (by assumption) kG; clear kG))); have hR1 := hR.1; have hR2 := hR.2.1; have hR3 := hR.2.2; subst hR1; rotate_left; obtain ⟨hr1, hr2, hr3⟩ := hR; rotate_right; (all_goals (try dsimp only)); (try k_lift kB); (try k_fold)))))
  k_with "exec If" => (guard_hyp hT13_1; ((k_here; (with_reducible show wpAny _ _ (exec (Stmt.If (Expr.UnaryOp _ _ _) _ _ _) _) _ _ _); (fail_if_success (with_reducible show wpAny _ _ _ (PutN _ _ _ _ _ _ _ _ _ _ _ _ _) _ _)); k_dflt (refine' put_cut (J := fun n1 => fault k v = 0 ∧ Stored w x c (putR σ k (newRow σ k v)) news n1 dx d t1 t2 n ls) (X := fun r n1 => r = fault k v ∧ r ≠ 0 ∧ ∀ p ∈ news, p ∈ n1) ?F_aY ?B_aY ?TT_aY ?_ (fun n' h' gn' tk' g' hJ kT kG kC => ?_) (fun e' r' n' h' gn' tk' G' g' hR kT kF kB kD kR kG => ?_); (case F_aY => k_asm); (case B_aY => k_asm); (case TT_aY => k_asm); rotate_left; (obtain ⟨hR2, hR3⟩ := hJ; obtain ⟨kB, kF, kN, kX₀, kP, kD, kXB, kTB⟩ := kC; (try dsimp only); (try k_lift kB); (try k_fold)); rotate_left; obtain ⟨hr1, hr2, hr3⟩ := hR; (try dsimp only); rotate_left))))
  k_with "PutN" => (guard_hyp hT13_1; ((refine' PutN.mk _ _ _ _ _ ?J_af ?T_af ?GG_af ⟨?B_af, ?F_af, ?N_af, ?X_af, ?TT_af, ?D_af, ?XB_af, ?TB_af⟩; (case F_af => k_asm); (case N_af => k_asm); (case T_af => first | assumption | exact KtsTurn.refl); (case B_af => first | assumption | exact Cx.B (by assumption)); (case X_af => first | assumption | exact Cx.X (by assumption)); (case TT_af => first | assumption | exact Cx.T (by assumption)); (case D_af => assumption); (case XB_af => assumption); (case TB_af => assumption); (case GG_af => first | exact GRel.refl _ | assumption); (case J_af => first | exact put_gJ (by assumption) hR2 hR3 | exact ⟨hR2, hR3⟩))))
  k_with "PutE" => (guard_hyp hT13_1; ((refine' PutE.mk _ _ _ _ _ _ _ _ ?J_aG ?T_aG kF ?B_aG ?D_aG kR ?GG_aG; (case T_aG => first | assumption | exact KtsTurn.refl); (case B_aG => assumption); (case D_aG => assumption); (case GG_aG => first | exact GRel.refl _ | assumption); (case J_aG => first | exact put_bX (by assumption) ⟨hr1, hr2, hr3⟩ | exact ⟨hr1, hr2, hr3⟩))))
  trivial
theorem words_T13_2 : True := by
  k_with "@ktr_rel" => (guard_hyp hT13_2; (first | exact put_good rfl (by assumption) (by assumption) | exact put_bad rfl (by first | assumption | rfl) (by assumption) (fun p hp => by repeat' (first | exact hp | refine List.Mem.tail _ ?_ | exact (by assumption : ∀ p ∈ _, p ∈ _) _ hp))))
  trivial
set_option maxRecDepth 100000 in
set_option maxHeartbeats 4000000 in
theorem c_put_true (w : World) (news : Led) (x dx d : Addr) (c : Bool) (σ : Sgs) (t1 t2 : Tok) (n : Nat) (od : Obj) (kvs : List (Int × Value)) (ls : Led) (H : SetL w x c σ news dx d t1 t2 n od kvs ls) (k v : Int) (tk tv : Tok) (hkb : k.natAbs < 2 ^ 60) (hvb : v.natAbs < 2 ^ 60) (hfit : Fit (putR σ k (newRow σ k v))) :
    Spec w (.ref 385) [.ref x, .int k tk, .int v tv, .bool true] [] 14 news (fun v' n' => (∃ t, v' = .int (fault k v) t) ∧ ((fault k v = 0 ∧ Stored w x c (putR σ k (newRow σ k v)) news n' dx d t1 t2 n ls) ∨ (fault k v ≠ 0 ∧ ∀ p ∈ news, p ∈ n'))) := by
  have hT13_1 := trivial; have hT13_2 := trivial; have g0 := trivial; have g1 := trivial
  have h1 := H.inst
  have h2 := H.dict
  intro dp un gd env outer A₀ base h₀ L m mg mb loose mean s Q E C hf hke hdp hun hret
  have X := C.X
  revert X; k_fill; intro X
  tb_start
  k_steps
  all_goals tb_rel
theorem words_T15_1 : True := by
  k_with "delItem ref int" => (guard_hyp hT15_1; ((k_here; k_dflt (refine' del_row ?F_aO ?N_aO ?H_aO ?hh_aO (fun row h' n' od' kvs' ls' hq F' N' H' hkp hls => ?_) (fun hq h' e' x' => ?_); (case F_aO => k_asm); (case N_aO => k_asm); (case H_aO => first | assumption | exact SetL.mono (by assumption) (by intro p hp; repeat' (first | exact hp | refine List.Mem.tail _ ?_))); (case hh_aO => rfl)))))
  trivial
section
variable {M : Model} {A : Around} {E : Value → Shared → Prop} {s : Shared} {K : Frag} {x C L f : Addr} {h₀ : Heap} {m : Str → Option Value} {ox : Obj} {od : Option Obj} {i : Value}
theorem own_del {Q : Unit → Shared → Prop} (F : Fr h₀ L s.heap m) (X₀ : K.In h₀) (I : InstAt s.heap x ox C od) (hq : noSeq K C = true) (hs : findIn K (.ref C) "__delitem__" = some (some (.ref f))) (hf : isFn K (.ref f) = true)
    (h : wpAny M A (call (.ref f) [.ref x, i]) (fun _ s' => Q () s') E s) : wpAny M A (delItem (.ref x) i) Q E s := by
  have hT15_1 := trivial; have g0 := trivial; have g1 := trivial
  have X := X₀.keeps F.keep
  unfold delItem sequenceKey
  refine wpAny_holding (wpAny_bind (wpAny_bind (I.type.here ?_)))
  refine wpAny_bind ((anyM_none X hq).here ?_)
  rw [if_pos (show (!false) = true from rfl)]
  exact wpAny_pure (wpAny_bind (special_fn X I hs (beq_iff_eq.mp hf) (wpAny_mono h (fun _ _ z => wpAny_pure z) fun _ _ z => z)))
end
theorem words_T15_2 : True := by
  k_with "delItem ref" => (guard_hyp hT15_2; ((k_here; k_dflt (refine' own_del ?F_az ?X_az ?I_az ?hQ_az ?hS_az ?hF_az ?_; (case F_az => k_asm); (case X_az => k_asm); (case I_az => k_inst); (case hS_az => k_is); (case hF_az => k_is); (case hQ_az => k_is); k_whole))))
  trivial
inductive Dropped (w : World) (x : Addr) (c : Bool) (σ' : Sgs) (news n' : Led) (dx d : Addr) (t1 t2 : Tok) (n : Nat) (ls : Led) : Prop
  | mk : ∀ od' kvs' ls', (SetL w x c σ' n' dx d t1 t2 n od' kvs' ls') → ((∀ p ∈ news, p.1 ≠ d → p ∈ n')) → (∀ q ∈ ls', q ∈ ls) → Dropped w x c σ' news n' dx d t1 t2 n ls
theorem words_T15_3 : True := by
  k_with "@ktr_rel" => (guard_hyp hT15_3; (first | exact .inl ⟨rfl, ⟨_, by assumption⟩, _, _, _, by assumption, by assumption, by assumption⟩ | exact .inr ⟨rfl, by assumption, fun p hp => by repeat' (first | exact hp | refine List.Mem.tail _ ?_)⟩))
  trivial
set_option maxRecDepth 100000 in
set_option maxHeartbeats 4000000 in
theorem c_gone (w : World) (news : Led) (x dx d : Addr) (c : Bool) (σ : Sgs) (t1 t2 : Tok) (n : Nat) (od : Obj) (kvs : List (Int × Value)) (ls : Led) (H : SetL w x c σ news dx d t1 t2 n od kvs ls) (k : Int) (tk : Tok) :
    Spec w (.ref 420) [.ref x, .int k tk] [] 6 news (fun v' n' => (v' = .bool true ∧ (∃ row, look σ k = some row) ∧ Dropped w x c (dropR σ k) news n' dx d t1 t2 n ls) ∨ (v' = .bool false ∧ look σ k = none ∧ ∀ p ∈ news, p ∈ n')) := by
  have hT15_1 := trivial; have hT15_2 := trivial; have hT15_3 := trivial; have g0 := trivial; have g1 := trivial
  have h1 := H.inst
  have h2 := H.dict
  intro dp un gd env outer A₀ base h₀ L m mg mb loose mean s Q E C hf hke hdp hun hret
  have X := C.X
  revert X; k_fill; intro X
  tb_start
  k_steps
  all_goals tb_rel
theorem in_row {w : World} {A : Around} {E Q : Value → Shared → Prop} {s : Shared} {h₀ : Heap} {L a : Addr} {news : Led} {row : Row} {its : List Value} {nn : Nat} {k : Int} {t : Tok} (N : News h₀ L s.heap news) (hm : (a, W.listOf its.toArray nn) ∈ news) (hr : RowV row its)
    (h : ∀ b, Q (.bool b) s) : wpAny (model Challenge.rw_ix0031_01.row.prog w) A (compareOp .In (.int k t) (.ref a)) Q E s :=
  SeqAt.in_listAt (fun y => match y with | .int j _ => j == k | _ => false) ⟨_, (N _ hm).1, rfl, nn, rfl⟩ (fun y hy => by
    have hy' : y ∈ its := by simpa using hy
    clear hm
    induction hr with
    | nil => cases hy'
    | cons hv _ ih =>
      rcases List.mem_cons.mp hy' with z | z
      · subst z
        cases hv with
        | none => exact SeqAt.EqAt.none_int k t
        | int => exact SeqAt.EqAt.int_int _ _ k t
      · exact ih (by simpa using z) z) (h _)
theorem mod_lt {v : Int} : (v.fmod 4294967296).natAbs < 2 ^ 60 := by
  rw [Int.fmod_eq_emod_of_nonneg _ (by decide)]; omega
theorem words_T19 : True := by
  k_with "compareOp In int ref" => (guard_hyp hT19; ((k_here; (refine' in_row ?k1_aZ ?k2_aZ ?k3_aZ (fun b' => ?_); (case k1_aZ => k_asm); (case k2_aZ => first | assumption | k_mem); (case k3_aZ => assumption)))))
  k_with "subscriptTail" => (guard_hyp hT19; ((k_here; (with_reducible show wpAny _ _ (subscriptTail _ _ (Value.ref _) (Value.int _ _)) _ _ _); (refine' item_rows ?k1_aH ?k2_aH ?k3_aH (fun row a vs n hq hm hr => ?_) ?h2_aH ?k8_aH; (case k1_aH => k_asm); (case k2_aH => first | assumption | exact DicL.mono (by assumption) (by intro p hp; repeat' (first | exact hp | refine List.Mem.tail _ ?_))); (case k3_aH => rfl); (case h2_aH => (intro e; rename look _ _ = some _ => hz; rw [e] at hz; cases hz)); (case k8_aH => with_unfolding_all rfl)))))
  k_with "@ktr_rel" => (guard_hyp hT19; (first | exact ⟨_, _, rfl, mod_lt⟩ | exact ⟨_, _, rfl, by assumption⟩ | exact ⟨_, _, rfl, by decide⟩))
  trivial
set_option maxRecDepth 100000 in
set_option maxHeartbeats 4000000 in
theorem c_fits (w : World) (news : Led) (r : Addr) (ρ : Sgs) (oR : Obj) (kR : List (Int × Value)) (ls : Led) (HR : DicL w r ρ news oR kR ls) (k v : Int) (tk tv : Tok) (hv : v.natAbs < 2 ^ 60) :
    SpecR w (.ref 406) [.ref r, .int k tk, .int v tv] [] 1 news (fun v' => ∃ i t, v' = .int i t ∧ i.natAbs < 2 ^ 60) := by
  have hT19 := trivial; have g1 := trivial; have g2 := trivial; have g3 := trivial
  intro dp un gd env outer A₀ base h₀ L m mg mb loose mean s Q E C hf hke hdp hun hret
  have X := C.X
  revert X; k_fill; intro X
  tb_start
  k_steps
  all_goals kwd_rel
@[reducible] noncomputable def off8 : List Str := [Str.ofString "start", Str.ofString "script", Str.ofString "drawn", Str.ofString "value", Str.ofString "fault", Str.ofString "first"]
@[reducible] noncomputable def mL (nb sv cl : Value) : Str → Option Value := fun y => if y = Str.ofString "settings" then some sv else if y = Str.ofString "numbers" then some nb else if y = Str.ofString "client" then some cl else none
theorem off8_of {sv fi nb cl : Value} {m : Str → Option Value} (h : SameOff off7 (mN fi nb cl) m) : SameOff off8 (mL nb sv cl) (fun z => if z = Str.ofString "settings" then some sv else m z) := fun z hz => by
  simp only [List.contains_cons, List.contains_nil, Bool.or_eq_false_iff, beq_eq_false_iff_ne, ne_eq] at hz
  (refine hide fun G__ k__ => ?_; obtain ⟨h1, h2, h3, h4, h5, h6, _⟩ := hz; refine k__ ?_; clear k__ G__)
  by_cases e : z = Str.ofString "settings"
  · simp only [mL, if_pos e]
  · simp only [mL, if_neg e]
    rw [h z (by simp only [List.contains_cons, List.contains_nil, Bool.or_eq_false_iff, beq_eq_false_iff_ne, ne_eq]; exact ⟨h1, h2, h3, h4, e, h5, trivial⟩)]
    simp only [mN, if_neg h6]
structure L6 (w : World) (c : Bool) (L : Addr) (ρ : Sgs) (x rd : Addr) (dx d : Addr) (t1 t2 : Tok) (nn : Nat) (od : Obj) (kvs : List (Int × Value)) (ls : Led) (oR : Obj) (kR : List (Int × Value)) (lR : Led) (n' : Led) : Prop where
  sets : SetL w x c ρ n' dx d t1 t2 nn od kvs ls
  rows : DicL w rd ρ n' oR kR lR
  c1 : CellIn (L + 1) (some (.ref rd)) n'
  c2 : CellAny (L + 1 + 1) n'
  c3 : CellAny (L + 1 + 1 + 1) n'
  c4 : CellIn (L + 1 + 1 + 1 + 1) none n'
  gr : rd ≠ d
  gl : ∀ p ∈ lR, p.1 ∉ ls.map (·.1)
inductive LJ6 (w : World) (c : Bool) (L : Addr) (m' : Str → Option Value) (n' : Led) : Prop
  | mk : ∀ init x ln ns rd dx d t1 t2 nn od kvs ls oR kR lR, (SameOff off8 (mL (.ref ln) (.ref x) (.bool c)) m') → (L6 w c L (putAll (defaults c) init) x rd dx d t1 t2 nn od kvs ls oR kR lR n') → (IL ln ns n') → (ln ∉ ls.map (·.1)) → ((∀ p ∈ init, p.1.natAbs < 2 ^ 60 ∧ p.2.natAbs < 2 ^ 60)) → ((∀ p ∈ init, p.1 ∈ codes)) → (init.length ≤ 3) → (ns.length ≤ 63) → (ffault init = 0) → LJ6 w c L m' n'
theorem LJ6.of {w : World} {c : Bool} {L : Addr} {fv : Value} {ρ : Sgs} {ln rd : Addr} {ns : List Int} {init : List (Int × Int)} {n n' : Led} {v : Value} {m : Str → Option Value} (hj0 : SameOff off7 (mN fv (.ref ln) (.bool c)) m) (H : LJ5 w c L fv ρ ln rd ns n) (e : ρ = putAll (defaults c) init) (N : NewSet w c (putAll (defaults c) init) v n n')
    (h1 : ∀ p ∈ init, p.1.natAbs < 2 ^ 60 ∧ p.2.natAbs < 2 ^ 60) (h2 : ∀ p ∈ init, p.1 ∈ codes) (h3 : init.length ≤ 3) (h4 : ffault init = 0) : LJ6 w c L (fun z => if z = Str.ofString "settings" then some v else m z) n' := by
  subst e
  (refine hide fun G__ k__ => ?_; obtain ⟨x, dx, d, t1, t2, nn, od, kvs, ls, rfl, hS, hs, hne⟩ := N; refine k__ ?_; clear k__ G__)
  obtain ⟨oR, kR, lR, hR⟩ := H.rows
  obtain ⟨vs, k, hl, hv⟩ := H.nums
  obtain ⟨v2, hc2⟩ := H.c2
  obtain ⟨v3, hc3⟩ := H.c3
  exact ⟨init, x, ln, ns, rd, dx, d, t1, t2, nn, od, kvs, ls, oR, kR, lR, off8_of hj0, ⟨hS, hR.mono hs, H.c1.up hs, ⟨v2, hc2.up hs⟩, ⟨v3, hc3.up hs⟩, H.c4.up hs, (hne _ hR.body).1, fun p hp => (hne _ (hR.lsin p hp)).2⟩, ⟨vs, k, hs _ hl, hv⟩, (hne _ hl).2, h1, h2, h3, H.nlen, h4⟩
theorem words_T30 : True := by
  k_with "call ref" => (guard_hyp hT30; ((k_here; (with_reducible show wpAny _ _ (call (Value.ref 338) _ _) _ _ _); k_dflt (refine' Spec.use (c_new0 _ _ _) ?hA_g ?B_g ?F_g ?N_g ?X_g ?T_g ?D_g ?XB_g ?TB_g ?hf_g ?hke_g ?hdp_g ?hun_g (fun v n' h' gn' tk' g' hR kT kF kN kB kX₀ kP kD kX kG => ?_); (case F_g => k_asm); (case N_g => k_asm); skip; (case hA_g => exact rfl); (case B_g => k_asm); (case X_g => k_asm); (case T_g => k_asm); (case D_g => assumption); (case XB_g => assumption); (case TB_g => assumption); (case hf_g => exact rfl); (case hke_g => exact rfl); (case hdp_g => k_room); (case hun_g => k_units); (all_goals (try (have kT2 := KtsTurn.trans (by assumption) kT; clear kT))); (all_goals (try (have kG2 := GRel.trans (by assumption) kG; clear kG))); have hR2 : NewSet _ _ (putAll (defaults _) []) _ _ _ := hR; (try dsimp only); (try k_lift kB); (try k_fold)))))
  k_with "@J" => (guard_hyp hT30; (k_dflt (first | exact LJ6.of (SameOff.eqs hj0) hH rfl hR.1 hsm hkc hil hff | exact LJ6.of (init := []) (SameOff.eqs hj0) hH rfl hR2 (fun _ h => nomatch h) (fun _ h => nomatch h) (by decide) rfl)))
  trivial
set_option maxRecDepth 100000 in
set_option maxHeartbeats 40000000 in
theorem c_law6 (w : World) (dp un : Nat) (gd : Option (List Code)) (outer : List Env) (base : Heap) (loose : List Str) (mean : ExcName → Option Value) (mg mb : Str → Option Value) (o : Obj) (ho : (hd.heap_39 w.params).lookup 437 = some o) (L' : Addr) (h00 : Heap) (g00 : Array GenState) (s : Shared) (Q : Flow → Shared → Prop) (E : Value → Shared → Prop) (hdp : dp + 100 < recursionLimit) (hun : un + 1000 < cLine) (c : Bool) (next : Go w { handled := none, depth := dp, frames := some outer, guards := gd, units := un } base outer loose mean mg mb h00 g00 L' s Q E (lawE o L') ((obS o).drop 7) (LJ6 w c L')) : Go w { handled := none, depth := dp, frames := some outer, guards := gd, units := un } base outer loose mean mg mb h00 g00 L' s Q E (lawE o L') ((obS o).drop 6) (LJ5e w c L') := by
  have hT30 := trivial; have g1 := trivial; have g2 := trivial; have g3 := trivial; have g4 := trivial; have g6 := trivial; have g7 := trivial
  intro m₁ n₁ h₁ gn tk g₁ hJ hTn hGn C'
  have X := C'.X
  have kfl : Challenge.rw_ix0031_01.row = Challenge.rw_ix0031_01.row := rfl
  revert kfl X ho
  k_fill
  intro ho X kfl
  obtain rfl := lookE ho (by k_is)
  clear X ho
  dsimp only [obS, obSc, obCd, lawN, nthS, inFor, inIf, inElse, List.drop, List.take]
  (refine hide fun G__ k__ => ?_; obtain ⟨fv, ρ, ln, rd, ns, hj0, hH⟩ := hJ; refine k__ ?_; clear k__ G__)
  rw [hj0.eqM] at C'
  obtain ⟨B', F', N', X', T', D', XB', TB'⟩ := C'; (try k_lift B'); (try k_fold)
  have hTm := hTn; have hGm := hGn
  refine cut hTm hGm ⟨B', F', N', X', T', D', XB', TB'⟩ (LJ6 w c L') ?_ fun m₁ n₁ h₁ gn tk g₁ hJ hTn hGn C' => next _ _ _ _ _ _ hJ hTn hGn C'
  rcases id hH.first with ⟨rfl, rfl⟩ | ⟨fd, init, oF, kF, rfl, hFD1, hff, rfl, hsm, hkc, hil⟩
  · k_steps
  · k_steps
    all_goals exact absurd (hr1.trans hff) hr2
theorem dict0 (w : World) : ({ cls := .type "dict", dict := none, data := .dict #[] } : Obj).IsDictOf (intKind Challenge.rw_ix0031_01.row.prog w) [] := by
  (refine hide fun G__ k__ => ?_; obtain ⟨o, h1, h2⟩ := Heap.dictOf_iff.mp (Heap.DictOf.new (knd := intKind Challenge.rw_ix0031_01.row.prog w) { objs := #[] }); refine k__ ?_; clear k__ G__)
  cases h1
  exact h2
theorem dictPl {w : World} {o : Obj} {kvs : List (Int × Value)} (h : o.IsDictOf (intKind Challenge.rw_ix0031_01.row.prog w) kvs) : plainO o = true ∧ tupO o = false ∧ isKI o = false := by
  obtain ⟨es, ep, hx, _⟩ := h
  refine ⟨?_, ?_, ?_⟩
  · unfold plainO; rw [hx.1]; rfl
  · unfold tupO; rw [hx.1]; decide
  · unfold isKI; rw [hx.1]; decide
noncomputable def CompAtD (w : World) (A : Around) (env : Env) (kx vx iter : Expr) (x : Str) (px : Pos) (ifs : List Expr) (scope : Scope) (cl : List (Str × Addr)) (pos : Pos) (Q E : Value → Shared → Prop) (it : Value) (s₂ : Shared) : Prop :=
  wpAny (model Challenge.rw_ix0031_01.row.prog w) A newDict (fun acc s₃ => wpAny (model Challenge.rw_ix0031_01.row.prog w) A (newFunctionEnv scope env.globals cl [] env.qual none .none (some env)) (fun cenv s₄ =>
    codeAny (model Challenge.rw_ix0031_01.row.prog w) A (.compStart (.DictComp kx vx [⟨.Name x px, iter, ifs, 0⟩] scope pos) 0 it acc { cenv with scope := relabel scope env }) (compPost (model Challenge.rw_ix0031_01.row.prog w) A E none Q acc cenv.locals) s₄) E s₃) E s₂
theorem comp_cxD {w : World} {A : Around} {s : Shared} {env : Env} {kx vx iter : Expr} {x : Str} {px : Pos} {ifs : List Expr} {scope : Scope} {cl : List (Str × Addr)} {pos : Pos} {Q E : Value → Shared → Prop} (hclos : closureFor scope env = pure cl) (hkind : scope.kind = .function)
    (hnames : ∀ y ∈ scope.names, y.2 = .local → scope.names.lookup y.1 = some .local)
    (h : wpAny (model Challenge.rw_ix0031_01.row.prog w) A (eval iter env) (fun xv s₁ => wpAny (model Challenge.rw_ix0031_01.row.prog w) A (pyIter xv) (fun it s₂ => CompAtD w A env kx vx iter x px ifs scope cl pos Q E it s₂) E s₁) E s)
    (hs : ∀ x, foldedSetIterable iter env x = pure x := by intro _; rfl) :
    wpAny (model Challenge.rw_ix0031_01.row.prog w) A (eval (.DictComp kx vx [⟨.Name x px, iter, ifs, 0⟩] scope pos) env) Q E s := by
  rw [arm_eval_DictComp]
  exact wpAny_comprehension_free (use := none) rfl hs hclos hkind hnames h
inductive DictS (w : World) (A₀ : Around) (base : Heap) (outer : List Env) (loose : List Str) (mean : ExcName → Option Value) (mg mb : Str → Option Value) (h00 : Heap) (g00 : Array GenState) (L : Addr) (m : Str → Option Value) (s : Shared) (news₀ : Led) (Y : Nat → List (Int × Value) → Prop) (St : Nat → Led → Array GenState → Prop) (n : Nat) (D : Addr) (k : Nat) (s' : Shared) : Prop
  | mk : ∀ i kvs oD oC mC news₁ h₀' h tk gn, s' = { s with heap := h, toks := tk, gens := gn } → i ≤ n → k = n + 1 - i → (∀ p ∈ news₀, p ∈ news₁) → Y i kvs → St i news₁ gn → ((D + 1 : Nat), oC) ∈ news₁ → NsO (.type "dict") mC oC → (D, oD) ∈ news₁ → oD.IsDictOf (intKind Challenge.rw_ix0031_01.row.prog w) kvs → KtsTurn (outer.filterMap (·.frame)) h00 h₀' → GRel g00 gn → Cx w A₀ base outer loose mean mg mb h₀' L m news₁ h → DictS w A₀ base outer loose mean mg mb h00 g00 L m s news₀ Y St n D k s'
section
variable {w : World} {A A₀ : Around} {base h₀ : Heap} {outer : List Env} {loose : List Str} {mean : ExcName → Option Value} {mg mb : Str → Option Value} {L : Addr} {m : Str → Option Value} {news : Led} {s : Shared} {Q E : Value → Shared → Prop} {env : Env} {kx vx iter : Expr} {x : Str} {px : Pos} {ifs : List Expr} {scope : Scope} {cl : List (Str × Addr)} {pos : Pos}
noncomputable def DictTurn (w : World) (A A₀ : Around) (base : Heap) (outer : List Env) (loose : List Str) (mean : ExcName → Option Value) (mg mb : Str → Option Value) (env : Env) (kx vx : Expr) (x : Str) (ifs : List Expr) (scope : Scope) (cl : List (Str × Addr)) (h00 : Heap) (g00 : Array GenState) (L : Addr) (m : Str → Option Value) (news : Led) (s : Shared) (n : Nat) (P : Nat → Value → Prop) (Y : Nat → List (Int × Value) → Prop) : Prop :=
  ∀ Cc i v kvs oC mC news₁ h tk gn h₀', i < n → P i v → (∀ p ∈ news, p ∈ news₁) → Y i kvs → (Cc, oC) ∈ news₁ → NsO (.type "dict") mC oC → mC x = some v → KtsTurn (outer.filterMap (·.frame)) h00 h₀' → GRel g00 gn →
      Cx w A₀ base outer loose mean mg mb h₀' L m news₁ h → ∀ E', wpAny (model Challenge.rw_ix0031_01.row.prog w) A (testsOf ifs (compEnvC scope cl Cc env)) (fun ok s₃ =>
        if ok = true then wpAny (model Challenge.rw_ix0031_01.row.prog w) A (eval kx (compEnvC scope cl Cc env)) (fun kv s₄ => wpAny (model Challenge.rw_ix0031_01.row.prog w) A (eval vx (compEnvC scope cl Cc env)) (fun y s₅ => ∃ k t, kv = .int k t ∧ Y (i + 1) (stored kvs k y) ∧ EndC w A₀ base outer loose mean mg mb h00 g00 L { s with heap := h, gens := gn, toks := tk } (fun m' n' g' => m' = m ∧ (∀ p ∈ news₁, p ∈ n') ∧ GRel gn g') s₅) E' s₄) E' s₃
        else Y (i + 1) kvs ∧ EndC w A₀ base outer loose mean mg mb h00 g00 L { s with heap := h, gens := gn, toks := tk } (fun m' n' g' => m' = m ∧ (∀ p ∈ news₁, p ∈ n') ∧ GRel gn g') s₃) E' { s with heap := h, gens := gn, toks := tk }
noncomputable def DictDone (w : World) (A₀ : Around) (base : Heap) (outer : List Env) (loose : List Str) (mean : ExcName → Option Value) (mg mb : Str → Option Value) (h00 : Heap) (g00 : Array GenState) (L : Addr) (m : Str → Option Value) (news : Led) (s : Shared) (n : Nat) (Y : Nat → List (Int × Value) → Prop) (Q : Value → Shared → Prop) : Prop :=
  ∀ D kvs oD news₁ h tk gn h₀', (∀ p ∈ news, p ∈ news₁) → (∀ p ∈ news, p.1 < D) → (D == sysModules) = false → Y n kvs → (D, oD) ∈ news₁ → oD.IsDictOf (intKind Challenge.rw_ix0031_01.row.prog w) kvs → KtsTurn (outer.filterMap (·.frame)) h00 h₀' → GRel g00 gn → Cx w A₀ base outer loose mean mg mb h₀' L m news₁ h → Q (.ref D) { s with heap := h, gens := gn, toks := tk }
theorem dict_it {h00 : Heap} {g00 : Array GenState} {news₀ : Led} (T00 : KtsTurn (outer.filterMap (·.frame)) h00 h₀) (G00 : GRel g00 s.gens) {I : Addr} {n lo hi : Nat} {gi : Nat → Prop} {P : Nat → Value → Prop} {St : Nat → Led → Array GenState → Prop} (hgi : ∀ i, gi i → g00[i]? = none)
    (IT : It w A L I lo hi gi n P St) (hlo : lo ≤ s.heap.objs.size) (hhi : hi ≤ s.heap.objs.size) (C : Cx w A₀ base outer loose mean mg mb h₀ L m news s.heap) (hst : St 0 news s.gens) (hold : ∀ p ∈ news₀, (p.1 : Nat) < lo) (hsub : ∀ p ∈ news₀, p ∈ news)
    (hcell : ∀ y ∈ scope.names, y.2 ≠ .cell) (hkind : scope.kind = .function) (hx : scope.names.lookup x = some .local)
    (Y : Nat → List (Int × Value) → Prop) (h0 : Y 0 []) (Ylen : ∀ i kvs, Y i kvs → kvs.length ≤ 1000)
    (turn : DictTurn w A A₀ base outer loose mean mg mb env kx vx x ifs scope cl h00 g00 L m news₀ s n P Y) (done : DictDone w A₀ base outer loose mean mg mb h00 g00 L m news₀ s n Y Q)
    (ht : ∀ v, letOwnedTupleGo (.Name x px) (.ref I) v = pure () := by intro _; rfl) :
    CompAtD w A env kx vx iter x px ifs scope cl pos Q E (.ref I) s := by
  unfold CompAtD
  refine wpAny_newObj_type (newEnv0 hcell ?_)
  dsimp only
  have hDC : (s.heap.push { cls := .type "dict", dict := none, data := .dict #[] }).objs.size = s.heap.objs.size + 1 := Heap.size_push ..
  have hsys : (s.heap.objs.size == sysModules) = false := C.F.notModules (modules_low C.T.nolimit)
  generalize hD : s.heap.objs.size = D at hlo hhi hDC hsys
  have F₁ := C.F.push { cls := .type "dict", dict := none, data := .dict #[] }
  have N₁ := C.N.push C.F { cls := .type "dict", dict := none, data := .dict #[] }
  rw [hD] at N₁
  generalize s.heap.push { cls := .type "dict", dict := none, data := .dict #[] } = H at F₁ N₁ hDC ⊢
  have F₂ := F₁.push { cls := .type "dict", data := .dict #[] }
  have N₂ := N₁.push F₁ { cls := .type "dict", data := .dict #[] }
  generalize hC : H.objs.size = Cc at N₂ hDC ⊢
  subst hDC
  generalize H.push { cls := .type "dict", data := .dict #[] } = H2 at F₂ N₂ ⊢
  have C₂ : Cx w A₀ base outer loose mean mg mb h₀ L m _ H2 := ⟨C.B, F₂, N₂, C.X, C.T, C.D, C.XB, C.TB⟩
  have hst₂ := IT.keepS hst (fun p hp _ => List.Mem.tail ((D + 1 : Nat), ({ cls := .type "dict", data := .dict #[] } : Obj)) (List.Mem.tail (D, ({ cls := .type "dict", dict := none, data := .dict #[] } : Obj)) hp)) (GRel.refl _)
  have hbel : ∀ p ∈ news₀, p.1 < D := fun p hp => Nat.lt_of_lt_of_le (hold p hp) hlo
  have loop : ∀ s' : Shared, s' = { s with heap := H2 } → codeAny (model Challenge.rw_ix0031_01.row.prog w) A (.compLoop (.DictComp kx vx [⟨.Name x px, iter, ifs, 0⟩] scope pos) 0 (.ref I) (.ref D) (compEnvC scope cl (D + 1) env)) (compPost (model Challenge.rw_ix0031_01.row.prog w) A E none Q (.ref D) (D + 1)) s' := by
    rintro s' rfl
    refine codeAny_compLoop_testsD (DictS w A₀ base outer loose mean mg mb h00 g00 L m s news₀ Y St n D) ?_ (n + 1)
      ⟨0, [], _, _, _, _, h₀, H2, s.toks, s.gens, rfl, Nat.zero_le _, rfl, fun p hp => .tail _ (.tail _ (hsub p hp)), h0, hst₂, .head _, NsO.new _, .tail _ (.head _), dict0 w, T00, G00, C₂⟩ ht
    rintro k s' ⟨i, kvs, oD, oC, mC, news₁, h₀', h, tk, gn, rfl, hi', rfl, hJ, hY, hS, hCc, hNs, hDm, hDd, T, G, C'⟩
    have gr : ∀ {gn'}, GMov gi gn gn' → GRel g00 gn' := fun hG => ⟨fun i y e => hG.1 i y (fun q => by rw [hgi i q] at e; cases e) (G.1 i y e), fun b => hG.2 (G.2 b)⟩
    rcases Nat.lt_or_ge i n with hlt | hge
    · refine IT.item hlt hS C'.F C'.N C'.X C'.T.nolimit fun v h' gn' tk' news' hP hS' F' N' hk hG => ?_
      have hCc' := hk _ hCc (.inl hNs.dict.1)
      have hD' := hk _ hDm (.inl (dictPl hDd).1)
      refine wpAny_assign_Name (storeO (env := compEnvC scope cl (D + 1) env) (lookup_relabel_local hx) (by simp [compEnvC, relabel, hkind]) (N' _ hCc').1 hNs fun oC' h₂ hn₂ he₂ hs₂ => ?_)
      have F₃ : Fr h₀' L h₂ m := F'.change hs₂ (N' _ hCc').2.1 (N' _ hCc').2.2
      have N₃ : News h₀' L h₂ (wrL news' (D + 1) oC') := News.wr N' hCc' hs₂ he₂
      have hS₃ : St (i + 1) (wrL news' (D + 1) oC') gn' := IT.keepS hS' (fun p hp hq => wrL.keep hp (Foot.ne hq N' hp hCc' (Nat.le_succ_of_le hhi) hNs.dict.2.2)) (GRel.refl _)
      have hJ₃ : ∀ p ∈ news₀, p ∈ wrL news' (D + 1) oC' := fun p hp => wrL.keep (hk p (hJ p hp) (.inr (hold p hp))) (Nat.ne_of_lt (Nat.lt_succ_of_lt (hbel p hp)))
      have hD₃ : (D, oD) ∈ wrL news' (D + 1) oC' := wrL.keep hD' (Nat.ne_of_lt (Nat.lt_succ_self D))
      refine wpAny_mono (turn (D + 1) i v kvs oC' _ _ h₂ (tk' + 1) gn' h₀' hlt hP hJ₃ hY (.head _) hn₂ (if_pos rfl) T (gr hG) ⟨C'.B, F₃, N₃, C'.X, C'.T, C'.D, C'.XB, C'.TB⟩ _) (fun ok s₃ h₃ => ?_) fun _ _ e => e
      cases ok with
      | false =>
        obtain ⟨hY₅, h₅, gn₅, tk₅, m₅, n₅, h₀₅, rfl, T₅, G₅, C₅, rfl, hs₅, hg₅⟩ := h₃
        exact ⟨n + 1 - (i + 1), Nat.sub_lt_sub_left (Nat.lt_succ_of_lt hlt) (Nat.lt_succ_self i), i + 1, kvs, oD, oC', _, n₅, h₀₅, h₅, tk₅, gn₅, rfl, hlt, rfl, fun p hp => hs₅ p (hJ₃ p hp), hY₅, IT.keepS hS₃ (fun p hp _ => hs₅ p hp) hg₅, hs₅ _ (.head _), hn₂, hs₅ _ hD₃, hDd, T₅, G₅, C₅⟩
      | true =>
        refine wpAny_mono h₃ (fun kv s₄ h₄ => wpAny_mono h₄ (fun y s₅ h₅ => ?_) fun _ _ e => e) fun _ _ e => e
        obtain ⟨kk, t, rfl, hY₅, h₅, gn₅, tk₅, m₅, n₅, h₀₅, rfl, T₅, G₅, C₅, rfl, hs₅, hg₅⟩ := h₅
        have hD₅ := hs₅ _ hD₃
        refine wpAny_dictSet_pairs (knd := intKind Challenge.rw_ix0031_01.row.prog w) (intKind_is _ w kk t) (Heap.dictOf_iff.mpr ⟨oD, (C₅.N _ hD₅).1, hDd⟩) (fun h₆ hd₆ hs₆ => ?_) (by have := Ylen _ _ hY; rw [sizeLine_eq]; omega)
        (refine hide fun G__ k__ => ?_; obtain ⟨oD', ho', hi₆⟩ := Heap.dictOf_iff.mp hd₆; refine k__ ?_; clear k__ G__)
        refine ⟨n + 1 - (i + 1), Nat.sub_lt_sub_left (Nat.lt_succ_of_lt hlt) (Nat.lt_succ_self i), i + 1, _, oD', oC', _, _, h₀₅, h₆, _, gn₅, rfl, hlt, rfl, fun p hp => wrL.keep (hs₅ p (hJ₃ p hp)) (Nat.ne_of_lt (hbel p hp)), hY₅, ?_, wrL.keep (hs₅ _ (.head _)) (Nat.succ_ne_self D), hn₂, .head _, hi₆, T₅, G₅,
          ⟨C₅.B, C₅.F.change hs₆ (C₅.N _ hD₅).2.1 (C₅.N _ hD₅).2.2, News.wr C₅.N hD₅ hs₆ ho', C₅.X, C₅.T, C₅.D, C₅.XB, C₅.TB⟩⟩
        exact IT.keepS (IT.keepS hS₃ (fun p hp _ => hs₅ p hp) hg₅) (fun p hp hq => wrL.keep hp (Foot.ne hq C₅.N hp hD₅ hhi (dictPl hDd).2.2)) (GRel.refl _)
    · obtain rfl : i = n := Nat.le_antisymm hi' hge
      refine IT.done hS C'.F C'.N C'.X C'.T.nolimit fun h' gn' tk' news' F' N' hk hG => ?_
      have hCc' := hk _ hCc (.inl hNs.dict.1)
      have hD' := hk _ hDm (.inl (dictPl hDd).1)
      refine ⟨mC, hNs.ns (N' _ hCc').1, fun h₂ hs₂ => ?_⟩
      obtain ⟨F₃, N₃⟩ := ext_news F' N' hCc' hs₂.extBut
      exact done D kvs oD (news'.filter fun p => p.1 != D + 1) h₂ tk' gn' h₀' (fun p hp => List.mem_filter.mpr ⟨hk p (hJ p hp) (.inr (hold p hp)), by simpa using Nat.ne_of_lt (Nat.lt_succ_of_lt (hbel p hp))⟩) hbel hsys hY
        (List.mem_filter.mpr ⟨hD', by simpa using Nat.ne_of_lt (Nat.lt_succ_self D)⟩) hDd T (gr hG) ⟨C'.B, F₃, N₃, C'.X, C'.T, C'.D, C'.XB, C'.TB⟩
  exact codeAny_compStart_dict (loop _ rfl) (IT.self hst₂ N₂ (loop _ rfl))
theorem dict_keys {h00 : Heap} {g00 : Array GenState} (T00 : KtsTurn (outer.filterMap (·.frame)) h00 h₀) (G00 : GRel g00 s.gens) {d : Addr} {od : Obj} {kvs : List (Int × Value)} (C : Cx w A₀ base outer loose mean mg mb h₀ L m news s.heap) (hh : A.handled = none) (hm : (d, od) ∈ news) (hd : od.IsDictOf (intKind Challenge.rw_ix0031_01.row.prog w) kvs) (hsys : (d == sysModules) = false)
    (hcell : ∀ y ∈ scope.names, y.2 ≠ .cell) (hkind : scope.kind = .function) (hx : scope.names.lookup x = some .local)
    (Y : Nat → List (Int × Value) → Prop) (h0 : Y 0 []) (Ylen : ∀ i kvs, Y i kvs → kvs.length ≤ 1000)
    (turn : DictTurn w A A₀ base outer loose mean mg mb env kx vx x ifs scope cl h00 g00 L m news s kvs.length (fun i v => ∃ k y t, kvs[i]? = some (k, y) ∧ v = .int k t) Y) (done : DictDone w A₀ base outer loose mean mg mb h00 g00 L m news s kvs.length Y Q)
    (ht : ∀ I v, letOwnedTupleGo (.Name x px) (.ref I) v = pure () := by intro _ _; rfl) :
    wpAny (model Challenge.rw_ix0031_01.row.prog w) A (pyIter (.ref d)) (fun it s₂ => CompAtD w A env kx vx iter x px ifs scope cl pos Q E it s₂) E s := by
  obtain ⟨ep, ha⟩ := KdkAt.of hd
  refine wpAny_pyIter_dict hsys (ha.dictAt (C.N _ hm).1) ?_
  exact dict_it (h₀ := h₀) (news₀ := news) T00 (by exact G00) (gi := noG) (fun _ q => q.elim) (It.keys hh L s.heap.objs.size d od kvs ep ha (dictPl hd).1 s.heap.objs.size (s.heap.objs.size + 1) (Nat.le_refl _) (Nat.lt_succ_of_lt (Heap.lt_size (C.N _ hm).1))) (by rw [Heap.size_push]; exact Nat.le_succ _) (by rw [Heap.size_push]; exact Nat.le_refl _)
    (news := (s.heap.objs.size, { cls := .type "dict_keyiterator", data := .fields #[.ref d, .int 0 0, .int kvs.length 0, .int ep 0] }) :: news) ⟨C.B, C.F.push _, C.N.push C.F _, C.X, C.T, C.D, C.XB, C.TB⟩ ⟨_, .head _, ⟨rfl, rfl⟩, .tail _ hm⟩ (fun p hp => Heap.lt_size (C.N p hp).1) (fun p hp => .tail _ hp) hcell hkind hx Y h0 Ylen turn done (ht _)
end
noncomputable def Val (k v : Int) : Prop := v.natAbs < 2 ^ 60 ∧ fault k v = 0
noncomputable def RowOk (k : Int) (row : Row) : Prop := ∀ j r, row[j]? = some r → (r = none ∧ j = 0) ∨ ∃ v, r = some v ∧ Val k v
structure Inv (b : Nat) (σ ρ : Sgs) (π : List (Int × Int)) : Prop where
  at0 : ∀ k, look ρ k = none → look σ k = none
  at1 : ∀ k row, look ρ k = some row → ∃ i : Nat, look π k = some (i : Int) ∧ i < row.length ∧ look σ k = some (row.drop i)
  sl : σ.length ≤ 8 + b
  rl : ρ.length ≤ 8 + b
  pl : π.length ≤ 8 + b
  len : ∀ k row, look ρ k = some row → row.length ≤ 2 + 2 * b
  ok : ∀ k row, look ρ k = some row → RowOk k row
  keys : ∀ k row, look ρ k = some row → k ∈ codes
  two : ∀ k row, look ρ k = some row → row[0]? = some none → 2 ≤ row.length
section
variable {b : Nat} {σ ρ : Sgs} {π : List (Int × Int)} {k v : Int}
theorem Inv.le {b' : Nat} (H : Inv b σ ρ π) (h : b ≤ b') : Inv b' σ ρ π :=
  ⟨H.at0, H.at1, by have := H.sl; omega, by have := H.rl; omega, by have := H.pl; omega, fun k row e => by have := H.len k row e; omega, H.ok, H.keys, H.two⟩
theorem cur_drop {row : Row} {i : Nat} (hi : i < row.length) (h : look σ k = some (row.drop i)) : row[i]? = some (cur σ k) := by
  rw [List.getElem?_eq_getElem hi]
  rw [List.drop_eq_getElem_cons hi] at h
  rw [cur_some h]
theorem Inv.tells (H : Inv b σ ρ π) (hb : b ≤ 100) : Tells ρ π (cur σ) := fun k => by
  cases e : look ρ k with
  | none => exact cur_none (H.at0 k e)
  | some row =>
    obtain ⟨i, h1, h2, h3⟩ := H.at1 k row e
    have := H.len k row e
    exact ⟨i, h1, by omega, cur_drop h2 h3⟩
theorem Inv.same (H : Inv b σ ρ π) (k : Int) : (look σ k).isSome = (look ρ k).isSome := by
  cases e : look ρ k with
  | none => rw [H.at0 k e]
  | some row =>
    obtain ⟨i, _, _, h3⟩ := H.at1 k row e
    rw [h3]; rfl
noncomputable def rowIn (ρ : Sgs) (k v : Int) : Row := match look ρ k with
  | some row => row ++ [some v]
  | none => [none] ++ [some v]
noncomputable def plIn (ρ : Sgs) (π : List (Int × Int)) (k : Int) : List (Int × Int) := match look ρ k with
  | some _ => π
  | none => putR π k 0
theorem RowOk.snoc {row : Row} (h : RowOk k row) (hv : Val k v) : RowOk k (row ++ [some v]) := fun j r e => by
  rcases Nat.lt_or_ge j row.length with h1 | h1
  · rw [List.getElem?_append_left h1] at e; exact h j r e
  · rw [List.getElem?_append_right h1, List.getElem?_singleton] at e
    split at e
    · cases e; exact .inr ⟨v, rfl, hv⟩
    · cases e
theorem RowOk.new (hv : Val k v) : RowOk k ([none] ++ [some v]) := RowOk.snoc (fun j r e => by
  cases j with
  | zero => cases e; exact .inl ⟨rfl, rfl⟩
  | succ j => cases e) hv
theorem Inv.put (H : Inv b σ ρ π) (hk : k ∈ codes) (hv : Val k v) : Inv (b + 1) (putR σ k (newRow σ k v)) (putR ρ k (rowIn ρ k v)) (plIn ρ π k) := by
  have l1 := H.sl; have l2 := H.rl; have l3 := H.pl
  have s1 := put_length σ k (newRow σ k v); have s2 := put_length ρ k (rowIn ρ k v); have s3 := put_length π k 0
  refine ⟨fun j e => ?_, fun j row e => ?_, by omega, by omega, ?_, fun j row e => ?_, fun j row e => ?_, fun j row e => ?_, fun j row e h0 => ?_⟩
  · rw [look_put] at e ⊢
    by_cases z : j = k
    · rw [if_pos z] at e; cases e
    · rw [if_neg z] at e ⊢; exact H.at0 j e
  · rw [look_put] at e ⊢
    by_cases z : j = k
    · subst z
      rw [if_pos rfl] at e ⊢
      cases e
      unfold rowIn plIn
      cases q : look ρ j with
      | none =>
        refine ⟨0, by dsimp only; rw [look_put, if_pos rfl]; rfl, Nat.succ_pos _, ?_⟩
        rw [newRow, H.at0 j q]; rfl
      | some row0 =>
        obtain ⟨i, h1, h2, h3⟩ := H.at1 j row0 q
        refine ⟨i, h1, by rw [List.length_append]; exact Nat.lt_add_right _ h2, ?_⟩
        rw [newRow, h3]
        simp only [List.drop_append_of_le_length (Nat.le_of_lt h2)]
    · rw [if_neg z] at e ⊢
      obtain ⟨i, h1, h2, h3⟩ := H.at1 j row e
      refine ⟨i, ?_, h2, h3⟩
      unfold plIn
      split
      · exact h1
      · rw [look_put, if_neg z]; exact h1
  · unfold plIn
    split
    · omega
    · omega
  · rw [look_put] at e
    by_cases z : j = k
    · subst z
      rw [if_pos rfl] at e
      cases e
      unfold rowIn
      cases q : look ρ j with
      | none => simp only [List.length_append, List.length_singleton]; omega
      | some row0 => have := H.len j row0 q; simp only [List.length_append, List.length_singleton]; omega
    · rw [if_neg z] at e; have := H.len j row e; omega
  · rw [look_put] at e
    by_cases z : j = k
    · subst z
      rw [if_pos rfl] at e
      cases e
      unfold rowIn
      cases q : look ρ j with
      | none => exact RowOk.new hv
      | some row0 => exact (H.ok j row0 q).snoc hv
    · rw [if_neg z] at e; exact H.ok j row e
  · rw [look_put] at e
    by_cases z : j = k
    · rw [z]; exact hk
    · rw [if_neg z] at e; exact H.keys j row e
  · rw [look_put] at e
    by_cases z : j = k
    · subst z
      rw [if_pos rfl] at e
      cases e
      unfold rowIn at h0 ⊢
      cases q : look ρ j with
      | none => exact Nat.le_refl 2
      | some row0 =>
        rw [q] at h0
        obtain ⟨i, _, h2, _⟩ := H.at1 j row0 q
        have h3 : 0 < row0.length := Nat.lt_of_le_of_lt (Nat.zero_le _) h2
        simp only [List.getElem?_append_left h3] at h0
        have := H.two j row0 q h0
        simp only [List.length_append, List.length_singleton]; omega
    · rw [if_neg z] at e; exact H.two j row e h0
theorem Inv.drop (H : Inv b σ ρ π) (k : Int) : Inv b (dropR σ k) (dropR ρ k) π := by
  have l1 := H.sl; have l2 := H.rl; have s1 := drop_sub σ k; have s2 := drop_sub ρ k
  have h : ∀ j row, look (dropR ρ k) j = some row → j ≠ k ∧ look ρ j = some row := fun j row e => by
    rw [look_drop] at e
    by_cases z : j = k
    · rw [if_pos z] at e; cases e
    · rw [if_neg z] at e; exact ⟨z, e⟩
  refine ⟨fun j e => ?_, fun j row e => ?_, by omega, by omega, H.pl, fun j row e => H.len j row (h j row e).2, fun j row e => H.ok j row (h j row e).2, fun j row e => H.keys j row (h j row e).2, fun j row e => H.two j row (h j row e).2⟩
  · rw [look_drop] at e ⊢
    by_cases z : j = k
    · rw [if_pos z]
    · rw [if_neg z] at e ⊢; exact H.at0 j e
  · obtain ⟨z, e'⟩ := h j row e
    rw [look_drop, if_neg z]; exact H.at1 j row e'
theorem Inv.dropNone (H : Inv b σ ρ π) (h : look σ k = none) : Inv b σ (dropR ρ k) π := by
  have e : look ρ k = none := by
    have := H.same k; rw [h] at this
    cases q : look ρ k with
    | none => rfl
    | some r => rw [q] at this; cases this
  have e2 : dropR ρ k = ρ := by
    unfold dropR
    refine List.filter_eq_self.mpr fun p hp => decide_eq_true fun z => ?_
    have := look_none_any e
    rw [List.any_eq_false] at this
    exact this p hp (decide_eq_true z)
  rw [e2]; exact H
theorem Inv.fit (H : Inv b σ ρ π) (hb : b ≤ 100) (k v : Int) : Fit (putR σ k (newRow σ k v)) := by
  have l1 := H.sl
  have s1 := put_length σ k (newRow σ k v)
  have hl : ∀ j row, look σ j = some row → row.length ≤ 2 + 2 * b := fun j row e => by
    cases q : look ρ j with
    | none => rw [H.at0 j q] at e; cases e
    | some r0 =>
      obtain ⟨i, _, _, h3⟩ := H.at1 j r0 q
      rw [h3] at e; cases e
      have := H.len j r0 q
      rw [List.length_drop]; omega
  refine ⟨by omega, fun j row e => ?_⟩
  rw [look_put] at e
  by_cases z : j = k
  · rw [if_pos z] at e; cases e
    unfold newRow
    split
    · rename_i row e; have := hl _ _ e; rw [List.length_append, List.length_singleton]; omega
    · exact Nat.succ_le_succ (Nat.succ_le_succ (Nat.zero_le _))
  · rw [if_neg z] at e; have := hl _ _ e; omega
theorem Inv.fitR (H : Inv b σ ρ π) (hb : b ≤ 100) (k : Int) {row : Row} (hr : row.length ≤ 900) : Fit (putR ρ k row) := by
  have l1 := H.rl
  have s1 := put_length ρ k row
  refine ⟨by omega, fun j r e => ?_⟩
  rw [look_put] at e
  by_cases z : j = k
  · rw [if_pos z] at e; cases e; omega
  · rw [if_neg z] at e; have := H.len _ _ e; omega
end
theorem ffault_all : ∀ {l : List (Int × Int)}, ffault l = 0 → ∀ p ∈ l, fault p.1 p.2 = 0 := by
  intro l
  induction l with
  | nil => intro _ p hp; cases hp
  | cons q r ih =>
    obtain ⟨a, b⟩ := q
    intro h p hp
    have e1 : ffault ((a, b) :: r) = if fault a b = 0 then ffault r else fault a b := rfl
    rw [e1] at h
    by_cases z : fault a b = 0
    · rw [if_pos z] at h
      rcases List.mem_cons.mp hp with rfl | hp
      · exact z
      · exact ih h p hp
    · rw [if_neg z] at h; exact absurd h z
theorem look_zero : ∀ (ρ : Sgs) (k : Int), look (ρ.map fun p => (p.1, (0 : Int))) k = (look ρ k).map fun _ => 0 := by
  intro ρ k
  induction ρ with
  | nil => rfl
  | cons q r ih =>
    obtain ⟨a, row⟩ := q
    rw [List.map_cons, look_cons, look_cons]
    by_cases z : a = k
    · rw [if_pos z, if_pos z]; rfl
    · rw [if_neg z, if_neg z]; exact ih
theorem putAll_ok {c : Bool} : ∀ {l : List (Int × Int)}, (∀ p ∈ l, p.1 ∈ codes ∧ Val p.1 p.2) → ∀ k row, look (putAll (defaults c) l) k = some row → k ∈ codes ∧ ∃ v, row = [some v] ∧ Val k v := by
  intro l
  rw [← List.reverse_reverse l]
  generalize l.reverse = l
  induction l with
  | nil =>
    intro _ k row h
    have key : ∀ p ∈ defaults c, p.1 ∈ codes ∧ p.2 = [some ((p.2.head?.bind id).getD 0)] ∧ (((p.2.head?.bind id).getD 0 : Int).natAbs < 2 ^ 60 ∧ fault p.1 ((p.2.head?.bind id).getD 0) = 0) := by cases c <;> decide
    have q := key _ (look_mem (show look (defaults c) k = some row from h))
    exact ⟨q.1, _, q.2.1, q.2.2⟩
  | cons q l ih =>
    obtain ⟨a, v⟩ := q
    rw [List.reverse_cons]
    intro hl k row h
    rw [putAll_snoc, look_put] at h
    by_cases z : k = a
    · rw [if_pos z] at h; cases h
      have := hl (a, v) (List.mem_append_right _ (List.mem_singleton_self _))
      rw [z]; exact ⟨this.1, v, rfl, this.2⟩
    · rw [if_neg z] at h
      exact ih (fun p hp => hl p (List.mem_append_left _ hp)) k row h
theorem Inv.start {c : Bool} {init : List (Int × Int)} (h1 : ∀ p ∈ init, p.1.natAbs < 2 ^ 60 ∧ p.2.natAbs < 2 ^ 60) (h2 : ∀ p ∈ init, p.1 ∈ codes) (h3 : init.length ≤ 3) (h4 : ffault init = 0) :
    Inv 0 (putAll (defaults c) init) (putAll (defaults c) init) ((putAll (defaults c) init).map fun p => (p.1, (0 : Int))) := by
  have l1 := putAll_len (defaults c) init
  have l2 : (defaults c).length = 5 := rfl
  have ok := putAll_ok (c := c) (l := init) fun p hp => ⟨h2 p hp, (h1 p hp).2, ffault_all h4 p hp⟩
  refine ⟨fun k e => e, fun k row e => ?_, by omega, by omega, by rw [List.length_map]; omega, fun k row e => ?_, fun k row e => ?_, fun k row e => (ok k row e).1, fun k row e h0 => ?_⟩
  · obtain ⟨_, v, rfl, _⟩ := ok k row e
    exact ⟨0, by rw [look_zero, e]; rfl, Nat.succ_pos _, by rw [e]; rfl⟩
  · obtain ⟨_, v, rfl, _⟩ := ok k row e
    exact Nat.succ_le_succ (Nat.zero_le _)
  · obtain ⟨_, v, rfl, hv⟩ := ok k row e
    intro j r hj
    cases j with
    | zero => cases hj; exact .inr ⟨v, rfl, hv⟩
    | succ j => cases hj
  · obtain ⟨_, v, rfl, _⟩ := ok k row e
    cases h0
inductive LK (w : World) (c : Bool) (L : Addr) (b : Nat) (x l : Addr) (n : Led) : Prop
  | mk : ∀ σ ρ π dx d t1 t2 nn od kvs ls rd oR kR lR pd oP kP, (LM w c L x σ ρ π dx d t1 t2 nn od kvs ls rd oR kR lR pd oP kP n) → (Inv b σ ρ π) → (l ∉ ls.map (·.1)) → LK w c L b x l n
inductive LJ7 (w : World) (c : Bool) (L : Addr) (m' : Str → Option Value) (n' : Led) : Prop
  | mk : ∀ x ln ns, (SameOff off8 (mL (.ref ln) (.ref x) (.bool c)) m') → (LK w c L 0 x ln n') → (IL ln ns n') → (ns.length ≤ 63) → LJ7 w c L m' n'
theorem L6.to7 {w : World} {c : Bool} {L : Addr} {ρ : Sgs} {x rd : Addr} {dx d : Addr} {t1 t2 : Tok} {nn : Nat} {od : Obj} {kvs : List (Int × Value)} {ls : Led} {oR : Obj} {kR : List (Int × Value)} {lR : Led} {n n' n'' : Led} {pd ln : Addr} {oP : Obj} {kP : List (Int × Value)} {ns : List Int}
    (H : L6 w c L ρ x rd dx d t1 t2 nn od kvs ls oR kR lR n) (hI : IL ln ns n) (hl : ln ∉ ls.map (·.1)) (iv : Inv 0 ρ ρ (ρ.map fun p => (p.1, (0 : Int)))) (hs : ∀ p ∈ n, p ∈ n') (hpl : ∀ p ∈ n, p.1 < pd) (hm : (pd, oP) ∈ n') (hd : oP.IsDictOf (intKind Challenge.rw_ix0031_01.row.prog w) kP) (hi : IntsL (ρ.map fun p => (p.1, (0 : Int))) kP) (lo : (pd == sysModules) = false)
    (hnc : NC n' n'') (hcl : CellIn (L + 1 + 1 + 1 + 1) (some (.ref pd)) n'') (hco : ∀ c' v', c' ≠ L + 1 + 1 + 1 + 1 → CellIn c' v' n' → CellIn c' v' n'') : LK w c L 0 x ln n'' ∧ IL ln ns n'' := by
  have ⟨_, _, a3, _, a5, a6⟩ := lt4 L
  refine ⟨⟨ρ, ρ, _, dx, d, t1, t2, nn, od, kvs, ls, rd, oR, kR, lR, pd, oP, kP, ⟨(H.sets.mono hs).nc hnc, (H.rows.mono hs).nc hnc, DicI.nc ⟨hm, hd, hi, lo⟩ hnc, hco _ _ a3 (H.c1.up hs), ?_, ?_, hcl, H.gr, ?_, ?_, H.gl⟩, iv, hl⟩, (hI.up hs).nc hnc⟩
  · obtain ⟨v, h⟩ := H.c2; exact ⟨v, hco _ _ a5 (h.up hs)⟩
  · obtain ⟨v, h⟩ := H.c3; exact ⟨v, hco _ _ a6 (h.up hs)⟩
  · exact Nat.ne_of_gt (hpl _ H.sets.dic.body)
  · exact Nat.ne_of_lt (hpl _ H.rows.body)
theorem tests_nil {w : World} {A : Around} {E : Value → Shared → Prop} {s : Shared} {env : Env} {Q : Bool → Shared → Prop} (h : Q true s) : wpAny (model Challenge.rw_ix0031_01.row.prog w) A (testsOf [] env) Q E s := wpAny_pure h
theorem stored_new {kvs : List (Int × Value)} {k : Int} {v : Value} (h : k ∉ kvs.map (·.1)) : stored kvs k v = kvs ++ [(k, v)] := by
  unfold stored
  rw [if_neg]
  intro q
  obtain ⟨p, hp, e⟩ := List.any_eq_true.mp q
  exact h (of_decide_eq_true e ▸ List.mem_map_of_mem hp)
theorem ListsL.ints0 {σ : Sgs} {kvs : List (Int × Value)} {ls : Led} (H : ListsL σ kvs ls) (nd : (kvs.map (·.1)).Nodup) {i : Nat} {k : Int} {y : Value} (hk : kvs[i]? = some (k, y)) {acc : List (Int × Value)} (h : IntsL ((σ.take i).map fun p => (p.1, (0 : Int))) acc) (t : Tok) : IntsL ((σ.take (i + 1)).map fun p => (p.1, (0 : Int))) (stored acc k (.int 0 t)) := by
  (refine hide fun G__ k__ => ?_; obtain ⟨row, a, o, e1, _⟩ := H.get hk; refine k__ ?_; clear k__ G__)
  have nk : k ∉ acc.map (·.1) := by
    rw [h.keys, List.map_map]
    intro q
    obtain ⟨p, hp, e⟩ := List.mem_map.mp q
    obtain ⟨j, hj, e'⟩ := List.mem_take_iff_getElem.mp hp
    have hji : j < i := Nat.lt_of_lt_of_le hj (Nat.min_le_left _ _)
    have hjl : j < kvs.length := Nat.lt_trans hji (List.getElem?_eq_some_iff.mp hk).1
    have hkey : (kvs.map (·.1))[j]? = (kvs.map (·.1))[i]? := by
      rw [H.keys, List.getElem?_map, List.getElem?_map, e1, List.getElem?_eq_getElem (Nat.lt_of_lt_of_le hj (Nat.min_le_right _ _)), e']
      exact congrArg some e
    exact Nat.ne_of_lt hji (List.getElem_inj (h₀ := by rw [List.length_map]; exact hjl) (h₁ := by rw [List.length_map]; exact (List.getElem?_eq_some_iff.mp hk).1) nd |>.mp (by
      rw [List.getElem?_eq_getElem (by rw [List.length_map]; exact hjl), List.getElem?_eq_getElem (by rw [List.length_map]; exact (List.getElem?_eq_some_iff.mp hk).1)] at hkey
      exact Option.some.inj hkey))
  rw [stored_new nk, take_snoc e1, List.map_append]
  exact h.app (.cons .nil)
theorem words_T31 : True := by
  k_with "pyIter ref" => (guard_hyp hT31; ((k_here; k_dflt (refine' dict_keys ?T00_g ?G00_g ⟨?B_g, ?F_g, ?N_g, ?X_g, ?T_g, ?D_g, ?XB_g, ?TB_g⟩ rfl hH.rows.body hH.rows.isd hH.rows.low ?hc_g ?hk_g ?hx_g (fun i kvs => IntsL (((putAll (defaults c) init).take i).map fun p => (p.1, (0 : Int))) kvs) ?h0_g ?yl_g (fun Cc i v acc oC mC n₂ h₁ tk gn g₁ hi hP hb2 hY hCc hNs hmx hTn hG C' E' => ?_) (fun D acc oD n₂ h₁ tk gn g₁ hb2 hlt2 lo' hY hDm hDd hTn hG C' => ?_); (case B_g => k_asm); (case F_g => k_asm); (case N_g => k_asm); (case X_g => k_asm); (case T_g => k_asm); (case D_g => assumption); (case XB_g => assumption); (case TB_g => assumption); (case T00_g => first | assumption | exact KtsTurn.refl); (case G00_g => first | assumption | exact GRel.refl _); (case hc_g => decide); (case hk_g => rfl); (case hx_g => rfl); (case h0_g => exact .nil); (case yl_g => exact fun i kvs h => by have e1 := h.len'; have e2 := List.length_take_le' i (putAll (defaults c) init); have e3 := putAll_len (defaults c) init; have e4 : (defaults c).length = 5 := rfl; rw [List.length_map] at e1; omega)); rotate_left; (obtain ⟨B', F', N', X', T', D', XB', TB'⟩ := C'; (try k_lift B'); (try k_fold)); rotate_right; (have hGr := GRel.refl gn; obtain ⟨kk, yy, tt, hkk, hvv⟩ := hP; subst hvv; obtain ⟨B', F', N', X', T', D', XB', TB'⟩ := C'; (try k_lift B'); (try k_fold); refine tests_nil ?_))))
  k_with "storeName" => (guard_hyp hT31; ((k_here; (with_reducible show wpAny _ _ (storeName _ (PySem.Str.ofString "places") _) _ _ _); k_dflt (refine' store_cell ?F_d ?N_d ?c_d (hH.c4.up hb2) ?k_d ?x_d (fun h' n' F' N' hnc hcl hco => ?_); (case x_d => rfl); (case F_d => k_asm); (case N_d => k_asm); (case c_d => rfl); (case k_d => rfl)))))
  k_with "@J" => (guard_hyp hT31; (k_dflt (first | exact ⟨rfl, fun p hp => hp, GRel.refl _⟩ | (have hY2 : IntsL _ _ := hY; rw [hH.rows.lists.klen, List.take_length] at hY2; have h7 := hH.to7 hIl hln (Inv.start hsm hkc hil hff) hb2 hlt2 hDm hDd hY2 lo' hnc hcl hco; exact ⟨x, ln, ns, SameOff.eqs hj0, h7.1, h7.2, hnl⟩))))
  trivial
set_option maxRecDepth 100000 in
set_option maxHeartbeats 40000000 in
theorem c_law7 (w : World) (dp un : Nat) (gd : Option (List Code)) (outer : List Env) (base : Heap) (loose : List Str) (mean : ExcName → Option Value) (mg mb : Str → Option Value) (o : Obj) (ho : (hd.heap_39 w.params).lookup 437 = some o) (L' : Addr) (h00 : Heap) (g00 : Array GenState) (s : Shared) (Q : Flow → Shared → Prop) (E : Value → Shared → Prop) (hdp : dp + 100 < recursionLimit) (hun : un + 1000 < cLine) (c : Bool) (next : Go w { handled := none, depth := dp, frames := some outer, guards := gd, units := un } base outer loose mean mg mb h00 g00 L' s Q E (lawE o L') ((obS o).drop 8) (LJ7 w c L')) : Go w { handled := none, depth := dp, frames := some outer, guards := gd, units := un } base outer loose mean mg mb h00 g00 L' s Q E (lawE o L') ((obS o).drop 7) (LJ6 w c L') := by
  have hT31 := trivial; have g1 := trivial; have g2 := trivial; have g3 := trivial; have g4 := trivial; have g6 := trivial; have g7 := trivial
  intro m₁ n₁ h₁ gn tk g₁ hJ hTn hGn C'
  have X := C'.X
  have kfl : Challenge.rw_ix0031_01.row = Challenge.rw_ix0031_01.row := rfl
  revert kfl X ho
  k_fill
  intro ho X kfl
  obtain rfl := lookE ho (by k_is)
  clear X ho
  dsimp only [obS, obSc, obCd, lawN, lawE, nthS, inFor, inIf, inElse, List.drop, List.take]
  (refine hide fun G__ k__ => ?_; obtain ⟨init, x, ln, ns, rd, dx, d, t1, t2, nn, od, kvs, ls, oR, kR, lR, hj0, hH, hIl, hln, hsm, hkc, hil, hnl, hff⟩ := hJ; refine k__ ?_; clear k__ G__)
  obtain ⟨orw, hrwm, hrwd⟩ := hH.c1
  rw [hj0.eqM] at C'
  obtain ⟨B', F', N', X', T', D', XB', TB'⟩ := C'; (try k_lift B'); (try k_fold)
  have hTm := hTn; have hGm := hGn
  refine cut hTm hGm ⟨B', F', N', X', T', D', XB', TB'⟩ (LJ7 w c L') ?_ fun m₁ n₁ h₁ gn tk g₁ hJ hTn hGn C' => next _ _ _ _ _ _ hJ hTn hGn C'
  k_steps
  exact ListsL.ints0 hH.rows.lists hH.rows.kvNd hkk hY _
theorem words_T32 : True := by
  k_with "@J" => (guard_hyp hT32; (k_dflt (first | exact ⟨x, ln, ns, SameOff.eqs hj0, ⟨_, _, _, _, _, _, _, _, _, _, _, _, _, _, _, _, _, _, hM, iv, hln⟩, hIl, hnl⟩)))
  trivial
set_option maxRecDepth 100000 in
set_option maxHeartbeats 40000000 in
theorem c_law8 (w : World) (dp un : Nat) (gd : Option (List Code)) (outer : List Env) (base : Heap) (loose : List Str) (mean : ExcName → Option Value) (mg mb : Str → Option Value) (o : Obj) (ho : (hd.heap_39 w.params).lookup 437 = some o) (L' : Addr) (h00 : Heap) (g00 : Array GenState) (s : Shared) (Q : Flow → Shared → Prop) (E : Value → Shared → Prop) (hdp : dp + 100 < recursionLimit) (hun : un + 1000 < cLine) (c : Bool) (next : Go w { handled := none, depth := dp, frames := some outer, guards := gd, units := un } base outer loose mean mg mb h00 g00 L' s Q E (lawE o L') ((obS o).drop 9) (LJ7 w c L')) : Go w { handled := none, depth := dp, frames := some outer, guards := gd, units := un } base outer loose mean mg mb h00 g00 L' s Q E (lawE o L') ((obS o).drop 8) (LJ7 w c L') := by
  have hT32 := trivial; have g1 := trivial; have g2 := trivial; have g3 := trivial; have g4 := trivial; have g6 := trivial; have g7 := trivial
  intro m₁ n₁ h₁ gn tk g₁ hJ hTn hGn C'
  have X := C'.X
  have kfl : Challenge.rw_ix0031_01.row = Challenge.rw_ix0031_01.row := rfl
  revert kfl X ho
  k_fill
  intro ho X kfl
  obtain rfl := lookE ho (by k_is)
  clear X ho
  dsimp only [obS, obSc, obCd, lawN, lawE, nthS, inFor, inIf, inElse, List.drop, List.take]
  (refine hide fun G__ k__ => ?_; obtain ⟨x, ln, ns, hj0, ⟨σ, ρ, π, dx, d, t1, t2, nn, od, kvs, ls, rd, oR, kR, lR, pd, oP, kP, hM, iv, hln⟩, hIl, hnl⟩ := hJ; refine k__ ?_; clear k__ G__)
  obtain ⟨o1, hc1, hd1⟩ := hM.c1
  obtain ⟨o4, hc4, hd4⟩ := hM.c4
  rw [hj0.eqM] at C'
  obtain ⟨B', F', N', X', T', D', XB', TB'⟩ := C'; (try k_lift B'); (try k_fold)
  have hTm := hTn; have hGm := hGn
  refine cut hTm hGm ⟨B', F', N', X', T', D', XB', TB'⟩ (LJ7 w c L') ?_ fun m₁ n₁ h₁ gn tk g₁ hJ hTn hGn C' => next _ _ _ _ _ _ hJ hTn hGn C'
  k_steps
@[reducible] noncomputable def off9 : List Str := [Str.ofString "start", Str.ofString "script", Str.ofString "first", Str.ofString "numbers", Str.ofString "drawn", Str.ofString "fault", Str.ofString "value", Str.ofString "deed", Str.ofString "pick", Str.ofString "due", Str.ofString "one", Str.ofString "other"]
@[reducible] noncomputable def off9d : List Str := [Str.ofString "start", Str.ofString "script", Str.ofString "first", Str.ofString "numbers", Str.ofString "fault", Str.ofString "value", Str.ofString "deed", Str.ofString "pick", Str.ofString "due", Str.ofString "one", Str.ofString "other"]
@[reducible] noncomputable def mK (sv cl : Value) : Str → Option Value := fun y => if y = Str.ofString "settings" then some sv else if y = Str.ofString "client" then some cl else none
@[reducible] noncomputable def mD (dv sv cl : Value) : Str → Option Value := fun y => if y = Str.ofString "drawn" then some dv else mK sv cl y
theorem offs {a b : List Str} (h : b.all a.contains = true) {z : Str} (hz : a.contains z = false) : b.contains z = false := by
  cases q : b.contains z with
  | false => rfl
  | true =>
    have h1 := List.all_eq_true.mp h z (List.contains_iff_mem.mp q)
    rw [hz] at h1; cases h1
theorem SameOff.more {a b : List Str} {m₀ m₁ m : Str → Option Value} (h : SameOff b m₁ m) (hs : b.all a.contains = true) (hm : ∀ z, a.contains z = false → m₁ z = m₀ z) : SameOff a m₀ m := fun z hz => (h z (offs hs hz)).trans (hm z hz)
theorem SameOff.set {a b : List Str} {m₀ m : Str → Option Value} {x : Str} {v : Option Value} (h : SameOff a m₀ m) (hs : ∀ z, b.contains z = false → z ≠ x → a.contains z = false) : SameOff b (fun z => if z = x then v else m₀ z) (fun z => if z = x then v else m z) := fun z hz => by
  by_cases e : z = x
  · simp only [if_pos e]
  · simp only [if_neg e]; exact h z (hs z hz e)
theorem hasNot {b : List Str} {x : Str} : ∀ {a : List Str}, (a.all fun y => y == x || b.contains y) = true → ∀ z, b.contains z = false → z ≠ x → a.contains z = false := fun {a} h z hz hne => by
  cases q : a.contains z with
  | false => rfl
  | true =>
    have h1 := List.all_eq_true.mp h z (List.contains_iff_mem.mp q)
    rw [hz, Bool.or_false] at h1
    exact absurd (eq_of_beq h1) hne
section
variable {w : World} {c : Bool} {L x : Addr} {σ σ' ρ ρ' : Sgs} {π π' : List (Int × Int)} {dx d : Addr} {t1 t2 : Tok} {nn : Nat} {od : Obj} {kvs : List (Int × Value)} {ls : Led} {rd rd' : Addr} {oR oR' : Obj} {kR kR' : List (Int × Value)} {lR lR' : Led} {pd pd' : Addr} {oP oP' : Obj} {kP kP' : List (Int × Value)} {n n' : Led} {h₀ h : Heap} {F : Addr}
theorem LM.kept {lo : Nat} (H : LM w c L x σ ρ π dx d t1 t2 nn od kvs ls rd oR kR lR pd oP kP n) (hc : (L : Nat) + 1 + 1 + 1 + 1 < lo) (hk : ∀ p ∈ n, Kept lo p → p ∈ n') : LM w c L x σ ρ π dx d t1 t2 nn od kvs ls rd oR kR lR pd oP kP n' := by
  have h3 : (L : Nat) + 1 + 1 + 1 < lo := Nat.lt_of_succ_lt hc
  have h2 : (L : Nat) + 1 + 1 < lo := Nat.lt_of_succ_lt h3
  have h1 : (L : Nat) + 1 < lo := Nat.lt_of_succ_lt h2
  exact ⟨H.sets.kept hk, H.rows.kept hk, H.pls.kept hk, H.c1.kept h1 hk, H.c2.kept h2 hk, H.c3.kept h3 hk, H.c4.kept hc hk, H.gr, H.gp, H.rp, H.gl⟩
theorem LK.kept {b : Nat} {l : Addr} {lo : Nat} (H : LK w c L b x l n) (hc : (L : Nat) + 1 + 1 + 1 + 1 < lo) (hk : ∀ p ∈ n, Kept lo p → p ∈ n') : LK w c L b x l n' :=
  let ⟨σ, ρ, π, dx, d, t1, t2, nn, od, kvs, ls, rd, oR, kR, lR, pd, oP, kP, hM, iv, hl⟩ := H
  ⟨σ, ρ, π, dx, d, t1, t2, nn, od, kvs, ls, rd, oR, kR, lR, pd, oP, kP, hM.kept hc hk, iv, hl⟩
theorem LK.c4lt {b : Nat} {l : Addr} {lo : Nat} (H : LK w c L b x l n) (hlo : ∀ p ∈ n, (p.1 : Nat) < lo) : (L : Nat) + 1 + 1 + 1 + 1 < lo :=
  let ⟨σ, ρ, π, dx, d, t1, t2, nn, od, kvs, ls, rd, oR, kR, lR, pd, oP, kP, hM, iv, hl⟩ := H
  hM.c4.lt hlo
end
theorem mL_K {nb sv cl : Value} : ∀ z, off9.contains z = false → mL nb sv cl z = mK sv cl z := fun z hz => by
  have e : z ≠ Str.ofString "numbers" := by rintro rfl; revert hz; decide
  simp only [mL, mK, if_neg e]
inductive LJ9 (w : World) (c : Bool) (L D : Addr) (i : Nat) (m' : Str → Option Value) (n' : Led) : Prop
  | mk : ∀ x, (SameOff off9 (mK (.ref x) (.bool c)) m') → (LK w c L i x D n') → LJ9 w c L D i m' n'
theorem LJ9.le {w : World} {c : Bool} {L D : Addr} {i j : Nat} {m' : Str → Option Value} {n' : Led} (H : LJ9 w c L D i m' n') (h : i ≤ j) : LJ9 w c L D j m' n' :=
  let ⟨x, h1, σ, ρ, π, dx, d, t1, t2, nn, od, kvs, ls, rd, oR, kR, lR, pd, oP, kP, hM, iv, hl⟩ := H
  ⟨x, h1, σ, ρ, π, dx, d, t1, t2, nn, od, kvs, ls, rd, oR, kR, lR, pd, oP, kP, hM, iv.le h, hl⟩
inductive LT0 (w : World) (c : Bool) (L D I : Addr) (vs : List Value) (k i : Nat) (dr : Int) (m' : Str → Option Value) (n' : Led) : Prop
  | mk : ∀ x u, (SameOff off9d (mD (.int dr u) (.ref x) (.bool c)) m') → (LK w c L i x D n') → (StL I D vs k (i + 1) n' #[]) → LT0 w c L D I vs k i dr m' n'
noncomputable def LTe (w : World) (c : Bool) (L D I : Addr) (vs : List Value) (k i : Nat) (m' : Str → Option Value) (n' : Led) : Prop := LJ9 w c L D (i + 1) m' n' ∧ StL I D vs k (i + 1) n' #[]
noncomputable def FinN (w : World) (A₀ : Around) (base : Heap) (outer : List Env) (loose : List Str) (mean : ExcName → Option Value) (mg mb : Str → Option Value) (h00 : Heap) (g00 : Array GenState) (L : Addr) (s : Shared) (Q : Flow → Shared → Prop) (J : (Str → Option Value) → Led → Prop) : Prop :=
  ∀ m n h gn tk g, J m n → KtsTurn (outer.filterMap (·.frame)) h00 g → GRel g00 gn → Cx w A₀ base outer loose mean mg mb g L m n h → Q .next { s with heap := h, gens := gn, toks := tk }
theorem words_T33 : True := by
  k_with "subscriptTail Name Slice ref ref" => (guard_hyp hT33; ((k_here; (with_reducible show wpAny _ _ (subscriptTail _ (PySem.Expr.Slice _ _ none _) (Value.ref _) (Value.ref _)) _ _ _); k_dflt (refine' slice_il ?F_e ?N_e hIl ?l_e ?p_e ?q_e ?m_e (fun D o h' F' N' l1 hI => ?_) ?h_e ?t_e; (case F_e => k_asm); (case N_e => k_asm); (case l_e => omega); (case p_e => kmk_part); (case q_e => kmk_part); (case m_e => first | exact fun vs hi => kmk_from hi (by decide) | exact fun vs hi => kmk_upto hi (by decide)); (case h_e => with_unfolding_all rfl); (case t_e => kmk_pure)))))
  k_with "pyIter ref" => (guard_hyp hT33; ((k_here; have hK2 : LK w c L' 0 x D ((D, o) :: n₁) := ⟨σ, ρ, π, dx, d, t1, t2, nn, od, kvs, ls, rd, oR, kR, lR, pd, oP, kP, hM.up (fun p hp => .tail _ hp), iv, fun q => let ⟨_, hq⟩ := lsIn q; Nat.lt_irrefl _ (l1 _ hq)⟩; k_dflt (obtain ⟨vs3, cc3, hl3, hv3⟩ := hI; refine' iter_listC ?T00_d ?G00_d ⟨?B_d, ?F_d, ?N_d, ?X_d, ?T_d, ?D_d, ?XB_d, ?TB_d⟩ rfl hl3 (LJ9 w c L' D) ?h0_d (fun lo hlo i ma na nb hJ hk => let ⟨y, q1, q2⟩ := hJ; ⟨y, q1, q2.kept (hK2.c4lt hlo) hk⟩) ?htg_d (fun I i v m₁ n₁ h₁ tk gn g₁ hk hJ hSt hTn hG C' => ?_) (fun m₁ n₁ h₁ tk gn g₁ hJ hTn hG C' => ?_); (case B_d => k_asm); (case F_d => k_asm); (case N_d => k_asm); (case X_d => k_asm); (case T_d => k_asm); (case D_d => assumption); (case XB_d => assumption); (case TB_d => assumption); (case T00_d => first | assumption | exact KtsTurn.refl); (case G00_d => first | assumption | exact GRel.refl _); (case htg_d => exact fun _ _ => rfl); (case h0_d => exact ⟨x, SameOff.more (SameOff.eqs hj0) (by decide) mL_K, hK2⟩)); rotate_left; (obtain ⟨B', F', N', X', T', D', XB', TB'⟩ := C'; (try k_lift B'); (try k_fold)); rotate_right; (have hi14 : i < 14 := Nat.lt_of_lt_of_le (List.getElem?_eq_some_iff.mp hk).1 (by rw [hv3.len, List.length_take]; exact Nat.min_le_left _ _); obtain ⟨dr, tdr, hdr, hvt⟩ := hv3.get hk; subst hvt; obtain ⟨y, hj1, hK⟩ := hJ; rw [hj1.eqM] at C'; obtain ⟨B', F', N', X', T', D', XB', TB'⟩ := C'; (try k_lift B'); refine wpAny_assign_Name ?_; walk1; (try dsimp only); refine' turn I D vs3 cc3 i dr s _ hi14 (fun m n h gn tk g hJ hT hG hC => ⟨h, gn, tk, m, n, g, rfl, hT, hG, hC, hJ.1, StL.up (g' := gn) hJ.2 (fun p hp => hp)⟩) _ _ _ _ _ _ ⟨y, tdr, SameOff.set (SameOff.eqs hj1) (hasNot (by decide)), hK, StL.up (g' := #[]) hSt (fun p hp => hp)⟩ hTn hG ⟨?B_d, ?F_d, ?N_d, ?X_d, ?T_d, ?D_d, ?XB_d, ?TB_d⟩; (case B_d => k_asm); (case F_d => k_asm); (case N_d => k_asm); (case X_d => k_asm); (case T_d => k_asm); (case D_d => assumption); (case XB_d => assumption); (case TB_d => assumption)))))
  k_with "@J" => (guard_hyp hT33; (k_dflt (exact ⟨D, hJ.le (by rw [hv3.len, List.length_take]; exact Nat.min_le_left _ _)⟩)))
  trivial
set_option maxRecDepth 100000 in
set_option maxHeartbeats 40000000 in
theorem c_law9 (w : World) (dp un : Nat) (gd : Option (List Code)) (outer : List Env) (base : Heap) (loose : List Str) (mean : ExcName → Option Value) (mg mb : Str → Option Value) (o : Obj) (ho : (hd.heap_39 w.params).lookup 437 = some o) (L' : Addr) (h00 : Heap) (g00 : Array GenState) (s : Shared) (Q : Flow → Shared → Prop) (E : Value → Shared → Prop) (hdp : dp + 100 < recursionLimit) (hun : un + 1000 < cLine) (hE : PassesOwn (model Challenge.rw_ix0031_01.row.prog w) (Around.deeper { handled := none, depth := dp, frames := some outer, guards := gd, units := un } (lawE o L')) (lawE o L') E) (c : Bool) (turn : ∀ (I D : Addr) (vs : List Value) (k i : Nat) (dr : Int) (s : Shared) (Q : Flow → Shared → Prop), i < 14 → FinN w { handled := none, depth := dp, frames := some outer, guards := gd, units := un } base outer loose mean mg mb h00 g00 L' s Q (LTe w c L' D I vs k i) → Go w { handled := none, depth := dp, frames := some outer, guards := gd, units := un } base outer loose mean mg mb h00 g00 L' s Q E (lawE o L') (inFor (nthS 9 (obS o))) (LT0 w c L' D I vs k i dr)) (next : Go w { handled := none, depth := dp, frames := some outer, guards := gd, units := un } base outer loose mean mg mb h00 g00 L' s Q E (lawE o L') ((obS o).drop 10) (fun m n => ∃ D, LJ9 w c L' D 14 m n)) : Go w { handled := none, depth := dp, frames := some outer, guards := gd, units := un } base outer loose mean mg mb h00 g00 L' s Q E (lawE o L') ((obS o).drop 9) (LJ7 w c L') := by
  have hT33 := trivial; have g1 := trivial; have g2 := trivial; have g3 := trivial; have g4 := trivial; have g5 := trivial; have g7 := trivial
  intro m₁ n₁ h₁ gn tk g₁ hJ hTn hGn C'
  have X := C'.X
  have kfl : Challenge.rw_ix0031_01.row = Challenge.rw_ix0031_01.row := rfl
  revert kfl X ho
  k_fill
  intro ho X kfl
  obtain rfl := lookE ho (by k_is)
  clear X ho
  dsimp only [obS, obSc, obCd, lawN, lawE, nthS, inFor, inIf, inElse, List.drop, List.take]
  (refine hide fun G__ k__ => ?_; obtain ⟨x, ln, ns, hj0, ⟨σ, ρ, π, dx, d, t1, t2, nn, od, kvs, ls, rd, oR, kR, lR, pd, oP, kP, hM, iv, hln⟩, hIl, hnl⟩ := hJ; refine k__ ?_; clear k__ G__)
  have lsIn : ∀ {a : Addr}, a ∈ ls.map (·.1) → ∃ o, (a, o) ∈ n₁ := fun q => let ⟨p, hp, e⟩ := List.mem_map.mp q; ⟨p.2, e ▸ hM.sets.dic.lsin p hp⟩
  rw [hj0.eqM] at C'
  obtain ⟨B', F', N', X', T', D', XB', TB'⟩ := C'; (try k_lift B'); (try k_fold)
  have hTm := hTn; have hGm := hGn
  refine cut hTm hGm ⟨B', F', N', X', T', D', XB', TB'⟩ (fun m n => ∃ D, LJ9 w c L' D 14 m n) ?_ fun m₁ n₁ h₁ gn tk g₁ hJ hTn hGn C' => next _ _ _ _ _ _ hJ hTn hGn C'
  k_steps
@[reducible] noncomputable def off9t : List Str := [Str.ofString "start", Str.ofString "script", Str.ofString "first", Str.ofString "numbers", Str.ofString "drawn", Str.ofString "fault", Str.ofString "pick", Str.ofString "due", Str.ofString "one", Str.ofString "other"]
@[reducible] noncomputable def mT (dv vv sv cl : Value) : Str → Option Value := fun y => if y = Str.ofString "value" then some vv else if y = Str.ofString "deed" then some dv else mK sv cl y
theorem mT_of {de pk va dv sv cl : Value} {m : Str → Option Value} (h : SameOff off9d (mD dv sv cl) m) : SameOff off9t (mT de va sv cl) (fun z => if z = Str.ofString "value" then some va else if z = Str.ofString "pick" then some pk else if z = Str.ofString "deed" then some de else m z) := fun z hz => by
  by_cases e1 : z = Str.ofString "value"
  · simp only [mT, if_pos e1]
  · simp only [List.contains_cons, List.contains_nil, Bool.or_eq_false_iff, beq_eq_false_iff_ne, ne_eq] at hz
    (refine hide fun G__ k__ => ?_; obtain ⟨h1, h2, h3, h4, h5, h6, h7, h8, h9, h10, _⟩ := hz; refine k__ ?_; clear k__ G__)
    by_cases e3 : z = Str.ofString "deed"
    · simp only [mT, if_neg e1, if_neg h7, if_pos e3]
    · simp only [mT, if_neg e1, if_neg h7, if_neg e3]
      rw [h z (by simp only [List.contains_cons, List.contains_nil, Bool.or_eq_false_iff, beq_eq_false_iff_ne, ne_eq]; exact ⟨h1, h2, h3, h4, h6, e1, e3, h7, h8, h9, h10, trivial⟩)]
      simp only [mD, if_neg h5]
inductive LT4 (w : World) (c : Bool) (L D I : Addr) (vs : List Value) (k i : Nat) (m' : Str → Option Value) (n' : Led) : Prop
  | mk : ∀ x de cd va u1 u2 u3, (SameOff off9t (mT (.int de u1) (.int va u3) (.ref x) (.bool c)) m') → (CellIn (L + 1 + 1) (some (.int cd u2)) n') → (cd ∈ codes) → (va.natAbs < 2 ^ 60) → (LK w c L i x D n') → (StL I D vs k (i + 1) n' #[]) → LT4 w c L D I vs k i m' n'
theorem p41 : (2 : Int) ^ Int.toNat 41 = 2199023255552 := by decide
theorem p40 : (2 : Int) ^ Int.toNat 40 = 1099511627776 := by decide
theorem big_small (d : Int) : (d.fmod 2199023255552 - 1099511627776).natAbs < 2 ^ 60 := by
  have h1 := Int.fmod_nonneg_of_pos d (b := 2199023255552) (by decide)
  have h2 := Int.fmod_lt_of_pos d (b := 2199023255552) (by decide)
  omega
theorem at_pick {d : Int} (h : d.fmod 16 < 14) : ∃ k, values[(d.fmod 16).toNat]? = some k ∧ k ∈ values ∧ 0 ≤ d.fmod 16 ∧ d.fmod 16 < 14 := by
  have h1 := Int.fmod_nonneg_of_pos d (b := 16) (by decide)
  have h3 : (d.fmod 16).toNat < values.length := by
    have : values.length = 14 := rfl
    omega
  exact ⟨values[(d.fmod 16).toNat], by simp [h3], List.getElem_mem h3, h1, h⟩
@[reducible] noncomputable def off9f : List Str := [Str.ofString "start", Str.ofString "script", Str.ofString "first", Str.ofString "numbers", Str.ofString "drawn", Str.ofString "pick", Str.ofString "due", Str.ofString "one", Str.ofString "other"]
@[reducible] noncomputable def mFt (fv dv vv sv cl : Value) : Str → Option Value := fun y => if y = Str.ofString "fault" then some fv else mT dv vv sv cl y
theorem mF_of {fv dv vv sv cl : Value} {m : Str → Option Value} (h : SameOff off9t (mT dv vv sv cl) m) : SameOff off9f (mFt fv dv vv sv cl) (fun z => if z = Str.ofString "fault" then some fv else m z) := SameOff.set h (hasNot (by decide))
theorem mF_again {fv fv' dv vv sv cl : Value} {m : Str → Option Value} (h : SameOff off9t (mT dv vv sv cl) m) : SameOff off9f (mFt fv' dv vv sv cl) (fun z => if z = Str.ofString "fault" then some fv' else if z = Str.ofString "fault" then some fv else m z) := fun z hz => by
  by_cases e : z = Str.ofString "fault"
  · subst e; rfl
  · simp only [if_neg e]; have h1 := mF_of (fv := fv) h z hz; simp only [if_neg e] at h1; exact h1
theorem mF_K {fv dv vv sv cl : Value} {m : Str → Option Value} (h : SameOff off9f (mFt fv dv vv sv cl) m) : SameOff off9 (mK sv cl) m := SameOff.more h (by decide) fun z hz => by
  simp only [List.contains_cons, List.contains_nil, Bool.or_eq_false_iff, beq_eq_false_iff_ne, ne_eq] at hz
  (refine hide fun G__ k__ => ?_; obtain ⟨h1, h2, h3, h4, h5, h6, h7, h8, _⟩ := hz; refine k__ ?_; clear k__ G__)
  simp only [mFt, mT, if_neg h6, if_neg h7, if_neg h8]
theorem mT_K {dv vv sv cl : Value} {m : Str → Option Value} (h : SameOff off9t (mT dv vv sv cl) m) : SameOff off9 (mK sv cl) m := SameOff.more h (by decide) fun z hz => by
  simp only [List.contains_cons, List.contains_nil, Bool.or_eq_false_iff, beq_eq_false_iff_ne, ne_eq] at hz
  (refine hide fun G__ k__ => ?_; obtain ⟨h1, h2, h3, h4, h5, h6, h7, h8, _⟩ := hz; refine k__ ?_; clear k__ G__)
  simp only [mT, if_neg h7, if_neg h8]
theorem vf1 {k v : Int} {c : Bool} (h : c = true) : vfault k v c = fault k v := by subst h; rfl
theorem vf2 {k v : Int} {c : Bool} (h : k ≠ 2) : vfault k v c = fault k v := by
  cases c with
  | true => rfl
  | false => exact if_neg fun q => h q.1
theorem vf3 {k v : Int} {c : Bool} (h : v = 0) : vfault k v c = fault k v := by
  cases c with
  | true => rfl
  | false => exact if_neg fun q => q.2 h
theorem vf4 {k v : Int} {c : Bool} (h1 : k = 2) (h2 : c = false) (h3 : v ≠ 0) : vfault k v c = 1 := by subst h2; exact if_pos ⟨h1, h3⟩
inductive LT5 (w : World) (c : Bool) (L D I : Addr) (vs : List Value) (k i : Nat) (m' : Str → Option Value) (n' : Led) : Prop
  | mk : ∀ x cd u2, (SameOff off9 (mK (.ref x) (.bool c)) m') → (CellIn (L + 1 + 1) (some (.int cd u2)) n') → (cd ∈ codes) → (LK w c L (i + 1) x D n') → (StL I D vs k (i + 1) n' #[]) → LT5 w c L D I vs k i m' n'
theorem words_T34 : True := by
  k_with "call ref" => (guard_hyp hT34; ((k_here; (with_reducible show wpAny _ _ (call (Value.ref 357) _ _) _ _ _); k_dflt (refine' Spec.use (c_codes _ _) ?hA_l ?B_l ?F_l ?N_l ?X_l ?T_l ?D_l ?XB_l ?TB_l ?hf_l ?hke_l ?hdp_l ?hun_l (fun v n' h' gn' tk' g' hR kT kF kN kB kX₀ kP kD kX kG => ?_); (case F_l => k_asm); (case N_l => k_asm); skip; (case hA_l => exact rfl); (case B_l => k_asm); (case X_l => k_asm); (case T_l => k_asm); (case D_l => assumption); (case XB_l => assumption); (case TB_l => assumption); (case hf_l => exact rfl); (case hke_l => exact rfl); (case hdp_l => k_room); (case hun_l => k_units); (all_goals (try (have kT2 := KtsTurn.trans (by assumption) kT; clear kT))); (all_goals (try (have kG2 := GRel.trans (by assumption) kG; clear kG))); obtain ⟨l, vsc, nnc, he, hl, hv, hs, hlt⟩ := hR; subst he; replace hM := LM.up hM hs; replace hSt := StL.up (g' := #[]) hSt hs; (try dsimp only); (try k_lift kB); (try k_fold)))))
  k_with "call ref" => (guard_hyp hT34; ((k_here; (with_reducible show wpAny _ _ (call (Value.ref 364) _ _) _ _ _); k_dflt (refine' Spec.use (c_values _ _) ?hA_j ?B_j ?F_j ?N_j ?X_j ?T_j ?D_j ?XB_j ?TB_j ?hf_j ?hke_j ?hdp_j ?hun_j (fun v n' h' gn' tk' g' hR kT kF kN kB kX₀ kP kD kX kG => ?_); (case F_j => k_asm); (case N_j => k_asm); skip; (case hA_j => exact rfl); (case B_j => k_asm); (case X_j => k_asm); (case T_j => k_asm); (case D_j => assumption); (case XB_j => assumption); (case TB_j => assumption); (case hf_j => exact rfl); (case hke_j => exact rfl); (case hdp_j => k_room); (case hun_j => k_units); (all_goals (try (have kT2 := KtsTurn.trans (by assumption) kT; clear kT))); (all_goals (try (have kG2 := GRel.trans (by assumption) kG; clear kG))); obtain ⟨lv, vsv, nnv, he, hlv, hvv, hsv, hltv⟩ := hR; subst he; replace hM := LM.up hM hsv; replace hSt := StL.up (g' := #[]) hSt hsv; have hcm2 := hsv _ hcm; have hrwm2 := hsv _ hrwm; replace hcl := hcl.up hsv; (try dsimp only); (try k_lift kB); (try k_fold)))))
  k_with "subscriptTail" => (guard_hyp hT34; ((k_here; (with_reducible show wpAny _ _ (subscriptTail _ _ (Value.ref _) (Value.int (Int.fmod _ 10) _)) _ _ _); (refine hide fun G__ k__ => ?_; obtain ⟨kk, hkk1, hkk2, hkk3, hkk4⟩ := at_mod (l := codes) (n := 10) rfl (by decide) (dr.fdiv 6); refine k__ ?_; clear k__ G__); obtain ⟨tk2, hkk5⟩ := hv.at hkk1; k_dflt (refine' item_led ?N_i hl hkk3 ?b_i hkk5 ?_ ?s_i; (case N_i => k_asm); (case b_i => omega); (case s_i => with_unfolding_all rfl)))))
  k_with "subscriptTail" => (guard_hyp hT34; ((k_here; (with_reducible show wpAny _ _ (subscriptTail _ _ (Value.ref _) (Value.int (Int.fmod _ 16) _)) _ _ _); (refine hide fun G__ k__ => ?_; obtain ⟨vv, hvv1, hvv2, hvv3, hvv4⟩ := at_pick (d := dr.fdiv 60) (by first | assumption | exact of_decide_eq_true (by assumption)); refine k__ ?_; clear k__ G__); have hvs := values_small _ hvv2; obtain ⟨tk3, hvv5⟩ := hvv.at hvv1; k_dflt (refine' item_led ?N_u hlv hvv3 ?b_u hvv5 ?_ ?s_u; (case N_u => k_asm); (case b_u => omega); (case s_u => with_unfolding_all rfl)))))
  k_with "storeName" => (guard_hyp hT34; ((k_here; (with_reducible show wpAny _ _ (storeName _ (PySem.Str.ofString "code") _) _ _ _); obtain ⟨v2', hcc⟩ := hM.c2; k_dflt (refine' store_cell ?F_h ?N_h ?c_h hcc ?k_h ?x_h (fun h' n' F' N' hnc hcl hco => ?_); (case x_h => rfl); (case F_h => k_asm); (case N_h => k_asm); (case c_h => rfl); (case k_h => rfl)); replace hM := LM.code hM hnc hcl hco; replace hSt := StL.nc (g' := #[]) hSt hnc; (refine hide fun G__ k__ => ?_; obtain ⟨oc, hcm, hcd⟩ := id hcl; refine k__ ?_; clear k__ G__); (refine hide fun G__ k__ => ?_; obtain ⟨orw, hrwm, hrwd⟩ := hM.c1; refine k__ ?_; clear k__ G__))))
  k_with "call ref" => (guard_hyp hT34; ((k_here; (with_reducible show wpAny _ _ (call (Value.ref 406) _ _) _ _ _); k_dflt (refine' SpecR.use (c_fits _ _ _ _ _ _ _ hM.rows _ _ _ _ ?hv_m) ?hA_m ?B_m ?F_m ?N_m ?X_m ?T_m ?D_m ?XB_m ?TB_m ?hf_m ?hke_m ?hdp_m ?hun_m (fun v h' gn' tk' g' hR kT kF kN kB kX₀ kP kD kX kG => ?_); (case F_m => k_asm); (case N_m => k_asm); (case hv_m => first | assumption | exact big_small _); (case hA_m => exact rfl); (case B_m => k_asm); (case X_m => k_asm); (case T_m => k_asm); (case D_m => assumption); (case XB_m => assumption); (case TB_m => assumption); (case hf_m => exact rfl); (case hke_m => exact rfl); (case hdp_m => k_room); (case hun_m => k_units); (all_goals (try (have kT2 := KtsTurn.trans (by assumption) kT; clear kT))); (all_goals (try (have kG2 := GRel.trans (by assumption) kG; clear kG))); obtain ⟨iv2, tv, he, hiv⟩ := hR; subst he; (try dsimp only); (try k_lift kB); (try k_fold)))))
  k_with "eval BinOp" => (guard_hyp hT34; ((k_here; (with_reducible show wpAny _ _ (eval (Expr.BinOp _ Operator.Sub _ _) _) _ _ _); k_dflt (refine' EvV.use (EvV.sub (EvV.mod (EvV.fdiv (EvV.loc ?F_c ?v_c ⟨_, rfl⟩ ?k_c ?l_c ?d_c) EvV.int ?n1_c ?n2_c) (EvV.pow EvV.int EvV.int ?n3_c ?n4_c ?n5_c p41) ?n6_c) (EvV.pow EvV.int EvV.int ?n7_c ?n8_c ?n9_c p40)) (fun u t' => ?_); (case l_c => rfl); (case F_c => k_asm); (case v_c => rfl); (case k_c => rfl); (case d_c => decide); (case n1_c => decide); (case n2_c => decide); (case n3_c => decide); (case n4_c => decide); (case n5_c => decide); (case n6_c => decide); (case n7_c => decide); (case n8_c => decide); (case n9_c => decide)))))
  k_with "@J" => (guard_hyp hT34; (k_dflt (exact ⟨x, _, _, _, _, _, _, mT_of (SameOff.eqs hj0), hcl, hkk2, hiv, ⟨_, _, _, _, _, _, _, _, _, _, _, _, _, _, _, _, _, _, hM, iv, hln⟩, hSt⟩)))
  trivial
set_option maxRecDepth 100000 in
set_option maxHeartbeats 40000000 in
theorem c_t0 (w : World) (dp un : Nat) (gd : Option (List Code)) (outer : List Env) (base : Heap) (loose : List Str) (mean : ExcName → Option Value) (mg mb : Str → Option Value) (o : Obj) (ho : (hd.heap_39 w.params).lookup 437 = some o) (L' : Addr) (h00 : Heap) (g00 : Array GenState) (s : Shared) (Q : Flow → Shared → Prop) (E : Value → Shared → Prop) (hdp : dp + 100 < recursionLimit) (hun : un + 1000 < cLine) (c : Bool) (D I : Addr) (vs : List Value) (k i : Nat) (dr : Int) (next : Go w { handled := none, depth := dp, frames := some outer, guards := gd, units := un } base outer loose mean mg mb h00 g00 L' s Q E (lawE o L') ((inFor (nthS 9 (obS o))).drop 4) (LT4 w c L' D I vs k i)) : Go w { handled := none, depth := dp, frames := some outer, guards := gd, units := un } base outer loose mean mg mb h00 g00 L' s Q E (lawE o L') (inFor (nthS 9 (obS o))) (LT0 w c L' D I vs k i dr) := by
  have hT34 := trivial; have g1 := trivial; have g2 := trivial; have g4 := trivial; have g6 := trivial; have g7 := trivial; have g8 := trivial
  intro m₁ n₁ h₁ gn tk g₁ hJ hTn hGn C'
  have X := C'.X
  have kfl : Challenge.rw_ix0031_01.row = Challenge.rw_ix0031_01.row := rfl
  revert kfl X ho
  k_fill
  intro ho X kfl
  obtain rfl := lookE ho (by k_is)
  clear X ho
  dsimp only [obS, obSc, obCd, lawN, lawE, nthS, inFor, inIf, inElse, List.drop, List.take]
  (refine hide fun G__ k__ => ?_; obtain ⟨x, u, hj0, ⟨σ, ρ, π, dx, d, t1, t2, nn, od, kvs, ls, rd, oR, kR, lR, pd, oP, kP, hM, iv, hln⟩, hSt⟩ := hJ; refine k__ ?_; clear k__ G__)
  rw [hj0.eqM] at C'
  obtain ⟨B', F', N', X', T', D', XB', TB'⟩ := C'; (try k_lift B'); (try k_fold)
  have hTm := hTn; have hGm := hGn
  refine cutN [_, _, _, _] hTm hGm ⟨B', F', N', X', T', D', XB', TB'⟩ (LT4 w c L' D I vs k i) ?_ fun m₁ n₁ h₁ gn tk g₁ hJ hTn hGn C' => next _ _ _ _ _ _ hJ hTn hGn C'
  repeat' (first | (k_unfold; (try dsimp only)) | walk1 | (k_end; kc_close) | (dsimp only; walk1) | (leave1; (try dsimp only)) | fail "no step")
theorem words_T35 : True := by
  k_with "@J" => (guard_hyp hT35; (k_dflt (exact ⟨⟨x, SameOff.eqs hj0, ⟨_, _, _, _, _, _, _, _, _, _, _, _, _, _, _, _, _, _, hM, iv, hln⟩⟩, hSt⟩)))
  trivial
set_option maxRecDepth 100000 in
set_option maxHeartbeats 40000000 in
theorem c_t5 (w : World) (dp un : Nat) (gd : Option (List Code)) (outer : List Env) (base : Heap) (loose : List Str) (mean : ExcName → Option Value) (mg mb : Str → Option Value) (o : Obj) (ho : (hd.heap_39 w.params).lookup 437 = some o) (L' : Addr) (h00 : Heap) (g00 : Array GenState) (s : Shared) (Q : Flow → Shared → Prop) (E : Value → Shared → Prop) (hdp : dp + 100 < recursionLimit) (hun : un + 1000 < cLine) (c : Bool) (D I : Addr) (vs : List Value) (k i : Nat) (hi : i < 14) (next : FinN w { handled := none, depth := dp, frames := some outer, guards := gd, units := un } base outer loose mean mg mb h00 g00 L' s Q (LTe w c L' D I vs k i)) : Go w { handled := none, depth := dp, frames := some outer, guards := gd, units := un } base outer loose mean mg mb h00 g00 L' s Q E (lawE o L') ((inFor (nthS 9 (obS o))).drop 5) (LT5 w c L' D I vs k i) := by
  have hT35 := trivial; have g1 := trivial; have g2 := trivial; have g4 := trivial; have g6 := trivial; have g7 := trivial; have g8 := trivial
  intro m₁ n₁ h₁ gn tk g₁ hJ hTn hGn C'
  have X := C'.X
  have kfl : Challenge.rw_ix0031_01.row = Challenge.rw_ix0031_01.row := rfl
  revert kfl X ho
  k_fill
  intro ho X kfl
  obtain rfl := lookE ho (by k_is)
  clear X ho
  dsimp only [obS, obSc, obCd, lawN, lawE, nthS, inFor, inIf, inElse, List.drop, List.take]
  (refine hide fun G__ k__ => ?_; obtain ⟨x, cd, u2, hj0, hcl, hcd, ⟨σ, ρ, π, dx, d, t1, t2, nn, od, kvs, ls, rd, oR, kR, lR, pd, oP, kP, hM, iv, hln⟩, hSt⟩ := hJ; refine k__ ?_; clear k__ G__)
  (refine hide fun G__ k__ => ?_; obtain ⟨o1, hc1, hd1⟩ := hM.c1; refine k__ ?_; clear k__ G__)
  obtain ⟨o2, hc2, hd2⟩ := hcl
  (refine hide fun G__ k__ => ?_; obtain ⟨o4, hc4, hd4⟩ := hM.c4; refine k__ ?_; clear k__ G__)
  rw [hj0.eqM] at C'
  obtain ⟨B', F', N', X', T', D', XB', TB'⟩ := C'; (try k_lift B'); (try k_fold)
  have hTm := hTn; have hGm := hGn
  refine cut hTm hGm ⟨B', F', N', X', T', D', XB', TB'⟩ (LTe w c L' D I vs k i) ?_ fun m₁ n₁ h₁ gn tk g₁ hJ hTn hGn C' => wpAny_execs_nil (next _ _ _ _ _ _ hJ hTn hGn C')
  k_steps
theorem words_T36 : True := by
  k_with "call ref" => (guard_hyp hT36; ((k_here; (with_reducible show wpAny _ _ (call (Value.ref 392) _ _) _ _ _); k_dflt (refine' SpecR.use (c_received _ _ _ _ _ _ _ _ _ _ _ _ _ hM.sets _ _ _ _ ?hk_j ?hv_j) ?hA_j ?B_j ?F_j ?N_j ?X_j ?T_j ?D_j ?XB_j ?TB_j ?hf_j ?hke_j ?hdp_j ?hun_j (fun v h' gn' tk' g' hR kT kF kN kB kX₀ kP kD kX kG => ?_); (case F_j => k_asm); (case N_j => k_asm); (case hk_j => exact codes_small _ hcd); (case hv_j => assumption); (case hA_j => exact rfl); (case B_j => k_asm); (case X_j => k_asm); (case T_j => k_asm); (case D_j => assumption); (case XB_j => assumption); (case TB_j => assumption); (case hf_j => exact rfl); (case hke_j => exact rfl); (case hdp_j => k_room); (case hun_j => k_units); (all_goals (try (have kT2 := KtsTurn.trans (by assumption) kT; clear kT))); (all_goals (try (have kG2 := GRel.trans (by assumption) kG; clear kG))); obtain ⟨tq, hR⟩ := hR; subst hR; (try dsimp only); (try k_lift kB); (try k_fold)))))
  k_with "@J" => (guard_hyp hT36; (k_dflt (first | exact ⟨_, _, (by first | exact hfr.trans (vf1 (by assumption)).symm | exact hfr.trans (vf2 (by assumption)).symm | exact hfr.trans (vf3 (by assumption)).symm), mF_of (SameOff.eqs hj0), fun p hp => hp⟩ | exact ⟨_, _, (vf4 (by assumption) (by assumption) (by assumption)).symm, mF_again (SameOff.eqs hj0), fun p hp => hp⟩ | exact ⟨x, cd, u2, mF_K (SameOff.eqs hj3), hcl, hcd, ⟨_, _, _, _, _, _, _, _, _, _, _, _, _, _, _, _, _, _, hM, iv.le (Nat.le_succ i), hln⟩, hSt⟩)))
  trivial
set_option maxRecDepth 100000 in
set_option maxHeartbeats 40000000 in
theorem c_recv (w : World) (dp un : Nat) (gd : Option (List Code)) (outer : List Env) (base : Heap) (loose : List Str) (mean : ExcName → Option Value) (mg mb : Str → Option Value) (o : Obj) (ho : (hd.heap_39 w.params).lookup 437 = some o) (L' : Addr) (h00 : Heap) (g00 : Array GenState) (s : Shared) (Q : Flow → Shared → Prop) (E : Value → Shared → Prop) (hdp : dp + 100 < recursionLimit) (hun : un + 1000 < cLine) (c : Bool) (D I : Addr) (vs : List Value) (k i : Nat) (hi : i < 14) (next : FinN w { handled := none, depth := dp, frames := some outer, guards := gd, units := un } base outer loose mean mg mb h00 g00 L' s Q (LT5 w c L' D I vs k i)) : Go w { handled := none, depth := dp, frames := some outer, guards := gd, units := un } base outer loose mean mg mb h00 g00 L' s Q E (lawE o L') (inElse (inElse (inElse (nthS 4 (inFor (nthS 9 (obS o))))))) (LT4 w c L' D I vs k i) := by
  have hT36 := trivial; have g1 := trivial; have g2 := trivial; have g4 := trivial; have g6 := trivial; have g7 := trivial; have g8 := trivial
  intro m₁ n₁ h₁ gn tk g₁ hJ hTn hGn C'
  have X := C'.X
  have kfl : Challenge.rw_ix0031_01.row = Challenge.rw_ix0031_01.row := rfl
  revert kfl X ho
  k_fill
  intro ho X kfl
  obtain rfl := lookE ho (by k_is)
  clear X ho
  dsimp only [obS, obSc, obCd, lawN, lawE, nthS, inFor, inIf, inElse, List.drop, List.take]
  (refine hide fun G__ k__ => ?_; obtain ⟨x, de, cd, va, u1, u2, u3, hj0, hcl, hcd, hva, ⟨σ, ρ, π, dx, d, t1, t2, nn, od, kvs, ls, rd, oR, kR, lR, pd, oP, kP, hM, iv, hln⟩, hSt⟩ := hJ; refine k__ ?_; clear k__ G__)
  (refine hide fun G__ k__ => ?_; obtain ⟨o1, hc1, hd1⟩ := hM.c1; refine k__ ?_; clear k__ G__)
  (refine hide fun G__ k__ => ?_; obtain ⟨o2, hc2, hd2⟩ := id hcl; refine k__ ?_; clear k__ G__)
  (refine hide fun G__ k__ => ?_; obtain ⟨o4, hc4, hd4⟩ := hM.c4; refine k__ ?_; clear k__ G__)
  rw [hj0.eqM] at C'
  obtain ⟨B', F', N', X', T', D', XB', TB'⟩ := C'; (try k_lift B'); (try k_fold)
  have hTm := hTn; have hGm := hGn
  refine cutN [_, _] hTm hGm ⟨B', F', N', X', T', D', XB', TB'⟩ (fun m n => ∃ f tf, f = vfault cd va c ∧ SameOff off9f (mFt (.int f tf) (.int de u1) (.int va u3) (.ref x) (.bool c)) m ∧ ∀ p ∈ n₁, p ∈ n) ?_ fun m₁ n₁ h₁ gn tk g₁ hJ hTn hGn C' => ?_
  · k_steps
  · (refine hide fun G__ k__ => ?_; obtain ⟨f, tf, hf, hj3, hs⟩ := hJ; refine k__ ?_; clear k__ G__)
    rw [hj3.eqM] at C'
    obtain ⟨B', F', N', X', T', D', XB', TB'⟩ := C'; (try k_lift B'); (try k_fold)
    have hTm := hTn; have hGm := hGn
    replace hM := hM.up hs
    replace hcl := hcl.up hs
    replace hSt := StL.up (g' := #[]) hSt hs
    replace hc1 := hs _ hc1
    replace hc2 := hs _ hc2
    replace hc4 := hs _ hc4
    refine cut hTm hGm ⟨B', F', N', X', T', D', XB', TB'⟩ (LT5 w c L' D I vs k i) ?_ fun m₁ n₁ h₁ gn tk g₁ hJ hTn hGn C' => wpAny_execs_nil (next _ _ _ _ _ _ hJ hTn hGn C')
    k_steps
    all_goals exact (by assumption : vfault _ _ _ ≠ _) hf.symm
theorem valueAt_look (kvs : List (Int × Value)) (k : Int) : valueAt kvs k = look kvs k := by
  induction kvs with
  | nil => rfl
  | cons p r ih => obtain ⟨a, v⟩ := p; rw [valueAt_cons, look_cons, ih]
theorem valueAt_get {kvs : List (Int × Value)} {i : Nat} {k : Int} {v : Value} (nd : (kvs.map (·.1)).Nodup) (h : kvs[i]? = some (k, v)) : valueAt kvs k = some v := by rw [valueAt_look]; exact look_get nd h
theorem item_val {w : World} {A : Around} {E : Value → Shared → Prop} {s : Shared} {h₀ : Heap} {L : Addr} {news : Led} {d : Addr} {od : Obj} {kvs : List (Int × Value)} {k : Int} {t : Tok} {value slice : Expr} {v : Value} {Q : Value → Shared → Prop} (N : News h₀ L s.heap news) (hm : (d, od) ∈ news) (hd : od.IsDictOf (intKind Challenge.rw_ix0031_01.row.prog w) kvs) (hv : valueAt kvs k = some v)
    (h : Q v { s with toks := s.toks + 1 }) (hsub : subscripted slice false (.ref d) (.int k t) = operate [.ref d, .int k t] (getItem (.ref d) (.int k t)) := by with_unfolding_all rfl) :
    wpAny (model Challenge.rw_ix0031_01.row.prog w) A (subscriptTail value slice (.ref d) (.int k t)) Q E s := by
  have hD := Heap.dictOf_iff.mpr ⟨od, (N _ hm).1, hd⟩
  exact tail_any hD.typeIs slot_dict_getitem.lookup (wpAny_getItem_of (intKind_is _ w k t) hD.mapOf hv h) hsub
section
variable {w : World} {c : Bool} {L x : Addr} {σ σ' ρ ρ' : Sgs} {π π' : List (Int × Int)} {dx d : Addr} {t1 t2 : Tok} {nn : Nat} {od : Obj} {kvs : List (Int × Value)} {ls : Led} {rd D : Addr} {oR oD : Obj} {kR kD : List (Int × Value)} {lR lD : Led} {pd pd' : Addr} {oP oP' : Obj} {kP kP' : List (Int × Value)} {n n1 n' : Led} {h₀ h : Heap} {F : Addr}
theorem LM.newRows (H : LM w c L x σ ρ π dx d t1 t2 nn od kvs ls rd oR kR lR pd oP kP n) (hs : ∀ p ∈ n, p ∈ n1) (hlt : ∀ p ∈ n, p.1 < D) (hD : DicL w D ρ' n1 oD kD lD) (hl : ∀ p ∈ lD, p ∈ lR) (hnc : NC n1 n') (hcl : CellIn (L + 1) (some (.ref D)) n') (hco : ∀ c' v', c' ≠ L + 1 → CellIn c' v' n1 → CellIn c' v' n') :
    LM w c L x σ ρ' π dx d t1 t2 nn od kvs ls D oD kD lD pd oP kP n' := by
  have ⟨a1, a2, a3, _, _, _⟩ := lt4 L
  refine ⟨(H.sets.mono hs).nc hnc, hD.nc hnc, (H.pls.mono hs).nc hnc, hcl, ?_, ?_, hco _ _ (Ne.symm a3) (H.c4.up hs), Nat.ne_of_gt (hlt _ H.sets.dic.body), H.gp, Nat.ne_of_gt (hlt _ H.pls.body), fun p hp => H.gl p (hl p hp)⟩
  · obtain ⟨v, q⟩ := H.c2; exact ⟨v, hco _ _ (Ne.symm a1) (q.up hs)⟩
  · obtain ⟨v, q⟩ := H.c3; exact ⟨v, hco _ _ (Ne.symm a2) (q.up hs)⟩
theorem DicL.without (H : DicL w rd ρ n oR kR lR) (k : Int) (hs : ∀ p ∈ n, p ∈ n1) (hm : (D, oD) ∈ n1) (hd : oD.IsDictOf (intKind Challenge.rw_ix0031_01.row.prog w) (PySem.without kR k)) (lo : (D == sysModules) = false) : ∃ lD, DicL w D (dropR ρ k) n1 oD (PySem.without kR k) lD ∧ ∀ p ∈ lD, p ∈ lR := by
  obtain ⟨lD, h1, h2, h3⟩ := H.lists.drop k
  refine ⟨lD, ⟨hm, hd, h1, fun p hp => hs _ (H.lsin p (h3 p hp)), lo, fun j row e => ?_, h2.nodup H.nd, ?_, fun j row e => ?_⟩, h3⟩
  · rw [look_drop] at e
    split at e
    · cases e
    · exact H.ne j row e
  · exact Nat.le_trans (drop_sub ρ k) H.fit.1
  · rw [look_drop] at e
    split at e
    · cases e
    · exact H.fit.2 j row e
end
theorem without_step {kR acc : List (Int × Value)} {i : Nat} {k kk : Int} {v : Value} (nd : (kR.map (·.1)).Nodup) (hk : kR[i]? = some (kk, v)) (h : acc = PySem.without (kR.take i) k) (hne : kk ≠ k) : stored acc kk v = PySem.without (kR.take (i + 1)) k := by
  have hn : kk ∉ acc.map (·.1) := by
    rw [h]
    intro q
    obtain ⟨p, hp, e⟩ := List.mem_map.mp q
    obtain ⟨j, hj, e'⟩ := List.mem_take_iff_getElem.mp (List.mem_filter.mp hp).1
    have hji : j < i := Nat.lt_of_lt_of_le hj (Nat.min_le_left _ _)
    have hil : i < kR.length := (List.getElem?_eq_some_iff.mp hk).1
    have hjl : j < kR.length := Nat.lt_trans hji hil
    have e1 : (kR.map (·.1))[j]'(by rw [List.length_map]; exact hjl) = (kR.map (·.1))[i]'(by rw [List.length_map]; exact hil) := by
      rw [List.getElem_map, List.getElem_map, e', (List.getElem?_eq_some_iff.mp hk).2]; exact e
    exact Nat.ne_of_lt hji ((List.getElem_inj nd).mp e1)
  rw [stored_new hn, take_snoc hk, h]
  unfold PySem.without
  rw [List.filter_append]
  congr 1
  rw [List.filter_cons, if_pos (decide_eq_true hne)]; rfl
theorem without_skip {kR acc : List (Int × Value)} {i : Nat} {k kk : Int} {v : Value} (hk : kR[i]? = some (kk, v)) (h : acc = PySem.without (kR.take i) k) (hne : kk = k) : acc = PySem.without (kR.take (i + 1)) k := by
  rw [take_snoc hk, h]
  unfold PySem.without
  rw [List.filter_append, List.filter_cons, if_neg (by simpa using hne)]
  simp
theorem drop_pushes {k : Int} {kR : List (Int × Value)} : (PySem.without kR k).length ≤ kR.length := List.length_filter_le _ _
theorem sub_keys {ls ls' : Led} (h : ∀ q ∈ ls', q ∈ ls) {a : Addr} (ha : a ∈ ls'.map (·.1)) : a ∈ ls.map (·.1) := by
  obtain ⟨p, hp, e⟩ := List.mem_map.mp ha
  exact List.mem_map.mpr ⟨p, h p hp, e⟩
theorem StL.keptD {w : World} {σ : Sgs} {d : Addr} {od : Obj} {kvs : List (Int × Value)} {ls : Led} {I l : Addr} {vs : List Value} {nn i : Nat} {n n' : Led} {g g' : Array GenState} {h₀ h : Heap} {F : Addr} (H : StL I l vs nn i n g) (N : News h₀ F h n) (S : DicL w d σ n od kvs ls) (hk : ∀ p ∈ n, p.1 ≠ d → p ∈ n') : StL I l vs nn i n' g' := by
  (refine hide fun G__ k__ => ?_; obtain ⟨oI, h1, h2, h3, h4⟩ := H; refine k__ ?_; clear k__ G__)
  (refine hide fun G__ k__ => ?_; obtain ⟨es, ep, hx, hd, _⟩ := S.isd; refine k__ ?_; clear k__ G__)
  exact ⟨oI, hk _ h1 (led_ne N h1 S.body fun e => by rw [← e, h3] at hd; cases hd), h2, h3, hk _ h4 (led_ne N h4 S.body fun e => by rw [← e] at hd; cases hd)⟩
theorem StL.keptS {w : World} {σ : Sgs} {d : Addr} {od : Obj} {kvs : List (Int × Value)} {ls : Led} {I l : Addr} {vs : List Value} {nn i : Nat} {n n' : Led} {g g' : Array GenState} {h₀ h : Heap} {F : Addr} (H : StL I l vs nn i n g) (N : News h₀ F h n) (S : DicL w d σ n od kvs ls) (hl : l ∉ ls.map (·.1)) (hk : ∀ p ∈ n, p.1 ≠ d → p.1 ∉ ls.map (·.1) → p ∈ n') : StL I l vs nn i n' g' := by
  (refine hide fun G__ k__ => ?_; obtain ⟨oI, h1, h2, h3, h4⟩ := H; refine k__ ?_; clear k__ G__)
  (refine hide fun G__ k__ => ?_; obtain ⟨es, ep, hx, hd, _⟩ := S.isd; refine k__ ?_; clear k__ G__)
  refine ⟨oI, hk _ h1 (led_ne N h1 S.body fun e => by rw [← e, h3] at hd; cases hd) (fun q => ?_), h2, h3, hk _ h4 (led_ne N h4 S.body fun e => by rw [← e] at hd; cases hd) hl⟩
  obtain ⟨r, hr, e⟩ := List.mem_map.mp q
  have e1 : (I, r.2) ∈ n := by rw [← (show r.1 = I from e)]; exact S.lsin r hr
  have e2 := led_eq N e1 h1
  (refine hide fun G__ k__ => ?_; obtain ⟨row, vs', c', e3, _⟩ := S.lists.objs hr; refine k__ ?_; clear k__ G__)
  rw [← e2, e3] at h2; exact absurd h2 (by unfold W.listOf; intro q; injection q with q; revert q; decide)
section
variable {w : World} {c : Bool} {L x : Addr} {σ σ' ρ ρ' : Sgs} {π π' : List (Int × Int)} {dx d : Addr} {t1 t2 : Tok} {nn : Nat} {od : Obj} {kvs : List (Int × Value)} {ls : Led} {rd D : Addr} {oR oD : Obj} {kR kD : List (Int × Value)} {lR lD : Led} {pd pd' : Addr} {oP oP' : Obj} {kP kP' : List (Int × Value)} {n n1 n' : Led} {h₀ h : Heap} {F : Addr}
theorem gone_out {b i : Nat} {k : Int} {v u : Value} {I : Addr} {vs : List Value} {kk : Nat} (N : News h₀ F h n) (H : LM w c L x σ ρ π dx d t1 t2 nn od kvs ls rd oR kR lR pd oP kP n) (hcl : CellIn (L + 1 + 1) (some u) n) (hSt : StL I D vs kk i n #[]) (iv : Inv b σ ρ π) (hln : D ∉ ls.map (·.1))
    (hR : (v = .bool true ∧ (∃ row, look σ k = some row) ∧ Dropped w x c (dropR σ k) n n' dx d t1 t2 nn ls) ∨ (v = .bool false ∧ look σ k = none ∧ ∀ p ∈ n, p ∈ n')) :
    ∃ g σ' od' kvs' ls', v = .bool g ∧ g = (look ρ k).isSome ∧ LM w c L x σ' ρ π dx d t1 t2 nn od' kvs' ls' rd oR kR lR pd oP kP n' ∧ Inv b σ' (dropR ρ k) π ∧ D ∉ ls'.map (·.1) ∧ CellIn (L + 1 + 1) (some u) n' ∧ StL I D vs kk i n' #[] := by
  rcases hR with ⟨rfl, ⟨row0, hrow⟩, od2, kvs2, ls2, hS2, hk2, hl2⟩ | ⟨rfl, hno, hs2⟩
  · exact ⟨true, _, _, _, _, rfl, by rw [← iv.same k, hrow]; rfl, H.moved N hS2 (fun p hp h1 h2 => hk2 p hp h1) (fun q hq => .inl (List.mem_map_of_mem (hl2 q hq))), iv.drop _, (fun q => hln (sub_keys hl2 q)), hcl.keep (fun p hp hc => let ⟨h1, h2⟩ := H.sets.dic.cellOff N p hp hc; hk2 p hp h1), StL.keptD (w := w) hSt N H.sets.dic hk2⟩
  · exact ⟨false, _, _, _, _, rfl, by rw [← iv.same k, hno]; rfl, H.up hs2, iv.dropNone hno, hln, hcl.up hs2, StL.up (g' := #[]) hSt hs2⟩
end
theorem words_T37 : True := by
  k_with "call ref" => (guard_hyp hT37; ((k_here; (with_reducible show wpAny _ _ (call (Value.ref 420) _ _) _ _ _); k_dflt (refine' Spec.use (c_gone _ _ _ _ _ _ _ _ _ _ _ _ _ hM.sets _ _) ?hA_i ?B_i ?F_i ?N_i ?X_i ?T_i ?D_i ?XB_i ?TB_i ?hf_i ?hke_i ?hdp_i ?hun_i (fun v n' h' gn' tk' g' hR kT kF kN kB kX₀ kP kD kX kG => ?_); (case F_i => k_asm); (case N_i => k_asm); skip; (case hA_i => exact rfl); (case B_i => k_asm); (case X_i => k_asm); (case T_i => k_asm); (case D_i => assumption); (case XB_i => assumption); (case TB_i => assumption); (case hf_i => exact rfl); (case hke_i => exact rfl); (case hdp_i => k_room); (case hun_i => k_units); (all_goals (try (have kT2 := KtsTurn.trans (by assumption) kT; clear kT))); (all_goals (try (have kG2 := GRel.trans (by assumption) kG; clear kG))); (refine hide fun G__ k__ => ?_; obtain ⟨gb, σ2, od2, kvs2, ls2, he, hgb, hM2, iv2, hln2, hcl2, hSt2⟩ := gone_out N' hM hcl hSt iv hln hR; refine k__ ?_; clear k__ G__); subst he; (refine hide fun G__ k__ => ?_; obtain ⟨o1', hc1', hd1'⟩ := hM2.c1; refine k__ ?_; clear k__ G__); (refine hide fun G__ k__ => ?_; obtain ⟨o2', hc2', hd2'⟩ := id hcl2; refine k__ ?_; clear k__ G__); have hR2 := hM2.rows; (try dsimp only); (try k_lift kB); (try k_fold)))))
  k_with "pyIter ref" => (guard_hyp hT37; ((k_here; k_dflt (refine' dict_keys ?T00_h ?G00_h ⟨?B_h, ?F_h, ?N_h, ?X_h, ?T_h, ?D_h, ?XB_h, ?TB_h⟩ rfl hM.rows.body hM.rows.isd hM.rows.low ?hc_h ?hk_h ?hx_h (fun i acc => acc = PySem.without (kR.take i) cd) ?h0_h ?yl_h (fun Cc i v acc oC mC n₂ h₁ tk gn g₁ hi hP hb2 hY hCc hNs hmx hTn hG C' E' => ?_) (fun Dn acc oD n₂ h₁ tk gn g₁ hb2 hlt2 lo' hY hDm hDd hTn hG C' => ?_); (case B_h => k_asm); (case F_h => k_asm); (case N_h => k_asm); (case X_h => k_asm); (case T_h => k_asm); (case D_h => assumption); (case XB_h => assumption); (case TB_h => assumption); (case T00_h => first | assumption | exact KtsTurn.refl); (case G00_h => first | assumption | exact GRel.refl _); (case hc_h => decide); (case hk_h => rfl); (case hx_h => rfl); (case h0_h => exact rfl); (case yl_h => exact fun i kvs h => by have e1 := hM.rows.klen; have e2 := List.length_take_le' i kR; have e3 := @drop_pushes cd (kR.take i); rw [h]; omega)); rotate_left; (obtain ⟨B', F', N', X', T', D', XB', TB'⟩ := C'; (try k_lift B'); (try k_fold)); rotate_right; (have hGr := GRel.refl gn; obtain ⟨kk, yy, tt, hkk, hvv⟩ := hP; subst hvv; have z1 := hb2 _ hc1; have z2 := hb2 _ hc2; have hM2 := hM.up hb2; obtain ⟨B', F', N', X', T', D', XB', TB'⟩ := C'; (try k_lift B'); (try k_fold); refine wpAny_tests_one ?_))))
  k_with "subscriptTail" => (guard_hyp hT37; ((k_here; k_dflt (refine' item_val ?N_m hM2.rows.body hM2.rows.isd (valueAt_get hM.rows.kvNd hkk) ?_ ?s_m; (case N_m => k_asm); (case s_m => with_unfolding_all rfl)))))
  k_with "storeName" => (guard_hyp hT37; ((k_here; (with_reducible show wpAny _ _ (storeName _ (PySem.Str.ofString "rows") _) _ _ _); k_dflt (refine' store_cell ?F_c ?N_c ?c_c (hM.c1.up hb2) ?k_c ?x_c (fun h' n' F' N' hnc hcl2 hco => ?_); (case x_c => rfl); (case F_c => k_asm); (case N_c => k_asm); (case c_c => rfl); (case k_c => rfl)))))
  k_with "@J" => (guard_hyp hT37; (k_dflt (first | exact ⟨rfl, fun p hp => hp, GRel.refl _⟩ | exact ⟨_, _, _, _, SameOff.eqs hj0, hM2, iv2, hln2, hcl2, hSt2⟩ | (have hY2 : _ = PySem.without _ _ := hY; rw [List.take_length] at hY2; subst hY2; (refine hide fun G__ k__ => ?_; obtain ⟨lD, hD2, hsubD⟩ := hM.rows.without cd hb2 hDm hDd lo'; refine k__ ?_; clear k__ G__); exact ⟨x, cd, u2, mT_K (SameOff.eqs hj0), hco _ _ (Ne.symm (lt4 L').1) (hcl.up hb2), hcd, ⟨_, _, _, _, _, _, _, _, _, _, _, _, _, _, _, _, _, _, hM.newRows hb2 hlt2 hD2 hsubD hnc hcl2 hco, iv.le (Nat.le_succ i), hln⟩, StL.nc (g' := #[]) (StL.up (g' := #[]) hSt hb2) hnc⟩))))
  trivial
set_option maxRecDepth 100000 in
set_option maxHeartbeats 40000000 in
theorem c_gon (w : World) (dp un : Nat) (gd : Option (List Code)) (outer : List Env) (base : Heap) (loose : List Str) (mean : ExcName → Option Value) (mg mb : Str → Option Value) (o : Obj) (ho : (hd.heap_39 w.params).lookup 437 = some o) (L' : Addr) (h00 : Heap) (g00 : Array GenState) (s : Shared) (Q : Flow → Shared → Prop) (E : Value → Shared → Prop) (hdp : dp + 100 < recursionLimit) (hun : un + 1000 < cLine) (c : Bool) (D I : Addr) (vs : List Value) (k i : Nat) (hi : i < 14) (next : FinN w { handled := none, depth := dp, frames := some outer, guards := gd, units := un } base outer loose mean mg mb h00 g00 L' s Q (LT5 w c L' D I vs k i)) : Go w { handled := none, depth := dp, frames := some outer, guards := gd, units := un } base outer loose mean mg mb h00 g00 L' s Q E (lawE o L') (inIf (inElse (inElse (nthS 4 (inFor (nthS 9 (obS o))))))) (LT4 w c L' D I vs k i) := by
  have hT37 := trivial; have g1 := trivial; have g2 := trivial; have g4 := trivial; have g6 := trivial; have g7 := trivial; have g8 := trivial
  intro m₁ n₁ h₁ gn tk g₁ hJ hTn hGn C'
  have X := C'.X
  have kfl : Challenge.rw_ix0031_01.row = Challenge.rw_ix0031_01.row := rfl
  revert kfl X ho
  k_fill
  intro ho X kfl
  obtain rfl := lookE ho (by k_is)
  clear X ho
  dsimp only [obS, obSc, obCd, lawN, lawE, nthS, inFor, inIf, inElse, List.drop, List.take]
  (refine hide fun G__ k__ => ?_; obtain ⟨x, de, cd, va, u1, u2, u3, hj0, hcl, hcd, hva, ⟨σ, ρ, π, dx, d, t1, t2, nn, od, kvs, ls, rd, oR, kR, lR, pd, oP, kP, hM, iv, hln⟩, hSt⟩ := hJ; refine k__ ?_; clear k__ G__)
  (refine hide fun G__ k__ => ?_; obtain ⟨o1, hc1, hd1⟩ := hM.c1; refine k__ ?_; clear k__ G__)
  (refine hide fun G__ k__ => ?_; obtain ⟨o2, hc2, hd2⟩ := id hcl; refine k__ ?_; clear k__ G__)
  (refine hide fun G__ k__ => ?_; obtain ⟨o4, hc4, hd4⟩ := hM.c4; refine k__ ?_; clear k__ G__)
  rw [hj0.eqM] at C'
  obtain ⟨B', F', N', X', T', D', XB', TB'⟩ := C'; (try k_lift B'); (try k_fold)
  have hTm := hTn; have hGm := hGn
  refine cut hTm hGm ⟨B', F', N', X', T', D', XB', TB'⟩ (fun m n => ∃ σ' od kvs ls', SameOff off9t (mT (.int de u1) (.int va u3) (.ref x) (.bool c)) m ∧ LM w c L' x σ' ρ π dx d t1 t2 nn od kvs ls' rd oR kR lR pd oP kP n ∧ Inv i σ' (dropR ρ cd) π ∧ D ∉ ls'.map (·.1) ∧ CellIn (L' + 1 + 1) (some (.int cd u2)) n ∧ StL I D vs k (i + 1) n #[]) ?_ fun m₁ n₁ h₁ gn tk g₁ hJ hTn hGn C' => ?_
  · k_steps
    all_goals (rename look ρ cd = _ => hq9; rw [hq9] at hgb; simp_all)
  · (refine hide fun G__ k__ => ?_; obtain ⟨σ, od, kvs, ls, hj0, hM, iv, hln, hcl, hSt⟩ := hJ; refine k__ ?_; clear k__ G__)
    (refine hide fun G__ k__ => ?_; obtain ⟨o1, hc1, hd1⟩ := hM.c1; refine k__ ?_; clear k__ G__)
    (refine hide fun G__ k__ => ?_; obtain ⟨o2, hc2, hd2⟩ := id hcl; refine k__ ?_; clear k__ G__)
    rw [hj0.eqM] at C'
    obtain ⟨B', F', N', X', T', D', XB', TB'⟩ := C'; (try k_lift B'); (try k_fold)
    have hTm := hTn; have hGm := hGn
    refine cut hTm hGm ⟨B', F', N', X', T', D', XB', TB'⟩ (LT5 w c L' D I vs k i) ?_ fun m₁ n₁ h₁ gn tk g₁ hJ hTn hGn C' => wpAny_execs_nil (next _ _ _ _ _ _ hJ hTn hGn C')
    k_steps
    · exact without_step hM.rows.kvNd hkk hY (by assumption)
    · exact without_skip hkk hY (by assumption)
theorem c_put (w : World) (news : Led) (x dx d : Addr) (c : Bool) (σ : Sgs) (t1 t2 : Tok) (n : Nat) (od : Obj) (kvs : List (Int × Value)) (ls : Led) (H : SetL w x c σ news dx d t1 t2 n od kvs ls) (k v : Int) (tk tv : Tok) (hkb : k.natAbs < 2 ^ 60) (hvb : v.natAbs < 2 ^ 60) (hfit : Fit (putR σ k (newRow σ k v))) (b : Bool) :
    Spec w (.ref 385) [.ref x, .int k tk, .int v tv, .bool b] [] 14 news (fun v' n' => (∃ t, v' = .int (fault k v) t) ∧ ((fault k v = 0 ∧ Stored w x c (putR σ k (newRow σ k v)) news n' dx d t1 t2 n ls) ∨ (fault k v ≠ 0 ∧ ∀ p ∈ news, p ∈ n'))) := by
  cases b with
  | false => exact c_put_false w news x dx d c σ t1 t2 n od kvs ls H k v tk tv hkb hvb hfit
  | true => exact c_put_true w news x dx d c σ t1 t2 n od kvs ls H k v tk tv hkb hvb hfit
section
variable {w : World} {c : Bool} {L x : Addr} {σ σ' ρ ρ' : Sgs} {π π' : List (Int × Int)} {dx d : Addr} {t1 t2 : Tok} {nn : Nat} {od : Obj} {kvs : List (Int × Value)} {ls : Led} {rd D a : Addr} {oR oD oR' : Obj} {kR kD kR' : List (Int × Value)} {lR lD lR' : Led} {pd pd' : Addr} {oP oP' : Obj} {kP kP' : List (Int × Value)} {n n1 n' : Led} {h₀ h : Heap} {F : Addr}
theorem no_strdict {o : Obj} {K : List (Int × Value)} {e : DictEntry} {es : List DictEntry} {q : Nat} {y : Str} {u : Tok} (hd : o.IsDictOf (intKind Challenge.rw_ix0031_01.row.prog w) K) (he : o = dictOf (e :: es) q) (hk : e.key = .str y u) : False := by
  (refine hide fun G__ k__ => ?_; obtain ⟨es', ep, hx, hd, hks, _⟩ := hd; refine k__ ?_; clear k__ G__)
  subst he
  cases hd
  (refine hide fun G__ k__ => ?_; obtain ⟨k, h1, _⟩ := hks e (by simp); refine k__ ?_; clear k__ G__)
  rw [hk] at h1
  cases h1
theorem cellDict (N : News h₀ F h n) {o : Obj} {K : List (Int × Value)} (hm : (a, o) ∈ n) (hd : o.IsDictOf (intKind Challenge.rw_ix0031_01.row.prog w) K) (p : Addr × Obj) (hp : p ∈ n) (hc : notCell p.2 = false) : p.1 ≠ a := by
  (refine hide fun G__ k__ => ?_; obtain ⟨es, ep, hx, hd, _⟩ := hd; refine k__ ?_; clear k__ G__)
  exact led_ne N hp hm fun e => by rw [e] at hc; unfold notCell at hc; rw [hd] at hc; cases hc
theorem DicL.off (N : News h₀ F h n) (H : DicL w d σ n od kvs ls) {o : Obj} {K : List (Int × Value)} (hm : (a, o) ∈ n) (hd : o.IsDictOf (intKind Challenge.rw_ix0031_01.row.prog w) K) (hne : d ≠ a) (hk : ∀ q ∈ n, q.1 ≠ a → q ∈ n') : DicL w d σ n' od kvs ls :=
  ⟨hk _ H.body hne, H.isd, H.lists, fun p hp => hk _ (H.lsin p hp) (fun e => H.dictOff N hm hd (e ▸ List.mem_map_of_mem hp)), H.low, H.ne, H.nd, H.fit⟩
theorem SetL.off (N : News h₀ F h n) (H : SetL w x c σ n dx d t1 t2 nn od kvs ls) {o : Obj} {K : List (Int × Value)} (hm : (a, o) ∈ n) (hd : o.IsDictOf (intKind Challenge.rw_ix0031_01.row.prog w) K) (hne : d ≠ a) (hk : ∀ q ∈ n, q.1 ≠ a → q ∈ n') : SetL w x c σ n' dx d t1 t2 nn od kvs ls := by
  refine ⟨hk _ H.inst ?_, hk _ H.dict ?_, H.sep, H.dic.off N hm hd hne hk⟩
  · (refine hide fun G__ k__ => ?_; obtain ⟨es, ep, hx, hd, _⟩ := hd; refine k__ ?_; clear k__ G__)
    exact led_ne N H.inst hm fun e => by rw [← e] at hd; cases hd
  · intro e
    subst e
    exact no_strdict hd (led_eq N hm H.dict) rfl
theorem LM.rowput (N : News h₀ F h n) (H : LM w c L x σ ρ π dx d t1 t2 nn od kvs ls rd oR kR lR pd oP kP n) (hD : DicL w rd ρ' n' oR' kR' lR') (hk : ∀ q ∈ n, q.1 ≠ rd → q ∈ n') (hl : ∀ q ∈ lR', q.1 = a ∨ q ∈ lR) (ha : a ∉ ls.map (·.1)) : LM w c L x σ ρ' π dx d t1 t2 nn od kvs ls rd oR' kR' lR' pd oP kP n' := by
  have cell : ∀ p ∈ n, notCell p.2 = false → p ∈ n' := fun p hp hc => hk p hp (cellDict N H.rows.body H.rows.isd p hp hc)
  refine ⟨H.sets.off N H.rows.body H.rows.isd (Ne.symm H.gr) hk, hD, ⟨hk _ H.pls.body (Ne.symm H.rp), H.pls.isd, H.pls.nums, H.pls.low⟩, H.c1.keep cell, H.c2.keep cell, H.c3.keep cell, H.c4.keep cell, H.gr, H.gp, H.rp, fun p hp => ?_⟩
  rcases hl p hp with e | e
  · rw [e]; exact ha
  · exact H.gl p e
theorem LM.plput (N : News h₀ F h n) (H : LM w c L x σ ρ π dx d t1 t2 nn od kvs ls rd oR kR lR pd oP kP n) (hD : DicI w pd π' n' oP' kP') (hk : ∀ q ∈ n, q.1 ≠ pd → q ∈ n') : LM w c L x σ ρ π' dx d t1 t2 nn od kvs ls rd oR kR lR pd oP' kP' n' := by
  have cell : ∀ p ∈ n, notCell p.2 = false → p ∈ n' := fun p hp hc => hk p hp (cellDict N H.pls.body H.pls.isd p hp hc)
  exact ⟨H.sets.off N H.pls.body H.pls.isd (Ne.symm H.gp) hk, H.rows.off N H.pls.body H.pls.isd H.rp hk, hD, H.c1.keep cell, H.c2.keep cell, H.c3.keep cell, H.c4.keep cell, H.gr, H.gp, H.rp, H.gl⟩
theorem put_out {i : Nat} {k v' : Int} {v u : Value} {I : Addr} {vs : List Value} {kk : Nat} (N : News h₀ F h n) (H : LM w c L x σ ρ π dx d t1 t2 nn od kvs ls rd oR kR lR pd oP kP n) (hcl : CellIn (L + 1 + 1) (some u) n) (hSt : StL I D vs kk i n #[]) (hln : D ∉ ls.map (·.1))
    (hR : (∃ t, v = .int (fault k v') t) ∧ ((fault k v' = 0 ∧ Stored w x c (putR σ k (newRow σ k v')) n n' dx d t1 t2 nn ls) ∨ (fault k v' ≠ 0 ∧ ∀ p ∈ n, p ∈ n'))) :
    ∃ t σ' od' kvs' ls', v = .int (fault k v') t ∧ σ' = (if fault k v' = 0 then putR σ k (newRow σ k v') else σ) ∧ LM w c L x σ' ρ π dx d t1 t2 nn od' kvs' ls' rd oR kR lR pd oP kP n' ∧ D ∉ ls'.map (·.1) ∧ CellIn (L + 1 + 1) (some u) n' ∧ StL I D vs kk i n' #[] := by
  obtain ⟨⟨t, rfl⟩, ⟨hz, hS⟩ | ⟨hz, hs⟩⟩ := hR
  · (refine hide fun G__ k__ => ?_; obtain ⟨od', kvs', ls', h1, h2, h3⟩ := hS; refine k__ ?_; clear k__ G__)
    refine ⟨t, _, od', kvs', ls', rfl, (if_pos hz).symm, H.moved N h1 h2 h3, fun q => ?_, hcl.keep fun p hp hc => let ⟨a1, a2⟩ := H.sets.dic.cellOff N p hp hc; h2 p hp a1 a2, hSt.keptS N H.sets.dic hln h2⟩
    (refine hide fun G__ k__ => ?_; obtain ⟨r, hr, e⟩ := List.mem_map.mp q; refine k__ ?_; clear k__ G__)
    rcases h3 r hr with z | z
    · exact hln (e ▸ z)
    · (refine hide fun G__ k__ => ?_; obtain ⟨_, _, _, _, hm⟩ := hSt; refine k__ ?_; clear k__ G__)
      exact Nat.lt_irrefl _ (Nat.lt_of_lt_of_le (z _ hm) (Nat.le_of_eq e))
  · exact ⟨t, _, od, kvs, ls, rfl, (if_neg hz).symm, H.up hs, hln, hcl.up hs, StL.up (g' := #[]) hSt hs⟩
end
section
variable {b : Nat} {σ ρ : Sgs} {π : List (Int × Int)} {k v : Int} {row : Row}
theorem Inv.put0 (H : Inv b σ ρ π) (hk : k ∈ codes) (hv : Val k v) (hq : look ρ k = none) : Inv (b + 1) (putR σ k (newRow σ k v)) (putR (putR ρ k [none]) k ([none] ++ [some v])) (putR π k 0) := by
  have h := H.put hk hv
  unfold rowIn plIn at h
  rw [hq] at h
  rw [put_put]; exact h
theorem Inv.put1 (H : Inv b σ ρ π) (hk : k ∈ codes) (hv : Val k v) (hq : look ρ k = some row) : Inv (b + 1) (putR σ k (newRow σ k v)) (putR ρ k (row ++ [some v])) π := by
  have h := H.put hk hv
  unfold rowIn plIn at h
  rw [hq] at h
  exact h
end
theorem words_T38 : True := by
  k_with "call ref" => (guard_hyp hT38; ((k_here; (with_reducible show wpAny _ _ (call (Value.ref 385) _ _) _ _ _); k_dflt (refine' Spec.use (c_put _ _ _ _ _ _ _ _ _ _ _ _ _ hM.sets _ _ _ _ ?hk_i ?hv_i ?hft_i _) ?hA_i ?B_i ?F_i ?N_i ?X_i ?T_i ?D_i ?XB_i ?TB_i ?hf_i ?hke_i ?hdp_i ?hun_i (fun v n' h' gn' tk' g' hR kT kF kN kB kX₀ kP kD kX kG => ?_); (case F_i => k_asm); (case N_i => k_asm); (case hk_i => exact codes_small _ hcd); (case hv_i => assumption); (case hft_i => exact iv.fit (by omega) _ _); (case hA_i => exact rfl); (case B_i => k_asm); (case X_i => k_asm); (case T_i => k_asm); (case D_i => assumption); (case XB_i => assumption); (case TB_i => assumption); (case hf_i => exact rfl); (case hke_i => exact rfl); (case hdp_i => k_room); (case hun_i => k_units); (all_goals (try (have kT2 := KtsTurn.trans (by assumption) kT; clear kT))); (all_goals (try (have kG2 := GRel.trans (by assumption) kG; clear kG))); (refine hide fun G__ k__ => ?_; obtain ⟨tq, σ2, od2, kvs2, ls2, he, hσ2, hM2, hln2, hcl2, hSt2⟩ := put_out N' hM hcl hSt hln hR; refine k__ ?_; clear k__ G__); subst he; (refine hide fun G__ k__ => ?_; obtain ⟨o1', hc1', hd1'⟩ := hM2.c1; refine k__ ?_; clear k__ G__); (refine hide fun G__ k__ => ?_; obtain ⟨o2', hc2', hd2'⟩ := id hcl2; refine k__ ?_; clear k__ G__); (try dsimp only); (try k_lift kB); (try k_fold)))))
  k_with "compareOp NotIn int ref" => (guard_hyp hT38; ((k_here; (refine' notin_rows ?k1_u hM.rows (fun hq => ?_) (fun row hq => ?_); (case k1_u => k_asm)); rotate_left; (have hMx := hM; have hlx := hq; have hclx := hcl; have hStx := hSt; have hfx : Fit (putR ρ cd (row ++ [some va])) := iv.fitR (by omega) _ (by have hz := iv.len _ _ hq; rw [List.length_append, List.length_singleton]; omega)); rotate_right)))
  k_with "setItem ref int ref" => (guard_hyp hT38; ((k_here; rename News _ _ _ _ => hNo; have hMu := hM.up (fun p hp => List.Mem.tail (l', W.listOf (List.toArray [Value.none]) 0) hp); k_dflt (refine' store_rowD ?F_h hNo hMu.rows ?hm_h ?hr_h ?hne_h ?hna_h ?hfit_h (fun h' n' od' kvs' ls3 F' N' hD' hk' hl' => ?_); (case F_h => k_asm); (case hm_h => exact .head _); (case hr_h => exact .cons .none .nil); (case hne_h => exact List.cons_ne_nil _ _); (case hna_h => exact fresh_row hM.rows (by assumption)); (case hfit_h => exact iv.fitR (by omega) _ (Nat.le_of_ble_eq_true rfl))); (try dsimp only); have hMx1 := LM.rowput hNo hMu hD' hk' hl' (fresh_row hM.sets.dic (by assumption)); have hclx1 := (hcl.up (fun p hp => List.Mem.tail (l', W.listOf (List.toArray [Value.none]) 0) hp)).keep (fun p hp hc => hk' p hp (cellDict hNo hMu.rows.body hMu.rows.isd p hp hc)); have hStx1 := StL.put (g' := #[]) (StL.up (g' := #[]) hSt (fun p hp => List.Mem.tail (l', W.listOf (List.toArray [Value.none]) 0) hp)) hNo hMu.rows.body hMu.rows.isd hk'; (refine hide fun G__ k__ => ?_; obtain ⟨o1', hc1', hd1'⟩ := hMx1.c1; refine k__ ?_; clear k__ G__); (refine hide fun G__ k__ => ?_; obtain ⟨o2', hc2', hd2'⟩ := id hclx1; refine k__ ?_; clear k__ G__); (refine hide fun G__ k__ => ?_; obtain ⟨o4', hc4', hd4'⟩ := hMx1.c4; refine k__ ?_; clear k__ G__))))
  k_with "setItem ref int int" => (guard_hyp hT38; ((k_here; rename News _ _ _ _ => hNo; k_dflt (refine' store_int ?F_m hNo hMx1.pls ?len_m (fun h' n' od' kvs' F' N' hD' hk' => ?_); (case F_m => k_asm); (case len_m => (have hlz := iv.pl; omega))); (try dsimp only); have hMx := LM.plput hNo hMx1 hD' hk'; have hclx := hclx1.keep (fun p hp hc => hk' p hp (cellDict hNo hMx1.pls.body hMx1.pls.isd p hp hc)); have hStx := StL.put (g' := #[]) hStx1 hNo hMx1.pls.body hMx1.pls.isd hk'; have hlx : look (putR ρ cd [none]) cd = some [none] := (by rw [look_put, if_pos rfl]); have hfx : Fit (putR (putR ρ cd [none]) cd ([none] ++ [some va])) := (by rw [put_put]; exact iv.fitR (by omega) _ (Nat.le_of_ble_eq_true rfl)); (refine hide fun G__ k__ => ?_; obtain ⟨o1', hc1', hd1'⟩ := hMx.c1; refine k__ ?_; clear k__ G__); (refine hide fun G__ k__ => ?_; obtain ⟨o2', hc2', hd2'⟩ := id hclx; refine k__ ?_; clear k__ G__); (refine hide fun G__ k__ => ?_; obtain ⟨o4', hc4', hd4'⟩ := hMx.c4; refine k__ ?_; clear k__ G__))))
  k_with "subscriptTail" => (guard_hyp hT38; ((k_here; (refine hide fun G__ k__ => ?_; obtain ⟨ax, ox, ex, mx, its, nx, rfl, hrv⟩ := hMx.rows.lists.look_some hlx; refine k__ ?_; clear k__ G__); have hmx2 := hMx.rows.lsin _ mx; have hlen2 := hMx.rows.len_at hlx hrv; k_dflt (refine' item_val ?N_c hMx.rows.body hMx.rows.isd ex ?_ ?s_c; (case N_c => k_asm); (case s_c => with_unfolding_all rfl)); (try dsimp only))))
  k_with "binaryOp Add ref ref" => (guard_hyp hT38; ((k_here; k_dflt (refine' kmk_add_lit ?F_w ?N_w ?a_w ?b_w rfl (fun Da h' F' N' l1 => ?_) ?z_w; (case F_w => k_asm); (case N_w => k_asm); (case a_w => exact News.isList (by k_asm) (by k_mem)); (case b_w => exact News.isList (by k_asm) (by k_mem)); (case z_w => (simp only [sizeLine_eq, List.length_cons, List.length_nil]; omega))); (try dsimp only))))
  k_with "setItem ref int ref" => (guard_hyp hT38; ((k_here; have hMu := hMx.up (fun p hp => List.Mem.tail (Da, W.listOf (List.toArray (its ++ [Value.int va u3])) 0) (List.Mem.tail (l', W.listOf (List.toArray [Value.int va u3]) 0) hp)); k_dflt (refine' store_rowD ?F_k ?N_k hMu.rows ?hm_k (hrv.snoc .int) ?hne_k ?hna_k ?hfit_k (fun h' n' od' kvs' ls3 F' N' hD' hk' hl' => ?_); (case F_k => k_asm); (case N_k => k_asm); (case hm_k => exact .head _); (case hne_k => simp); (case hna_k => exact fresh_row hMx.rows (fun p hp => l1 p (.tail _ hp))); (case hfit_k => exact hfx)); have hMy := LM.rowput (by assumption) hMu hD' hk' hl' (fresh_row hMx.sets.dic (fun p hp => l1 p (.tail _ hp))); have hcly := (hclx.up (fun p hp => List.Mem.tail (Da, W.listOf (List.toArray (its ++ [Value.int va u3])) 0) (List.Mem.tail (l', W.listOf (List.toArray [Value.int va u3]) 0) hp))).keep (fun p hp hc => hk' p hp (cellDict (by assumption) hMu.rows.body hMu.rows.isd p hp hc)); have hSty := StL.put (g' := #[]) (StL.up (g' := #[]) hStx (fun p hp => List.Mem.tail (Da, W.listOf (List.toArray (its ++ [Value.int va u3])) 0) (List.Mem.tail (l', W.listOf (List.toArray [Value.int va u3]) 0) hp))) (by assumption) hMu.rows.body hMu.rows.isd hk')))
  k_with "@J" => (guard_hyp hT38; (k_dflt (first | exact ⟨_, _, _, _, _, _, hfr, (by rw [hfr]; exact hσ2), mF_of (SameOff.eqs hj0), hM2, hln2, hcl2, hSt2⟩ | (have hz0 : f = 0 := (by assumption); rw [if_pos hz0] at hσ; rw [hσ] at hMy; exact ⟨x, cd, u2, mF_K (SameOff.eqs hj3), hcly, hcd, ⟨_, _, _, _, _, _, _, _, _, _, _, _, _, _, _, _, _, _, hMy, (by first | exact iv.put0 hcd ⟨hva, hf.symm.trans hz0⟩ hq | exact iv.put1 hcd ⟨hva, hf.symm.trans hz0⟩ hq), hln⟩, hSty⟩) | (have hz0 : f ≠ 0 := (by assumption); rw [if_neg hz0] at hσ; rw [hσ] at hM; exact ⟨x, cd, u2, mF_K (SameOff.eqs hj3), hcl, hcd, ⟨_, _, _, _, _, _, _, _, _, _, _, _, _, _, _, _, _, _, hM, iv.le (Nat.le_succ i), hln⟩, hSt⟩))))
  trivial
set_option maxRecDepth 100000 in
set_option maxHeartbeats 40000000 in
theorem c_puts (w : World) (dp un : Nat) (gd : Option (List Code)) (outer : List Env) (base : Heap) (loose : List Str) (mean : ExcName → Option Value) (mg mb : Str → Option Value) (o : Obj) (ho : (hd.heap_39 w.params).lookup 437 = some o) (L' : Addr) (h00 : Heap) (g00 : Array GenState) (s : Shared) (Q : Flow → Shared → Prop) (E : Value → Shared → Prop) (hdp : dp + 100 < recursionLimit) (hun : un + 1000 < cLine) (c : Bool) (D I : Addr) (vs : List Value) (k i : Nat) (hi : i < 14) (next : FinN w { handled := none, depth := dp, frames := some outer, guards := gd, units := un } base outer loose mean mg mb h00 g00 L' s Q (LT5 w c L' D I vs k i)) : Go w { handled := none, depth := dp, frames := some outer, guards := gd, units := un } base outer loose mean mg mb h00 g00 L' s Q E (lawE o L') (inIf (nthS 4 (inFor (nthS 9 (obS o))))) (LT4 w c L' D I vs k i) := by
  have hT38 := trivial; have g1 := trivial; have g2 := trivial; have g4 := trivial; have g6 := trivial; have g7 := trivial; have g8 := trivial
  intro m₁ n₁ h₁ gn tk g₁ hJ hTn hGn C'
  have X := C'.X
  have kfl : Challenge.rw_ix0031_01.row = Challenge.rw_ix0031_01.row := rfl
  revert kfl X ho
  k_fill
  intro ho X kfl
  obtain rfl := lookE ho (by k_is)
  clear X ho
  dsimp only [obS, obSc, obCd, lawN, lawE, nthS, inFor, inIf, inElse, List.drop, List.take]
  (refine hide fun G__ k__ => ?_; obtain ⟨x, de, cd, va, u1, u2, u3, hj0, hcl, hcd, hva, ⟨σ, ρ, π, dx, d, t1, t2, nn, od, kvs, ls, rd, oR, kR, lR, pd, oP, kP, hM, iv, hln⟩, hSt⟩ := hJ; refine k__ ?_; clear k__ G__)
  (refine hide fun G__ k__ => ?_; obtain ⟨o1, hc1, hd1⟩ := hM.c1; refine k__ ?_; clear k__ G__)
  (refine hide fun G__ k__ => ?_; obtain ⟨o2, hc2, hd2⟩ := id hcl; refine k__ ?_; clear k__ G__)
  (refine hide fun G__ k__ => ?_; obtain ⟨o4, hc4, hd4⟩ := hM.c4; refine k__ ?_; clear k__ G__)
  rw [hj0.eqM] at C'
  obtain ⟨B', F', N', X', T', D', XB', TB'⟩ := C'; (try k_lift B'); (try k_fold)
  have hTm := hTn; have hGm := hGn
  refine cutN [_, _] hTm hGm ⟨B', F', N', X', T', D', XB', TB'⟩ (fun m n => ∃ f tf σ' od kvs ls', f = fault cd va ∧ σ' = (if f = 0 then putR σ cd (newRow σ cd va) else σ) ∧ SameOff off9f (mFt (.int f tf) (.int de u1) (.int va u3) (.ref x) (.bool c)) m ∧ LM w c L' x σ' ρ π dx d t1 t2 nn od kvs ls' rd oR kR lR pd oP kP n ∧ D ∉ ls'.map (·.1) ∧ CellIn (L' + 1 + 1) (some (.int cd u2)) n ∧ StL I D vs k (i + 1) n #[]) ?_ fun m₁ n₁ h₁ gn tk g₁ hJ hTn hGn C' => ?_
  · k_steps
    all_goals exact absurd hfr.symm (by assumption)
  · (refine hide fun G__ k__ => ?_; obtain ⟨f, tf, σ', od, kvs, ls, hf, hσ, hj3, hM, hln, hcl, hSt⟩ := hJ; refine k__ ?_; clear k__ G__)
    (refine hide fun G__ k__ => ?_; obtain ⟨o1, hc1, hd1⟩ := hM.c1; refine k__ ?_; clear k__ G__)
    (refine hide fun G__ k__ => ?_; obtain ⟨o2, hc2, hd2⟩ := id hcl; refine k__ ?_; clear k__ G__)
    (refine hide fun G__ k__ => ?_; obtain ⟨o4, hc4, hd4⟩ := hM.c4; refine k__ ?_; clear k__ G__)
    rw [hj3.eqM] at C'
    obtain ⟨B', F', N', X', T', D', XB', TB'⟩ := C'; (try k_lift B'); (try k_fold)
    have hTm := hTn; have hGm := hGn
    refine cut hTm hGm ⟨B', F', N', X', T', D', XB', TB'⟩ (LT5 w c L' D I vs k i) ?_ fun m₁ n₁ h₁ gn tk g₁ hJ hTn hGn C' => wpAny_execs_nil (next _ _ _ _ _ _ hJ hTn hGn C')
    k_steps
section
variable {prog : Program} {w : World} {A : Around} {E : Value → Shared → Prop} {s : Shared} {h₀ : Heap} {L D : Addr} {m : Str → Option Value} {news : Led} {vs : List Value} {ns : List Int} {n : Nat} {Q : Value → Shared → Prop}
theorem sort_led (F : Fr h₀ L s.heap m) (N : News h₀ L s.heap ((D, W.listOf vs.toArray n) :: news)) (hlt : ∀ q ∈ news, q.1 < D) (hi : IntsV ns vs) (h64 : vs.length < 64)
    (h : ∀ vs' ns' e h', Fr h₀ L h' m → News h₀ L h' ((D, W.listOf (List.toArray vs') e) :: news) → IntsV ns' vs' → ns'.Perm ns → ns'.Pairwise (· ≤ ·) → Q .none { s with heap := h' }) :
    wpAny (model prog w) A (call (.builtin "list.sort") [.ref D]) Q E s := by
  have z := N _ (.head _)
  have ho : s.heap.get? D = some (seqObj "list" vs.toArray n) := z.1
  refine wpAny_call_entry PyProof.Rows.slot_list_sort ⟨_, z.1, rfl⟩ PyProof.Rows.entry_list_sort (list_sort_tree (n := n) (vs := vs) ho hi.are h64 fun out ns' hI hp hP => ⟨.none, rfl, ?_⟩) (PyProof.Rows.args_list_sort _)
  obtain ⟨e, he⟩ := sortedHeap_at (out := out) ho
  have keep : ∀ b o, s.heap.get? b = some o → b ≠ D → (sortedHeap s.heap D vs out).get? b = some o := fun b o hb hne => by rw [sortedHeap_old hne (Heap.lt_size hb)]; exact hb
  have F' : Fr h₀ L (sortedHeap s.heap D vs out) m := by
    (refine hide fun G__ k__ => ?_; obtain ⟨oL, a1, a2, hL, a3⟩ := F.ns; refine k__ ?_; clear k__ G__)
    exact ⟨⟨oL, a1, a2, keep _ _ hL (Ne.symm z.2.1), a3⟩, fun b o hb => keep b o (F.keep b o hb) fun q => (by rw [q, z.2.2] at hb; cases hb), F.above⟩
  refine h out.toList ns' e _ F' (fun p hp => ?_) (.of hI) hp hP
  rcases List.mem_cons.mp hp with rfl | hp
  · exact ⟨by rw [Array.toArray_toList]; exact he, z.2⟩
  · have y := N p (.tail _ hp)
    exact ⟨keep _ _ y.1 (Nat.ne_of_lt (hlt p hp)), y.2⟩
theorem sorted_keys {d : Addr} {od : Obj} {kvs : List (Int × Value)} (F : Fr h₀ L s.heap m) (N : News h₀ L s.heap news) (hh : A.handled = none) (hm : (d, od) ∈ news) (hd : od.IsDictOf (intKind prog w) kvs) (lo : (d == sysModules) = false) (h64 : kvs.length < 64)
    (h : ∀ D vs' ns' c h' tk, Fr h₀ L h' m → News h₀ L h' ((D, W.listOf (List.toArray vs') c) :: news) → (∀ q ∈ news, q.1 < D) → IntsV ns' vs' → ns'.Perm (kvs.map (·.1)) → ns'.Pairwise (· ≤ ·) → Q (.ref D) { s with heap := h', toks := tk }) :
    wpAny (model prog w) A (call (.builtin "sorted") [.ref d]) Q E s := by
  obtain ⟨ep, hat⟩ := (Heap.dictOf_iff.mpr ⟨od, (N _ hm).1, hd⟩).dictAt
  refine kdu_sorted (kdl_dict (knd := intKind prog w) (kvs := kvs) (ep := ep) lo) hh F N hat (by rw [sizeLine_eq]; omega) fun D h' tk vs F' N' l1 hl hv => ?_
  have hi : IntsV (kvs.map (·.1)) vs := by
    clear F' N' h
    have key : ∀ (ks : List (Int × Value)) (us : List Value), us.length = ks.length → (∀ (j : Nat) (v : Value), us[j]? = some v → ∃ k x, ks[j]? = some (k, x) ∧ (intKind prog w).is k v = true) → IntsV (ks.map (·.1)) us := by
      intro ks
      induction ks with
      | nil => intro us e _; rw [List.length_eq_zero_iff.mp e]; exact .nil
      | cons p r ih =>
        intro us e hv
        cases us with
        | nil => cases e
        | cons u us =>
          obtain ⟨k, x, h1, h2⟩ := hv 0 u rfl
          have h3 : p = (k, x) := Option.some.inj h1
          obtain ⟨t, ht⟩ := Value.isInt_shape h2
          subst h3; subst ht
          exact .cons (ih us (Nat.succ.inj e) fun j v hj => hv (j + 1) v hj)
    exact key kvs vs hl hv
  exact sort_led F' N' l1 hi (by omega) fun vs' ns' e h2 F2 N2 i2 p2 o2 => h D vs' ns' e h2 tk F2 N2 l1 i2 p2 o2
end
section
variable {w : World} {c : Bool} {L x : Addr} {σ σ' ρ ρ' : Sgs} {π π' : List (Int × Int)} {dx d : Addr} {t1 t2 : Tok} {nn : Nat} {od : Obj} {kvs : List (Int × Value)} {ls : Led} {rd D a : Addr} {oR oD oR' : Obj} {kR kD kR' : List (Int × Value)} {lR lD lR' : Led} {pd pd' : Addr} {oP oP' : Obj} {kP kP' : List (Int × Value)} {n n1 n' : Led} {h₀ h : Heap} {F : Addr}
theorem dictList {o : Obj} {K : List (Int × Value)} {its : List Value} {q : Nat} (hd : o.IsDictOf (intKind Challenge.rw_ix0031_01.row.prog w) K) : o ≠ W.listOf its.toArray q := fun e => by
  (refine hide fun G__ k__ => ?_; obtain ⟨es, ep, hx, hd, _⟩ := hd; refine k__ ?_; clear k__ G__)
  rw [e] at hd; cases hd
theorem DicL.offL {its : List Value} {q : Nat} (N : News h₀ F h n) (H : DicL w d σ n od kvs ls) (ha : (a, W.listOf its.toArray q) ∈ n) (h1 : a ∉ ls.map (·.1)) (hk : ∀ p ∈ n, p.1 ≠ a → p ∈ n') : DicL w d σ n' od kvs ls :=
  ⟨hk _ H.body (led_ne N H.body ha (dictList H.isd)), H.isd, H.lists, fun p hp => hk _ (H.lsin p hp) fun e => h1 (e ▸ List.mem_map_of_mem hp), H.low, H.ne, H.nd, H.fit⟩
theorem cellList {its : List Value} {q : Nat} (N : News h₀ F h n) (ha : (a, W.listOf its.toArray q) ∈ n) (hk : ∀ p ∈ n, p.1 ≠ a → p ∈ n') (p : Addr × Obj) (hp : p ∈ n) (hc : notCell p.2 = false) : p ∈ n' :=
  hk p hp (led_ne N hp ha fun e => by rw [e] at hc; cases hc)
theorem LM.offL {its : List Value} {q : Nat} (N : News h₀ F h n) (H : LM w c L x σ ρ π dx d t1 t2 nn od kvs ls rd oR kR lR pd oP kP n) (ha : (a, W.listOf its.toArray q) ∈ n) (h1 : a ∉ ls.map (·.1)) (h2 : a ∉ lR.map (·.1)) (hk : ∀ p ∈ n, p.1 ≠ a → p ∈ n') :
    LM w c L x σ ρ π dx d t1 t2 nn od kvs ls rd oR kR lR pd oP kP n' :=
  ⟨⟨hk _ H.sets.inst (led_ne N H.sets.inst ha (cls_ne (by show Value.ref 338 ≠ Value.type "list"; exact fun q => by cases q))), hk _ H.sets.dict (led_ne N H.sets.dict ha (cls_ne (by show Value.type "dict" ≠ Value.type "list"; decide))), H.sets.sep, H.sets.dic.offL N ha h1 hk⟩, H.rows.offL N ha h2 hk,
    ⟨hk _ H.pls.body (led_ne N H.pls.body ha (dictList H.pls.isd)), H.pls.isd, H.pls.nums, H.pls.low⟩, H.c1.keep (cellList N ha hk), H.c2.keep (cellList N ha hk), H.c3.keep (cellList N ha hk), H.c4.keep (cellList N ha hk), H.gr, H.gp, H.rp, H.gl⟩
theorem StL.offL {I l : Addr} {vs : List Value} {k i : Nat} {g g' : Array GenState} {its : List Value} {q : Nat} (N : News h₀ F h n) (H : StL I l vs k i n g) (ha : (a, W.listOf its.toArray q) ∈ n) (h1 : l ≠ a) (hk : ∀ p ∈ n, p.1 ≠ a → p ∈ n') : StL I l vs k i n' g' :=
  let ⟨oI, q1, q2, q3, q4⟩ := H
  ⟨oI, hk _ q1 (led_ne N q1 ha (cls_ne (by rw [q2]; show Value.type "list_iterator" ≠ Value.type "list"; decide))), q2, q3, hk _ q4 h1⟩
theorem TeldL.offL {td : Addr} {τ : List Tel} {kv : List (Int × Value)} {its : List Value} {q : Nat} (N : News h₀ F h n) (H : TeldL w td n τ kv) (ha : (a, W.listOf its.toArray q) ∈ n) (hk : ∀ p ∈ n, p.1 ≠ a → p ∈ n') : TeldL w td n' τ kv :=
  H.go (fun y dy hm => hk _ hm (led_ne N hm ha (cls_ne (by show Value.ref 112 ≠ Value.type "list"; exact fun q => by cases q)))) fun dy k t v0 v1 a1 a2 a3 nn _ hm => hk _ hm (led_ne N hm ha (cls_ne (by show Value.type "dict" ≠ Value.type "list"; decide)))
theorem TeldL.offD {td : Addr} {τ : List Tel} {kv K : List (Int × Value)} {o : Obj} (N : News h₀ F h n) (H : TeldL w td n τ kv) (ha : (a, o) ∈ n) (hd : o.IsDictOf (intKind Challenge.rw_ix0031_01.row.prog w) K) (hk : ∀ p ∈ n, p.1 ≠ a → p ∈ n') : TeldL w td n' τ kv :=
  H.go (fun y dy hm => hk _ hm (led_ne N hm ha fun e => by obtain ⟨es, ep, hx, hd, _⟩ := hd; rw [← e] at hd; cases hd)) fun dy k t v0 v1 a1 a2 a3 nn _ hm => hk _ hm fun e => by
    have e' : dy = a := e
    subst e'
    exact no_strdict hd (led_eq N ha hm) rfl
theorem TeldL.up {td : Addr} {τ : List Tel} {kv : List (Int × Value)} (H : TeldL w td n τ kv) (hs : ∀ p ∈ n, p ∈ n') : TeldL w td n' τ kv := H.go (fun _ _ hm => hs _ hm) fun _ _ _ _ _ _ _ _ _ _ hm => hs _ hm
end
inductive TupsL (n : Led) : List Tel → List Value → Prop
  | nil : TupsL n [] []
  | cons {k : Int} {old new : Option Int} {t : Tok} {v0 v1 : Value} {tp : Addr} {τ : List Tel} {ys : List Value} : (tp, tupObj [.int k t, v0, v1]) ∈ n → OV old v0 → OV new v1 → TupsL n τ ys → TupsL n ((k, old, new) :: τ) (.ref tp :: ys)
section
variable {n n' : Led} {τ τ' : List Tel} {ys ys' : List Value}
theorem TupsL.len (H : TupsL n τ ys) : ys.length = τ.length := by
  induction H with
  | nil => rfl
  | cons _ _ _ _ ih => simp [ih]
theorem TupsL.go (H : TupsL n τ ys) (h : ∀ p ∈ n, tupO p.2 = true → p ∈ n') : TupsL n' τ ys := by
  induction H with
  | nil => exact .nil
  | cons h1 h2 h3 _ ih => exact .cons (h _ h1 (by unfold tupO; rfl)) h2 h3 ih
theorem TupsL.snoc {k : Int} {old new : Option Int} {t : Tok} {v0 v1 : Value} {tp : Addr} (H : TupsL n τ ys) (hm : (tp, tupObj [.int k t, v0, v1]) ∈ n) (h0 : OV old v0) (h1 : OV new v1) : TupsL n (τ ++ [(k, old, new)]) (ys ++ [.ref tp]) := by
  induction H with
  | nil => exact .cons hm h0 h1 .nil
  | cons a b c _ ih => exact .cons a b c ih
theorem TupsL.at (H : TupsL n τ ys) : ∀ {j : Nat} {v : Value}, ys[j]? = some v → ∃ k old new t v0 v1 tp, τ[j]? = some (k, old, new) ∧ v = .ref tp ∧ (tp, tupObj [.int k t, v0, v1]) ∈ n ∧ OV old v0 ∧ OV new v1 := by
  induction H with
  | nil => intro j v h; simp at h
  | @cons k old new t v0 v1 tp τ ys a b c _ ih =>
    intro j v h
    cases j with
    | zero => simp only [List.getElem?_cons_zero, Option.some.injEq] at h; subst h; exact ⟨k, old, new, t, v0, v1, tp, rfl, rfl, a, b, c⟩
    | succ j => simp only [List.getElem?_cons_succ] at h ⊢; exact ih h
end
theorem ov_same {A : Around} {s : Shared} {r : Option Int} {v v' : Value} (h : OV r v) (h' : OV r v') : SeqAt.EqAt A s v v' true := by
  have := ov_eq (A := A) (s := s) h h'
  rwa [decide_eq_true rfl] at this
section
variable {prog : Program} {w : World} {A : Around} {E : Value → Shared → Prop} {s : Shared} {h₀ : Heap} {L a b : Addr} {n : Led} {τ : List Tel} {ys ys' : List Value} {q q' : Nat} {Q : Value → Shared → Prop}
theorem tups_same (N : News h₀ L s.heap n) (H : TupsL n τ ys) (H' : TupsL n τ ys') (ha : (a, W.listOf ys.toArray q) ∈ n) (hb : (b, W.listOf ys'.toArray q') ∈ n) (hu : A.units < cLine) (hu1 : A.in1.units < cLine) (h : Q (.bool false) s) :
    wpAny (model prog w) A (compareOp .NotEq (.ref a) (.ref b)) Q E s := by
  have hl : s.heap.IsList a ys.toArray := ⟨_, (N _ ha).1, rfl, q, rfl⟩
  have hl' : s.heap.IsList b ys'.toArray := ⟨_, (N _ hb).1, rfl, q', rfl⟩
  have rc := SeqAt.RcNeAt.lists (A := A) hl hl' (by simp [H.len, H'.len]) hu (e := fun _ => true) fun j h1 h2 => by
    (refine hide fun G__ k__ => ?_; obtain ⟨k, old, new, t, v0, v1, tp, e1, e2, m1, o0, o1⟩ := H.at (j := j) (v := ys.toArray[j]) (by simp); refine k__ ?_; clear k__ G__)
    (refine hide fun G__ k__ => ?_; obtain ⟨k', old', new', t', v0', v1', tp', e1', e2', m1', o0', o1'⟩ := H'.at (j := j) (v := ys'.toArray[j]) (by simp); refine k__ ?_; clear k__ G__)
    rw [e1] at e1'
    cases e1'
    rw [e2, e2']
    by_cases z : tp = tp'
    · subst z; exact SeqAt.EqAt.same _
    · have h3 := SeqAt.RcAt.tuples (A := A.in1) (s := s) (l := tp) (b := tp') (items := #[.int k t, v0, v1]) (items2 := #[.int k t', v0', v1']) (e := fun _ => true) ⟨_, (N _ m1).1, rfl, 0, rfl⟩ ⟨_, (N _ m1').1, rfl, 0, rfl⟩ hu1 fun j h1 h2 => by
        match j, h1, h2 with
        | 0, _, _ => exact ov_same (r := some k) .int .int
        | 1, _, _ => exact ov_same o0 o0'
        | 2, _, _ => exact ov_same o1 o1'
      have h4 : (((List.range (min (#[.int k t, v0, v1] : Array Value).size (#[.int k t', v0', v1'] : Array Value).size)).all fun _ => true) && ((#[.int k t, v0, v1] : Array Value).size == (#[.int k t', v0', v1'] : Array Value).size)) = true := rfl
      rw [h4] at h3
      exact SeqAt.EqAt.of_refs z h3
  refine EqBoolInt.of_rcne rc ?_
  have e : (!(List.range ys.toArray.size).all fun _ => true) = false := by simp
  rw [e]; exact h
theorem ints_ne_same {ns : List Int} (N : News h₀ L s.heap n) (H : IntsV ns ys) (H' : IntsV ns ys') (ha : (a, W.listOf ys.toArray q) ∈ n) (hb : (b, W.listOf ys'.toArray q') ∈ n) (hu : A.units + 64 < cLine) (h : Q (.bool false) s) :
    wpAny (model prog w) A (compareOp .NotEq (.ref a) (.ref b)) Q E s :=
  ne_intsK ⟨_, (N _ ha).1, rfl, q, rfl⟩ H.are ⟨_, (N _ hb).1, rfl, q', rfl⟩ H'.are hu (by rw [decide_eq_true rfl]; exact h)
end
noncomputable def telK (σ : Sgs) (k : Int) : List Tel := match look σ k with
  | some row => tel1 (k, row)
  | none => []
noncomputable def plK (σ : Sgs) (k : Int) (j : Nat) : Nat := if (telK σ k).isEmpty then j else j + 1
structure PJ (σ ρ : Sgs) (π : List (Int × Int)) (ks : List Int) (i : Nat) (π' : List (Int × Int)) (τ : List Tel) : Prop where
  pl : ∀ k row, look ρ k = some row → ∀ j : Nat, look π k = some (j : Int) → look π' k = some ((if k ∈ ks.take i then plK σ k j else j : Nat) : Int)
  len : π'.length = π.length
  tel : τ = (ks.take i).flatMap (telK σ)
theorem PJ.start (σ ρ : Sgs) (π : List (Int × Int)) (ks : List Int) : PJ σ ρ π ks 0 π [] := ⟨fun k row _ j e => by rw [e]; simp, rfl, by simp⟩
section
variable {b : Nat} {σ ρ : Sgs} {π π' : List (Int × Int)} {ks : List Int} {i : Nat} {τ : List Tel} {k : Int}
theorem take_fresh {l : List Int} (nd : l.Nodup) (hk : l[i]? = some k) : k ∉ l.take i := fun q => by
  obtain ⟨j, hj, e⟩ := List.mem_take_iff_getElem.mp q
  have hil := (List.getElem?_eq_some_iff.mp hk).1
  have hjl : j < l.length := Nat.lt_of_lt_of_le hj (Nat.min_le_right _ _)
  exact Nat.ne_of_lt (Nat.lt_of_lt_of_le hj (Nat.min_le_left _ _)) ((List.getElem_inj (h₀ := hjl) (h₁ := hil) nd).mp (by rw [e, (List.getElem?_eq_some_iff.mp hk).2]))
theorem PJ.here (H : PJ σ ρ π ks i π' τ) (iv : Inv b σ ρ π) (nd : ks.Nodup) (hk : ks[i]? = some k) {row : Row} (hr : look ρ k = some row) : ∃ j : Nat, look π' k = some (j : Int) ∧ j < row.length ∧ look σ k = some (row.drop j) := by
  obtain ⟨j, h1, h2, h3⟩ := iv.at1 k row hr
  refine ⟨j, ?_, h2, h3⟩
  rw [H.pl k row hr j h1, if_neg (take_fresh nd hk)]
theorem telK_due {j : Nat} {row : Row} {old new : Option Int} (h : look σ k = some (row.drop j)) (h0 : row[j]? = some old) (h1 : row[j + 1]? = some new) : telK σ k = [(k, old, new)] := by
  have e : row.drop j = old :: new :: row.drop (j + 1 + 1) := by
    rw [List.drop_eq_getElem_cons (List.getElem?_eq_some_iff.mp h0).1, List.drop_eq_getElem_cons (List.getElem?_eq_some_iff.mp h1).1, (List.getElem?_eq_some_iff.mp h0).2, (List.getElem?_eq_some_iff.mp h1).2]
  unfold telK
  rw [h, e]; rfl
theorem telK_not {j : Nat} {row : Row} (h : look σ k = some (row.drop j)) (h0 : j < row.length) (h1 : ¬ j + 1 < row.length) : telK σ k = [] := by
  have e : row.drop j = [row[j]] := by
    rw [List.drop_eq_getElem_cons h0, List.drop_eq_nil_of_le (Nat.not_lt.mp h1)]
  unfold telK
  rw [h, e]; rfl
theorem PJ.skip (H : PJ σ ρ π ks i π' τ) (hk : ks[i]? = some k) (ht : telK σ k = []) : PJ σ ρ π ks (i + 1) π' τ := by
  refine ⟨fun k' row hr j e => ?_, H.len, ?_⟩
  · rw [H.pl k' row hr j e, take_snoc hk]
    by_cases z : k' = k
    · subst z
      have e2 : plK σ k' j = j := by unfold plK; rw [ht]; rfl
      simp [e2]
    · have : k' ∈ ks.take i ++ [k] ↔ k' ∈ ks.take i := by simp [z]
      simp only [this]
  · rw [take_snoc hk, List.flatMap_append, ← H.tel]
    simp [ht]
theorem PJ.due (H : PJ σ ρ π ks i π' τ) (nd : ks.Nodup) (hk : ks[i]? = some k) {row : Row} (hr : look ρ k = some row) {j : Nat} (hj : look π' k = some (j : Int)) {old new : Option Int} (ht : telK σ k = [(k, old, new)]) : PJ σ ρ π ks (i + 1) (putR π' k ((j : Int) + 1)) (τ ++ [(k, old, new)]) := by
  refine ⟨fun k' row' hr' j' e => ?_, ?_, ?_⟩
  · rw [look_put, take_snoc hk]
    by_cases z : k' = k
    · subst z
      have h1 := H.pl k' row' hr' j' e
      rw [if_neg (take_fresh nd hk), hj] at h1
      have h2 : j = j' := by have := Option.some.inj h1; omega
      have e2 : plK σ k' j' = j' + 1 := by unfold plK; rw [ht]; rfl
      rw [if_pos rfl, if_pos (by simp), e2, h2]; rfl
    · rw [if_neg z, H.pl k' row' hr' j' e]
      have : k' ∈ ks.take i ++ [k] ↔ k' ∈ ks.take i := by simp [z]
      simp only [this]
  · have h1 := put_keys (σ := π') (k := k) (row := (j : Int) + 1) (by rw [hj]; rfl)
    have h2 := congrArg List.length h1
    simp only [List.length_map] at h2
    rw [h2, H.len]
  · rw [take_snoc hk, List.flatMap_append, ← H.tel]
    simp [ht]
end
section
variable {b : Nat} {σ ρ : Sgs} {π π' : List (Int × Int)} {ks ks' : List Int} {i : Nat} {τ : List Tel} {k : Int}
theorem look_ack (σ : Sgs) (k : Int) : look (σ.map ack1) k = (look σ k).map ackRow := by
  induction σ with
  | nil => rfl
  | cons p r ih =>
    obtain ⟨a, row⟩ := p
    show look ((a, ackRow row) :: r.map ack1) k = _
    rw [look_cons, look_cons]
    by_cases z : a = k
    · rw [if_pos z, if_pos z]; rfl
    · rw [if_neg z, if_neg z]; exact ih
theorem Inv.acked (iv : Inv b σ ρ π) (H : PJ σ ρ π ks ks.length π' τ) (hp : ks.Perm (ρ.map (·.1))) : Inv b (σ.map ack1) ρ π' := by
  refine ⟨fun k e => by rw [look_ack, iv.at0 k e]; rfl, fun k row hr => ?_, by rw [List.length_map]; exact iv.sl, iv.rl, by rw [H.len]; exact iv.pl, iv.len, iv.ok, iv.keys, iv.two⟩
  obtain ⟨j, h1, h2, h3⟩ := iv.at1 k row hr
  have h4 := H.pl k row hr j h1
  rw [List.take_length, if_pos (hp.mem_iff.mpr (look_some_key.mpr ⟨row, hr⟩))] at h4
  refine ⟨_, h4, ?_, ?_⟩
  · unfold plK telK
    rw [h3]
    by_cases z : j + 1 < row.length
    · have hh : ∀ (P : Prop) [Decidable P], (if P then j else j + 1) < row.length := fun P _ => by split <;> omega
      exact hh _
    · have := telK_not h3 h2 z
      unfold telK at this
      rw [h3] at this
      simp only [this]; exact h2
  · rw [look_ack, h3]
    unfold plK telK
    rw [h3]
    by_cases z : j + 1 < row.length
    · have e : row.drop j = row[j] :: row[j + 1] :: row.drop (j + 1 + 1) := by rw [List.drop_eq_getElem_cons h2, List.drop_eq_getElem_cons z]
      have e2 : row.drop (j + 1) = row[j + 1] :: row.drop (j + 1 + 1) := List.drop_eq_getElem_cons z
      rw [e]
      show some (row[j + 1] :: row.drop (j + 1 + 1)) = some (row.drop (j + 1))
      rw [e2]
    · have e : row.drop j = [row[j]] := by rw [List.drop_eq_getElem_cons h2, List.drop_eq_nil_of_le (Nat.not_lt.mp z)]
      rw [e]
      show some [row[j]] = some (row.drop j)
      rw [e]
theorem telK_at (nd : (σ.map (·.1)).Nodup) : ∀ p ∈ σ, telK σ p.1 = tel1 p := fun p hp => by
  obtain ⟨k, row⟩ := p
  have h := look_of_mem nd hp
  show telK σ k = _
  unfold telK
  rw [h]
theorem telK_keys (σ : Sgs) (ks : List Int) : ((ks.flatMap (telK σ)).map (·.1)).Sublist ks := by
  induction ks with
  | nil => exact List.Sublist.slnil
  | cons k r ih =>
    rw [List.flatMap_cons, List.map_append]
    have h : ((telK σ k).map (·.1)).Sublist [k] := by
      unfold telK
      split
      · unfold tel1
        split
        · exact List.Sublist.refl _
        · exact List.nil_sublist _
      · exact List.nil_sublist _
    exact h.append ih
theorem due_perm (nd : (σ.map (·.1)).Nodup) (hp : ks.Perm (σ.map (·.1))) : (ks.flatMap (telK σ)).Perm (ackT σ) := by
  have h1 : (ks.flatMap (telK σ)).Perm ((σ.map (·.1)).flatMap (telK σ)) := hp.flatMap_right _
  have h2 : (σ.map (·.1)).flatMap (telK σ) = ackT σ := by
    rw [List.flatMap_map]
    unfold ackT
    have : ∀ l : Sgs, (∀ p ∈ l, p ∈ σ) → l.flatMap (fun p => telK σ p.1) = l.flatMap tel1 := by
      intro l
      induction l with
      | nil => intro _; rfl
      | cons p r ih => intro h; rw [List.flatMap_cons, List.flatMap_cons, telK_at nd p (h p (.head _)), ih fun q hq => h q (.tail _ hq)]
    exact this σ fun p hp => hp
  rw [← h2]; exact h1
theorem due_sorted (nd : (σ.map (·.1)).Nodup) (hp : ks.Perm (σ.map (·.1))) (ho : ks.Pairwise (· ≤ ·)) (hp' : ks'.Perm ((ackT σ).map (·.1))) (ho' : ks'.Pairwise (· ≤ ·)) : ks' = (ks.flatMap (telK σ)).map (·.1) :=
  sorted_same ((due_perm nd hp).symm.map _) hp' (List.Perm.refl _) ho' (ho.sublist (telK_keys σ ks))
theorem due_nodup (nd : (σ.map (·.1)).Nodup) (hp : ks.Perm (σ.map (·.1))) : ((ks.flatMap (telK σ)).map (·.1)).Nodup := (telK_keys σ ks).nodup (hp.nodup_iff.mpr nd)
end
section
variable {w : World} {td : Addr} {n : Led} {τ : List Tel} {kvs : List (Int × Value)}
theorem TeldL.mem (H : TeldL w td n τ kvs) (nd : (τ.map (·.1)).Nodup) {k : Int} {old new : Option Int} (hm : (k, old, new) ∈ τ) : ∃ v, valueAt kvs k = some v ∧ ChgAt w td n k old new v := by
  induction H with
  | nil => cases hm
  | @cons k' old' new' v τ kvs h1 _ ih =>
    rw [valueAt_cons]
    have nd' := List.nodup_cons.mp nd
    rcases List.mem_cons.mp hm with e | hm
    · cases e
      rw [if_pos rfl]; exact ⟨v, rfl, h1⟩
    · by_cases z : k' = k
      · subst z
        exact absurd (List.mem_map_of_mem (f := fun p : Tel => p.1) hm) nd'.1
      · rw [if_neg z]; exact ih nd'.2 hm
end
structure AK (w : World) (c : Bool) (L x : Addr) (σ ρ : Sgs) (dx d : Addr) (t1 t2 : Tok) (nn : Nat) (od : Obj) (kvs : List (Int × Value)) (ls : Led) (rd : Addr) (oR : Obj) (kR : List (Int × Value)) (lR : Led) (pd : Addr) (D I : Addr) (vs : List Value) (k i : Nat) (cd : Value) (td : Addr) (oT : Obj) (tkvs : List (Int × Value)) (τ0 : List Tel) (du : Addr) (π : List (Int × Int)) (oP : Obj) (kP : List (Int × Value)) (ys : List Value) (nd : Nat) (τ : List Tel) (n : Led) : Prop where
  lm : LM w c L x σ ρ π dx d t1 t2 nn od kvs ls rd oR kR lR pd oP kP n
  st : StL I D vs k (i + 1) n #[]
  dln : D ∉ ls.map (·.1)
  code : CellIn (L + 1 + 1) (some cd) n
  told : CellIn (L + 1 + 1 + 1) (some (.ref td)) n
  tm : (td, oT) ∈ n
  tdict : oT.IsDictOf (intKind Challenge.rw_ix0031_01.row.prog w) tkvs
  tl : TeldL w td n τ0 tkvs
  tp : td ≠ pd
  tlo : (td == sysModules) = false
  dm : (du, W.listOf ys.toArray nd) ∈ n
  dD : D ≠ du
  dls : du ∉ ls.map (·.1)
  dlR : du ∉ lR.map (·.1)
  tups : TupsL n τ ys
section
variable {w : World} {c : Bool} {L x : Addr} {σ σ' ρ ρ' : Sgs} {π π' : List (Int × Int)} {dx d : Addr} {t1 t2 : Tok} {nn : Nat} {od : Obj} {kvs : List (Int × Value)} {ls : Led} {rd D a : Addr} {oR oD oR' : Obj} {kR kD kR' : List (Int × Value)} {lR lD lR' : Led} {pd pd' : Addr} {oP oP' : Obj} {kP kP' : List (Int × Value)} {n n1 n' : Led} {h₀ h : Heap} {F : Addr}
  {I : Addr} {vs : List Value} {k i : Nat} {cd : Value} {td : Addr} {oT : Obj} {tkvs : List (Int × Value)} {τ0 τ : List Tel} {du : Addr} {ys : List Value} {nd : Nat}
theorem TeldL.nc (H : TeldL w td n τ0 tkvs) (h : NC n n') : TeldL w td n' τ0 tkvs := H.go (fun y dy hm => h _ hm rfl) fun dy k t v0 v1 a1 a2 a3 nn _ hm => h _ hm rfl
theorem TeldL.kept {lo : Nat} (H : TeldL w td n τ0 tkvs) (hk : ∀ p ∈ n, Kept lo p → p ∈ n') : TeldL w td n' τ0 tkvs := H.go (fun y dy hm => hk _ hm (.inl rfl)) fun dy k t v0 v1 a1 a2 a3 nn _ hm => hk _ hm (.inl rfl)
theorem AK.up (H : AK w c L x σ ρ dx d t1 t2 nn od kvs ls rd oR kR lR pd D I vs k i cd td oT tkvs τ0 du π oP kP ys nd τ n) (hs : ∀ p ∈ n, p ∈ n') : AK w c L x σ ρ dx d t1 t2 nn od kvs ls rd oR kR lR pd D I vs k i cd td oT tkvs τ0 du π oP kP ys nd τ n' :=
  ⟨H.lm.up hs, StL.up (g' := #[]) H.st hs, H.dln, H.code.up hs, H.told.up hs, hs _ H.tm, H.tdict, H.tl.up hs, H.tp, H.tlo, hs _ H.dm, H.dD, H.dls, H.dlR, H.tups.go fun p hp _ => hs p hp⟩
theorem AK.kept {lo : Nat} (H : AK w c L x σ ρ dx d t1 t2 nn od kvs ls rd oR kR lR pd D I vs k i cd td oT tkvs τ0 du π oP kP ys nd τ n) (hc : (L : Nat) + 1 + 1 + 1 + 1 < lo) (hI : (I : Nat) < lo) (hk : ∀ p ∈ n, Kept lo p → p ∈ n') : AK w c L x σ ρ dx d t1 t2 nn od kvs ls rd oR kR lR pd D I vs k i cd td oT tkvs τ0 du π oP kP ys nd τ n' := by
  have h3 : (L : Nat) + 1 + 1 + 1 < lo := Nat.lt_of_succ_lt hc
  refine ⟨H.lm.kept hc hk, ?_, H.dln, H.code.kept (Nat.lt_of_succ_lt h3) hk, H.told.kept h3 hk, hk _ H.tm (.inl (dictPl H.tdict).1), H.tdict, H.tl.kept hk, H.tp, H.tlo, hk _ H.dm (.inl rfl), H.dD, H.dls, H.dlR, H.tups.go fun p hp q => hk p hp (.inl (tup_plain q))⟩
  (refine hide fun G__ k__ => ?_; obtain ⟨oI, q1, q2, q3, q4⟩ := H.st; refine k__ ?_; clear k__ G__)
  exact ⟨oI, hk _ q1 (.inr hI), q2, q3, hk _ q4 (.inl rfl)⟩
theorem AK.plput (N : News h₀ F h n) (H : AK w c L x σ ρ dx d t1 t2 nn od kvs ls rd oR kR lR pd D I vs k i cd td oT tkvs τ0 du π oP kP ys nd τ n) (hD : DicI w pd π' n' oP' kP') (hk : ∀ q ∈ n, q.1 ≠ pd → q ∈ n') : AK w c L x σ ρ dx d t1 t2 nn od kvs ls rd oR kR lR pd D I vs k i cd td oT tkvs τ0 du π' oP' kP' ys nd τ n' := by
  have P := H.lm.pls
  have cell : ∀ p ∈ n, notCell p.2 = false → p ∈ n' := fun p hp hc => hk p hp (cellDict N P.body P.isd p hp hc)
  refine ⟨H.lm.plput N hD hk, StL.put (g' := #[]) H.st N P.body P.isd hk, H.dln, H.code.keep cell, H.told.keep cell, hk _ H.tm H.tp, H.tdict, H.tl.offD N P.body P.isd hk, H.tp, H.tlo, hk _ H.dm (led_ne N H.dm P.body (Ne.symm (dictList P.isd))), H.dD, H.dls, H.dlR, H.tups.go fun p hp q => hk p hp (led_ne N hp P.body fun e => ?_)⟩
  rw [e, (dictPl P.isd).2.1] at q; cases q
theorem AK.append (N : News h₀ F h n) (H : AK w c L x σ ρ dx d t1 t2 nn od kvs ls rd oR kR lR pd D I vs k i cd td oT tkvs τ0 du π oP kP ys nd τ n) {kk : Int} {t : Tok} {old new : Option Int} {v0 v1 : Value} {tp : Addr} (hm : (tp, tupObj [.int kk t, v0, v1]) ∈ n) (h0 : OV old v0) (h1 : OV new v1) :
    AK w c L x σ ρ dx d t1 t2 nn od kvs ls rd oR kR lR pd D I vs k i cd td oT tkvs τ0 du π oP kP (ys ++ [Value.ref tp]) (nd + 1) (τ ++ [(kk, old, new)]) (wrL n du (W.listOf (ys ++ [Value.ref tp]).toArray (nd + 1))) := by
  have hk : ∀ p ∈ n, p.1 ≠ du → p ∈ wrL n du (W.listOf (ys ++ [Value.ref tp]).toArray (nd + 1)) := fun p hp hne => wrL.keep hp hne
  have tk : ∀ p ∈ n, tupO p.2 = true → p ∈ wrL n du (W.listOf (ys ++ [Value.ref tp]).toArray (nd + 1)) := fun p hp q => hk p hp (led_ne N hp H.dm fun e => by rw [e] at q; cases q)
  exact ⟨H.lm.offL N H.dm H.dls H.dlR hk, StL.offL N H.st H.dm H.dD hk, H.dln, H.code.keep (cellList N H.dm hk), H.told.keep (cellList N H.dm hk), hk _ H.tm (led_ne N H.tm H.dm (dictList H.tdict)), H.tdict, H.tl.offL N H.dm hk, H.tp, H.tlo, .head _, H.dD, H.dls, H.dlR, (H.tups.go tk).snoc (tk _ hm (by unfold tupO; rfl)) h0 h1⟩
theorem ack_out {v u : Value} (N : News h₀ F h n) (H : LM w c L x σ ρ π dx d t1 t2 nn od kvs ls rd oR kR lR pd oP kP n) (hcl : CellIn (L + 1 + 1) (some u) n) (hSt : StL I D vs k i n #[]) (hln : D ∉ ls.map (·.1))
    (hR : ∃ td, v = .ref td ∧ (td == sysModules) = false ∧ (∀ p ∈ n, p.1 ≠ td) ∧ (∀ p ∈ n, p.1 ∉ ls.map (·.1) → p ∈ n') ∧ (∃ ls', SetL w x c (σ.map ack1) n' dx d t1 t2 nn od kvs ls' ∧ ls'.map (·.1) = ls.map (·.1)) ∧
      ∃ oT tkvs, (td, oT) ∈ n' ∧ oT.IsDictOf (intKind Challenge.rw_ix0031_01.row.prog w) tkvs ∧ TeldL w td n' (ackT σ) tkvs) :
    ∃ td ls' oT tkvs, v = .ref td ∧ LM w c L x (σ.map ack1) ρ π dx d t1 t2 nn od kvs ls' rd oR kR lR pd oP kP n' ∧ D ∉ ls'.map (·.1) ∧ CellIn (L + 1 + 1) (some u) n' ∧ StL I D vs k i n' #[] ∧ (td == sysModules) = false ∧ td ≠ pd ∧ (td, oT) ∈ n' ∧ oT.IsDictOf (intKind Challenge.rw_ix0031_01.row.prog w) tkvs ∧ TeldL w td n' (ackT σ) tkvs := by
  (refine hide fun G__ k__ => ?_; obtain ⟨td, rfl, h1, h2, h3, ⟨ls', h4, h5⟩, oT, tkvs, h6, h7, h8⟩ := hR; refine k__ ?_; clear k__ G__)
  have hk : ∀ p ∈ n, p.1 ≠ d → p.1 ∉ ls.map (·.1) → p ∈ n' := fun p hp _ hq => h3 p hp hq
  exact ⟨td, ls', oT, tkvs, rfl, H.moved N h4 hk fun q hq => .inl (h5 ▸ List.mem_map_of_mem hq), by rw [h5]; exact hln, hcl.keep fun p hp hc => let ⟨a1, a2⟩ := H.sets.dic.cellOff N p hp hc; hk p hp a1 a2, hSt.keptS N H.sets.dic hln hk, h1, Ne.symm (h2 _ H.pls.body), h6, h7, h8⟩
end
theorem dictNC {w : World} {o : Obj} {K : List (Int × Value)} (hd : o.IsDictOf (intKind Challenge.rw_ix0031_01.row.prog w) K) : notCell o = true := by
  (refine hide fun G__ k__ => ?_; obtain ⟨es, ep, hx, hd, _⟩ := hd; refine k__ ?_; clear k__ G__)
  unfold notCell; rw [hd]
theorem StL.lt {I l : Addr} {vs : List Value} {k i : Nat} {n : Led} {g : Array GenState} {a : Addr} (H : StL I l vs k i n g) (h : ∀ p ∈ n, p.1 < a) : l < a := let ⟨_, _, _, _, hm⟩ := H; h _ hm
section
variable {w : World} {c : Bool} {L x : Addr} {σ σ' ρ ρ' : Sgs} {π π' : List (Int × Int)} {dx d : Addr} {t1 t2 : Tok} {nn : Nat} {od : Obj} {kvs : List (Int × Value)} {ls : Led} {rd D a : Addr} {oR oD oR' : Obj} {kR kD kR' : List (Int × Value)} {lR lD lR' : Led} {pd pd' : Addr} {oP oP' : Obj} {kP kP' : List (Int × Value)} {n n1 n' : Led} {h₀ h : Heap} {F : Addr}
  {I : Addr} {vs : List Value} {k i : Nat} {cd : Value} {td : Addr} {oT : Obj} {tkvs : List (Int × Value)} {τ0 τ : List Tel} {du : Addr} {ys : List Value} {nd : Nat} {ks : List Int}
theorem AK.append2 {kk : Int} {t : Tok} {old new : Option Int} {v0 v1 : Value} {tp : Addr} (N : News h₀ F h ((tp, tupObj [.int kk t, v0, v1]) :: n)) (H : AK w c L x σ ρ dx d t1 t2 nn od kvs ls rd oR kR lR pd D I vs k i cd td oT tkvs τ0 du π oP kP ys nd τ n) (h0 : OV old v0) (h1 : OV new v1) :
    AK w c L x σ ρ dx d t1 t2 nn od kvs ls rd oR kR lR pd D I vs k i cd td oT tkvs τ0 du π oP kP (ys ++ [Value.ref tp]) (nd + 1) (τ ++ [(kk, old, new)]) (wrL ((tp, tupObj [.int kk t, v0, v1]) :: n) du (W.listOf (ys ++ [Value.ref tp]).toArray (nd + 1))) :=
  AK.append N (H.up fun p hp => .tail _ hp) (.head _) h0 h1
theorem PJ.tlen {σ ρ : Sgs} {j : Nat} (H : PJ σ ρ π ks j π' τ) : τ.length ≤ ks.length := by
  have h1 := (telK_keys σ (ks.take j)).length_le
  rw [← H.tel, List.length_map] at h1
  exact Nat.le_trans h1 (List.length_take_le' j ks)
end
theorem StL.append2 {h₀ h : Heap} {F I l : Addr} {vs : List Value} {k i : Nat} {n : Led} {g : Array GenState} {du : Addr} {ys : List Value} {nd : Nat} {kk : Int} {t : Tok} {v0 v1 : Value} {tp : Addr} (N : News h₀ F h ((tp, tupObj [.int kk t, v0, v1]) :: n)) (H : StL I l vs k i n g) (hm : (du, W.listOf ys.toArray nd) ∈ n) (hne : l ≠ du) :
    StL I l vs k i (wrL ((tp, tupObj [.int kk t, v0, v1]) :: n) du (W.listOf (ys ++ [Value.ref tp]).toArray (nd + 1))) #[] :=
  StL.offL (g' := #[]) N (StL.up (g' := #[]) H fun p hp => .tail _ hp) (.tail _ hm) hne fun p hp hne => wrL.keep hp hne
theorem get_ints {w : World} {A : Around} {E : Value → Shared → Prop} {s : Shared} {h₀ : Heap} {L d : Addr} {news : Led} {π : List (Int × Int)} {od : Obj} {kvs : List (Int × Value)} {k p : Int} {t : Tok} {Q : Value → Shared → Prop} (N : News h₀ L s.heap news) (H : DicI w d π news od kvs) (hq : look π k = some p) (h : ∀ u, Q (.int p u) { s with toks := s.toks + 1 }) :
    wpAny (model Challenge.rw_ix0031_01.row.prog w) A (getItem (.ref d) (.int k t)) Q E s := by
  obtain ⟨u, e⟩ := H.nums.look_some hq
  exact wpAny_getItem_of (intKind_is _ w k t) (H.at N).mapOf e (h u)
theorem due_nodup' {σ : Sgs} {ks : List Int} (nd : (σ.map (·.1)).Nodup) (hp : ks.Perm (σ.map (·.1))) : ((ackT σ).map (·.1)).Nodup := ((due_perm nd hp).map (·.1)).nodup_iff.mp (due_nodup nd hp)
@[reducible] noncomputable def off9u : List Str := [Str.ofString "start", Str.ofString "script", Str.ofString "first", Str.ofString "numbers", Str.ofString "drawn", Str.ofString "fault", Str.ofString "value", Str.ofString "deed", Str.ofString "pick", Str.ofString "one", Str.ofString "other"]
@[reducible] noncomputable def mU (du sv cl : Value) : Str → Option Value := fun y => if y = Str.ofString "due" then some du else mK sv cl y
theorem mU_of {de va du sv cl : Value} {m : Str → Option Value} (h : SameOff off9t (mT de va sv cl) m) : SameOff off9u (mU du sv cl) (fun z => if z = Str.ofString "due" then some du else m z) := SameOff.set (mT_K h) (hasNot (by decide))
theorem mU_K {du sv cl : Value} {m : Str → Option Value} (h : SameOff off9u (mU du sv cl) m) : SameOff off9 (mK sv cl) m := SameOff.more h (by decide) fun z hz => by
  simp only [List.contains_cons, List.contains_nil, Bool.or_eq_false_iff, beq_eq_false_iff_ne, ne_eq] at hz
  simp only [mU, if_neg hz.2.2.2.2.2.2.2.2.2.1]
inductive LA (w : World) (c : Bool) (L D I : Addr) (vs : List Value) (k i : Nat) (P : Sgs → Sgs → List (Int × Int) → List (Int × Int) → List Tel → Prop) (m' : Str → Option Value) (n' : Led) : Prop
  | mk : ∀ x cd u2 σ ρ π dx d t1 t2 nn od kvs ls rd oR kR lR pd td oT tkvs du π' oP kP ys nd τ, (SameOff off9u (mU (.ref du) (.ref x) (.bool c)) m') → (cd ∈ codes) → (Inv i σ ρ π) → ((σ.map (·.1)).Nodup) → (P σ ρ π π' τ) → (AK w c L x (σ.map ack1) ρ dx d t1 t2 nn od kvs ls rd oR kR lR pd D I vs k i (.int cd u2) td oT tkvs (ackT σ) du π' oP kP ys nd τ n') → LA w c L D I vs k i P m' n'
noncomputable def LA0 (_ _ : Sgs) (π π' : List (Int × Int)) (τ : List Tel) : Prop := π' = π ∧ τ = []
inductive LA1 (σ ρ : Sgs) (π π' : List (Int × Int)) (τ : List Tel) : Prop
  | mk : ∀ ks, (PJ σ ρ π ks ks.length π' τ) → (ks.Perm (ρ.map (·.1))) → (ks.Pairwise (· ≤ ·)) → LA1 σ ρ π π' τ
theorem words_T39 : True := by
  k_with "call ref" => (guard_hyp hT39; ((k_here; (with_reducible show wpAny _ _ (call (Value.ref 138) _ _) _ _ _); k_dflt (refine' Spec.use (c_ack _ _ _ _ _ _ _ _ _ _ _ _ _ hM.sets) ?hA_i ?B_i ?F_i ?N_i ?X_i ?T_i ?D_i ?XB_i ?TB_i ?hf_i ?hke_i ?hdp_i ?hun_i (fun v n' h' gn' tk' g' hR kT kF kN kB kX₀ kP kD kX kG => ?_); (case F_i => k_asm); (case N_i => k_asm); skip; (case hA_i => exact rfl); (case B_i => k_asm); (case X_i => k_asm); (case T_i => k_asm); (case D_i => assumption); (case XB_i => assumption); (case TB_i => assumption); (case hf_i => exact rfl); (case hke_i => exact rfl); (case hdp_i => k_room); (case hun_i => k_units); (all_goals (try (have kT2 := KtsTurn.trans (by assumption) kT; clear kT))); (all_goals (try (have kG2 := GRel.trans (by assumption) kG; clear kG))); obtain ⟨td, ls2, oT, tkvs, he, hM2, hln2, hcl2, hSt2, tlo, tp, tm, tdict, tl⟩ := ack_out N' hM hcl hSt hln hR; subst he; have hsn := hM.sets.dic.keysNd; (try dsimp only); (try k_lift kB); (try k_fold)))))
  k_with "storeName" => (guard_hyp hT39; ((k_here; (with_reducible show wpAny _ _ (storeName _ (PySem.Str.ofString "told") _) _ _ _); obtain ⟨v3', hcc⟩ := hM2.c3; k_dflt (refine' store_cell ?F_u ?N_u ?c_u hcc ?k_u ?x_u (fun h' n3 F' N' hnc hct hco => ?_); (case x_u => rfl); (case F_u => k_asm); (case N_u => k_asm); (case c_u => rfl); (case k_u => rfl)); have hM3 := LM.told hM2 hnc hct hco; have hcl3 := hco _ _ (lt4 L').2.2.2.1 hcl2; have hSt3 := StL.nc (g' := #[]) hSt2 hnc; have tm3 := hnc _ tm (dictNC tdict); have tl3 := TeldL.nc tl hnc)))
  k_with "@J" => (guard_hyp hT39; (k_dflt (exact ⟨x, cd, u2, σ, ρ, π, _, _, _, _, _, _, _, _, _, _, _, _, _, _, _, _, _, π, _, _, [], _, [], mU_of (SameOff.eqs hj0), hcd, iv, hsn, ⟨rfl, rfl⟩, ⟨hM3.up (fun p hp => .tail _ hp), StL.up (g' := #[]) hSt3 (fun p hp => .tail _ hp), hln2, hcl3.up (fun p hp => .tail _ hp), hct.up (fun p hp => .tail _ hp), .tail _ tm3, tdict, tl3.up (fun p hp => .tail _ hp), tp, tlo, .head _, Nat.ne_of_lt (StL.lt hSt3 (by assumption)), fresh_row hM3.sets.dic (by assumption), fresh_row hM3.rows (by assumption), .nil⟩⟩)))
  trivial
set_option maxRecDepth 100000 in
set_option maxHeartbeats 40000000 in
theorem c_ackA (w : World) (dp un : Nat) (gd : Option (List Code)) (outer : List Env) (base : Heap) (loose : List Str) (mean : ExcName → Option Value) (mg mb : Str → Option Value) (o : Obj) (ho : (hd.heap_39 w.params).lookup 437 = some o) (L' : Addr) (h00 : Heap) (g00 : Array GenState) (s : Shared) (Q : Flow → Shared → Prop) (E : Value → Shared → Prop) (hdp : dp + 100 < recursionLimit) (hun : un + 1000 < cLine) (c : Bool) (D I : Addr) (vs : List Value) (k i : Nat) (hi : i < 14) (next : Go w { handled := none, depth := dp, frames := some outer, guards := gd, units := un } base outer loose mean mg mb h00 g00 L' s Q E (lawE o L') ((inIf (inElse (nthS 4 (inFor (nthS 9 (obS o)))))).drop 2) (LA w c L' D I vs k i LA0)) : Go w { handled := none, depth := dp, frames := some outer, guards := gd, units := un } base outer loose mean mg mb h00 g00 L' s Q E (lawE o L') (inIf (inElse (nthS 4 (inFor (nthS 9 (obS o)))))) (LT4 w c L' D I vs k i) := by
  have hT39 := trivial; have g1 := trivial; have g2 := trivial; have g3 := trivial; have g4 := trivial; have g6 := trivial; have g7 := trivial
  intro m₁ n₁ h₁ gn tk g₁ hJ hTn hGn C'
  have X := C'.X
  have kfl : Challenge.rw_ix0031_01.row = Challenge.rw_ix0031_01.row := rfl
  revert kfl X ho
  k_fill
  intro ho X kfl
  obtain rfl := lookE ho (by k_is)
  clear X ho
  dsimp only [obS, obSc, obCd, lawN, lawE, nthS, inFor, inIf, inElse, List.drop, List.take]
  (refine hide fun G__ k__ => ?_; obtain ⟨x, de, cd, va, u1, u2, u3, hj0, hcl, hcd, hva, ⟨σ, ρ, π, dx, d, t1, t2, nn, od, kvs, ls, rd, oR, kR, lR, pd, oP, kP, hM, iv, hln⟩, hSt⟩ := hJ; refine k__ ?_; clear k__ G__)
  obtain ⟨o1, hc1, hd1⟩ := hM.c1
  obtain ⟨o2, hc2, hd2⟩ := id hcl
  obtain ⟨o4, hc4, hd4⟩ := hM.c4
  rw [hj0.eqM] at C'
  obtain ⟨B', F', N', X', T', D', XB', TB'⟩ := C'; (try k_lift B'); (try k_fold)
  have hTm := hTn; have hGm := hGn
  refine cutN [_, _] hTm hGm ⟨B', F', N', X', T', D', XB', TB'⟩ (LA w c L' D I vs k i LA0) ?_ fun m₁ n₁ h₁ gn tk g₁ hJ hTn hGn C' => next _ _ _ _ _ _ hJ hTn hGn C'
  have i1 := hM.sets.inst
  have i2 := hM.sets.dict
  k_steps
inductive JB (w : World) (c : Bool) (L x : Addr) (σ ρ : Sgs) (π : List (Int × Int)) (ks : List Int) (dx d : Addr) (t1 t2 : Tok) (nn : Nat) (od : Obj) (kvs : List (Int × Value)) (ls : Led) (rd : Addr) (oR : Obj) (kR : List (Int × Value)) (lR : Led) (pd D I : Addr) (vs : List Value) (k i : Nat) (cd : Int) (u2 : Tok) (td : Addr) (oT : Obj) (tkvs : List (Int × Value)) (du S : Addr) (j : Nat) (m : Str → Option Value) (n : Led) : Prop
  | mk : ∀ π' oP kP ys nd τ, SameOff off9u (mU (.ref du) (.ref x) (.bool c)) m → PJ σ ρ π ks j π' τ → AK w c L x (σ.map ack1) ρ dx d t1 t2 nn od kvs ls rd oR kR lR pd D I vs k i (.int cd u2) td oT tkvs (ackT σ) du π' oP kP ys nd τ n → S ≠ du → JB w c L x σ ρ π ks dx d t1 t2 nn od kvs ls rd oR kR lR pd D I vs k i cd u2 td oT tkvs du S j m n
theorem JB.kept {w : World} {c : Bool} {L x : Addr} {σ ρ : Sgs} {π : List (Int × Int)} {ks : List Int} {dx d : Addr} {t1 t2 : Tok} {nn : Nat} {od : Obj} {kvs : List (Int × Value)} {ls : Led} {rd : Addr} {oR : Obj} {kR : List (Int × Value)} {lR : Led} {pd D I : Addr} {vs : List Value} {k i : Nat} {cd : Int} {u2 : Tok} {td : Addr} {oT : Obj} {tkvs : List (Int × Value)} {du S : Addr} {j lo : Nat} {m : Str → Option Value} {n n' : Led} (h : JB w c L x σ ρ π ks dx d t1 t2 nn od kvs ls rd oR kR lR pd D I vs k i cd u2 td oT tkvs du S j m n) (hc : (L : Nat) + 1 + 1 + 1 + 1 < lo) (hI : (I : Nat) < lo) (hk : ∀ p ∈ n, Kept lo p → p ∈ n') : JB w c L x σ ρ π ks dx d t1 t2 nn od kvs ls rd oR kR lR pd D I vs k i cd u2 td oT tkvs du S j m n' := by
  (refine hide fun G__ k__ => ?_; obtain ⟨π', oP, kP, ys, nd, τ, q1, q2, q3, q4⟩ := h; refine k__ ?_; clear k__ G__)
  exact ⟨π', oP, kP, ys, nd, τ, q1, q2, q3.kept hc hI hk, q4⟩
theorem words_T40 : True := by
  k_with "call builtin:sorted" => (guard_hyp hT40; ((k_here; have hM := hA.lm; k_dflt (refine' sorted_keys ?F_m ?N_m rfl hM.rows.body hM.rows.isd hM.rows.low ?l_m (fun S vss ks cS h' tk2 F' N' l1 hI' hp' ho' => ?_); (case F_m => k_asm); (case N_m => k_asm); (case l_m => (have e1 := hM.rows.klen; have e2 := hM.rows.lists.klen; have e3 := iv.rl; omega))); have hp2 : ks.Perm (ρ.map (·.1)) := (by rw [← hM.rows.lists.keys]; exact hp'); have hnd : ks.Nodup := hp2.nodup_iff.mpr hM.rows.keysNd)))
  k_with "pyIter ref" => (guard_hyp hT40; ((k_here; k_dflt (refine' iter_listC ?T00_c ?G00_c ⟨?B_c, ?F_c, ?N_c, ?X_c, ?T_c, ?D_c, ?XB_c, ?TB_c⟩ rfl (List.Mem.head _) (JB w c L' x σ ρ π ks dx d t1 t2 nn od kvs ls rd oR kR lR pd D I vs k i cd u2 td oT tkvs du S) ?h0_c (fun lo hlo j ma na nb hJ hk => hJ.kept ((hA.lm.c4.up (fun p hp => .tail _ hp)).lt hlo) (let ⟨_, z, _, _, _⟩ := hA.st; hlo _ (.tail _ z)) hk) ?htg_c (fun I9 j v m₁ n₁ h₁ tk gn g₁ hk hJ hSt hTn hG C' => ?_) (fun m₁ n₁ h₁ tk gn g₁ hJ hTn hG C' => ?_); (case B_c => k_asm); (case F_c => k_asm); (case N_c => k_asm); (case X_c => k_asm); (case T_c => k_asm); (case D_c => assumption); (case XB_c => assumption); (case TB_c => assumption); (case T00_c => first | assumption | exact KtsTurn.refl); (case G00_c => first | assumption | exact GRel.refl _); (case htg_c => exact fun _ _ => rfl); (case h0_c => exact ⟨π, _, _, _, _, [], SameOff.eqs hj0, PJ.start _ _ _ _, hA.up (fun p hp => .tail _ hp), Nat.ne_of_gt (l1 _ hA.dm)⟩)); rotate_left; ((refine hide fun G__ k__ => ?_; obtain ⟨π', oP', kP', ys, nd, τ, hj1, hPJ, hA, hSd⟩ := hJ; refine k__ ?_; clear k__ G__); rw [hj1.eqM] at C'; obtain ⟨B', F', N', X', T', D', XB', TB'⟩ := C'; (try k_lift B'); (try k_fold)); rotate_right; ((refine hide fun G__ k__ => ?_; obtain ⟨π', oP', kP', ys, nd, τ, hj1, hPJ, hA, hSd⟩ := hJ; refine k__ ?_; clear k__ G__); rw [hj1.eqM] at C'; (refine hide fun G__ k__ => ?_; obtain ⟨kk, tk9, hkk, hvt⟩ := hI'.get hk; refine k__ ?_; clear k__ G__); subst hvt; have hMr := hA.lm; obtain ⟨row, hrow⟩ := look_some_key.mp (hp2.mem_iff.mp (List.mem_of_getElem? hkk)); (refine hide fun G__ k__ => ?_; obtain ⟨jj, hjj, hjl, hσj⟩ := hPJ.here iv hnd hkk hrow; refine k__ ?_; clear k__ G__); (refine hide fun G__ k__ => ?_; obtain ⟨ax, ox, ex, mx, its, nx, rfl, hrv⟩ := hMr.rows.lists.look_some hrow; refine k__ ?_; clear k__ G__); have hmx := hMr.rows.lsin _ mx; have hlen := hMr.rows.len_at hrow hrv; have hjb : jj < 2 ^ 60 := (by have := iv.len _ _ hrow; omega); (refine hide fun G__ k__ => ?_; obtain ⟨v0, hv0, ho0⟩ := hrv.at (List.getElem?_eq_getElem hjl); refine k__ ?_; clear k__ G__); (refine hide fun G__ k__ => ?_; obtain ⟨o1', hc1', hd1'⟩ := hMr.c1; refine k__ ?_; clear k__ G__); (refine hide fun G__ k__ => ?_; obtain ⟨o4', hc4', hd4'⟩ := hMr.c4; refine k__ ?_; clear k__ G__); have hdm := hA.dm; obtain ⟨B', F', N', X', T', D', XB', TB'⟩ := C'; (try k_lift B'); (try k_fold)))))
  k_with "subscriptTail" => (guard_hyp hT40; ((k_here; (with_reducible show wpAny _ _ (subscriptTail (PySem.Expr.Name (PySem.Str.ofString "places") _) _ _ _) _ _ _); k_dflt (refine' item_ints ?N_w hMr.pls hjj (fun u => ?_) ?s_w; (case N_w => k_asm); (case s_w => with_unfolding_all rfl)); (try dsimp only))))
  k_with "subscriptTail" => (guard_hyp hT40; ((k_here; (with_reducible show wpAny _ _ (subscriptTail (PySem.Expr.Name (PySem.Str.ofString "rows") _) _ _ _) _ _ _); k_dflt (refine' item_val ?N_k hMr.rows.body hMr.rows.isd ex ?_ ?s_k; (case N_k => k_asm); (case s_k => with_unfolding_all rfl)); (try dsimp only))))
  k_with "subscriptTail" => (guard_hyp hT40; ((k_here; (with_reducible show wpAny _ _ (subscriptTail (PySem.Expr.Subscript _ _ _) _ (Value.ref _) (Value.int (Nat.cast _) _)) _ _ _); k_dflt (refine' item_ledN ?N_r hmx hjb hv0 ?_ ?s_r; (case N_r => k_asm); (case s_r => with_unfolding_all rfl)); (try dsimp only))))
  k_with "subscriptTail" => (guard_hyp hT40; ((k_here; (with_reducible show wpAny _ _ (subscriptTail (PySem.Expr.Subscript _ _ _) _ (Value.ref _) (Value.int (_ + 1) _)) _ _ _); have hj1l : jj + 1 < row.length := (by have e1 := hrv.length; have e2 : (jj : Int) + 1 < (its.length : Int) := (by assumption); omega); (refine hide fun G__ k__ => ?_; obtain ⟨v1, hv1, ho1⟩ := hrv.at (List.getElem?_eq_getElem hj1l); refine k__ ?_; clear k__ G__); k_dflt (refine' item_ledN (i := jj + 1) ?N_a0 hmx ?b_a0 hv1 ?_ ?s_a0; (case N_a0 => k_asm); (case b_a0 => omega); (case s_a0 => with_unfolding_all rfl)); (try dsimp only))))
  k_with "call builtin:len" => (guard_hyp hT40; ((k_here; k_dflt (refine' len_led ?N_p hmx hlen ?_; (case N_p => k_asm)); (try dsimp only))))
  k_with "getItem" => (guard_hyp hT40; ((k_here; k_dflt (refine' get_ints ?N_q hMr.pls hjj (fun u => ?_); (case N_q => k_asm)); (try dsimp only))))
  k_with "call builtin:list.append" => (guard_hyp hT40; ((k_here; rename News _ _ _ _ => hNt; k_dflt (refine' append_led ?F_aw hNt (List.Mem.tail _ hA.dm) ?l_aw (fun h' F' N' => ?_); (case F_aw => k_asm); (case l_aw => (have e1 := hA.tups.len; have e2 := hPJ.tlen; have e3 := hp2.length_eq; have e4 := iv.rl; rw [List.length_map] at e3; omega))); (try dsimp only); have hA2 := AK.append2 hNt hA ho0 ho1; have hSt2 := StL.append2 hNt hSt hA.dm hSd; replace hMr := hA2.lm; (refine hide fun G__ k__ => ?_; obtain ⟨o1', hc1', hd1'⟩ := hMr.c1; refine k__ ?_; clear k__ G__); (refine hide fun G__ k__ => ?_; obtain ⟨o4', hc4', hd4'⟩ := hMr.c4; refine k__ ?_; clear k__ G__))))
  k_with "setItem ref int int" => (guard_hyp hT40; ((k_here; k_dflt (refine' store_int ?F_aA ?N_aA hMr.pls ?len_aA (fun h' n' od' kvs' F' N' hD' hk' => ?_); (case F_aA => k_asm); (case N_aA => k_asm); (case len_aA => (have e1 := hPJ.len; have e2 := iv.pl; omega))); (try dsimp only); have hA3 := AK.plput (by assumption) hA2 hD' hk'; have hSt3 := StL.put (g' := #[]) hSt2 (by assumption) hMr.pls.body hMr.pls.isd hk')))
  k_with "@J" => (guard_hyp hT40; (k_dflt (first | exact ⟨⟨_, _, _, _, _, _, (by repeat (first | exact SameOff.eqs (by assumption) | exact SameOff.refl | refine SameOff.ite (by rfl) ?_)), hPJ.due hnd hkk hrow hjj (telK_due hσj (List.getElem?_eq_getElem hjl) (List.getElem?_eq_getElem hj1l)), hA3, hSd⟩, StL.up (g' := _) hSt3 (fun p hp => hp)⟩ | exact ⟨⟨_, _, _, _, _, _, (by repeat (first | exact SameOff.eqs (by assumption) | exact SameOff.refl | refine SameOff.ite (by rfl) ?_)), hPJ.skip hkk (telK_not hσj hjl (fun q => by have e1 := hrv.length; have e2 : ¬ ((jj : Int) + 1 < (its.length : Int)) := (by assumption); omega)), hA, hSd⟩, hSt⟩ | (rw [hI'.len] at hPJ; exact ⟨x, cd, u2, σ, ρ, π, _, _, _, _, _, _, _, _, _, _, _, _, _, _, _, _, _, π', _, _, _, _, _, SameOff.eqs hj1, hcd, iv, hsn, ⟨ks, hPJ, hp2, ho'⟩, hA⟩))))
  trivial
set_option maxRecDepth 100000 in
set_option maxHeartbeats 40000000 in
theorem c_ackB (w : World) (dp un : Nat) (gd : Option (List Code)) (outer : List Env) (base : Heap) (loose : List Str) (mean : ExcName → Option Value) (mg mb : Str → Option Value) (o : Obj) (ho : (hd.heap_39 w.params).lookup 437 = some o) (L' : Addr) (h00 : Heap) (g00 : Array GenState) (s : Shared) (Q : Flow → Shared → Prop) (E : Value → Shared → Prop) (hdp : dp + 100 < recursionLimit) (hun : un + 1000 < cLine) (hE : PassesOwn (model Challenge.rw_ix0031_01.row.prog w) (Around.deeper { handled := none, depth := dp, frames := some outer, guards := gd, units := un } (lawE o L')) (lawE o L') E) (c : Bool) (D I : Addr) (vs : List Value) (k i : Nat) (hi : i < 14) (next : Go w { handled := none, depth := dp, frames := some outer, guards := gd, units := un } base outer loose mean mg mb h00 g00 L' s Q E (lawE o L') ((inIf (inElse (nthS 4 (inFor (nthS 9 (obS o)))))).drop 3) (LA w c L' D I vs k i LA1)) : Go w { handled := none, depth := dp, frames := some outer, guards := gd, units := un } base outer loose mean mg mb h00 g00 L' s Q E (lawE o L') ((inIf (inElse (nthS 4 (inFor (nthS 9 (obS o)))))).drop 2) (LA w c L' D I vs k i LA0) := by
  have hT40 := trivial; have g1 := trivial; have g2 := trivial; have g4 := trivial; have g5 := trivial; have g6 := trivial; have g7 := trivial; have g8 := trivial
  intro m₁ n₁ h₁ gn tk g₁ hJ hTn hGn C'
  have X := C'.X
  have kfl : Challenge.rw_ix0031_01.row = Challenge.rw_ix0031_01.row := rfl
  revert kfl X ho
  k_fill
  intro ho X kfl
  obtain rfl := lookE ho (by k_is)
  clear X ho
  dsimp only [obS, obSc, obCd, lawN, lawE, nthS, inFor, inIf, inElse, List.drop, List.take]
  (refine hide fun G__ k__ => ?_; obtain ⟨x, cd, u2, σ, ρ, π, dx, d, t1, t2, nn, od, kvs, ls, rd, oR, kR, lR, pd, td, oT, tkvs, du, π0, oP, kP, ys0, nd0, τ0, hj0, hcd, iv, hsn, ⟨hπ0, hτ0⟩, hA⟩ := hJ; refine k__ ?_; clear k__ G__)
  rw [hπ0, hτ0] at hA
  (refine hide fun G__ k__ => ?_; obtain ⟨o1, hc1, hd1⟩ := hA.lm.c1; refine k__ ?_; clear k__ G__)
  rw [hj0.eqM] at C'
  obtain ⟨B', F', N', X', T', D', XB', TB'⟩ := C'; (try k_lift B'); (try k_fold)
  have hTm := hTn; have hGm := hGn
  refine cut hTm hGm ⟨B', F', N', X', T', D', XB', TB'⟩ (LA w c L' D I vs k i LA1) ?_ fun m₁ n₁ h₁ gn tk g₁ hJ hTn hGn C' => next _ _ _ _ _ _ hJ hTn hGn C'
  k_steps
theorem words_T41 : True := by
  k_with "pyIter ref" => (guard_hyp hT41; ((k_here; k_dflt (refine' comp_list ?T00_c ?G00_c ⟨?B_c, ?F_c, ?N_c, ?X_c, ?T_c, ?D_c, ?XB_c, ?TB_c⟩ rfl (List.Mem.head _) ?hn_c ?hc_c ?hk_c ?hx_c (fun j ys n => TupsL n (τ.take j) ys) (fun _ => .nil) (fun j ys n n' h hk => h.go hk) (fun Cc j v ys oC mC n₂ h₁ tk gn g₁ hi9 hP hb2 hY hCc hNs hmx hTn hG C' E' => ?_) (fun Dn ysn nd2 n₂ h₁ tk gn g₁ hb2 hY hDm hTn hG C' => ?_); (case B_c => k_asm); (case F_c => k_asm); (case N_c => k_asm); (case X_c => k_asm); (case T_c => k_asm); (case D_c => assumption); (case XB_c => assumption); (case TB_c => assumption); (case T00_c => first | assumption | exact KtsTurn.refl); (case G00_c => first | assumption | exact GRel.refl _); (case hn_c => (have e1 := hI'.len; rw [List.length_map] at e1; omega)); (case hc_c => decide); (case hk_c => rfl); (case hx_c => rfl)); rotate_left; (have hA3 := hAs.up hb2; have hY2 : TupsL n₂ τ ysn := (by have e1 := hI'.len; rw [List.length_map] at e1; have hY3 : TupsL _ _ _ := hY; rw [e1, List.take_length] at hY3; exact hY3); have hdm3 := hA3.dm; obtain ⟨B', F', N', X', T', D', XB', TB'⟩ := C'; (try k_lift B'); (try k_fold)); rotate_right; (have hGr := GRel.refl gn; (refine hide fun G__ k__ => ?_; obtain ⟨kk, tk9, hkk, hvt⟩ := hI'.get hP; refine k__ ?_; clear k__ G__); subst hvt; (refine hide fun G__ k__ => ?_; obtain ⟨pp, hpp, hpe⟩ := List.getElem?_map .. ▸ hkk |> Option.map_eq_some_iff.mp; refine k__ ?_; clear k__ G__); obtain ⟨k9, old, new⟩ := pp; have hpe2 : k9 = kk := hpe; subst hpe2; (refine hide fun G__ k__ => ?_; obtain ⟨v9, hv9, y9, dy9, t9, b1, b2, b3, n9, w0, w1, rfl, hy9, hdy9, hw0, hw1, hne9⟩ := TeldL.mem hAs.tl (due_nodup' hsn hkσ) ((due_perm hsn hkσ).mem_iff.mp (hτ ▸ List.mem_of_getElem? hpp)); refine k__ ?_; clear k__ G__); replace hy9 := hb2 _ hy9; replace hdy9 := hb2 _ hdy9; dsimp only [chgDict] at hdy9; have z3 := hb2 _ (.tail _ hc3); have htm2 := hb2 _ hAs.tm; obtain ⟨B', F', N', X', T', D', XB', TB'⟩ := C'; (try k_lift B'); (try k_fold); refine tests_nil ?_))))
  k_with "compareOp NotEq ref ref" => (guard_hyp hT41; ((k_here; k_dflt (refine' tups_same ?N_r hY2 hA3.tups hDm hdm3 ?u1_r ?u2_r ?_; (case N_r => k_asm); (case u1_r => k_units); (case u2_r => k_units)))))
  k_with "@J" => (guard_hyp hT41; (k_dflt (first | exact ⟨rfl, fun p hp => .tail _ hp, GRel.refl _, (by rw [take_snoc hpp]; exact TupsL.snoc (hY.go fun p hp _ => .tail _ hp) (.head _) hw0 hw1)⟩ | exact ⟨x, cd, u2, σ, ρ, π, _, _, _, _, _, _, _, _, _, _, _, _, _, _, _, _, _, π', _, _, _, _, τ, SameOff.eqs hj0, hcd, iv, hsn, ⟨ks, hPJ, hkp, hko⟩, hA3⟩)))
  trivial
set_option maxRecDepth 100000 in
set_option maxHeartbeats 40000000 in
theorem c_ackC (w : World) (dp un : Nat) (gd : Option (List Code)) (outer : List Env) (base : Heap) (loose : List Str) (mean : ExcName → Option Value) (mg mb : Str → Option Value) (o : Obj) (ho : (hd.heap_39 w.params).lookup 437 = some o) (L' : Addr) (h00 : Heap) (g00 : Array GenState) (s : Shared) (Q : Flow → Shared → Prop) (E : Value → Shared → Prop) (hdp : dp + 100 < recursionLimit) (hun : un + 1000 < cLine) (c : Bool) (D I : Addr) (vs : List Value) (k i : Nat) (hi : i < 14) (next : Go w { handled := none, depth := dp, frames := some outer, guards := gd, units := un } base outer loose mean mg mb h00 g00 L' s Q E (lawE o L') ((inIf (inElse (nthS 4 (inFor (nthS 9 (obS o)))))).drop 4) (LA w c L' D I vs k i LA1)) : Go w { handled := none, depth := dp, frames := some outer, guards := gd, units := un } base outer loose mean mg mb h00 g00 L' s Q E (lawE o L') ((inIf (inElse (nthS 4 (inFor (nthS 9 (obS o)))))).drop 3) (LA w c L' D I vs k i LA1) := by
  have hT41 := trivial; have g1 := trivial; have g2 := trivial; have g4 := trivial; have g6 := trivial; have g7 := trivial; have g8 := trivial
  intro m₁ n₁ h₁ gn tk g₁ hJ hTn hGn C'
  have X := C'.X
  have kfl : Challenge.rw_ix0031_01.row = Challenge.rw_ix0031_01.row := rfl
  revert kfl X ho
  k_fill
  intro ho X kfl
  obtain rfl := lookE ho (by k_is)
  clear X ho
  dsimp only [obS, obSc, obCd, lawN, lawE, nthS, inFor, inIf, inElse, List.drop, List.take]
  (refine hide fun G__ k__ => ?_; obtain ⟨x, cd, u2, σ, ρ, π, dx, d, t1, t2, nn, od, kvs, ls, rd, oR, kR, lR, pd, td, oT, tkvs, du, π', oP, kP, ys0, nd0, τ, hj0, hcd, iv, hsn, ⟨ks, hPJ, hkp, hko⟩, hA⟩ := hJ; refine k__ ?_; clear k__ G__)
  (refine hide fun G__ k__ => ?_; obtain ⟨o3, hc3, hd3⟩ := hA.told; refine k__ ?_; clear k__ G__)
  have hτ : τ = ks.flatMap (telK σ) := by have e := hPJ.tel; rw [List.take_length] at e; exact e
  have hkσ : ks.Perm (σ.map (·.1)) := hkp.trans (perm_keys hA.lm.rows.keysNd hsn fun j => by rw [look_some_key, look_some_key, ← Option.isSome_iff_exists, ← Option.isSome_iff_exists, iv.same])
  have hdm := hA.dm
  have htl : τ.length < 60 := by have e1 := hPJ.tlen; have e2 := hkp.length_eq; have e3 := iv.rl; rw [List.length_map] at e2; omega
  rw [hj0.eqM] at C'
  obtain ⟨B', F', N', X', T', D', XB', TB'⟩ := C'; (try k_lift B'); (try k_fold)
  have hTm := hTn; have hGm := hGn
  refine cut hTm hGm ⟨B', F', N', X', T', D', XB', TB'⟩ (LA w c L' D I vs k i LA1) ?_ fun m₁ n₁ h₁ gn tk g₁ hJ hTn hGn C' => next _ _ _ _ _ _ hJ hTn hGn C'
  k_steps
theorem words_T42 : True := by
  k_with "pyIter ref" => (guard_hyp hT42; ((k_here; k_dflt (refine' comp_list ?T00_q ?G00_q ⟨?B_q, ?F_q, ?N_q, ?X_q, ?T_q, ?D_q, ?XB_q, ?TB_q⟩ rfl (List.Mem.head _) ?hn_q ?hc_q ?hk_q ?hx_q (fun j ys n => IntsV ((τ.map (·.1)).take j) ys) (fun _ => .nil) (fun j ys n n' h hk => h) (fun Cc j v ys oC mC n₂ h₁ tk gn g₁ hi9 hP hb2 hY hCc hNs hmx hTn hG C' E' => ?_) (fun Dn ysn nd2 n₂ h₁ tk gn g₁ hb2 hY hDm hTn hG C' => ?_); (case B_q => k_asm); (case F_q => k_asm); (case N_q => k_asm); (case X_q => k_asm); (case T_q => k_asm); (case D_q => assumption); (case XB_q => assumption); (case TB_q => assumption); (case T00_q => first | assumption | exact KtsTurn.refl); (case G00_q => first | assumption | exact GRel.refl _); (case hn_q => (have e1 := hI'.len; rw [List.length_map] at e1; omega)); (case hc_q => decide); (case hk_q => rfl); (case hx_q => rfl)); rotate_left; (have hA3 := hAs.up hb2; have hY2 : IntsV (τ.map (·.1)) ysn := (by have e1 := hI'.len; have hY3 : IntsV _ _ := hY; rw [e1, List.take_length] at hY3; exact hY3); have hdm3 := hA3.dm; obtain ⟨B', F', N', X', T', D', XB', TB'⟩ := C'; (try k_lift B'); (try k_fold)); rotate_right; (have hGr := GRel.refl gn; (refine hide fun G__ k__ => ?_; obtain ⟨kk, tk9, hkk, hvt⟩ := hI'.get hP; refine k__ ?_; clear k__ G__); subst hvt; (refine hide fun G__ k__ => ?_; obtain ⟨pp, hpp, hpe⟩ := List.getElem?_map .. ▸ hkk |> Option.map_eq_some_iff.mp; refine k__ ?_; clear k__ G__); obtain ⟨k9, old, new⟩ := pp; have hpe2 : k9 = kk := hpe; subst hpe2; (refine hide fun G__ k__ => ?_; obtain ⟨v9, hv9, y9, dy9, t9, b1, b2, b3, n9, w0, w1, rfl, hy9, hdy9, hw0, hw1, hne9⟩ := TeldL.mem hAs.tl (due_nodup' hsn hkσ) ((due_perm hsn hkσ).mem_iff.mp (hτ ▸ List.mem_of_getElem? hpp)); refine k__ ?_; clear k__ G__); replace hy9 := hb2 _ hy9; replace hdy9 := hb2 _ hdy9; dsimp only [chgDict] at hdy9; have z3 := hb2 _ (.tail _ hc3); have htm2 := hb2 _ hAs.tm; obtain ⟨B', F', N', X', T', D', XB', TB'⟩ := C'; (try k_lift B'); (try k_fold); refine tests_nil ?_))))
  k_with "pyIter ref" => (guard_hyp hT42; ((k_here; k_dflt (refine' comp_list ?T00_p ?G00_p ⟨?B_p, ?F_p, ?N_p, ?X_p, ?T_p, ?D_p, ?XB_p, ?TB_p⟩ rfl hA3.dm ?hn_p ?hc_p ?hk_p ?hx_p (fun j ys n => IntsV ((τ.map (·.1)).take j) ys) (fun _ => .nil) (fun j ys n n' h hk => h) (fun Cc j v ys oC mC n₂ h₁ tk gn g₁ hi9 hP hb4 hY5 hCc hNs hmx hTn hG C' E' => ?_) (fun Dm ysm nd4 n₂ h₁ tk gn g₁ hb4 hY5 hDm4 hTn hG C' => ?_); (case B_p => k_asm); (case F_p => k_asm); (case N_p => k_asm); (case X_p => k_asm); (case T_p => k_asm); (case D_p => assumption); (case XB_p => assumption); (case TB_p => assumption); (case T00_p => first | assumption | exact KtsTurn.refl); (case G00_p => first | assumption | exact GRel.refl _); (case hn_p => (have e1 := hA3.tups.len; omega)); (case hc_p => decide); (case hk_p => rfl); (case hx_p => rfl)); rotate_left; (have hA5 := hA3.up hb4; have hY6 : IntsV (τ.map (·.1)) ysm := (by have e1 := hA3.tups.len; have hY7 : IntsV _ _ := hY5; rw [e1, ← List.length_map (f := fun p : Tel => p.1), List.take_length] at hY7; exact hY7); have hDm3 := hb4 _ hDm; obtain ⟨B', F', N', X', T', D', XB', TB'⟩ := C'; (try k_lift B'); (try k_fold)); rotate_right; (have hGr := GRel.refl gn; (refine hide fun G__ k__ => ?_; obtain ⟨k9, old, new, t9, w0, w1, tp, hpp, rfl, htp, hw0, hw1⟩ := hA3.tups.at hP; refine k__ ?_; clear k__ G__); have htp2 := hb4 _ htp; obtain ⟨B', F', N', X', T', D', XB', TB'⟩ := C'; (try k_lift B'); (try k_fold); refine tests_nil ?_))))
  k_with "compareOp NotEq ref ref" => (guard_hyp hT42; ((k_here; k_dflt (refine' ints_ne_same ?N_aw hY2 hY6 hDm3 hDm4 ?u_aw ?_; (case N_aw => k_asm); (case u_aw => k_units)))))
  k_with "@J" => (guard_hyp hT42; (k_dflt (first | exact ⟨rfl, fun p hp => hp, GRel.refl _, (by rw [take_snoc hkk]; exact hY.snoc _ _)⟩ | exact ⟨rfl, fun p hp => hp, GRel.refl _, (by rw [take_snoc (by rw [List.getElem?_map, hpp]; rfl)]; exact IntsV.snoc hY5 _ _)⟩ | exact ⟨x, cd, u2, mU_K (SameOff.eqs hj0), hA5.code, hcd, ⟨_, _, _, _, _, _, _, _, _, _, _, _, _, _, _, _, _, _, hA5.lm, (iv.acked hPJ hkp).le (Nat.le_succ i), hA5.dln⟩, hA5.st⟩)))
  trivial
set_option maxRecDepth 100000 in
set_option maxHeartbeats 40000000 in
theorem c_ackD (w : World) (dp un : Nat) (gd : Option (List Code)) (outer : List Env) (base : Heap) (loose : List Str) (mean : ExcName → Option Value) (mg mb : Str → Option Value) (o : Obj) (ho : (hd.heap_39 w.params).lookup 437 = some o) (L' : Addr) (h00 : Heap) (g00 : Array GenState) (s : Shared) (Q : Flow → Shared → Prop) (E : Value → Shared → Prop) (hdp : dp + 100 < recursionLimit) (hun : un + 1000 < cLine) (c : Bool) (D I : Addr) (vs : List Value) (k i : Nat) (hi : i < 14) (next : FinN w { handled := none, depth := dp, frames := some outer, guards := gd, units := un } base outer loose mean mg mb h00 g00 L' s Q (LT5 w c L' D I vs k i)) : Go w { handled := none, depth := dp, frames := some outer, guards := gd, units := un } base outer loose mean mg mb h00 g00 L' s Q E (lawE o L') ((inIf (inElse (nthS 4 (inFor (nthS 9 (obS o)))))).drop 4) (LA w c L' D I vs k i LA1) := by
  have hT42 := trivial; have g1 := trivial; have g2 := trivial; have g4 := trivial; have g6 := trivial; have g7 := trivial; have g8 := trivial
  intro m₁ n₁ h₁ gn tk g₁ hJ hTn hGn C'
  have X := C'.X
  have kfl : Challenge.rw_ix0031_01.row = Challenge.rw_ix0031_01.row := rfl
  revert kfl X ho
  k_fill
  intro ho X kfl
  obtain rfl := lookE ho (by k_is)
  clear X ho
  dsimp only [obS, obSc, obCd, lawN, lawE, nthS, inFor, inIf, inElse, List.drop, List.take]
  (refine hide fun G__ k__ => ?_; obtain ⟨x, cd, u2, σ, ρ, π, dx, d, t1, t2, nn, od, kvs, ls, rd, oR, kR, lR, pd, td, oT, tkvs, du, π', oP, kP, ys0, nd0, τ, hj0, hcd, iv, hsn, ⟨ks, hPJ, hkp, hko⟩, hA⟩ := hJ; refine k__ ?_; clear k__ G__)
  (refine hide fun G__ k__ => ?_; obtain ⟨o3, hc3, hd3⟩ := hA.told; refine k__ ?_; clear k__ G__)
  have hτ : τ = ks.flatMap (telK σ) := by have e := hPJ.tel; rw [List.take_length] at e; exact e
  have hkσ : ks.Perm (σ.map (·.1)) := hkp.trans (perm_keys hA.lm.rows.keysNd hsn fun j => by rw [look_some_key, look_some_key, ← Option.isSome_iff_exists, ← Option.isSome_iff_exists, iv.same])
  have hdm := hA.dm
  have htl : τ.length < 60 := by have e1 := hPJ.tlen; have e2 := hkp.length_eq; have e3 := iv.rl; rw [List.length_map] at e2; omega
  rw [hj0.eqM] at C'
  obtain ⟨B', F', N', X', T', D', XB', TB'⟩ := C'; (try k_lift B'); (try k_fold)
  have hTm := hTn; have hGm := hGn
  refine cut hTm hGm ⟨B', F', N', X', T', D', XB', TB'⟩ (LT5 w c L' D I vs k i) ?_ fun m₁ n₁ h₁ gn tk g₁ hJ hTn hGn C' => wpAny_execs_nil (next _ _ _ _ _ _ hJ hTn hGn C')
  k_steps
theorem words_T43 : True := by
  k_with "execs cons" => (guard_hyp hT43; ((k_here; (with_reducible show wpAny _ _ (execs (PySem.Stmt.Assign [PySem.Expr.Name (PySem.Str.ofString "fault") _] _ _ :: _) _) _ _ _); k_dflt (first | exact c_puts w dp un gd outer base loose mean mg mb _ ho L' h00 g00 s _ E hdp hun c D I vs k i hi (fun m n h gn tk g hJ hT hG hC => ⟨h, gn, tk, m, n, g, rfl, hT, hG, hC, hJ⟩) _ _ _ _ _ _ hJ9 hTn hGn C9 | exact c_recv w dp un gd outer base loose mean mg mb _ ho L' h00 g00 s _ E hdp hun c D I vs k i hi (fun m n h gn tk g hJ hT hG hC => ⟨h, gn, tk, m, n, g, rfl, hT, hG, hC, hJ⟩) _ _ _ _ _ _ hJ9 hTn hGn C9))))
  k_with "execs cons" => (guard_hyp hT43; ((k_here; (with_reducible show wpAny _ _ (execs (PySem.Stmt.Assign [PySem.Expr.Name (PySem.Str.ofString "told") _] _ _ :: _) _) _ _ _); k_dflt (exact c_ackA w dp un gd outer base loose mean mg mb _ ho L' h00 g00 s _ E hdp hun c D I vs k i hi (c_ackB w dp un gd outer base loose mean mg mb _ ho L' h00 g00 s _ E hdp hun hE c D I vs k i hi (c_ackC w dp un gd outer base loose mean mg mb _ ho L' h00 g00 s _ E hdp hun c D I vs k i hi (c_ackD w dp un gd outer base loose mean mg mb _ ho L' h00 g00 s _ E hdp hun c D I vs k i hi (fun m n h gn tk g hJ hT hG hC => ⟨h, gn, tk, m, n, g, rfl, hT, hG, hC, hJ⟩)))) _ _ _ _ _ _ hJ9 hTn hGn C9))))
  k_with "execs cons" => (guard_hyp hT43; ((k_here; (with_reducible show wpAny _ _ (execs (PySem.Stmt.If (PySem.Expr.Compare (PySem.Expr.Call _ _ _ _) _ _ _) _ _ _ :: _) _) _ _ _); k_dflt (exact c_gon w dp un gd outer base loose mean mg mb _ ho L' h00 g00 s _ E hdp hun c D I vs k i hi (fun m n h gn tk g hJ hT hG hC => ⟨h, gn, tk, m, n, g, rfl, hT, hG, hC, hJ⟩) _ _ _ _ _ _ hJ9 hTn hGn C9))))
  k_with "execs cons" => (guard_hyp hT43; ((k_here; (with_reducible show wpAny _ _ (execs [PySem.Stmt.If (PySem.Expr.Compare (PySem.Expr.Name _ _) _ _ _) _ _ _] _) _ _ _); refine execs_one ?_)))
  trivial
set_option maxRecDepth 100000 in
set_option maxHeartbeats 40000000 in
theorem c_t4 (w : World) (dp un : Nat) (gd : Option (List Code)) (outer : List Env) (base : Heap) (loose : List Str) (mean : ExcName → Option Value) (mg mb : Str → Option Value) (o : Obj) (ho : (hd.heap_39 w.params).lookup 437 = some o) (L' : Addr) (h00 : Heap) (g00 : Array GenState) (s : Shared) (Q : Flow → Shared → Prop) (E : Value → Shared → Prop) (hdp : dp + 100 < recursionLimit) (hun : un + 1000 < cLine) (hE : PassesOwn (model Challenge.rw_ix0031_01.row.prog w) (Around.deeper { handled := none, depth := dp, frames := some outer, guards := gd, units := un } (lawE o L')) (lawE o L') E) (c : Bool) (D I : Addr) (vs : List Value) (k i : Nat) (hi : i < 14) (next : Go w { handled := none, depth := dp, frames := some outer, guards := gd, units := un } base outer loose mean mg mb h00 g00 L' s Q E (lawE o L') ((inFor (nthS 9 (obS o))).drop 5) (LT5 w c L' D I vs k i)) : Go w { handled := none, depth := dp, frames := some outer, guards := gd, units := un } base outer loose mean mg mb h00 g00 L' s Q E (lawE o L') ((inFor (nthS 9 (obS o))).drop 4) (LT4 w c L' D I vs k i) := by
  have hT43 := trivial; have g1 := trivial; have g2 := trivial; have g4 := trivial; have g6 := trivial; have g7 := trivial; have g8 := trivial
  intro m₁ n₁ h₁ gn tk g₁ hJ hTn hGn C'
  have X := C'.X
  have kfl : Challenge.rw_ix0031_01.row = Challenge.rw_ix0031_01.row := rfl
  revert kfl X ho
  k_fill
  intro ho X kfl
  obtain rfl := lookE ho (by k_is)
  clear X
  dsimp only [obS, obSc, obCd, lawN, lawE, nthS, inFor, inIf, inElse, List.drop, List.take]
  (refine hide fun G__ k__ => ?_; obtain ⟨x, de, cd, va, u1, u2, u3, hj0, hcl, hcd, hva, hK, hSt⟩ := hJ; refine k__ ?_; clear k__ G__)
  have hJ9 : LT4 w c L' D I vs k i (offM off9t (mT (.int de u1) (.int va u3) (.ref x) (.bool c)) m₁) n₁ := ⟨x, de, cd, va, u1, u2, u3, SameOff.eqs hj0, hcl, hcd, hva, hK, hSt⟩
  rw [hj0.eqM] at C'
  have C9 := C'
  refine cut hTn hGn C9 (LT5 w c L' D I vs k i) ?_ fun m₁ n₁ h₁ gn tk g₁ hJ hTn hGn C' => next _ _ _ _ _ _ hJ hTn hGn C'
  obtain ⟨B', F', N', X', T', D', XB', TB'⟩ := C'
  k_steps
set_option maxRecDepth 100000 in
set_option maxHeartbeats 40000000 in
theorem c_turn (w : World) (dp un : Nat) (gd : Option (List Code)) (outer : List Env) (base : Heap) (loose : List Str) (mean : ExcName → Option Value) (mg mb : Str → Option Value) (o : Obj) (ho : (hd.heap_39 w.params).lookup 437 = some o) (L' : Addr) (h00 : Heap) (g00 : Array GenState) (s : Shared) (Q : Flow → Shared → Prop) (E : Value → Shared → Prop) (hdp : dp + 100 < recursionLimit) (hun : un + 1000 < cLine) (hE : PassesOwn (model Challenge.rw_ix0031_01.row.prog w) (Around.deeper { handled := none, depth := dp, frames := some outer, guards := gd, units := un } (lawE o L')) (lawE o L') E) (c : Bool) (I D : Addr) (vs : List Value) (k i : Nat) (dr : Int) (hi : i < 14) (next : FinN w { handled := none, depth := dp, frames := some outer, guards := gd, units := un } base outer loose mean mg mb h00 g00 L' s Q (LTe w c L' D I vs k i)) : Go w { handled := none, depth := dp, frames := some outer, guards := gd, units := un } base outer loose mean mg mb h00 g00 L' s Q E (lawE o L') (inFor (nthS 9 (obS o))) (LT0 w c L' D I vs k i dr) :=
  c_t0 w dp un gd outer base loose mean mg mb o ho L' h00 g00 s Q E hdp hun c D I vs k i dr (c_t4 w dp un gd outer base loose mean mg mb o ho L' h00 g00 s Q E hdp hun hE c D I vs k i hi (c_t5 w dp un gd outer base loose mean mg mb o ho L' h00 g00 s Q E hdp hun c D I vs k i hi next))
section
variable {w : World} {c : Bool} {L x : Addr} {σ σ' σ2 ρ ρ' : Sgs} {π π' : List (Int × Int)} {dx d : Addr} {t1 t2 : Tok} {nn : Nat} {od : Obj} {kvs : List (Int × Value)} {ls ls2 : Led} {rd d2 : Addr} {oR od2 : Obj} {kR kvs2 : List (Int × Value)} {lR lD lR' : Led} {pd pd' : Addr} {oP oP' : Obj} {kP kP' : List (Int × Value)} {n n1 n' : Led} {h₀ h : Heap} {F : Addr}
theorem DicL.offS (N : News h₀ F h n) (H : DicL w d σ n od kvs ls) (S : DicL w d2 σ2 n od2 kvs2 ls2) (h1 : d ≠ d2) (h2 : ∀ p ∈ ls, p.1 ∉ ls2.map (·.1)) (hk : ∀ p ∈ n, p.1 ≠ d2 → p.1 ∉ ls2.map (·.1) → p ∈ n') : DicL w d σ n' od kvs ls :=
  ⟨hk _ H.body h1 (S.dictOff N H.body H.isd), H.isd, H.lists, fun p hp => hk _ (H.lsin p hp) (fun e => H.dictOff N S.body S.isd (e ▸ List.mem_map_of_mem hp)) (h2 p hp), H.low, H.ne, H.nd, H.fit⟩
theorem SetL.offS (N : News h₀ F h n) (H : SetL w x c σ n dx d t1 t2 nn od kvs ls) (S : DicL w d2 σ2 n od2 kvs2 ls2) (h1 : d ≠ d2) (h2 : ∀ p ∈ ls, p.1 ∉ ls2.map (·.1)) (hk : ∀ p ∈ n, p.1 ≠ d2 → p.1 ∉ ls2.map (·.1) → p ∈ n') : SetL w x c σ n' dx d t1 t2 nn od kvs ls := by
  refine ⟨hk _ H.inst ?_ ?_, hk _ H.dict ?_ ?_, H.sep, H.dic.offS N S h1 h2 hk⟩
  · (refine hide fun G__ k__ => ?_; obtain ⟨es, ep, hx, hd, _⟩ := S.isd; refine k__ ?_; clear k__ G__)
    exact led_ne N H.inst S.body fun e => by rw [← e] at hd; cases hd
  · intro q
    obtain ⟨r, hr, e⟩ := List.mem_map.mp q
    have h3 : (x, r.2) ∈ n := by rw [← (show r.1 = x from e)]; exact S.lsin r hr
    have h4 := led_eq N h3 H.inst
    (refine hide fun G__ k__ => ?_; obtain ⟨row, vs, k, e', _⟩ := S.lists.objs hr; refine k__ ?_; clear k__ G__)
    rw [e'] at h4; cases h4
  · intro e
    have e' : dx = d2 := e
    subst e'
    exact no_strdict S.isd (led_eq N S.body H.dict) rfl
  · intro q
    obtain ⟨r, hr, e⟩ := List.mem_map.mp q
    have h3 : (dx, r.2) ∈ n := by rw [← (show r.1 = dx from e)]; exact S.lsin r hr
    have h4 := led_eq N h3 H.dict
    (refine hide fun G__ k__ => ?_; obtain ⟨row, vs, k, e', _⟩ := S.lists.objs hr; refine k__ ?_; clear k__ G__)
    rw [e'] at h4; exact absurd (congrArg Obj.cls h4) (by show Value.type "list" ≠ Value.type "dict"; decide)
theorem LM.offS (N : News h₀ F h n) (H : LM w c L x σ ρ π dx d t1 t2 nn od kvs ls rd oR kR lR pd oP kP n) (S : DicL w d2 σ2 n od2 kvs2 ls2) (h1 : d ≠ d2) (h2 : rd ≠ d2) (h3 : pd ≠ d2) (h4 : ∀ p ∈ ls, p.1 ∉ ls2.map (·.1)) (h5 : ∀ p ∈ lR, p.1 ∉ ls2.map (·.1)) (hk : ∀ p ∈ n, p.1 ≠ d2 → p.1 ∉ ls2.map (·.1) → p ∈ n') :
    LM w c L x σ ρ π dx d t1 t2 nn od kvs ls rd oR kR lR pd oP kP n' := by
  have cell : ∀ p ∈ n, notCell p.2 = false → p ∈ n' := fun p hp hc => let ⟨a1, a2⟩ := S.cellOff N p hp hc; hk p hp a1 a2
  exact ⟨H.sets.offS N S h1 h4 hk, H.rows.offS N S h2 h5 hk, ⟨hk _ H.pls.body h3 (S.dictOff N H.pls.body H.pls.isd), H.pls.isd, H.pls.nums, H.pls.low⟩, H.c1.keep cell, H.c2.keep cell, H.c3.keep cell, H.c4.keep cell, H.gr, H.gp, H.rp, H.gl⟩
end
structure LO (w : World) (c2 : Bool) (y : Addr) (σ2 : Sgs) (dy d2 : Addr) (u1 u2 : Tok) (n2 : Nat) (od2 : Obj) (kvs2 : List (Int × Value)) (ls2 : Led) (d rd pd : Addr) (ls lR : Led) (l : List Addr) (n : Led) : Prop where
  sets : SetL w y c2 σ2 n dy d2 u1 u2 n2 od2 kvs2 ls2
  e1 : d ≠ d2
  e2 : rd ≠ d2
  e3 : pd ≠ d2
  e4 : ∀ p ∈ ls, p.1 ∉ ls2.map (·.1)
  e5 : ∀ p ∈ lR, p.1 ∉ ls2.map (·.1)
  e6 : ∀ a ∈ l, a ∉ ls2.map (·.1)
section
variable {w : World} {c c2 : Bool} {L x y : Addr} {σ σ' σ2 σ3 ρ ρ' : Sgs} {π π' : List (Int × Int)} {dx d dy : Addr} {t1 t2 u1 u2 : Tok} {nn n2 : Nat} {od : Obj} {kvs : List (Int × Value)} {ls ls2 : Led} {rd d2 : Addr} {oR od2 : Obj} {kR kvs2 : List (Int × Value)} {lR lD lR' : Led} {pd pd' : Addr} {oP oP' : Obj} {kP kP' : List (Int × Value)} {n n1 n' : Led} {h₀ h : Heap} {F : Addr} {l l' : List Addr}
theorem LO.up (H : LO w c2 y σ2 dy d2 u1 u2 n2 od2 kvs2 ls2 d rd pd ls lR l n) (hs : ∀ p ∈ n, p ∈ n') : LO w c2 y σ2 dy d2 u1 u2 n2 od2 kvs2 ls2 d rd pd ls lR l n' := ⟨H.sets.mono hs, H.e1, H.e2, H.e3, H.e4, H.e5, H.e6⟩
theorem LO.kept {lo : Nat} (H : LO w c2 y σ2 dy d2 u1 u2 n2 od2 kvs2 ls2 d rd pd ls lR l n) (hk : ∀ p ∈ n, Kept lo p → p ∈ n') : LO w c2 y σ2 dy d2 u1 u2 n2 od2 kvs2 ls2 d rd pd ls lR l n' := ⟨H.sets.kept hk, H.e1, H.e2, H.e3, H.e4, H.e5, H.e6⟩
theorem LO.apart {a : Addr} (H : LO w c2 y σ2 dy d2 u1 u2 n2 od2 kvs2 ls2 d rd pd ls lR l n) (h : ∀ p ∈ n, p.1 < a) : LO w c2 y σ2 dy d2 u1 u2 n2 od2 kvs2 ls2 d rd pd ls lR (a :: l) n :=
  ⟨H.sets, H.e1, H.e2, H.e3, H.e4, H.e5, fun b hb => by
    rcases List.mem_cons.mp hb with rfl | hb
    · exact fresh_row H.sets.dic h
    · exact H.e6 b hb⟩
theorem LO.less {a : Addr} (H : LO w c2 y σ2 dy d2 u1 u2 n2 od2 kvs2 ls2 d rd pd ls lR (a :: l) n) : LO w c2 y σ2 dy d2 u1 u2 n2 od2 kvs2 ls2 d rd pd ls lR l n := ⟨H.sets, H.e1, H.e2, H.e3, H.e4, H.e5, fun b hb => H.e6 b (.tail _ hb)⟩
theorem LO.moved (N : News h₀ F h n) (H : LO w c2 y σ2 dy d2 u1 u2 n2 od2 kvs2 ls2 d rd pd ls lR l n) (M : LM w c L x σ ρ π dx d t1 t2 nn od kvs ls rd oR kR lR pd oP kP n) (hl : ∀ a ∈ l, ∃ o, (a, o) ∈ n) {od3 : Obj} {kvs3 : List (Int × Value)} {ls3 : Led} (hS : SetL w y c2 σ3 n' dy d2 u1 u2 n2 od3 kvs3 ls3) (hk : ∀ p ∈ n, p.1 ≠ d2 → p.1 ∉ ls2.map (·.1) → p ∈ n') (hls : ∀ q ∈ ls3, q.1 ∈ ls2.map (·.1) ∨ ∀ p ∈ n, p.1 < q.1) :
    LO w c2 y σ3 dy d2 u1 u2 n2 od3 kvs3 ls3 d rd pd ls lR l n' ∧ LM w c L x σ ρ π dx d t1 t2 nn od kvs ls rd oR kR lR pd oP kP n' := by
  have key : ∀ {a : Addr} {o : Obj}, (a, o) ∈ n → a ∉ ls2.map (·.1) → a ∉ ls3.map (·.1) := fun {a o} hm h1 q => by
    obtain ⟨r, hr, e⟩ := List.mem_map.mp q
    rcases hls r hr with z | z
    · exact h1 (e ▸ z)
    · exact Nat.lt_irrefl _ (Nat.lt_of_lt_of_le (z _ hm) (Nat.le_of_eq e))
  exact ⟨⟨hS, H.e1, H.e2, H.e3, fun p hp => key (M.sets.dic.lsin p hp) (H.e4 p hp), fun p hp => key (M.rows.lsin p hp) (H.e5 p hp), fun a ha => let ⟨_, hm⟩ := hl a ha; key hm (H.e6 a ha)⟩, M.offS N H.sets.dic H.e1 H.e2 H.e3 H.e4 H.e5 hk⟩
theorem StL.offS {I a : Addr} {vs : List Value} {k i : Nat} {g g' : Array GenState} (N : News h₀ F h n) (H : StL I a vs k i n g) (S : DicL w d2 σ2 n od2 kvs2 ls2) (ha : a ∉ ls2.map (·.1)) (hk : ∀ p ∈ n, p.1 ≠ d2 → p.1 ∉ ls2.map (·.1) → p ∈ n') : StL I a vs k i n' g' := H.keptS N S ha hk
end
@[reducible] noncomputable def offO : List Str := [Str.ofString "start", Str.ofString "script", Str.ofString "first", Str.ofString "numbers", Str.ofString "drawn", Str.ofString "fault", Str.ofString "value", Str.ofString "deed", Str.ofString "pick", Str.ofString "due", Str.ofString "one", Str.ofString "client"]
@[reducible] noncomputable def mO (ov sv : Value) : Str → Option Value := fun y => if y = Str.ofString "other" then some ov else if y = Str.ofString "settings" then some sv else none
inductive L2 (w : World) (c : Bool) (L : Addr) (P : Sgs → Sgs → List (Int × Int) → Sgs → Prop) (m' : Str → Option Value) (n' : Led) : Prop
  | mk : ∀ x y σ ρ π σ2 dx d t1 t2 nn od kvs ls rd oR kR lR pd oP kP dy d2 u1 u2 n2 od2 kvs2 ls2, (SameOff offO (mO (.ref y) (.ref x)) m') → (LM w c L x σ ρ π dx d t1 t2 nn od kvs ls rd oR kR lR pd oP kP n') → (LO w (!c) y σ2 dy d2 u1 u2 n2 od2 kvs2 ls2 d rd pd ls lR [] n') → (Inv 14 σ ρ π) → (P σ ρ π σ2) → L2 w c L P m' n'
noncomputable def P13 (σ _ : Sgs) (_ : List (Int × Int)) (σ2 : Sgs) : Prop := ∀ k, look σ k = look σ2 k
noncomputable def P14 (σ _ : Sgs) (_ : List (Int × Int)) (σ2 : Sgs) : Prop := ¬ ∀ k, look σ k = look σ2 k
theorem P13.then14 {σ σ2 : Sgs} {v : Int} (h : ∀ k, look σ k = look σ2 k) : ¬ ∀ k, look σ k = look (putR σ2 1 (newRow σ2 1 v)) k := fun q => by
  have h1 := q 1
  rw [h 1, look_put, if_pos rfl] at h1
  unfold newRow at h1
  cases e : look σ2 1 with
  | none => rw [e] at h1; cases h1
  | some row =>
    rw [e] at h1
    have h2 := congrArg List.length (Option.some.inj h1)
    simp at h2
theorem fit_put {σ : Sgs} {k v : Int} (h1 : σ.length ≤ 900) (h2 : ∀ k row, look σ k = some row → row.length ≤ 900) : Fit (putR σ k (newRow σ k v)) := by
  have s1 := put_length σ k (newRow σ k v)
  refine ⟨by omega, fun j row e => ?_⟩
  rw [look_put] at e
  by_cases z : j = k
  · rw [if_pos z] at e; cases e
    unfold newRow
    split
    · rename_i row e; have := h2 _ _ e; rw [List.length_append, List.length_singleton]; omega
    · exact Nat.succ_le_succ (Nat.succ_le_succ (Nat.zero_le _))
  · rw [if_neg z] at e; have := h2 _ _ e; omega
theorem Inv.rowlen {b : Nat} {σ ρ : Sgs} {π : List (Int × Int)} (H : Inv b σ ρ π) (hb : b ≤ 100) {k : Int} {row : Row} (e : look σ k = some row) : row.length ≤ 900 := by
  cases q : look ρ k with
  | none => rw [H.at0 k q] at e; cases e
  | some r0 =>
    obtain ⟨i, _, _, h3⟩ := H.at1 k r0 q
    rw [h3] at e; cases e
    have := H.len k r0 q
    rw [List.length_drop]; omega
theorem P13.fit {σ ρ σ2 : Sgs} {π : List (Int × Int)} {k v : Int} (iv : Inv 14 σ ρ π) (n1 : (σ.map (·.1)).Nodup) (n2 : (σ2.map (·.1)).Nodup) (h : ∀ k, look σ k = look σ2 k) : Fit (putR σ2 k (newRow σ2 k v)) := by
  have e := ((same_looks n1 n2).mpr h).1
  have l1 := iv.sl
  exact fit_put (by omega) fun j row q => iv.rowlen (by decide) ((h j).trans q)
theorem words_T44 : True := by
  k_with "call ref" => (guard_hyp hT44; ((k_here; (with_reducible show wpAny _ _ (call (Value.ref 271) _ _) _ _ _); k_dflt (refine' SpecX.use (c_setitem _ _ _ _ _ _ _ _ _ _ _ _ _ hO.sets _ _ _ _ ?hk_d ?hv_d ?hft_d) ?hA_d ?B_d ?F_d ?N_d ?X_d ?T_d ?D_d ?XB_d ?TB_d ?hf_d ?hke_d ?hdp_d ?hun_d (fun v n' h' gn' tk' g' hR kT kF kN kB kX₀ kP kD kX kG => ?_) (fun e' r' n' h' gn' tk' G' g' hR kT kF kB kD kR kG => ?_); (case F_d => k_asm); (case N_d => k_asm); (case hk_d => decide); (case hv_d => decide); (case hft_d => exact P13.fit iv hM.sets.dic.keysNd hO.sets.dic.keysNd hP); (case hA_d => exact rfl); (case B_d => k_asm); (case X_d => k_asm); (case T_d => k_asm); (case D_d => assumption); (case XB_d => assumption); (case TB_d => assumption); (case hf_d => exact rfl); (case hke_d => exact rfl); (case hdp_d => k_room); (case hun_d => k_units); (all_goals (try (have kT2 := KtsTurn.trans (by assumption) kT; clear kT))); (all_goals (try (have kG2 := GRel.trans (by assumption) kG; clear kG))); skip; rotate_left; obtain ⟨hr1, hr2, hr3⟩ := hR; rotate_right; (try dsimp only); (try k_lift kB); (try k_fold)))))
  k_with "call ref" => (guard_hyp hT44; ((k_here; (with_reducible show wpAny _ _ (call (Value.ref 328) _ _) _ _ _); k_dflt (refine' SpecR.use (c_eq _ _ _ _ _ _ _ _ _ _ _ _ _ hM.sets _ _ _ _ _ _ _ _ _ _ _ hO.sets) ?hA_e ?B_e ?F_e ?N_e ?X_e ?T_e ?D_e ?XB_e ?TB_e ?hf_e ?hke_e ?hdp_e ?hun_e (fun v h' gn' tk' g' hR kT kF kN kB kX₀ kP kD kX kG => ?_); (case F_e => k_asm); (case N_e => k_asm); skip; (case hA_e => exact rfl); (case B_e => k_asm); (case X_e => k_asm); (case T_e => k_asm); (case D_e => assumption); (case XB_e => assumption); (case TB_e => assumption); (case hf_e => exact rfl); (case hke_e => exact rfl); (case hdp_e => k_room); (case hun_e => k_units); (all_goals (try (have kT2 := KtsTurn.trans (by assumption) kT; clear kT))); (all_goals (try (have kG2 := GRel.trans (by assumption) kG; clear kG))); obtain ⟨qb, hR, hqb⟩ := hR; subst hR; (first | (have hq1 := hqb.mpr hP; subst hq1) | (have hq1 := Bool.eq_false_iff.mpr (fun q => hP (hqb.mp q)); subst hq1)); (try dsimp only [PySem.W.CmpBack]); (try dsimp only); (try k_lift kB); (try k_fold)))))
  k_with "call ref" => (guard_hyp hT44; ((k_here; (with_reducible show wpAny _ _ (call (Value.ref 335) _ _) _ _ _); k_dflt (refine' SpecR.use (c_ne _ _ _ _ _ _ _ _ _ _ _ _ _ hM.sets _ _ _ _ _ _ _ _ _ _ _ hO.sets) ?hA_g ?B_g ?F_g ?N_g ?X_g ?T_g ?D_g ?XB_g ?TB_g ?hf_g ?hke_g ?hdp_g ?hun_g (fun v h' gn' tk' g' hR kT kF kN kB kX₀ kP kD kX kG => ?_); (case F_g => k_asm); (case N_g => k_asm); skip; (case hA_g => exact rfl); (case B_g => k_asm); (case X_g => k_asm); (case T_g => k_asm); (case D_g => assumption); (case XB_g => assumption); (case TB_g => assumption); (case hf_g => exact rfl); (case hke_g => exact rfl); (case hdp_g => k_room); (case hun_g => k_units); (all_goals (try (have kT2 := KtsTurn.trans (by assumption) kT; clear kT))); (all_goals (try (have kG2 := GRel.trans (by assumption) kG; clear kG))); obtain ⟨qb2, hR, hqb2⟩ := hR; subst hR; (first | (have hq1 := hqb2.mpr hP; subst hq1) | (have hq1 := Bool.eq_false_iff.mpr (fun q => hP (hqb2.mp q)); subst hq1)); (try dsimp only [PySem.W.CmpBack]); (try dsimp only); (try k_lift kB); (try k_fold)))))
  k_with "@J" => (guard_hyp hT44; (k_dflt (first | exact ⟨x, y, _, _, _, _, _, _, _, _, _, _, _, _, _, _, _, _, _, _, _, _, _, _, _, _, _, _, _, SameOff.eqs hj0, hM, hO, iv, hP⟩ | (obtain ⟨_, _, od3, kvs3, ls3, hS3, hk3, hl3⟩ := hR; obtain ⟨hO3, hM3⟩ := hO.moved N' hM (fun _ h => nomatch h) hS3 hk3 hl3; exact ⟨x, y, _, _, _, _, _, _, _, _, _, _, _, _, _, _, _, _, _, _, _, _, _, _, _, _, _, _, _, SameOff.eqs hj0, hM3, hO3, iv, P13.then14 hP⟩))))
  trivial
set_option maxRecDepth 100000 in
set_option maxHeartbeats 40000000 in
theorem c_law13 (w : World) (dp un : Nat) (gd : Option (List Code)) (outer : List Env) (base : Heap) (loose : List Str) (mean : ExcName → Option Value) (mg mb : Str → Option Value) (o : Obj) (ho : (hd.heap_39 w.params).lookup 437 = some o) (L' : Addr) (h00 : Heap) (g00 : Array GenState) (s : Shared) (Q : Flow → Shared → Prop) (E : Value → Shared → Prop) (hdp : dp + 100 < recursionLimit) (hun : un + 1000 < cLine) (c : Bool) (next : Go w { handled := none, depth := dp, frames := some outer, guards := gd, units := un } base outer loose mean mg mb h00 g00 L' s Q E (lawE o L') ((obS o).drop 14) (L2 w c L' P13)) : Go w { handled := none, depth := dp, frames := some outer, guards := gd, units := un } base outer loose mean mg mb h00 g00 L' s Q E (lawE o L') ((obS o).drop 13) (L2 w c L' P13) := by
  have hT44 := trivial; have g1 := trivial; have g2 := trivial; have g4 := trivial; have g6 := trivial; have g7 := trivial; have g8 := trivial
  intro m₁ n₁ h₁ gn tk g₁ hJ hTn hGn C'
  have X := C'.X
  have kfl : Challenge.rw_ix0031_01.row = Challenge.rw_ix0031_01.row := rfl
  revert kfl X ho
  k_fill
  intro ho X kfl
  obtain rfl := lookE ho (by k_is)
  clear X ho
  dsimp only [obS, obSc, obCd, lawN, lawE, nthS, inFor, inIf, inElse, List.drop, List.take]
  (refine hide fun G__ k__ => ?_; obtain ⟨x, y, σ, ρ, π, σ2, dx, d, t1, t2, nn, od, kvs, ls, rd, oR, kR, lR, pd, oP, kP, dy, d2, u1, u2, n2, od2, kvs2, ls2, hj0, hM, hO, iv, hP⟩ := hJ; refine k__ ?_; clear k__ G__)
  have i1 := hM.sets.inst
  have i2 := hM.sets.dict
  have i3 := hO.sets.inst
  have i4 := hO.sets.dict
  rw [hj0.eqM] at C'
  obtain ⟨B', F', N', X', T', D', XB', TB'⟩ := C'; (try k_lift B'); (try k_fold)
  have hTm := hTn; have hGm := hGn
  refine cut hTm hGm ⟨B', F', N', X', T', D', XB', TB'⟩ (L2 w c L' P13) ?_ fun m₁ n₁ h₁ gn tk g₁ hJ hTn hGn C' => next _ _ _ _ _ _ hJ hTn hGn C'
  k_steps
set_option maxRecDepth 100000 in
set_option maxHeartbeats 40000000 in
theorem c_law14 (w : World) (dp un : Nat) (gd : Option (List Code)) (outer : List Env) (base : Heap) (loose : List Str) (mean : ExcName → Option Value) (mg mb : Str → Option Value) (o : Obj) (ho : (hd.heap_39 w.params).lookup 437 = some o) (L' : Addr) (h00 : Heap) (g00 : Array GenState) (s : Shared) (Q : Flow → Shared → Prop) (E : Value → Shared → Prop) (hdp : dp + 100 < recursionLimit) (hun : un + 1000 < cLine) (c : Bool) (next : Go w { handled := none, depth := dp, frames := some outer, guards := gd, units := un } base outer loose mean mg mb h00 g00 L' s Q E (lawE o L') ((obS o).drop 15) (L2 w c L' P14)) : Go w { handled := none, depth := dp, frames := some outer, guards := gd, units := un } base outer loose mean mg mb h00 g00 L' s Q E (lawE o L') ((obS o).drop 14) (L2 w c L' P13) := by
  have hT44 := trivial; have g1 := trivial; have g2 := trivial; have g4 := trivial; have g6 := trivial; have g7 := trivial; have g8 := trivial
  intro m₁ n₁ h₁ gn tk g₁ hJ hTn hGn C'
  have X := C'.X
  have kfl : Challenge.rw_ix0031_01.row = Challenge.rw_ix0031_01.row := rfl
  revert kfl X ho
  k_fill
  intro ho X kfl
  obtain rfl := lookE ho (by k_is)
  clear X ho
  dsimp only [obS, obSc, obCd, lawN, lawE, nthS, inFor, inIf, inElse, List.drop, List.take]
  (refine hide fun G__ k__ => ?_; obtain ⟨x, y, σ, ρ, π, σ2, dx, d, t1, t2, nn, od, kvs, ls, rd, oR, kR, lR, pd, oP, kP, dy, d2, u1, u2, n2, od2, kvs2, ls2, hj0, hM, hO, iv, hP⟩ := hJ; refine k__ ?_; clear k__ G__)
  have i1 := hM.sets.inst
  have i2 := hM.sets.dict
  have i3 := hO.sets.inst
  have i4 := hO.sets.dict
  rw [hj0.eqM] at C'
  obtain ⟨B', F', N', X', T', D', XB', TB'⟩ := C'; (try k_lift B'); (try k_fold)
  have hTm := hTn; have hGm := hGn
  refine cut hTm hGm ⟨B', F', N', X', T', D', XB', TB'⟩ (L2 w c L' P14) ?_ fun m₁ n₁ h₁ gn tk g₁ hJ hTn hGn C' => next _ _ _ _ _ _ hJ hTn hGn C'
  k_steps
  exact absurd (hr1.trans (by decide)) hr2
set_option maxRecDepth 100000 in
set_option maxHeartbeats 40000000 in
theorem c_law15 (w : World) (dp un : Nat) (gd : Option (List Code)) (outer : List Env) (base : Heap) (loose : List Str) (mean : ExcName → Option Value) (mg mb : Str → Option Value) (o : Obj) (ho : (hd.heap_39 w.params).lookup 437 = some o) (L' : Addr) (h00 : Heap) (g00 : Array GenState) (s : Shared) (Q : Flow → Shared → Prop) (E : Value → Shared → Prop) (hdp : dp + 100 < recursionLimit) (hun : un + 1000 < cLine) (c : Bool) (next : Fine w { handled := none, depth := dp, frames := some outer, guards := gd, units := un } base outer loose mean mg mb h00 g00 L' s Q) : Go w { handled := none, depth := dp, frames := some outer, guards := gd, units := un } base outer loose mean mg mb h00 g00 L' s Q E (lawE o L') ((obS o).drop 15) (L2 w c L' P14) := by
  have hT44 := trivial; have g1 := trivial; have g2 := trivial; have g4 := trivial; have g6 := trivial; have g7 := trivial; have g8 := trivial
  intro m₁ n₁ h₁ gn tk g₁ hJ hTn hGn C'
  have X := C'.X
  have kfl : Challenge.rw_ix0031_01.row = Challenge.rw_ix0031_01.row := rfl
  revert kfl X ho
  k_fill
  intro ho X kfl
  obtain rfl := lookE ho (by k_is)
  clear X ho
  dsimp only [obS, obSc, obCd, lawN, lawE, nthS, inFor, inIf, inElse, List.drop, List.take]
  (refine hide fun G__ k__ => ?_; obtain ⟨x, y, σ, ρ, π, σ2, dx, d, t1, t2, nn, od, kvs, ls, rd, oR, kR, lR, pd, oP, kP, dy, d2, u1, u2, n2, od2, kvs2, ls2, hj0, hM, hO, iv, hP⟩ := hJ; refine k__ ?_; clear k__ G__)
  have i1 := hM.sets.inst
  have i2 := hM.sets.dict
  have i3 := hO.sets.inst
  have i4 := hO.sets.dict
  rw [hj0.eqM] at C'
  obtain ⟨B', F', N', X', T', D', XB', TB'⟩ := C'; (try k_lift B'); (try k_fold)
  have hTm := hTn; have hGm := hGn
  k_steps
  all_goals (refine' next _ _ _ _ _ _ ?T ?G ⟨?B, ?F, ?N, ?X, ?TT, ?D, ?XB, ?TB⟩ ; (case F => k_asm); (case N => k_asm); (case T => assumption); (case G => assumption); (case B => assumption); (case X => assumption); (case TT => assumption); (case D => assumption); (case XB => assumption); (case TB => assumption))
noncomputable def curL (σ l : Sgs) : List (Int × Int) := l.filterMap fun p => (cur σ p.1).map fun v => (p.1, v)
section
variable {b : Nat} {σ ρ σ2 : Sgs} {π : List (Int × Int)} {k v : Int} {c : Bool}
theorem Inv.curVal (H : Inv b σ ρ π) (h : cur σ k = some v) : Val k v ∧ k ∈ codes := by
  cases q : look ρ k with
  | none => rw [cur_none (H.at0 k q)] at h; cases h
  | some row =>
    obtain ⟨i, _, h2, h3⟩ := H.at1 k row q
    have h4 := cur_drop h2 h3
    rw [h] at h4
    rcases H.ok k row q i _ h4 with ⟨e, _⟩ | ⟨v', e, hv⟩
    · cases e
    · cases e; exact ⟨hv, H.keys k row q⟩
theorem curL_keys (σ l : Sgs) : ((curL σ l).map (·.1)).Sublist (l.map (·.1)) := by
  induction l with
  | nil => exact List.Sublist.slnil
  | cons p r ih =>
    unfold curL
    rw [List.filterMap_cons]
    cases q : cur σ p.1 with
    | none => exact ih.cons _
    | some v => exact ih.cons_cons _
theorem curL_val {l : Sgs} : ∀ p ∈ curL σ l, cur σ p.1 = some p.2 := fun p hp => by
  obtain ⟨q, hq, e⟩ := List.mem_filterMap.mp hp
  obtain ⟨v, e1, e2⟩ := Option.map_eq_some_iff.mp e
  subst e2; exact e1
theorem curL_look {l : Sgs} (nd : (l.map (·.1)).Nodup) (hk : k ∈ l.map (·.1)) : look (curL σ l) k = cur σ k := by
  cases q : cur σ k with
  | some v =>
    refine look_of_mem ((curL_keys σ l).nodup nd) ?_
    obtain ⟨p, hp, e⟩ := List.mem_map.mp hk
    refine List.mem_filterMap.mpr ⟨p, hp, ?_⟩
    have e' : p.1 = k := e
    rw [e', q]; rfl
  | none =>
    cases r : look (curL σ l) k with
    | none => rfl
    | some v =>
      have := curL_val _ (look_mem r)
      rw [q] at this; cases this
theorem putAll_look {l : List (Int × Int)} {σ0 : Sgs} (nd : (l.map (·.1)).Nodup) : look (putAll σ0 l) k = match look l k with
    | some v => some [some v]
    | none => look σ0 k := by
  induction l generalizing σ0 with
  | nil => rfl
  | cons p r ih =>
    obtain ⟨a, v⟩ := p
    have nd' := List.nodup_cons.mp nd
    show look (putAll (putR σ0 a [some v]) r) k = _
    rw [ih nd'.2, look_cons, look_put]
    by_cases z : a = k
    · subst z
      have e : look r a = none := by
        cases q : look r a with
        | none => rfl
        | some x => exact absurd (look_some_key.mpr ⟨x, q⟩) nd'.1
      rw [e, if_pos rfl, if_pos rfl]
    · rw [if_neg z, if_neg (Ne.symm z)]
noncomputable def P10 (c : Bool) (σ _ : Sgs) (_ : List (Int × Int)) (σ2 : Sgs) : Prop := σ2.length ≤ 40 ∧ ∀ k, look σ2 k = match cur σ k with
  | some v => some [some v]
  | none => look (defaults (!c)) k
theorem P10.of (H : Inv 14 σ ρ π) (nd : (ρ.map (·.1)).Nodup) : P10 c σ ρ π (putAll (defaults (!c)) (curL σ ρ)) := by
  have l1 := putAll_len (defaults (!c)) (curL σ ρ)
  have l2 : (defaults (!c)).length = 5 := rfl
  have l3 := (curL_keys σ ρ).length_le
  have l4 := H.rl
  simp only [List.length_map] at l3
  refine ⟨by omega, fun k => ?_⟩
  rw [putAll_look ((curL_keys σ ρ).nodup nd)]
  by_cases hk : k ∈ ρ.map (·.1)
  · rw [curL_look nd hk]
  · have e : look ρ k = none := by
      cases q : look ρ k with
      | none => rfl
      | some x => exact absurd (look_some_key.mpr ⟨x, q⟩) hk
    have e1 : look (curL σ ρ) k = none := by
      cases q : look (curL σ ρ) k with
      | none => rfl
      | some x => exact absurd ((curL_keys σ ρ).subset (look_some_key.mpr ⟨x, q⟩)) hk
    rw [e1, cur_none (H.at0 k e)]
theorem curL_fault (H : Inv b σ ρ π) : ffault (curL σ ρ) = 0 := ffault_none fun p hp => (H.curVal (curL_val p hp)).1.2
theorem curL_small (H : Inv b σ ρ π) : ∀ p ∈ curL σ ρ, p.1.natAbs < 2 ^ 60 ∧ p.2.natAbs < 2 ^ 60 := fun p hp => have h := H.curVal (curL_val p hp); ⟨codes_small _ h.2, h.1.1⟩
theorem curL_len (H : Inv b σ ρ π) (hb : b ≤ 100) : (curL σ ρ).length ≤ 900 := by
  have l3 := (curL_keys σ ρ).length_le
  have l4 := H.rl
  simp only [List.length_map] at l3
  omega
theorem cur_skip {kR : List (Int × Value)} {lR : Led} {j : Nat} {kk : Int} {yy : Value} {acc : List (Int × Value)} (H : ListsL ρ kR lR) (hk : kR[j]? = some (kk, yy)) (h : IntsL (curL σ (ρ.take j)) acc) (hs : ¬ (cur σ kk).isSome = true) : IntsL (curL σ (ρ.take (j + 1))) acc := by
  (refine hide fun G__ k__ => ?_; obtain ⟨row, a, o, e1, _⟩ := H.get hk; refine k__ ?_; clear k__ G__)
  have e2 : cur σ kk = none := by cases q : cur σ kk with
    | none => rfl
    | some x => rw [q] at hs; exact absurd rfl hs
  rw [take_snoc e1]
  unfold curL at h ⊢
  rw [List.filterMap_append]
  simpa [e2] using h
theorem cur_step {kR : List (Int × Value)} {lR : Led} {j : Nat} {kk : Int} {yy v : Value} {acc : List (Int × Value)} (H : ListsL ρ kR lR) (nd : (ρ.map (·.1)).Nodup) (hk : kR[j]? = some (kk, yy)) (h : IntsL (curL σ (ρ.take j)) acc) (hv : OV (cur σ kk) v) (hs : (cur σ kk).isSome = true) : IntsL (curL σ (ρ.take (j + 1))) (stored acc kk v) := by
  (refine hide fun G__ k__ => ?_; obtain ⟨row, a, o, e1, _⟩ := H.get hk; refine k__ ?_; clear k__ G__)
  have hn : kk ∉ acc.map (·.1) := by
    rw [h.keys]
    intro q
    have q2 := (curL_keys σ (ρ.take j)).subset q
    rw [List.map_take] at q2
    obtain ⟨i, hi, e⟩ := List.mem_take_iff_getElem.mp q2
    have e3 : (ρ.map (·.1))[j]? = some kk := by rw [List.getElem?_map, e1]; rfl
    have hjl := (List.getElem?_eq_some_iff.mp e3).1
    exact Nat.ne_of_lt (Nat.lt_of_lt_of_le hi (Nat.min_le_left _ _)) ((List.getElem_inj (h₀ := Nat.lt_of_lt_of_le hi (Nat.min_le_right _ _)) (h₁ := hjl) nd).mp (by rw [e, (List.getElem?_eq_some_iff.mp e3).2]))
  rw [stored_new hn, take_snoc e1]
  have e4 : curL σ (ρ.take j ++ [(kk, row)]) = curL σ (ρ.take j) ++ curL σ [(kk, row)] := by unfold curL; rw [List.filterMap_append]
  rw [e4]
  cases q : cur σ kk with
  | none => rw [q] at hs; cases hs
  | some i =>
    rw [q] at hv
    cases hv with
    | int =>
      refine h.app ?_
      have e5 : curL σ [(kk, row)] = [(kk, i)] := by simp [curL, q]
      rw [e5]; exact .cons .nil
end
theorem mO_of {ov sv cl : Value} {m : Str → Option Value} (h : SameOff off9 (mK sv cl) m) : SameOff offO (mO ov sv) (fun z => if z = Str.ofString "other" then some ov else m z) := fun z hz => by
  simp only [List.contains_cons, List.contains_nil, Bool.or_eq_false_iff, beq_eq_false_iff_ne, ne_eq] at hz
  (refine hide fun G__ k__ => ?_; obtain ⟨h1, h2, h3, h4, h5, h6, h7, h8, h9, h10, h11, h12, _⟩ := hz; refine k__ ?_; clear k__ G__)
  by_cases e : z = Str.ofString "other"
  · simp only [mO, if_pos e]
  · simp only [mO, if_neg e]
    rw [h z (by simp only [List.contains_cons, List.contains_nil, Bool.or_eq_false_iff, beq_eq_false_iff_ne, ne_eq]; exact ⟨h1, h2, h3, h4, h5, h6, h7, h8, h9, h10, h11, e, trivial⟩)]
    simp only [mK, if_neg h12]
theorem words_T45 : True := by
  k_with "pyIter ref" => (guard_hyp hT45; ((k_here; k_dflt (refine' dict_keys ?T00_g ?G00_g ⟨?B_g, ?F_g, ?N_g, ?X_g, ?T_g, ?D_g, ?XB_g, ?TB_g⟩ rfl hM.rows.body hM.rows.isd hM.rows.low ?hc_g ?hk_g ?hx_g (fun j acc => IntsL (curL σ (ρ.take j)) acc) ?h0_g ?yl_g (fun Cc j v acc oC mC n₂ h₁ tk gn g₁ hi9 hP hb2 hY hCc hNs hmx hTn hG C' E' => ?_) (fun Dn acc oD n₂ h₁ tk gn g₁ hb2 hlt2 lo' hY hDm hDd hTn hG C' => ?_); (case B_g => k_asm); (case F_g => k_asm); (case N_g => k_asm); (case X_g => k_asm); (case T_g => k_asm); (case D_g => assumption); (case XB_g => assumption); (case TB_g => assumption); (case T00_g => first | assumption | exact KtsTurn.refl); (case G00_g => first | assumption | exact GRel.refl _); (case hc_g => decide); (case hk_g => rfl); (case hx_g => rfl); (case h0_g => exact .nil); (case yl_g => exact fun j acc h => by have e1 := h.len'; have e2 := (curL_keys σ (ρ.take j)).length_le; have e3 := List.length_take_le' j ρ; have e4 := iv.rl; simp only [List.length_map] at e2; omega)); rotate_left; (have hY2 : IntsL (curL σ ρ) acc := (by have hY3 : IntsL _ _ := hY; rw [hM.rows.lists.klen, List.take_length] at hY3; exact hY3); have hFI : DicI w Dn (curL σ ρ) n₂ oD acc := ⟨hDm, hDd, hY2, lo'⟩; have hM3 := hM.up hb2; obtain ⟨B', F', N', X', T', D', XB', TB'⟩ := C'; (try k_lift B'); (try k_fold)); rotate_right; (have hGr := GRel.refl gn; obtain ⟨kk, yy, tt, hkk, hvv⟩ := hP; subst hvv; have z1 := hb2 _ hc1; have z4 := hb2 _ hc4; have hM2 := hM.up hb2; obtain ⟨B', F', N', X', T', D', XB', TB'⟩ := C'; (try k_lift B'); (try k_fold); refine wpAny_tests_one ?_))))
  k_with "call ref" => (guard_hyp hT45; ((k_here; (with_reducible show wpAny _ _ (call (Value.ref 427) _ _) _ _ _); k_dflt (refine' SpecR.use (c_now _ _ _ _ _ _ (cur σ) _ _ _ _ _ hM2.rows hM2.pls (iv.tells (by decide)) _ _) ?hA_d ?B_d ?F_d ?N_d ?X_d ?T_d ?D_d ?XB_d ?TB_d ?hf_d ?hke_d ?hdp_d ?hun_d (fun v h' gn' tk' g' hR kT kF kN kB kX₀ kP kD kX kG => ?_); (case F_d => k_asm); (case N_d => k_asm); skip; (case hA_d => exact rfl); (case B_d => k_asm); (case X_d => k_asm); (case T_d => k_asm); (case D_d => assumption); (case XB_d => assumption); (case TB_d => assumption); (case hf_d => exact rfl); (case hke_d => exact rfl); (case hdp_d => k_room); (case hun_d => k_units); (all_goals (try (have kT2 := KtsTurn.trans (by assumption) kT; clear kT))); (all_goals (try (have kG2 := GRel.trans (by assumption) kG; clear kG))); (try dsimp only); (try k_lift kB); (try k_fold)))))
  k_with "call ref" => (guard_hyp hT45; ((k_here; (with_reducible show wpAny _ _ (call (Value.ref 338) _ _) _ _ _); k_dflt (refine' SpecX.use (c_newF _ _ _ _ (curL σ ρ) _ _ hFI (curL_small iv) (curL_len iv (by decide))) ?hA_j ?B_j ?F_j ?N_j ?X_j ?T_j ?D_j ?XB_j ?TB_j ?hf_j ?hke_j ?hdp_j ?hun_j (fun v n' h' gn' tk' g' hR kT kF kN kB kX₀ kP kD kX kG => ?_) (fun e' r' n' h' gn' tk' G' g' hR kT kF kB kD kR kG => ?_); (case F_j => k_asm); (case N_j => k_asm); skip; (case hA_j => exact rfl); (case B_j => k_asm); (case X_j => k_asm); (case T_j => k_asm); (case D_j => assumption); (case XB_j => assumption); (case TB_j => assumption); (case hf_j => exact rfl); (case hke_j => exact rfl); (case hdp_j => k_room); (case hun_j => k_units); (all_goals (try (have kT2 := KtsTurn.trans (by assumption) kT; clear kT))); (all_goals (try (have kG2 := GRel.trans (by assumption) kG; clear kG))); skip; rotate_left; obtain ⟨hr1, hr2, hr3⟩ := hR; rotate_right; (try dsimp only); (try k_lift kB); (try k_fold)))))
  k_with "@J" => (guard_hyp hT45; (k_dflt (first | exact ⟨rfl, fun p hp => hp, (by first | assumption | exact GRel.refl _)⟩ | (obtain ⟨⟨y, dy, d2, u1, u2, n2, od2, kvs2, ls2, rfl, hS2, hs2, hne2⟩, hff⟩ := hR; exact ⟨x, y, σ, ρ, π, _, _, _, _, _, _, _, _, _, _, _, _, _, _, _, _, _, _, _, _, _, _, _, _, mO_of (SameOff.eqs hj0), hM3.up hs2, ⟨hS2, (hne2 _ hM3.sets.dic.body).1, (hne2 _ hM3.rows.body).1, (hne2 _ hM3.pls.body).1, fun p hp => (hne2 _ (hM3.sets.dic.lsin p hp)).2, fun p hp => (hne2 _ (hM3.rows.lsin p hp)).2, fun _ h => nomatch h⟩, iv, P10.of iv hM.rows.keysNd⟩))))
  trivial
set_option maxRecDepth 100000 in
set_option maxHeartbeats 40000000 in
theorem c_law10 (w : World) (dp un : Nat) (gd : Option (List Code)) (outer : List Env) (base : Heap) (loose : List Str) (mean : ExcName → Option Value) (mg mb : Str → Option Value) (o : Obj) (ho : (hd.heap_39 w.params).lookup 437 = some o) (L' : Addr) (h00 : Heap) (g00 : Array GenState) (s : Shared) (Q : Flow → Shared → Prop) (E : Value → Shared → Prop) (hdp : dp + 100 < recursionLimit) (hun : un + 1000 < cLine) (c : Bool) (next : Go w { handled := none, depth := dp, frames := some outer, guards := gd, units := un } base outer loose mean mg mb h00 g00 L' s Q E (lawE o L') ((obS o).drop 11) (L2 w c L' (P10 c))) : Go w { handled := none, depth := dp, frames := some outer, guards := gd, units := un } base outer loose mean mg mb h00 g00 L' s Q E (lawE o L') ((obS o).drop 10) (fun m n => ∃ D, LJ9 w c L' D 14 m n) := by
  have hT45 := trivial; have g1 := trivial; have g2 := trivial; have g4 := trivial; have g6 := trivial; have g8 := trivial
  intro m₁ n₁ h₁ gn tk g₁ hJ hTn hGn C'
  have X := C'.X
  have kfl : Challenge.rw_ix0031_01.row = Challenge.rw_ix0031_01.row := rfl
  revert kfl X ho
  k_fill
  intro ho X kfl
  obtain rfl := lookE ho (by k_is)
  clear X ho
  dsimp only [obS, obSc, obCd, lawN, lawE, nthS, inFor, inIf, inElse, List.drop, List.take]
  (refine hide fun G__ k__ => ?_; obtain ⟨D0, x, hj0, ⟨σ, ρ, π, dx, d, t1, t2, nn, od, kvs, ls, rd, oR, kR, lR, pd, oP, kP, hM, iv, hln⟩⟩ := hJ; refine k__ ?_; clear k__ G__)
  (refine hide fun G__ k__ => ?_; obtain ⟨o1, hc1, hd1⟩ := hM.c1; refine k__ ?_; clear k__ G__)
  (refine hide fun G__ k__ => ?_; obtain ⟨o4, hc4, hd4⟩ := hM.c4; refine k__ ?_; clear k__ G__)
  rw [hj0.eqM] at C'
  obtain ⟨B', F', N', X', T', D', XB', TB'⟩ := C'; (try k_lift B'); (try k_fold)
  have hTm := hTn; have hGm := hGn
  refine cut hTm hGm ⟨B', F', N', X', T', D', XB', TB'⟩ (L2 w c L' (P10 c)) ?_ fun m₁ n₁ h₁ gn tk g₁ hJ hTn hGn C' => next _ _ _ _ _ _ hJ hTn hGn C'
  k_steps
  · exact cur_step hM.rows.lists hM.rows.keysNd hkk hY (by assumption) (by assumption)
  · exact cur_skip hM.rows.lists hkk hY (by first | assumption | (rename (cur σ kk).isSome = false => hz9; rw [hz9]; exact Bool.false_ne_true))
  · exact absurd (hr1.trans (curL_fault iv)) hr2
inductive StT (I t : Addr) (vs : List Value) (i : Nat) (news : Led) (zz0 : Array GenState) : Prop
  | mk : ∀ oI : Obj, ((I, oI) ∈ news) → (oI.cls = .type "tuple_iterator") → (oI.data = .fields #[.ref t, .int i 0]) → ((t, tupObj vs) ∈ news) → StT I t vs i news zz0
theorem It.tup {w : World} {A : Around} (hh : A.handled = none) (L I t : Addr) (lo hi : Nat) (hlo : lo ≤ I) (h1 : I < hi) (h2 : t < hi) (vs : List Value) : It w A L I lo hi noG vs.length (fun i v => vs[i]? = some v) (StT I t vs) where
  keepS := fun ⟨oI, h1', h2', h3, h4⟩ hs _ => ⟨oI, hs _ h1' (.inl h1), h2', h3, hs _ h4 (.inl h2)⟩
  item := fun {i h₀ m news s Q E} hi ⟨oI, h1, h2, h3, h4⟩ F N _ _ hQ => by
    refine wpAny_pyNext_tuple_item (t := t) (i := i) (items := vs.toArray) (x := vs[i]) ⟨oI, (N _ h1).1, h2, h3⟩ ⟨_, (N _ h4).1, rfl, 0, rfl⟩ (by simp [hi]) fun h' hit hs => ?_
    obtain ⟨o', ho', hc', hd'⟩ := hit
    have hp : plainO oI = false := by unfold plainO; rw [h2]; decide
    refine hQ _ h' _ _ (wrL news I o') (by simp [hi]) ⟨o', .head _, hc', hd', wrL.keep h4 (plain_ne N h1 hp h4 rfl)⟩ (F.change hs (N _ h1).2.1 (N _ h1).2.2) (News.wr N h1 hs ho') (fun p hm hq => wrL.keep hm (kept_ne N h1 hp hlo hm hq)) (GMov.refl _)
  done := fun {h₀ m news s Q E} ⟨oI, h1, h2, h3, h4⟩ F N _ _ hQ => by
    refine wpAny_pyNext_tuple_end (t := t) (i := vs.length) (items := vs.toArray) hh ⟨oI, (N _ h1).1, h2, h3⟩ ⟨_, (N _ h4).1, rfl, 0, rfl⟩ (by simp) fun h' hs => ?_
    have hp : plainO oI = false := by unfold plainO; rw [h2]; decide
    obtain ⟨F', N'⟩ := ext_news F N h1 hs
    exact hQ h' _ _ _ F' N' (fun p hm hq => List.mem_filter.mpr ⟨hm, by simpa using kept_ne N h1 hp hlo hm hq⟩) (GMov.refl _)
  self := fun ⟨oI, h1, h2, h3, _⟩ N hQ => wpAny_pyIter_tupleiter ⟨oI, (N _ h1).1, h2, h3⟩ hQ
inductive StR (I l : Addr) (vs : List Value) (nn : Nat) (i : Nat) (news : Led) (zz0 : Array GenState) : Prop
  | mk : ∀ oI : Obj, ((I, oI) ∈ news) → (oI.cls = .type "list_reverseiterator") → (oI.data = .fields #[.ref l, rawInt ((vs.length : Int) - 1 - i)]) → ((l, W.listOf vs.toArray nn) ∈ news) → StR I l vs nn i news zz0
theorem It.rev {w : World} {A : Around} (hh : A.handled = none) (L I l : Addr) (lo hi : Nat) (hlo : lo ≤ I) (h1 : I < hi) (h2 : l < hi) (vs : List Value) (nn : Nat) : It w A L I lo hi noG vs.length (fun i v => vs.reverse[i]? = some v) (StR I l vs nn) where
  keepS := fun ⟨oI, h1', h2', h3, h4⟩ hs _ => ⟨oI, hs _ h1' (.inl h1), h2', h3, hs _ h4 (.inl h2)⟩
  item := fun {i h₀ m news s Q E} hi ⟨oI, h1, h2, h3, h4⟩ F N _ _ hQ => by
    have hj : vs.length - 1 - i < vs.length := by omega
    have e : ((vs.length : Int) - 1 - i) = ((vs.length - 1 - i : Nat) : Int) := by omega
    refine wpAny_pyNext_rev_item (l := l) (i := vs.length - 1 - i) (items := vs.toArray) (x := vs[vs.length - 1 - i]) ⟨oI, (N _ h1).1, h2, by rw [← e]; exact h3⟩ ⟨_, (N _ h4).1, rfl, nn, rfl⟩ (by simp [hj]) fun h' hit hs => ?_
    obtain ⟨o', ho', hc', hd'⟩ := hit
    have hp : plainO oI = false := by unfold plainO; rw [h2]; decide
    have e2 : (((vs.length - 1 - i : Nat) : Int) - 1) = (vs.length : Int) - 1 - (i + 1 : Nat) := by omega
    rw [e2] at hd'
    refine hQ _ h' _ _ (wrL news I o') (by rw [List.getElem?_reverse hi]; simp [hj]) ⟨o', .head _, hc', hd', wrL.keep h4 (plain_ne N h1 hp h4 rfl)⟩ (F.change hs (N _ h1).2.1 (N _ h1).2.2) (News.wr N h1 hs ho') (fun p hm hq => wrL.keep hm (kept_ne N h1 hp hlo hm hq)) (GMov.refl _)
  done := fun {h₀ m news s Q E} ⟨oI, h1, h2, h3, h4⟩ F N _ _ hQ => by
    have e : ((vs.length : Int) - 1 - vs.length) = -1 := by omega
    refine wpAny_pyNext_rev_end (l := l) hh ⟨oI, (N _ h1).1, h2, by rw [← e]; exact h3⟩ fun h' hs => ?_
    have hp : plainO oI = false := by unfold plainO; rw [h2]; decide
    obtain ⟨F', N'⟩ := ext_news F N h1 hs
    exact hQ h' _ _ _ F' N' (fun p hm hq => List.mem_filter.mpr ⟨hm, by simpa using kept_ne N h1 hp hlo hm hq⟩) (GMov.refl _)
  self := fun ⟨oI, h1, h2, h3, _⟩ N hQ => wpAny_pyIter_revIter ⟨oI, (N _ h1).1, h2, h3⟩ hQ
section
variable {w : World} {A A₀ : Around} {base h₀ : Heap} {outer : List Env} {loose : List Str} {mean : ExcName → Option Value} {mg mb : Str → Option Value} {L : Addr} {m : Str → Option Value} {news : Led} {s : Shared} {Q : Flow → Shared → Prop} {E : Value → Shared → Prop} {env : Env} {tgt : Expr} {body : List Stmt}
theorem iter_tupC {h00 : Heap} {g00 : Array GenState} (T00 : KtsTurn (outer.filterMap (·.frame)) h00 h₀) (G00 : GRel g00 s.gens) {l : Addr} {vs : List Value} (C : Cx w A₀ base outer loose mean mg mb h₀ L m news s.heap) (hh : A.handled = none) (hm : (l, tupObj vs) ∈ news)
    (J : Nat → (Str → Option Value) → Led → Prop) (h0 : J 0 m news) (Jm : ∀ lo, (∀ p ∈ news, (p.1 : Nat) < lo) → ∀ i m n n', J i m n → (∀ p ∈ n, Kept lo p → p ∈ n') → J i m n') (htg : ∀ I v, letOwnedTupleGo tgt (.ref I) v = pure ())
    (turn : ∀ I i v m₁ news₁ h tk gn h₀', vs[i]? = some v → J i m₁ news₁ → StT I l vs (i + 1) news₁ gn → KtsTurn (outer.filterMap (·.frame)) h00 h₀' → GRel g00 gn → Cx w A₀ base outer loose mean mg mb h₀' L m₁ news₁ h →
      wpAny (model Challenge.rw_ix0031_01.row.prog w) A (assign tgt env v) (fun _ s₃ => wpAny (model Challenge.rw_ix0031_01.row.prog w) A (execs body env) (LoopEnd w A₀ base outer loose mean mg mb h00 g00 L { s with heap := h, gens := gn, toks := tk } (fun m' n' g' => J (i + 1) m' n' ∧ StT I l vs (i + 1) n' g') Q) E s₃) E { s with heap := h, gens := gn, toks := tk })
    (done : ∀ m₁ news₁ h tk gn h₀', J vs.length m₁ news₁ → KtsTurn (outer.filterMap (·.frame)) h00 h₀' → GRel g00 gn → Cx w A₀ base outer loose mean mg mb h₀' L m₁ news₁ h → Q .next { s with heap := h, gens := gn, toks := tk }) :
    wpAny (model Challenge.rw_ix0031_01.row.prog w) A (pyIter (.ref l)) (fun it s₂ => LoopAtC w A env tgt body Q E it s₂) E s := by
  refine wpAny_pyIter_tuple (items := vs.toArray) ⟨_, (C.N _ hm).1, rfl, 0, rfl⟩ ?_
  have hlt : ∀ p ∈ news, (p.1 : Nat) < s.heap.objs.size := fun p hp => Heap.lt_size (C.N p hp).1
  refine iter_it (h₀ := h₀) T00 (by exact G00) (It.tup hh L s.heap.objs.size l s.heap.objs.size (s.heap.objs.size + 1) (Nat.le_refl _) (Nat.lt_succ_self _) (Nat.lt_succ_of_lt (Heap.lt_size (C.N _ hm).1)) vs) (news := (s.heap.objs.size, { cls := .type "tuple_iterator", data := .fields #[.ref l, .int 0 0] }) :: news) ⟨C.B, C.F.push _, C.N.push C.F _, C.X, C.T, C.D, C.XB, C.TB⟩ ⟨_, .head _, rfl, rfl, .tail _ hm⟩ J (Jm _ hlt _ _ _ _ h0 fun p hp _ => .tail _ hp) (Jm _ hlt) (htg _)
    (fun i v m₁ news₁ h tk gn h₀' _ hP hJ hS T G C' => turn _ i v m₁ news₁ h tk gn h₀' hP hJ hS T G C') done
theorem call_reversed_led {prog : Program} {l : Addr} {vs : List Value} {nn : Nat} {Q : Value → Shared → Prop} (F : Fr h₀ L s.heap m) (N : News h₀ L s.heap news) (hm : (l, W.listOf vs.toArray nn) ∈ news)
    (h : ∀ I h', Fr h₀ L h' m → News h₀ L h' ((I, revObj l ((vs.length : Int) - 1)) :: news) → (∀ p ∈ news, p.1 < I) → Q (.ref I) { s with heap := h' }) : wpAny (model prog w) A (call (.type "reversed") [.ref l]) Q E s :=
  call_reversed_list (items := vs.toArray) ⟨_, (N _ hm).1, rfl, nn, rfl⟩ (h _ _ (F.push _) (by have := N.push F (revObj l ((vs.toArray.size : Int) - 1)); simpa using this) fun p hp => Heap.lt_size (N p hp).1)
theorem iter_revC {h00 : Heap} {g00 : Array GenState} (T00 : KtsTurn (outer.filterMap (·.frame)) h00 h₀) (G00 : GRel g00 s.gens) {I l : Addr} {vs : List Value} {nn : Nat} (C : Cx w A₀ base outer loose mean mg mb h₀ L m news s.heap) (hh : A.handled = none) (hi : (I, revObj l ((vs.length : Int) - 1)) ∈ news) (hm : (l, W.listOf vs.toArray nn) ∈ news) (hlI : l < I)
    (J : Nat → (Str → Option Value) → Led → Prop) (h0 : J 0 m news) (Jm : ∀ i m n n', J i m n → (∀ p ∈ n, Kept I p → p ∈ n') → J i m n') (htg : ∀ v, letOwnedTupleGo tgt (.ref I) v = pure ())
    (turn : ∀ i v m₁ news₁ h tk gn h₀', vs.reverse[i]? = some v → J i m₁ news₁ → StR I l vs nn (i + 1) news₁ gn → KtsTurn (outer.filterMap (·.frame)) h00 h₀' → GRel g00 gn → Cx w A₀ base outer loose mean mg mb h₀' L m₁ news₁ h →
      wpAny (model Challenge.rw_ix0031_01.row.prog w) A (assign tgt env v) (fun _ s₃ => wpAny (model Challenge.rw_ix0031_01.row.prog w) A (execs body env) (LoopEnd w A₀ base outer loose mean mg mb h00 g00 L { s with heap := h, gens := gn, toks := tk } (fun m' n' g' => J (i + 1) m' n' ∧ StR I l vs nn (i + 1) n' g') Q) E s₃) E { s with heap := h, gens := gn, toks := tk })
    (done : ∀ m₁ news₁ h tk gn h₀', J vs.length m₁ news₁ → KtsTurn (outer.filterMap (·.frame)) h00 h₀' → GRel g00 gn → Cx w A₀ base outer loose mean mg mb h₀' L m₁ news₁ h → Q .next { s with heap := h, gens := gn, toks := tk }) :
    wpAny (model Challenge.rw_ix0031_01.row.prog w) A (pyIter (.ref I)) (fun it s₂ => LoopAtC w A env tgt body Q E it s₂) E s := by
  refine wpAny_pyIter_revIter (l := l) ⟨_, (C.N _ hi).1, rfl, rfl⟩ ?_
  exact iter_it (h₀ := h₀) T00 G00 (It.rev hh L I l I (I + 1) (Nat.le_refl _) (Nat.lt_succ_self _) (Nat.lt_succ_of_lt hlI) vs nn) C ⟨_, hi, rfl, by show Data.fields #[Value.ref l, rawInt ((vs.length : Int) - 1)] = Data.fields #[Value.ref l, rawInt ((vs.length : Int) - 1 - (0 : Nat))]; simp, hm⟩ J h0 Jm htg (fun i v m₁ news₁ h tk gn h₀' _ hP hJ hS T G C' => turn i v m₁ news₁ h tk gn h₀' hP hJ hS T G C') done
end
@[reducible] noncomputable def dks : List Int := [1, 2, 4, 5, 8]
noncomputable def P11 (c : Bool) (σ : Sgs) (j : Nat) (σ2 : Sgs) : Prop := σ2.length ≤ 40 ∧ ∀ k, look σ2 k = match cur σ k with
  | some v => some [some v]
  | none => if k ∈ dks.take j then none else look (defaults (!c)) k
noncomputable def P12 (σ _ : Sgs) (_ : List (Int × Int)) (σ2 : Sgs) : Prop := σ2.length ≤ 40 ∧ ∀ k, look σ2 k = (cur σ k).map fun v => [some v]
theorem P11.start {c : Bool} {σ ρ σ2 : Sgs} {π : List (Int × Int)} (h : P10 c σ ρ π σ2) : P11 c σ 0 σ2 := ⟨h.1, fun k => by rw [h.2 k]; cases cur σ k <;> simp⟩
theorem def_none {c : Bool} {k : Int} (h : k ∉ dks) : look (defaults c) k = none := by
  have h1 : ¬ (1 : Int) = k := fun e => h (e ▸ by decide)
  have h2 : ¬ (2 : Int) = k := fun e => h (e ▸ by decide)
  have h3 : ¬ (4 : Int) = k := fun e => h (e ▸ by decide)
  have h4 : ¬ (5 : Int) = k := fun e => h (e ▸ by decide)
  have h5 : ¬ (8 : Int) = k := fun e => h (e ▸ by decide)
  unfold defaults
  simp only [look_cons, if_neg h1, if_neg h2, if_neg h3, if_neg h4, if_neg h5]
  rfl
theorem P11.done {c : Bool} {σ ρ σ2 : Sgs} {π : List (Int × Int)} (h : P11 c σ 5 σ2) : P12 σ ρ π σ2 := ⟨h.1, fun k => by
  rw [h.2 k]
  cases cur σ k with
  | some v => rfl
  | none =>
    show (if k ∈ dks.take 5 then none else look (defaults (!c)) k) = none
    by_cases z : k ∈ dks.take 5
    · rw [if_pos z]
    · rw [if_neg z]; exact def_none z⟩
theorem P11.skip {c : Bool} {σ σ2 : Sgs} {j : Nat} {kk : Int} (h : P11 c σ j σ2) (hk : dks[j]? = some kk) (hc : cur σ kk ≠ none) : P11 c σ (j + 1) σ2 := ⟨h.1, fun k => by
  rw [h.2 k, take_snoc hk]
  cases q : cur σ k with
  | some v => rfl
  | none =>
    have hne : k ≠ kk := fun e => hc (e ▸ q)
    have : k ∈ dks.take j ++ [kk] ↔ k ∈ dks.take j := by simp [hne]
    simp only [this]⟩
theorem P11.drop {c : Bool} {σ σ2 σ3 : Sgs} {j : Nat} {kk : Int} (h : P11 c σ j σ2) (hk : dks[j]? = some kk) (hc : cur σ kk = none) (hl : σ3.length ≤ σ2.length) (h3 : ∀ k, look σ3 k = if k = kk then none else look σ2 k) : P11 c σ (j + 1) σ3 := ⟨Nat.le_trans hl h.1, fun k => by
  rw [h3 k, take_snoc hk]
  by_cases z : k = kk
  · subst z
    rw [if_pos rfl, hc]
    simp
  · rw [if_neg z, h.2 k]
    have : k ∈ dks.take j ++ [kk] ↔ k ∈ dks.take j := by simp [z]
    simp only [this]⟩
section
variable {w : World} {c c2 : Bool} {L x y : Addr} {σ σ' σ2 σ3 ρ ρ' : Sgs} {π π' : List (Int × Int)} {dx d dy : Addr} {t1 t2 u1 u2 : Tok} {nn n2 : Nat} {od : Obj} {kvs : List (Int × Value)} {ls ls2 : Led} {rd d2 : Addr} {oR od2 : Obj} {kR kvs2 : List (Int × Value)} {lR lD lR' : Led} {pd pd' : Addr} {oP oP' : Obj} {kP kP' : List (Int × Value)} {n n1 n' : Led} {h₀ h : Heap} {F : Addr} {l l' : List Addr}
theorem drop_none {σ : Sgs} {k : Int} (h : look σ k = none) (k' : Int) : look σ k' = if k' = k then none else look σ k' := by
  by_cases z : k' = k
  · rw [if_pos z, z, h]
  · rw [if_neg z]
theorem gone2_out {k : Int} {v : Value} (N : News h₀ F h n) (H : LO w c2 y σ2 dy d2 u1 u2 n2 od2 kvs2 ls2 d rd pd ls lR [] n) (M : LM w c L x σ ρ π dx d t1 t2 nn od kvs ls rd oR kR lR pd oP kP n)
    (hR : (v = .bool true ∧ (∃ row, look σ2 k = some row) ∧ Dropped w y c2 (dropR σ2 k) n n' dy d2 u1 u2 n2 ls2) ∨ (v = .bool false ∧ look σ2 k = none ∧ ∀ p ∈ n, p ∈ n')) :
    ∃ σ3 od3 kvs3 ls3, LO w c2 y σ3 dy d2 u1 u2 n2 od3 kvs3 ls3 d rd pd ls lR [] n' ∧ LM w c L x σ ρ π dx d t1 t2 nn od kvs ls rd oR kR lR pd oP kP n' ∧ σ3.length ≤ σ2.length ∧ (∀ k', look σ3 k' = if k' = k then none else look σ2 k') ∧ (∀ p ∈ n, p.1 ≠ d2 → p.1 ∉ ls2.map (·.1) → p ∈ n') := by
  rcases hR with ⟨_, _, od3, kvs3, ls3, hS, hk, hl⟩ | ⟨_, hno, hs⟩
  · have hk' : ∀ p ∈ n, p.1 ≠ d2 → p.1 ∉ ls2.map (·.1) → p ∈ n' := fun p hp h1 _ => hk p hp h1
    obtain ⟨h1, h2⟩ := H.moved N M (fun _ q => nomatch q) hS hk' fun q hq => .inl (List.mem_map_of_mem (hl q hq))
    exact ⟨_, od3, kvs3, ls3, h1, h2, drop_sub σ2 k, fun k' => look_drop σ2 k k', hk'⟩
  · exact ⟨σ2, od2, kvs2, ls2, H.up hs, M.up hs, Nat.le_refl _, drop_none hno, fun p hp _ _ => hs p hp⟩
theorem StT.offS {I a : Addr} {vs : List Value} {i : Nat} {g g' : Array GenState} (N : News h₀ F h n) (H : StT I a vs i n g) (S : DicL w d2 σ2 n od2 kvs2 ls2) (hk : ∀ p ∈ n, p.1 ≠ d2 → p.1 ∉ ls2.map (·.1) → p ∈ n') : StT I a vs i n' g' := by
  (refine hide fun G__ k__ => ?_; obtain ⟨oI, q1, q2, q3, q4⟩ := H; refine k__ ?_; clear k__ G__)
  have key : ∀ {b : Addr} {o : Obj}, (b, o) ∈ n → o.cls ≠ .type "dict" → o.cls ≠ .type "list" → (b, o) ∈ n' := fun {b o} hm h1 h2 => by
    refine hk _ hm (led_ne N hm S.body fun e => ?_) fun q => ?_
    · (refine hide fun G__ k__ => ?_; obtain ⟨es, ep, hx, _⟩ := S.isd; refine k__ ?_; clear k__ G__)
      exact h1 (e ▸ hx.1)
    · (refine hide fun G__ k__ => ?_; obtain ⟨r, hr, e⟩ := List.mem_map.mp q; refine k__ ?_; clear k__ G__)
      have h3 : (b, r.2) ∈ n := by rw [← (show r.1 = b from e)]; exact S.lsin r hr
      have h4 := led_eq N h3 hm
      (refine hide fun G__ k__ => ?_; obtain ⟨row, vs, k, e', _⟩ := S.lists.objs hr; refine k__ ?_; clear k__ G__)
      exact h2 (by rw [← h4, e'])
  exact ⟨oI, key q1 (by rw [q2]; decide) (by rw [q2]; decide), q2, q3, key q4 (by show Value.type "tuple" ≠ _; decide) (by show Value.type "tuple" ≠ _; decide)⟩
theorem StT.up {I a : Addr} {vs : List Value} {i : Nat} {g g' : Array GenState} (H : StT I a vs i n g) (hs : ∀ p ∈ n, p ∈ n') : StT I a vs i n' g' := let ⟨oI, q1, q2, q3, q4⟩ := H; ⟨oI, hs _ q1, q2, q3, hs _ q4⟩
end
theorem ov_is {prog : Program} {w : World} {A : Around} {E Q : Value → Shared → Prop} {s : Shared} {r : Option Int} {v : Value} (h : OV r v) (hq : Q (.bool (!r.isSome)) s) : wpAny (model prog w) A (compareOp .Is v .none) Q E s := by
  cases h with
  | none => exact wpAny_pure hq
  | int => exact wpAny_pure hq
theorem isSome_no {r : Option Int} (h : r.isSome = false) : r = none := by cases r with
  | none => rfl
  | some x => cases h
theorem isSome_yes {r : Option Int} (h : r.isSome = true) : r ≠ none := by cases r with
  | none => cases h
  | some x => exact fun q => by cases q
theorem dk_get {t1 t2 t3 t4 t5 : Tok} {j : Nat} {v : Value} (h : [Value.int 1 t1, Value.int 2 t2, Value.int 4 t3, Value.int 5 t4, Value.int 8 t5][j]? = some v) : ∃ k t, dks[j]? = some k ∧ v = .int k t :=
  IntsV.get (is := dks) (.cons (.cons (.cons (.cons (.cons .nil))))) h
inductive JT (w : World) (c : Bool) (L x y : Addr) (σ ρ : Sgs) (π : List (Int × Int)) (dx d : Addr) (t1 t2 : Tok) (nn : Nat) (od : Obj) (kvs : List (Int × Value)) (ls : Led) (rd : Addr) (oR : Obj) (kR : List (Int × Value)) (lR : Led) (pd : Addr) (oP : Obj) (kP : List (Int × Value)) (dy d2 : Addr) (u1 u2 : Tok) (n2 : Nat) (j : Nat) (m : Str → Option Value) (n : Led) : Prop
  | mk : ∀ σ2 od2 kvs2 ls2, SameOff offO (mO (.ref y) (.ref x)) m → LM w c L x σ ρ π dx d t1 t2 nn od kvs ls rd oR kR lR pd oP kP n → LO w (!c) y σ2 dy d2 u1 u2 n2 od2 kvs2 ls2 d rd pd ls lR [] n → P11 c σ j σ2 → JT w c L x y σ ρ π dx d t1 t2 nn od kvs ls rd oR kR lR pd oP kP dy d2 u1 u2 n2 j m n
theorem JT.kept {w : World} {c : Bool} {L x y : Addr} {σ ρ : Sgs} {π : List (Int × Int)} {dx d : Addr} {t1 t2 : Tok} {nn : Nat} {od : Obj} {kvs : List (Int × Value)} {ls : Led} {rd : Addr} {oR : Obj} {kR : List (Int × Value)} {lR : Led} {pd : Addr} {oP : Obj} {kP : List (Int × Value)} {dy d2 : Addr} {u1 u2 : Tok} {n2 : Nat} {j lo : Nat} {m : Str → Option Value} {n n' : Led} (h : JT w c L x y σ ρ π dx d t1 t2 nn od kvs ls rd oR kR lR pd oP kP dy d2 u1 u2 n2 j m n) (hc : (L : Nat) + 1 + 1 + 1 + 1 < lo) (hk : ∀ p ∈ n, Kept lo p → p ∈ n') : JT w c L x y σ ρ π dx d t1 t2 nn od kvs ls rd oR kR lR pd oP kP dy d2 u1 u2 n2 j m n' := by
  (refine hide fun G__ k__ => ?_; obtain ⟨σ3, a1, a2, a3, b1, b2, b3, b4⟩ := h; refine k__ ?_; clear k__ G__)
  exact ⟨σ3, a1, a2, a3, b1, b2.kept hc hk, b3.kept hk, b4⟩
theorem words_T46 : True := by
  k_with "exec For Name Tuple cons nil" => (guard_hyp hT46; ((k_here; k_dflt (refine' For_cx ?_ (hE := hE)))))
  k_with "exec For Name Tuple" => (guard_hyp hT46; ((k_here; k_dflt (refine' For_cx ?_ (hE := hE)))))
  k_with "exec For Name" => (guard_hyp hT46; ((k_here; k_dflt (refine' For_cx ?_ (hE := hE)))))
  k_with "pyIter ref" => (guard_hyp hT46; ((k_here; k_dflt (refine' iter_tupC (vs := [Value.int 1 _, Value.int 2 _, Value.int 4 _, Value.int 5 _, Value.int 8 _]) ?T00_u ?G00_u ⟨?B_u, ?F_u, ?N_u, ?X_u, ?T_u, ?D_u, ?XB_u, ?TB_u⟩ rfl (List.Mem.head _) (JT w c L' x y σ ρ π dx d t1 t2 nn od kvs ls rd oR kR lR pd oP kP dy d2 u1 u2 n2) ?h0_u (fun lo hlo j ma na nb hJ hk => hJ.kept ((hM.c4.up (fun p hp => .tail _ hp)).lt hlo) hk) ?htg_u (fun I9 j v m₁ n₁ h₁ tk gn g₁ hk hJ hSt hTn hG C' => ?_) (fun m₁ n₁ h₁ tk gn g₁ hJ hTn hG C' => ?_); (case B_u => k_asm); (case F_u => k_asm); (case N_u => k_asm); (case X_u => k_asm); (case T_u => k_asm); (case D_u => assumption); (case XB_u => assumption); (case TB_u => assumption); (case T00_u => first | assumption | exact KtsTurn.refl); (case G00_u => first | assumption | exact GRel.refl _); (case htg_u => exact fun _ _ => rfl); (case h0_u => exact ⟨σ2, od2, kvs2, ls2, SameOff.eqs hj0, hM.up (fun p hp => .tail _ hp), hO.up (fun p hp => .tail _ hp), P11.start hP⟩)); rotate_left; ((refine hide fun G__ k__ => ?_; obtain ⟨σ3, od3, kvs3, ls3, hj1, hM3, hO3, hP3⟩ := hJ; refine k__ ?_; clear k__ G__); rw [hj1.eqM] at C'; obtain ⟨B', F', N', X', T', D', XB', TB'⟩ := C'; (try k_lift B'); (try k_fold)); rotate_right; ((refine hide fun G__ k__ => ?_; obtain ⟨σ3, od3, kvs3, ls3, hj1, hM3, hO3, hP3⟩ := hJ; refine k__ ?_; clear k__ G__); rw [hj1.eqM] at C'; (refine hide fun G__ k__ => ?_; obtain ⟨kk, tk9, hkk, hvt⟩ := dk_get hk; refine k__ ?_; clear k__ G__); subst hvt; (refine hide fun G__ k__ => ?_; obtain ⟨o1', hc1', hd1'⟩ := hM3.c1; refine k__ ?_; clear k__ G__); (refine hide fun G__ k__ => ?_; obtain ⟨o4', hc4', hd4'⟩ := hM3.c4; refine k__ ?_; clear k__ G__); obtain ⟨B', F', N', X', T', D', XB', TB'⟩ := C'; (try k_lift B'); (try k_fold)))))
  k_with "call ref" => (guard_hyp hT46; ((k_here; (with_reducible show wpAny _ _ (call (Value.ref 427) _ _) _ _ _); k_dflt (refine' Spec.use (c_now _ _ _ _ _ _ (cur σ) _ _ _ _ _ hM3.rows hM3.pls (iv.tells (by decide)) _ _) ?hA_h ?B_h ?F_h ?N_h ?X_h ?T_h ?D_h ?XB_h ?TB_h ?hf_h ?hke_h ?hdp_h ?hun_h (fun v n' h' gn' tk' g' hR kT kF kN kB kX₀ kP kD kX kG => ?_); (case F_h => k_asm); (case N_h => k_asm); skip; (case hA_h => exact rfl); (case B_h => k_asm); (case X_h => k_asm); (case T_h => k_asm); (case D_h => assumption); (case XB_h => assumption); (case TB_h => assumption); (case hf_h => exact rfl); (case hke_h => exact rfl); (case hdp_h => k_room); (case hun_h => k_units); (all_goals (try (have kT2 := KtsTurn.trans (by assumption) kT; clear kT))); (all_goals (try (have kG2 := GRel.trans (by assumption) kG; clear kG))); have hE := hR.1.symm; replace hR := hR.2; subst hE; (try dsimp only); (try k_lift kB); (try k_fold)))))
  k_with "compareOp Is" => (guard_hyp hT46; ((k_here; k_dflt (refine' ov_is ?a_m ?_; (case a_m => assumption)))))
  k_with "call ref" => (guard_hyp hT46; ((k_here; (with_reducible show wpAny _ _ (call (Value.ref 420) _ _) _ _ _); k_dflt (refine' Spec.use (c_gone _ _ _ _ _ _ _ _ _ _ _ _ _ hO3.sets _ _) ?hA_c ?B_c ?F_c ?N_c ?X_c ?T_c ?D_c ?XB_c ?TB_c ?hf_c ?hke_c ?hdp_c ?hun_c (fun v n' h' gn' tk' g' hR kT kF kN kB kX₀ kP kD kX kG => ?_); (case F_c => k_asm); (case N_c => k_asm); skip; (case hA_c => exact rfl); (case B_c => k_asm); (case X_c => k_asm); (case T_c => k_asm); (case D_c => assumption); (case XB_c => assumption); (case TB_c => assumption); (case hf_c => exact rfl); (case hke_c => exact rfl); (case hdp_c => k_room); (case hun_c => k_units); (all_goals (try (have kT2 := KtsTurn.trans (by assumption) kT; clear kT))); (all_goals (try (have kG2 := GRel.trans (by assumption) kG; clear kG))); (refine hide fun G__ k__ => ?_; obtain ⟨σ4, od4, kvs4, ls4, hO4, hM4, hl4, hlk4, hkp4⟩ := gone2_out (by assumption) hO3 hM3 hR; refine k__ ?_; clear k__ G__); have hSt4 := StT.offS (g' := #[]) (by assumption) hSt hO3.sets.dic hkp4; (try dsimp only); (try k_lift kB); (try k_fold)))))
  k_with "@J" => (guard_hyp hT46; (k_dflt (first | exact ⟨⟨_, _, _, _, (by repeat (first | exact SameOff.eqs (by assumption) | exact SameOff.refl | refine SameOff.ite (by rfl) ?_)), hM4, hO4, hP3.drop hkk (isSome_no (by assumption)) hl4 hlk4⟩, StT.up (g' := _) hSt4 (fun p hp => hp)⟩ | exact ⟨⟨_, _, _, _, (by repeat (first | exact SameOff.eqs (by assumption) | exact SameOff.refl | refine SameOff.ite (by rfl) ?_)), hM3, hO3, hP3.skip hkk (isSome_yes (by assumption))⟩, StT.up (g' := _) hSt (fun p hp => hp)⟩ | exact ⟨x, y, _, _, _, _, _, _, _, _, _, _, _, _, _, _, _, _, _, _, _, _, _, _, _, _, _, _, _, SameOff.eqs hj1, hM3, hO3, iv, P11.done hP3⟩)))
  trivial
set_option maxRecDepth 100000 in
set_option maxHeartbeats 40000000 in
theorem c_law11 (w : World) (dp un : Nat) (gd : Option (List Code)) (outer : List Env) (base : Heap) (loose : List Str) (mean : ExcName → Option Value) (mg mb : Str → Option Value) (o : Obj) (ho : (hd.heap_39 w.params).lookup 437 = some o) (L' : Addr) (h00 : Heap) (g00 : Array GenState) (s : Shared) (Q : Flow → Shared → Prop) (E : Value → Shared → Prop) (hdp : dp + 100 < recursionLimit) (hun : un + 1000 < cLine) (hE : PassesOwn (model Challenge.rw_ix0031_01.row.prog w) (Around.deeper { handled := none, depth := dp, frames := some outer, guards := gd, units := un } (lawE o L')) (lawE o L') E) (c : Bool) (next : Go w { handled := none, depth := dp, frames := some outer, guards := gd, units := un } base outer loose mean mg mb h00 g00 L' s Q E (lawE o L') ((obS o).drop 12) (L2 w c L' P12)) : Go w { handled := none, depth := dp, frames := some outer, guards := gd, units := un } base outer loose mean mg mb h00 g00 L' s Q E (lawE o L') ((obS o).drop 11) (L2 w c L' (P10 c)) := by
  have hT46 := trivial; have g1 := trivial; have g2 := trivial; have g4 := trivial; have g5 := trivial; have g6 := trivial; have g7 := trivial; have g8 := trivial
  intro m₁ n₁ h₁ gn tk g₁ hJ hTn hGn C'
  have X := C'.X
  have kfl : Challenge.rw_ix0031_01.row = Challenge.rw_ix0031_01.row := rfl
  revert kfl X ho
  k_fill
  intro ho X kfl
  obtain rfl := lookE ho (by k_is)
  clear X ho
  dsimp only [obS, obSc, obCd, lawN, lawE, nthS, inFor, inIf, inElse, List.drop, List.take]
  (refine hide fun G__ k__ => ?_; obtain ⟨x, y, σ, ρ, π, σ2, dx, d, t1, t2, nn, od, kvs, ls, rd, oR, kR, lR, pd, oP, kP, dy, d2, u1, u2, n2, od2, kvs2, ls2, hj0, hM, hO, iv, hP⟩ := hJ; refine k__ ?_; clear k__ G__)
  have i1 := hM.sets.inst
  have i2 := hM.sets.dict
  have i3 := hO.sets.inst
  have i4 := hO.sets.dict
  rw [hj0.eqM] at C'
  obtain ⟨B', F', N', X', T', D', XB', TB'⟩ := C'; (try k_lift B'); (try k_fold)
  have hTm := hTn; have hGm := hGn
  refine cut hTm hGm ⟨B', F', N', X', T', D', XB', TB'⟩ (L2 w c L' P12) ?_ fun m₁ n₁ h₁ gn tk g₁ hJ hTn hGn C' => next _ _ _ _ _ _ hJ hTn hGn C'
  k_steps
theorem pick_from (vs : List Value) {x : Int} (h : 0 ≤ x) : (slicePick vs.toArray (some x) none none).toList = vs.drop x.toNat := by
  obtain ⟨m, rfl⟩ := Int.eq_ofNat_of_zero_le h
  have e : sliceBounds (some (m : Int)) none none vs.toArray.size = (((min (m : Int).toNat vs.toArray.size : Nat) : Int), ((vs.toArray.size : Nat) : Int), 1) := by
    simp only [sliceBounds, Option.getD_none, show (1 : Int) > 0 by decide, if_true, if_neg (Int.not_lt.mpr h)]
    congr 1
    rw [Int.toNat_natCast]
    rcases Nat.le_total m vs.toArray.size with q | q
    · rw [Nat.min_eq_left q, Int.min_eq_left (Int.ofNat_le.mpr q), Int.max_eq_right (Int.natCast_nonneg _)]
    · rw [Nat.min_eq_right q, Int.min_eq_right (Int.ofNat_le.mpr q), Int.max_eq_right (Int.natCast_nonneg _)]
  rw [kmk_pick_nat _ e]
  show (vs.drop (min (m : Int).toNat vs.toArray.size)).take (vs.toArray.size - min (m : Int).toNat vs.toArray.size) = _
  rw [List.size_toArray, kmk_drop_min, List.take_of_length_le (by rw [List.length_drop]; exact Nat.sub_le_sub_left (Nat.min_le_left _ _) _)]
theorem slice_row {prog : Program} {w : World} {A : Around} {E : Value → Shared → Prop} {s : Shared} {h₀ : Heap} {L l : Addr} {m : Str → Option Value} {news : Led} {value slice : PySem.Expr} {its : List Value} {nx j : Nat} {vl vu : Value} {Q : Value → Shared → Prop} (F : Fr h₀ L s.heap m) (N : News h₀ L s.heap news) (hm : (l, W.listOf its.toArray nx) ∈ news) (hz : its.length ≤ 1000) (pl : IsPart vl (some ((j : Int) + 1))) (pu : IsPart vu none)
    (h : ∀ D h', Fr h₀ L h' m → News h₀ L h' ((D, W.listOf (its.drop (j + 1)).toArray 0) :: news) → (∀ p ∈ news, p.1 < D) → Q (.ref D) { s with heap := h' })
    (hs : subscripted slice false (.ref l) (.ref s.heap.objs.size) = operate [.ref s.heap.objs.size, .ref l] (getItem (.ref l) (.ref s.heap.objs.size))) (ht : ∀ r, letTemporaryGo value (.ref l) r = pure ()) :
    wpAny (model prog w) A (subscriptTail value slice (.ref l) (.ref s.heap.objs.size)) Q E { s with heap := s.heap.push { cls := .type "slice", data := .fields #[vl, vu, .none] } } :=
  kmk_slice_lit F N ⟨_, (N _ hm).1, rfl, nx, rfl⟩ pl pu (by rw [pick_from its (by omega)]; congr 1) h hs ht (by rw [List.size_toArray, sizeLine_eq]; omega)
theorem IntsV.rev {ns : List Int} {vs : List Value} (h : IntsV ns vs) : IntsV ns.reverse vs.reverse := by
  induction h with
  | nil => exact .nil
  | @cons i t is vs _ ih => rw [List.reverse_cons, List.reverse_cons]; exact ih.snoc i t
noncomputable def inB (r : Option Int) (tl : Row) (u : Nat) : Option Row := if r = none ∧ u = 0 then none else some (r :: tl.take u)
noncomputable def P12t (σ : Sgs) (dn : List Int) (σ2 : Sgs) : Prop := ∀ k, look σ2 k = if k ∈ dn then look σ k else (cur σ k).map fun v => [some v]
noncomputable def PIn (kk : Int) (r : Option Int) (tl : Row) (u : Nat) (σa σ2 : Sgs) : Prop := ∀ k, look σ2 k = if k = kk then inB r tl u else look σa k
section
variable {b : Nat} {σ ρ σ2 σa : Sgs} {π : List (Int × Int)} {k v kk : Int} {dn : List Int} {r : Option Int} {tl row : Row} {u jj : Nat}
theorem P12t.start (h : P12 σ ρ π σ2) : P12t σ [] σ2 := fun k => by rw [h.2 k, if_neg (by simp)]
theorem PIn.start (h : P12t σ dn σ2) (hk : kk ∉ dn) (hc : cur σ kk = r) : PIn kk r tl 0 σ2 σ2 := fun k => by
  by_cases z : k = kk
  · subst z
    rw [if_pos rfl, h k, if_neg hk, hc]
    unfold inB
    cases r with
    | none => rw [if_pos ⟨rfl, rfl⟩]; rfl
    | some v => rw [if_neg (fun q => by cases q.1)]; rfl
  · rw [if_neg z]
theorem PIn.step (h : PIn kk r tl u σa σ2) (ht : tl[u]? = some (some v)) : PIn kk r tl (u + 1) σa (putR σ2 kk (newRow σ2 kk v)) := fun k => by
  rw [look_put]
  by_cases z : k = kk
  · subst z
    rw [if_pos rfl, if_pos rfl]
    unfold newRow
    have e := h k
    rw [if_pos rfl] at e
    rw [e]
    unfold inB
    rw [if_neg (fun q : r = none ∧ u + 1 = 0 => by cases q.2), take_snoc ht]
    by_cases q : r = none ∧ u = 0
    · rw [if_pos q]
      obtain ⟨rfl, rfl⟩ := q
      rfl
    · rw [if_neg q]
      rfl
  · rw [if_neg z, if_neg z, h k, if_neg z]
theorem PIn.done (h : PIn kk r tl tl.length σa σ2) (ha : P12t σ dn σa) (hl : look σ kk = some (r :: tl)) (h2 : r = none → tl ≠ []) : P12t σ (dn ++ [kk]) σ2 := fun k => by
  rw [h k]
  by_cases z : k = kk
  · subst z
    rw [if_pos rfl, if_pos (by simp), hl]
    unfold inB
    rw [if_neg (fun q => h2 q.1 (List.length_eq_zero_iff.mp q.2)), List.take_length]
  · rw [if_neg z, ha k]
    have : k ∈ dn ++ [kk] ↔ k ∈ dn := by simp [z]
    simp only [this]
theorem P12t.all (h : P12t σ dn σ2) (iv : Inv b σ ρ π) (hd : ∀ k row, look ρ k = some row → k ∈ dn) : ∀ k, look σ k = look σ2 k := fun k => by
  rw [h k]
  by_cases z : k ∈ dn
  · rw [if_pos z]
  · rw [if_neg z]
    have e : look ρ k = none := by
      cases q : look ρ k with
      | none => rfl
      | some row => exact absurd (hd k row q) z
    rw [iv.at0 k e, cur_none (iv.at0 k e)]; rfl
theorem Inv.split (iv : Inv b σ ρ π) (hr : look ρ kk = some row) (hp : look π kk = some (jj : Int)) : jj < row.length ∧ look σ kk = some (cur σ kk :: row.drop (jj + 1)) ∧ (cur σ kk = none → row.drop (jj + 1) ≠ []) := by
  (refine hide fun G__ k__ => ?_; obtain ⟨j, h1, h2, h3⟩ := iv.at1 kk row hr; refine k__ ?_; clear k__ G__)
  have e : jj = j := by rw [hp] at h1; have := Option.some.inj h1; omega
  subst e
  have h4 := cur_drop h2 h3
  refine ⟨h2, ?_, fun hc q => ?_⟩
  · have e2 : row.drop jj = row[jj] :: row.drop (jj + 1) := List.drop_eq_getElem_cons h2
    rw [h3, e2]
    rw [List.getElem?_eq_getElem h2] at h4
    rw [Option.some.inj h4]
  · rw [hc] at h4
    rcases iv.ok kk row hr jj none h4 with ⟨_, rfl⟩ | ⟨v, e, _⟩
    · have h5 := iv.two kk row hr h4
      have := congrArg List.length q
      rw [List.length_drop, List.length_nil] at this
      omega
    · cases e
theorem Inv.tails (iv : Inv b σ ρ π) (hr : look ρ kk = some row) {x : Option Int} (h : (row.drop (jj + 1))[u]? = some x) : ∃ v, x = some v ∧ Val kk v := by
  rw [List.getElem?_drop] at h
  rcases iv.ok kk row hr _ x h with ⟨_, e⟩ | h
  · omega
  · exact h
noncomputable def Sm (σ2 : Sgs) : Prop := ∀ k row, look σ2 k = some row → k ∈ codes ∧ row.length ≤ 900
theorem P12t.sm (h : P12t σ dn σ2) (iv : Inv b σ ρ π) (hb : b ≤ 100) : Sm σ2 := fun k row e => by
  rw [h k] at e
  by_cases z : k ∈ dn
  · rw [if_pos z] at e
    refine ⟨?_, iv.rowlen hb e⟩
    cases q : look ρ k with
    | none => rw [iv.at0 k q] at e; cases e
    | some r0 => exact iv.keys k r0 q
  · rw [if_neg z] at e
    (refine hide fun G__ k__ => ?_; obtain ⟨v, e1, e2⟩ := Option.map_eq_some_iff.mp e; refine k__ ?_; clear k__ G__)
    subst e2
    exact ⟨(iv.curVal e1).2, by simp⟩
theorem PIn.sm (h : PIn kk r tl u σa σ2) (ha : Sm σa) (hk : kk ∈ codes) (hl : tl.length ≤ 800) : Sm σ2 := fun k row e => by
  rw [h k] at e
  by_cases z : k = kk
  · rw [if_pos z] at e
    unfold inB at e
    split at e
    · cases e
    · cases e
      refine ⟨z ▸ hk, ?_⟩
      have := List.length_take_le' u tl
      rw [List.length_cons]; omega
  · rw [if_neg z] at e; exact ha k row e
theorem Sm.fit (h : Sm σ2) (nd : (σ2.map (·.1)).Nodup) : Fit (putR σ2 k (newRow σ2 k v)) := by
  refine fit_put ?_ fun k row e => (h k row e).2
  have h1 := sub_len nd (l₂ := codes) fun a ha => by
    obtain ⟨row, e⟩ := look_some_key.mp ha
    exact (h a row e).1
  rw [List.length_map] at h1
  exact Nat.le_trans h1 (by decide)
end
section
variable {w : World} {c2 : Bool} {σ2 : Sgs} {d2 : Addr} {od2 : Obj} {kvs2 : List (Int × Value)} {ls2 : Led} {n n' : Led} {h₀ h : Heap} {F : Addr}
theorem StR.up {I a : Addr} {vs : List Value} {k i : Nat} {g g' : Array GenState} (H : StR I a vs k i n g) (hs : ∀ p ∈ n, p ∈ n') : StR I a vs k i n' g' := let ⟨oI, q1, q2, q3, q4⟩ := H; ⟨oI, hs _ q1, q2, q3, hs _ q4⟩
theorem StR.kept {I a : Addr} {vs : List Value} {k i lo : Nat} {g g' : Array GenState} (H : StR I a vs k i n g) (hI : (I : Nat) < lo) (hk : ∀ p ∈ n, Kept lo p → p ∈ n') : StR I a vs k i n' g' := let ⟨oI, q1, q2, q3, q4⟩ := H; ⟨oI, hk _ q1 (.inr hI), q2, q3, hk _ q4 (.inl rfl)⟩
theorem StR.offS {I a : Addr} {vs : List Value} {k i : Nat} {g g' : Array GenState} (N : News h₀ F h n) (H : StR I a vs k i n g) (S : DicL w d2 σ2 n od2 kvs2 ls2) (ha : a ∉ ls2.map (·.1)) (hk : ∀ p ∈ n, p.1 ≠ d2 → p.1 ∉ ls2.map (·.1) → p ∈ n') : StR I a vs k i n' g' := by
  (refine hide fun G__ k__ => ?_; obtain ⟨oI, q1, q2, q3, q4⟩ := H; refine k__ ?_; clear k__ G__)
  refine ⟨oI, hk _ q1 (led_ne N q1 S.body fun e => ?_) (fun q => ?_), q2, q3, hk _ q4 (led_ne N q4 S.body (Ne.symm (dictList S.isd))) ha⟩
  · (refine hide fun G__ k__ => ?_; obtain ⟨es, ep, hx, _⟩ := S.isd; refine k__ ?_; clear k__ G__)
    have := hx.1
    rw [← e, q2] at this
    exact absurd this (by decide)
  · (refine hide fun G__ k__ => ?_; obtain ⟨r, hr, e⟩ := List.mem_map.mp q; refine k__ ?_; clear k__ G__)
    have h3 : (I, r.2) ∈ n := by rw [← (show r.1 = I from e)]; exact S.lsin r hr
    have h4 := led_eq N h3 q1
    (refine hide fun G__ k__ => ?_; obtain ⟨row, vs', k', e', _⟩ := S.lists.objs hr; refine k__ ?_; clear k__ G__)
    rw [← h4, e'] at q2
    exact absurd q2 (by show Value.type "list" ≠ Value.type "list_reverseiterator"; decide)
end
theorem row_get {row : Row} {its : List Value} {j q : Nat} {v : Value} (h : RowV row its) (hv : (its.drop j)[q]? = some v) : ∃ x, (row.drop j)[q]? = some x ∧ OV x v := by
  rw [List.getElem?_drop] at hv ⊢
  obtain ⟨hl, e⟩ := List.getElem?_eq_some_iff.mp hv
  (refine hide fun G__ k__ => ?_; obtain ⟨r, h1, h2⟩ := h.get _ hl; refine k__ ?_; clear k__ G__)
  exact ⟨r, h1, e ▸ h2⟩
theorem OV.some {i : Int} {v : Value} (h : OV (some i) v) : ∃ t, v = .int i t := by cases h; exact ⟨_, rfl⟩
theorem mem2 {a b : Addr} {oa ob : Obj} {n : Led} (h1 : (a, oa) ∈ n) (h2 : (b, ob) ∈ n) : ∀ x ∈ [a, b], ∃ o, (x, o) ∈ n := fun x hx => by
  rcases List.mem_cons.mp hx with rfl | hx
  · exact ⟨_, h1⟩
  · rw [List.mem_singleton.mp hx]; exact ⟨_, h2⟩
theorem StL.mem {I l : Addr} {vs : List Value} {k i : Nat} {n : Led} {g : Array GenState} (H : StL I l vs k i n g) : (l, W.listOf vs.toArray k) ∈ n := let ⟨_, _, _, _, h⟩ := H; h
theorem StR.mem {I l : Addr} {vs : List Value} {k i : Nat} {n : Led} {g : Array GenState} (H : StR I l vs k i n g) : (l, W.listOf vs.toArray k) ∈ n := let ⟨_, _, _, _, h⟩ := H; h
theorem PIn.over {σ ρ σ2 σa : Sgs} {π : List (Int × Int)} {b : Nat} {kk : Int} {ks : List Int} {row : Row} {its : List Value} {j jj : Nat} (h : PIn kk (cur σ kk) (row.drop (jj + 1)) (its.drop (jj + 1)).length σa σ2) (hrv : RowV row its) (ha : P12t σ (ks.take j) σa) (iv : Inv b σ ρ π) (hr : look ρ kk = some row) (hp : look π kk = some (jj : Int)) (hk : ks[j]? = some kk) : P12t σ (ks.take (j + 1)) σ2 := by
  have e : (its.drop (jj + 1)).length = (row.drop (jj + 1)).length := by rw [List.length_drop, List.length_drop, hrv.length]
  rw [e] at h
  (refine hide fun G__ k__ => ?_; obtain ⟨_, h2, h3⟩ := iv.split hr hp; refine k__ ?_; clear k__ G__)
  rw [take_snoc hk]
  exact h.done ha h2 h3
@[reducible] noncomputable def offOi : List Str := [Str.ofString "start", Str.ofString "script", Str.ofString "first", Str.ofString "numbers", Str.ofString "drawn", Str.ofString "fault", Str.ofString "value", Str.ofString "deed", Str.ofString "pick", Str.ofString "due", Str.ofString "client"]
@[reducible] noncomputable def mOi (one ov sv : Value) : Str → Option Value := fun y => if y = Str.ofString "one" then some one else mO ov sv y
theorem mOi_O {one ov sv : Value} {m : Str → Option Value} (h : SameOff offOi (mOi one ov sv) m) : SameOff offO (mO ov sv) m := SameOff.more h (by decide) fun z hz => by
  simp only [List.contains_cons, List.contains_nil, Bool.or_eq_false_iff, beq_eq_false_iff_ne, ne_eq] at hz
  simp only [mOi, if_neg hz.2.2.2.2.2.2.2.2.2.2.1]
theorem mOi_of {one ov sv : Value} {m : Str → Option Value} (h : SameOff offO (mO ov sv) m) : SameOff offOi (mOi one ov sv) (fun z => if z = Str.ofString "one" then some one else m z) := SameOff.set h (hasNot (by decide))
theorem mem_all {ks : List Int} {k : Int} {n : Nat} (hl : n = ks.length) (h : k ∈ ks) : k ∈ ks.reverse.take n := by
  rw [List.take_of_length_le (by rw [List.length_reverse, hl]; exact Nat.le_refl _)]
  exact List.mem_reverse.mpr h
inductive JR (w : World) (c : Bool) (L x y : Addr) (σ ρ : Sgs) (π : List (Int × Int)) (dx d : Addr) (t1 t2 : Tok) (nn : Nat) (od : Obj) (kvs : List (Int × Value)) (ls : Led) (rd : Addr) (oR : Obj) (kR : List (Int × Value)) (lR : Led) (pd : Addr) (oP : Obj) (kP : List (Int × Value)) (dy d2 : Addr) (u1 u2 : Tok) (n2 : Nat) (ks : List Int) (S : Addr) (j : Nat) (m : Str → Option Value) (n : Led) : Prop
  | mk : ∀ σ2 od2 kvs2 ls2, SameOff offO (mO (.ref y) (.ref x)) m → LM w c L x σ ρ π dx d t1 t2 nn od kvs ls rd oR kR lR pd oP kP n → LO w (!c) y σ2 dy d2 u1 u2 n2 od2 kvs2 ls2 d rd pd ls lR [S] n → P12t σ (ks.reverse.take j) σ2 → JR w c L x y σ ρ π dx d t1 t2 nn od kvs ls rd oR kR lR pd oP kP dy d2 u1 u2 n2 ks S j m n
theorem JR.kept {w : World} {c : Bool} {L x y : Addr} {σ ρ : Sgs} {π : List (Int × Int)} {dx d : Addr} {t1 t2 : Tok} {nn : Nat} {od : Obj} {kvs : List (Int × Value)} {ls : Led} {rd : Addr} {oR : Obj} {kR : List (Int × Value)} {lR : Led} {pd : Addr} {oP : Obj} {kP : List (Int × Value)} {dy d2 : Addr} {u1 u2 : Tok} {n2 : Nat} {ks : List Int} {S : Addr} {j lo : Nat} {m : Str → Option Value} {n n' : Led} (h : JR w c L x y σ ρ π dx d t1 t2 nn od kvs ls rd oR kR lR pd oP kP dy d2 u1 u2 n2 ks S j m n) (hc : (L : Nat) + 1 + 1 + 1 + 1 < lo) (hk : ∀ p ∈ n, Kept lo p → p ∈ n') : JR w c L x y σ ρ π dx d t1 t2 nn od kvs ls rd oR kR lR pd oP kP dy d2 u1 u2 n2 ks S j m n' := by
  obtain ⟨σ3, a1, a2, a3, b1, b2, b3, b4⟩ := h
  exact ⟨σ3, a1, a2, a3, b1, b2.kept hc hk, b3.kept hk, b4⟩
inductive JI (w : World) (c : Bool) (L x y : Addr) (σ ρ : Sgs) (π : List (Int × Int)) (dx d : Addr) (t1 t2 : Tok) (nn : Nat) (od : Obj) (kvs : List (Int × Value)) (ls : Led) (rd : Addr) (oR : Obj) (kR : List (Int × Value)) (lR : Led) (pd : Addr) (oP : Obj) (kP : List (Int × Value)) (dy d2 : Addr) (u1 u2 : Tok) (n2 : Nat) (kk : Int) (tk : Tok) (row : Row) (jj : Nat) (σ3 : Sgs) (SL S I : Addr) (vss : List Value) (cS j9 : Nat) (j : Nat) (m : Str → Option Value) (n : Led) : Prop
  | mk : ∀ σ2 od2 kvs2 ls2, SameOff offOi (mOi (.int kk tk) (.ref y) (.ref x)) m → LM w c L x σ ρ π dx d t1 t2 nn od kvs ls rd oR kR lR pd oP kP n → LO w (!c) y σ2 dy d2 u1 u2 n2 od2 kvs2 ls2 d rd pd ls lR [SL, S] n → PIn kk (cur σ kk) (row.drop (jj + 1)) j σ3 σ2 → StR I S vss cS j9 n #[] → JI w c L x y σ ρ π dx d t1 t2 nn od kvs ls rd oR kR lR pd oP kP dy d2 u1 u2 n2 kk tk row jj σ3 SL S I vss cS j9 j m n
theorem JI.kept {w : World} {c : Bool} {L x y : Addr} {σ ρ : Sgs} {π : List (Int × Int)} {dx d : Addr} {t1 t2 : Tok} {nn : Nat} {od : Obj} {kvs : List (Int × Value)} {ls : Led} {rd : Addr} {oR : Obj} {kR : List (Int × Value)} {lR : Led} {pd : Addr} {oP : Obj} {kP : List (Int × Value)} {dy d2 : Addr} {u1 u2 : Tok} {n2 : Nat} {kk : Int} {tk : Tok} {row : Row} {jj : Nat} {σ3 : Sgs} {SL S I : Addr} {vss : List Value} {cS j9 : Nat} {j lo : Nat} {m : Str → Option Value} {n n' : Led} (h : JI w c L x y σ ρ π dx d t1 t2 nn od kvs ls rd oR kR lR pd oP kP dy d2 u1 u2 n2 kk tk row jj σ3 SL S I vss cS j9 j m n) (hc : (L : Nat) + 1 + 1 + 1 + 1 < lo) (hI : (I : Nat) < lo) (hk : ∀ p ∈ n, Kept lo p → p ∈ n') : JI w c L x y σ ρ π dx d t1 t2 nn od kvs ls rd oR kR lR pd oP kP dy d2 u1 u2 n2 kk tk row jj σ3 SL S I vss cS j9 j m n' := by
  obtain ⟨σ4, a1, a2, a3, b1, b2, b3, b4, b5⟩ := h
  exact ⟨σ4, a1, a2, a3, b1, b2.kept hc hk, b3.kept hk, b4, b5.kept hI hk⟩
theorem words_T47 : True := by
  k_with "call builtin:sorted" => (guard_hyp hT47; ((k_here; k_dflt (refine' sorted_keys ?F_i ?N_i rfl hM.rows.body hM.rows.isd hM.rows.low ?l_i (fun S vss ks cS h' tk2 F' N' l1 hI' hp' ho' => ?_); (case F_i => k_asm); (case N_i => k_asm); (case l_i => (have e1 := hM.rows.klen; have e2 := hM.rows.lists.klen; have e3 := iv.rl; omega))); have hp2 : ks.Perm (ρ.map (·.1)) := (by rw [← hM.rows.lists.keys]; exact hp'); have hnd : ks.Nodup := hp2.nodup_iff.mpr hM.rows.keysNd; have hOs := (hO.apart l1).up (fun p hp => List.Mem.tail (S, W.listOf (List.toArray vss) cS) hp))))
  k_with "call type:reversed" => (guard_hyp hT47; ((k_here; k_dflt (refine' call_reversed_led ?F_u ?N_u (List.Mem.head _) (fun I9 h' F' N' l2 => ?_); (case F_u => k_asm); (case N_u => k_asm)); have hMr := hM.up (fun p hp => List.Mem.tail (I9, revObj S ((vss.length : Int) - 1)) (List.Mem.tail (S, W.listOf (List.toArray vss) cS) hp)); have hOr := hOs.up (fun p hp => List.Mem.tail (I9, revObj S ((vss.length : Int) - 1)) hp))))
  k_with "pyIter ref" => (guard_hyp hT47; ((k_here; k_dflt (refine' iter_revC ?T00_h ?G00_h ⟨?B_h, ?F_h, ?N_h, ?X_h, ?T_h, ?D_h, ?XB_h, ?TB_h⟩ rfl (List.Mem.head _) (List.Mem.tail _ (List.Mem.head _)) (l2 _ (List.Mem.head _)) (JR w c L' x y σ ρ π dx d t1 t2 nn od kvs ls rd oR kR lR pd oP kP dy d2 u1 u2 n2 ks S) ?h0_h (fun j ma na nb hJ hk => hJ.kept ((hM.c4.up (fun p hp => .tail _ hp)).lt l2) hk) ?htg_h (fun j v m₁ n₁ h₁ tk gn g₁ hk hJ hSr hTn hG C' => ?_) (fun m₁ n₁ h₁ tk gn g₁ hJ hTn hG C' => ?_); (case B_h => k_asm); (case F_h => k_asm); (case N_h => k_asm); (case X_h => k_asm); (case T_h => k_asm); (case D_h => assumption); (case XB_h => assumption); (case TB_h => assumption); (case T00_h => first | assumption | exact KtsTurn.refl); (case G00_h => first | assumption | exact GRel.refl _); (case htg_h => exact fun _ => rfl); (case h0_h => exact ⟨σ2, od2, kvs2, ls2, SameOff.eqs hj0, hMr, hOr, P12t.start hP⟩)); rotate_left; ((refine hide fun G__ k__ => ?_; obtain ⟨σ3, od3, kvs3, ls3, hj1, hM3, hO3, hP3⟩ := hJ; refine k__ ?_; clear k__ G__); rw [hj1.eqM] at C'; obtain ⟨B', F', N', X', T', D', XB', TB'⟩ := C'; (try k_lift B'); (try k_fold)); rotate_right; ((refine hide fun G__ k__ => ?_; obtain ⟨σ3, od3, kvs3, ls3, hj1, hM3, hO3, hP3⟩ := hJ; refine k__ ?_; clear k__ G__); rw [hj1.eqM] at C'; (refine hide fun G__ k__ => ?_; obtain ⟨kk, tk9, hkk, hvt⟩ := hI'.rev.get hk; refine k__ ?_; clear k__ G__); subst hvt; obtain ⟨row, hrow⟩ := look_some_key.mp (hp2.mem_iff.mp (List.mem_reverse.mp (List.mem_of_getElem? hkk))); (refine hide fun G__ k__ => ?_; obtain ⟨jj, hjj, hjl, _⟩ := iv.at1 kk row hrow; refine k__ ?_; clear k__ G__); (refine hide fun G__ k__ => ?_; obtain ⟨ax, ox, ex, mx, its, nx, rfl, hrv⟩ := hM3.rows.lists.look_some hrow; refine k__ ?_; clear k__ G__); have hmx := hM3.rows.lsin _ mx; have hlen := hM3.rows.len_at hrow hrv; (refine hide fun G__ k__ => ?_; obtain ⟨o1', hc1', hd1'⟩ := hM3.c1; refine k__ ?_; clear k__ G__); (refine hide fun G__ k__ => ?_; obtain ⟨o4', hc4', hd4'⟩ := hM3.c4; refine k__ ?_; clear k__ G__); obtain ⟨B', F', N', X', T', D', XB', TB'⟩ := C'; (try k_lift B'); (try k_fold)))))
  k_with "pyIter ref" => (guard_hyp hT47; ((k_here; k_dflt (refine' iter_listC (vs := its.drop (jj + 1)) (nn := 0) ?T00_k ?G00_k ⟨?B_k, ?F_k, ?N_k, ?X_k, ?T_k, ?D_k, ?XB_k, ?TB_k⟩ rfl (List.Mem.head _) (JI w c L' x y σ ρ π dx d t1 t2 nn od kvs ls rd oR kR lR pd oP kP dy d2 u1 u2 n2 kk tk9 row jj σ3 SL S I9 vss cS (j + 1)) ?h0_k (fun lo hlo q ma na nb hJ hk => hJ.kept ((hM3.c4.up (fun p hp => .tail _ hp)).lt hlo) (let ⟨_, z, _, _, _⟩ := hSr; hlo _ (.tail _ z)) hk) ?htg_k (fun I8 q v m₁ n₁ h₁ tk gn g₁ hk2 hJ hSt hTn hG C' => ?_) (fun m₁ n₁ h₁ tk gn g₁ hJ hTn hG C' => ?_); (case B_k => k_asm); (case F_k => k_asm); (case N_k => k_asm); (case X_k => k_asm); (case T_k => k_asm); (case D_k => assumption); (case XB_k => assumption); (case TB_k => assumption); (case T00_k => first | assumption | exact KtsTurn.refl); (case G00_k => first | assumption | exact GRel.refl _); (case htg_k => exact fun _ _ => rfl); (case h0_k => exact ⟨σ3, od3, kvs3, ls3, mOi_of (SameOff.eqs hj1), hM3.up (fun p hp => .tail _ hp), (hO3.apart l3).up (fun p hp => .tail _ hp), PIn.start hP3 (take_fresh ((List.reverse_perm ks).nodup_iff.mpr hnd) hkk) rfl, StR.up (g' := #[]) hSr (fun p hp => .tail _ hp)⟩)); rotate_left; ((refine hide fun G__ k__ => ?_; obtain ⟨σ4, od4, kvs4, ls4, hj2, hM4, hO4, hP4, hSr4⟩ := hJ; refine k__ ?_; clear k__ G__); rw [hj2.eqM] at C'; obtain ⟨B', F', N', X', T', D', XB', TB'⟩ := C'; (try k_lift B'); (try k_fold)); rotate_right; ((refine hide fun G__ k__ => ?_; obtain ⟨σ4, od4, kvs4, ls4, hj2, hM4, hO4, hP4, hSr4⟩ := hJ; refine k__ ?_; clear k__ G__); rw [hj2.eqM] at C'; (refine hide fun G__ k__ => ?_; obtain ⟨xv, hxv, hov⟩ := row_get hrv hk2; refine k__ ?_; clear k__ G__); (refine hide fun G__ k__ => ?_; obtain ⟨vv, rfl, hvv⟩ := iv.tails hrow hxv; refine k__ ?_; clear k__ G__); obtain ⟨tv, rfl⟩ := hov.some; have i3' := hO4.sets.inst; have i4' := hO4.sets.dict; obtain ⟨B', F', N', X', T', D', XB', TB'⟩ := C'; (try k_lift B'); (try k_fold)))))
  k_with "subscriptTail" => (guard_hyp hT47; ((k_here; (with_reducible show wpAny _ _ (subscriptTail (PySem.Expr.Name (PySem.Str.ofString "places") _) _ _ _) _ _ _); k_dflt (refine' item_ints ?N_m hM3.pls hjj (fun u => ?_) ?s_m; (case N_m => k_asm); (case s_m => with_unfolding_all rfl)); (try dsimp only))))
  k_with "subscriptTail" => (guard_hyp hT47; ((k_here; (with_reducible show wpAny _ _ (subscriptTail (PySem.Expr.Name (PySem.Str.ofString "rows") _) _ _ _) _ _ _); k_dflt (refine' item_val ?N_c hM3.rows.body hM3.rows.isd ex ?_ ?s_c; (case N_c => k_asm); (case s_c => with_unfolding_all rfl)); (try dsimp only))))
  k_with "subscriptTail" => (guard_hyp hT47; ((k_here; (with_reducible show wpAny _ _ (subscriptTail _ (PySem.Expr.Slice (some _) none none _) (Value.ref _) (Value.ref _)) _ _ _); k_dflt (refine' slice_row ?F_w ?N_w hmx hlen ?p_w ?q_w (fun SL h' F' N' l3 => ?_) ?h_w ?t_w; (case F_w => k_asm); (case N_w => k_asm); (case p_w => kmk_part); (case q_w => kmk_part); (case h_w => with_unfolding_all rfl); (case t_w => kmk_pure)); (try dsimp only))))
  k_with "call ref" => (guard_hyp hT47; ((k_here; (with_reducible show wpAny _ _ (call (Value.ref 271) _ _) _ _ _); k_dflt (refine' SpecX.use (c_setitem _ _ _ _ _ _ _ _ _ _ _ _ _ hO4.sets _ _ _ _ ?hk_r ?hv_r ?hft_r) ?hA_r ?B_r ?F_r ?N_r ?X_r ?T_r ?D_r ?XB_r ?TB_r ?hf_r ?hke_r ?hdp_r ?hun_r (fun v n' h' gn' tk' g' hR kT kF kN kB kX₀ kP kD kX kG => ?_) (fun e' r' n' h' gn' tk' G' g' hR kT kF kB kD kR kG => ?_); (case F_r => k_asm); (case N_r => k_asm); (case hk_r => exact codes_small _ (iv.keys _ _ hrow)); (case hv_r => exact hvv.1); (case hft_r => exact (hP4.sm (hP3.sm iv (by decide)) (iv.keys _ _ hrow) (by have e1 := iv.len _ _ hrow; rw [List.length_drop]; omega)).fit hO4.sets.dic.keysNd); (case hA_r => exact rfl); (case B_r => k_asm); (case X_r => k_asm); (case T_r => k_asm); (case D_r => assumption); (case XB_r => assumption); (case TB_r => assumption); (case hf_r => exact rfl); (case hke_r => exact rfl); (case hdp_r => k_room); (case hun_r => k_units); (all_goals (try (have kT2 := KtsTurn.trans (by assumption) kT; clear kT))); (all_goals (try (have kG2 := GRel.trans (by assumption) kG; clear kG))); skip; rotate_left; obtain ⟨hr1, hr2, hr3⟩ := hR; rotate_right; (try dsimp only); (try k_lift kB); (try k_fold)))))
  k_with "@J" => (guard_hyp hT47; (k_dflt (first | (obtain ⟨_, _, od5, kvs5, ls5, hS5, hk5, hl5⟩ := hR; obtain ⟨hO5, hM5⟩ := hO4.moved (by assumption) hM4 (mem2 hSt.mem hSr4.mem) hS5 hk5 hl5; exact ⟨⟨_, _, _, _, (by repeat (first | exact SameOff.eqs (by assumption) | exact SameOff.refl | refine SameOff.ite (by rfl) ?_)), hM5, hO5, hP4.step hxv, StR.offS (g' := #[]) (by assumption) hSr4 hO4.sets.dic (hO4.e6 _ (.tail _ (.head _))) hk5⟩, StL.offS (g' := _) (by assumption) hSt hO4.sets.dic (hO4.e6 _ (.head _)) hk5⟩) | exact ⟨⟨_, _, _, _, mOi_O (SameOff.eqs hj2), hM4, hO4.less, hP4.over hrv hP3 iv hrow hjj hkk⟩, StR.up (g' := _) hSr4 (fun p hp => hp)⟩ | exact ⟨x, y, _, _, _, _, _, _, _, _, _, _, _, _, _, _, _, _, _, _, _, _, _, _, _, _, _, _, _, SameOff.eqs hj1, hM3, hO3.less, iv, hP3.all iv (fun k row e => mem_all hI'.len (hp2.mem_iff.mpr (look_some_key.mpr ⟨row, e⟩)))⟩)))
  trivial
set_option maxRecDepth 100000 in
set_option maxHeartbeats 40000000 in
theorem c_law12 (w : World) (dp un : Nat) (gd : Option (List Code)) (outer : List Env) (base : Heap) (loose : List Str) (mean : ExcName → Option Value) (mg mb : Str → Option Value) (o : Obj) (ho : (hd.heap_39 w.params).lookup 437 = some o) (L' : Addr) (h00 : Heap) (g00 : Array GenState) (s : Shared) (Q : Flow → Shared → Prop) (E : Value → Shared → Prop) (hdp : dp + 100 < recursionLimit) (hun : un + 1000 < cLine) (hE : PassesOwn (model Challenge.rw_ix0031_01.row.prog w) (Around.deeper { handled := none, depth := dp, frames := some outer, guards := gd, units := un } (lawE o L')) (lawE o L') E) (c : Bool) (next : Go w { handled := none, depth := dp, frames := some outer, guards := gd, units := un } base outer loose mean mg mb h00 g00 L' s Q E (lawE o L') ((obS o).drop 13) (L2 w c L' P13)) : Go w { handled := none, depth := dp, frames := some outer, guards := gd, units := un } base outer loose mean mg mb h00 g00 L' s Q E (lawE o L') ((obS o).drop 12) (L2 w c L' P12) := by
  have hT47 := trivial; have g1 := trivial; have g2 := trivial; have g4 := trivial; have g5 := trivial; have g6 := trivial; have g7 := trivial; have g8 := trivial
  intro m₁ n₁ h₁ gn tk g₁ hJ hTn hGn C'
  have X := C'.X
  have kfl : Challenge.rw_ix0031_01.row = Challenge.rw_ix0031_01.row := rfl
  revert kfl X ho
  k_fill
  intro ho X kfl
  obtain rfl := lookE ho (by k_is)
  clear X ho
  dsimp only [obS, obSc, obCd, lawN, lawE, nthS, inFor, inIf, inElse, List.drop, List.take]
  obtain ⟨x, y, σ, ρ, π, σ2, dx, d, t1, t2, nn, od, kvs, ls, rd, oR, kR, lR, pd, oP, kP, dy, d2, u1, u2, n2, od2, kvs2, ls2, hj0, hM, hO, iv, hP⟩ := hJ
  have i1 := hM.sets.inst
  have i2 := hM.sets.dict
  have i3 := hO.sets.inst
  have i4 := hO.sets.dict
  rw [hj0.eqM] at C'
  obtain ⟨B', F', N', X', T', D', XB', TB'⟩ := C'; (try k_lift B'); (try k_fold)
  have hTm := hTn; have hGm := hGn
  (refine hide fun G__ k__ => ?_; obtain ⟨o1, hc1, hd1⟩ := hM.c1; refine k__ ?_; clear k__ G__)
  refine cut hTm hGm ⟨B', F', N', X', T', D', XB', TB'⟩ (L2 w c L' P13) ?_ fun m₁ n₁ h₁ gn tk g₁ hJ hTn hGn C' => next _ _ _ _ _ _ hJ hTn hGn C'
  k_steps
  exact absurd (hr1.trans hvv.2) hr2
set_option maxRecDepth 100000 in
set_option maxHeartbeats 40000000 in
theorem c_rest (w : World) (dp un : Nat) (gd : Option (List Code)) (outer : List Env) (base : Heap) (loose : List Str) (mean : ExcName → Option Value) (mg mb : Str → Option Value) (o : Obj) (ho : (hd.heap_39 w.params).lookup 437 = some o) (L' : Addr) (h00 : Heap) (g00 : Array GenState) (s : Shared) (Q : Flow → Shared → Prop) (E : Value → Shared → Prop) (hdp : dp + 100 < recursionLimit) (hun : un + 1000 < cLine) (hE : PassesOwn (model Challenge.rw_ix0031_01.row.prog w) (Around.deeper { handled := none, depth := dp, frames := some outer, guards := gd, units := un } (lawE o L')) (lawE o L') E) (c : Bool) (fine : Fine w { handled := none, depth := dp, frames := some outer, guards := gd, units := un } base outer loose mean mg mb h00 g00 L' s Q) : Go w { handled := none, depth := dp, frames := some outer, guards := gd, units := un } base outer loose mean mg mb h00 g00 L' s Q E (lawE o L') ((obS o).drop 6) (LJ5e w c L') :=
  c_law6 w dp un gd outer base loose mean mg mb o ho L' h00 g00 s Q E hdp hun c (c_law7 w dp un gd outer base loose mean mg mb o ho L' h00 g00 s Q E hdp hun c (c_law8 w dp un gd outer base loose mean mg mb o ho L' h00 g00 s Q E hdp hun c (c_law9 w dp un gd outer base loose mean mg mb o ho L' h00 g00 s Q E hdp hun hE c (fun I D vs k i dr s Q hi fin => c_turn w dp un gd outer base loose mean mg mb o ho L' h00 g00 s Q E hdp hun hE c I D vs k i dr hi fin)
    (c_law10 w dp un gd outer base loose mean mg mb o ho L' h00 g00 s Q E hdp hun c (c_law11 w dp un gd outer base loose mean mg mb o ho L' h00 g00 s Q E hdp hun hE c (c_law12 w dp un gd outer base loose mean mg mb o ho L' h00 g00 s Q E hdp hun hE c (c_law13 w dp un gd outer base loose mean mg mb o ho L' h00 g00 s Q E hdp hun c (c_law14 w dp un gd outer base loose mean mg mb o ho L' h00 g00 s Q E hdp hun c (c_law15 w dp un gd outer base loose mean mg mb o ho L' h00 g00 s Q E hdp hun c fine)))))))))
noncomputable def IG (l : Addr) (ns : List Int) (g : Heap) : Prop := ∃ vs, g.IsList l (List.toArray vs) ∧ IntsV ns vs
theorem IG.turn {l : Addr} {ns : List Int} {g g' : Heap} {fs : List Addr} (h : IG l ns g) (T : KtsTurn fs g g') (hl : l ∉ fs) : IG l ns g' := let ⟨vs, ⟨o, h1, h3⟩, h2⟩ := h; ⟨vs, ⟨o, T.other _ _ h1 hl, h3⟩, h2⟩
section
variable {w : World} {A : Around} {g h₀ : Heap} {L l : Addr} {ns : List Int} {m : Str → Option Value} {s : Shared} {big : Led} {E : Value → Shared → Prop}
theorem truthy_ig {Q : Bool → Shared → Prop} (F : Fr g L s.heap m) (H : IG l ns g) (hl : ns.length ≤ 1000) {b : Bool} (hb : decide (0 < ns.length) = b) (h : Q b { s with toks := s.toks + 1 + 1 }) : wpAny (model Challenge.rw_ix0031_01.row.prog w) A (truthy (.ref l)) Q E s := by
  subst hb
  obtain ⟨vs, ⟨o, h1, h3⟩, h2⟩ := H
  have e : (!vs.toArray.isEmpty) = decide (0 < ns.length) := by
    rw [← h2.len]
    cases vs <;> simp
  refine wpAny_truthy_list (items := vs.toArray) ⟨o, F.keep _ _ h1, h3⟩ (by rw [List.size_toArray, h2.len]; omega) ?_
  rw [e]; exact h
theorem item_ig {value slice : Expr} {k : Int} {u : Tok} {i : Int} {Q : Value → Shared → Prop} (F : Fr g L s.heap m) (H : IG l ns g) (h0 : 0 ≤ k) (hhi : k < 2 ^ 63) (hx : ns[k.toNat]? = some i) (h : ∀ t, Q (.int i t) s)
    (hs : subscripted slice false (.ref l) (.int k u) = operate [.ref l, .int k u] (getItem (.ref l) (.int k u))) :
    wpAny (model Challenge.rw_ix0031_01.row.prog w) A (subscriptTail value slice (.ref l) (.int k u)) Q E s := by
  obtain ⟨vs, ⟨o, h1, h3⟩, h2⟩ := H
  obtain ⟨t, e⟩ := h2.at hx
  have hL : s.heap.IsList l vs.toArray := ⟨o, F.keep _ _ h1, h3⟩
  exact tail_any hL.typeIs slot_list_getitem.lookup (wpAny_getItem_list hL h0 hhi (by simpa using e) (h t)) hs
theorem slice_ig {value slice : Expr} {vl vu : Value} {lo hi : Option Int} {ms : List Int} {Q : Value → Shared → Prop} (F : Fr g L s.heap m) (N : News g L s.heap big) (H : IG l ns g) (hl : ns.length ≤ 1000) (pl : IsPart vl lo) (pu : IsPart vu hi)
    (hm : ∀ vs : List Value, IntsAre vs ns → IntsAre (slicePick vs.toArray lo hi none).toList ms)
    (h : ∀ D o h', Fr g L h' m → News g L h' ((D, o) :: big) → (∀ p ∈ big, p.1 < D) → IL D ms ((D, o) :: big) → Q (.ref D) { s with heap := h' })
    (hs : subscripted slice false (.ref l) (.ref s.heap.objs.size) = operate [.ref s.heap.objs.size, .ref l] (getItem (.ref l) (.ref s.heap.objs.size))) (ht : ∀ r, letTemporaryGo value (.ref l) r = pure ()) :
    wpAny (model Challenge.rw_ix0031_01.row.prog w) A (subscriptTail value slice (.ref l) (.ref s.heap.objs.size)) Q E { s with heap := s.heap.push { cls := .type "slice", data := .fields #[vl, vu, .none] } } := by
  (refine hide fun G__ k__ => ?_; obtain ⟨⟨o, h1, h3⟩, h2⟩ := Classical.choose_spec H; refine k__ ?_; clear k__ G__)
  have hle := hm _ h2.are
  refine kmk_slice F N ⟨o, F.keep _ _ h1, h3⟩ pl pu (fun D h' F' N' l1 => ?_) hs ht (by rw [List.size_toArray, h2.len, sizeLine_eq]; omega)
  refine h D _ h' F' N' l1 ⟨_, 0, ?_, .of hle⟩
  rw [Array.toArray_toList]; exact .head _
end
noncomputable def Entry (w : World) (A : Around) (base : Heap) (outer : List Env) (loose : List Str) (mean : ExcName → Option Value) (mg mb : Str → Option Value) (f : Addr) (args : Args) (l0 : Addr) (its : Array Value) (news : Led) (s : Shared) (R : Result → Shared → Prop) (Goal : Prop) : Prop :=
  ∀ {name qual : Str} {params : Arguments} {body : List Stmt} {scope : Scope} {dV kV doc pm cdv ct oc : Value} {an od : Option Addr} {osl : Array (Option Value)} {binds : List (Str × Value)},
    (hd.heap_39 w.params).lookup f = some ⟨oc, od, .func (fnOf name qual params body scope dV kV doc pm an cdv ct), osl⟩ → codeIn (hd.heap_39 w.params) cdv qual = true →
    BindsTo s (fnOf name qual params body scope dV kV doc pm an cdv ct) args binds → (binds.all fun y => scope.names.lookup y.1 == some .local || scope.names.lookup y.1 == some .cell) = true → ((cellsFrom 0 scope.names []).map (·.1)).Nodup →
    (∀ g L' h₁ tk cells, Fr g L' h₁ (bindL (envOfC qual scope L' f cdv).kindOf binds fun _ => none) → News g L' h₁ (cells ++ news) → CellsAre (bindC (envOfC qual scope L' f cdv).kindOf binds fun _ => none) (cellsFrom (L' + 1) scope.names []) cells → (∀ p ∈ news, p.1 < L') →
      Below A base outer g → (hd.heap_39 w.params).In g → Top hd.view_39 loose mean mg mb g → KtsDicts (outer.filterMap (·.frame)) g → (hd.heap_39 w.params).In base → Top hd.view_39 loose mean mg mb base → g.IsList l0 its →
      wpAny (model Challenge.rw_ix0031_01.row.prog w) (A.deeper (envOfC qual scope L' f cdv)) (execs body (envOfC qual scope L' f cdv))
        (fun fl s' => fl = .ret (.bool true) ∧ EndC w A base outer loose mean mg mb g s.gens L' { s with heap := h₁, toks := tk } (fun _ _ _ => True) s')
        (fun e s' => wpAny (model Challenge.rw_ix0031_01.row.prog w) (A.deeper (envOfC qual scope L' f cdv)) (leaving (envOfC qual scope L' f cdv) e) (fun _ s'' => R (.error e) s'') (fun e' s'' => R (.error e') s'') s')
        { s with heap := h₁, toks := tk }) →
    scope.isCoroutine = false → scope.isGenerator = false → scope.kind = .function → Goal
inductive LJ0 (i : Int) (l0 : Addr) (n₀ : Led) (m' : Str → Option Value) (n' : Led) : Prop
  | mk : ∀ u, (m' = mStart (.int i u) (.ref l0)) → (∀ p ∈ n₀, p ∈ n') → LJ0 i l0 n₀ m' n'
inductive LJ4 (w : World) (c : Bool) (i : Int) (ns : List Int) (L l0 : Addr) (m' : Str → Option Value) (n' : Led) : Prop
  | mk : ∀ u ln rd oR kR lR, (m' = mFst .none (.ref ln) (.bool c) (.int i u) (.ref l0)) → (IL ln ns n') → (DicL w rd (defaults c) n' oR kR lR) → (CellIn (L + 1) (some (.ref rd)) n') → (CellIn (L + 1 + 1) none n') → (CellIn (L + 1 + 1 + 1) none n') → (CellIn (L + 1 + 1 + 1 + 1) none n') → LJ4 w c i ns L l0 m' n'
theorem LJ4_of {w : World} {n₁ n' : Led} {c : Bool} {i : Int} {u : Tok} {ns : List Int} {L l0 D d a1 a2 a3 a4 a5 : Addr} {oD od : Obj} {k1 k2 k3 k4 k5 : Tok}
    (hd : od.IsDictOf (intKind Challenge.rw_ix0031_01.row.prog w) [(1, .ref a1), (2, .ref a2), (4, .ref a3), (5, .ref a4), (8, .ref a5)]) (lo : (d == sysModules) = false)
    (m2 : a1 < a2 ∧ d < a2 ∧ D < a2 ∧ AllLt a2 n₁) (m3 : a2 < a3 ∧ a1 < a3 ∧ d < a3 ∧ D < a3 ∧ AllLt a3 n₁) (m4 : a3 < a4 ∧ a2 < a4 ∧ a1 < a4 ∧ d < a4 ∧ D < a4 ∧ AllLt a4 n₁) (m5 : a4 < a5 ∧ a3 < a5 ∧ a2 < a5 ∧ a1 < a5 ∧ d < a5 ∧ D < a5 ∧ AllLt a5 n₁)
    (hI : IL D ns ((D, oD) :: n₁)) (hnc : NC ((a5, W.listOf (List.toArray [.int 0 k5]) 0) :: (a4, W.listOf (List.toArray [.int 16384 k4]) 0) :: (a3, W.listOf (List.toArray [.int 65535 k3]) 0) :: (a2, W.listOf (List.toArray [.int (if c = true then 1 else 0) k2]) 0) :: (a1, W.listOf (List.toArray [.int 4096 k1]) 0) :: (d, od) :: (D, oD) :: n₁) n')
    (hcl : CellIn (L + 1) (some (.ref d)) n') (hco : ∀ c' v', c' ≠ L + 1 → CellIn c' v' ((a5, W.listOf (List.toArray [.int 0 k5]) 0) :: (a4, W.listOf (List.toArray [.int 16384 k4]) 0) :: (a3, W.listOf (List.toArray [.int 65535 k3]) 0) :: (a2, W.listOf (List.toArray [.int (if c = true then 1 else 0) k2]) 0) :: (a1, W.listOf (List.toArray [.int 4096 k1]) 0) :: (d, od) :: (D, oD) :: n₁) → CellIn c' v' n')
    (h2 : CellIn (L + 1 + 1) none n₁) (h3 : CellIn (L + 1 + 1 + 1) none n₁) (h4 : CellIn (L + 1 + 1 + 1 + 1) none n₁) : LJ4 w c i ns L l0 (mFst .none (.ref D) (.bool c) (.int i u) (.ref l0)) n' := by
  (refine hide fun G__ k__ => ?_; obtain ⟨kR, lR, H⟩ := rows_of (w := w) (c := c) (k1 := k1) (k2 := k2) (k3 := k3) (k4 := k4) (k5 := k5) (oD := oD) hd lo m2 m3 m4 m5; refine k__ ?_; clear k__ G__)
  have up : ∀ p ∈ n₁, p ∈ ((a5, W.listOf (List.toArray [.int 0 k5]) 0) :: (a4, W.listOf (List.toArray [.int 16384 k4]) 0) :: (a3, W.listOf (List.toArray [.int 65535 k3]) 0) :: (a2, W.listOf (List.toArray [.int (if c = true then 1 else 0) k2]) 0) :: (a1, W.listOf (List.toArray [.int 4096 k1]) 0) :: (d, od) :: (D, oD) :: n₁ : Led) := fun p hp => by simp [hp]
  exact ⟨u, D, d, od, kR, lR, rfl, (hI.up fun p hp => by
    rcases List.mem_cons.mp hp with rfl | hp
    · simp
    · exact up p hp).nc hnc, H.nc hnc, hcl, hco _ _ (Nat.succ_ne_self _) (h2.up up), hco _ _ (by simp only [Nat.add_assoc, ne_eq, Nat.add_right_inj]; decide) (h3.up up), hco _ _ (by simp only [Nat.add_assoc, ne_eq, Nat.add_right_inj]; decide) (h4.up up)⟩
inductive LJ5c (w : World) (c : Bool) (ns : List Int) (L ln rd : Addr) (m' : Str → Option Value) (n' : Led) : Prop
  | mk : ∀ u fd init, (SameOff off5 (mF5 (.int (ffault init) u) (.ref fd) (.ref ln) (.bool c)) m') → (LJ5a w ns L 3 (defaults c) init fd ln rd n') → LJ5c w c ns L ln rd m' n'
inductive LJ5d (w : World) (c : Bool) (ns : List Int) (L ln rd : Addr) (m' : Str → Option Value) (n' : Led) : Prop
  | mk : ∀ u fd init sv t, (SameOff off4 (mSet sv (.int (ffault init) u) (.ref fd) (.ref ln) (.bool c)) m') → (LJ5a w ns L 3 (defaults c) init fd ln rd n') → (CellIn (L + 1 + 1 + 1) (some (.int (ffault init) t)) n') → (((ffault init = 0 ∧ ∃ a, sv = .ref a) ∨ (ffault init ≠ 0 ∧ sv = .none))) → LJ5d w c ns L ln rd m' n'
inductive LJ5f (w : World) (c : Bool) (ns : List Int) (L ln rd : Addr) (m' : Str → Option Value) (n' : Led) : Prop
  | mk : ∀ fau fv fd init sv ρ, (SameOff off4 (mSet sv fau fv (.ref ln) (.bool c)) m') → (LJ5a w ns L 3 ρ init fd ln rd n') → (((fv = .none ∧ ρ = defaults c) ∨ (fv = .ref fd ∧ ffault init = 0 ∧ ρ = putAll (defaults c) init))) → LJ5f w c ns L ln rd m' n'
theorem off4_first {sv fa fi fi' nb cl : Value} {m : Str → Option Value} (h : SameOff off4 (mSet sv fa fi nb cl) m) : SameOff off4 (mSet sv fa fi' nb cl) (fun z => if z = Str.ofString "first" then some fi' else m z) := fun z hz => by
  by_cases e : z = Str.ofString "first"
  · subst e; rfl
  · simp only [if_neg e]
    rw [h z hz]
    simp only [mSet, mF5, if_neg e]
inductive LJ5b (w : World) (c : Bool) (ns : List Int) (L ln rd : Addr) (m' : Str → Option Value) (n' : Led) : Prop
  | mk : ∀ u fd init, (SameOff off5 (mF5 (.int 0 u) (.ref fd) (.ref ln) (.bool c)) m') → (LJ5a w ns L 3 (defaults c) init fd ln rd n') → LJ5b w c ns L ln rd m' n'
theorem words_T28 : True := by
  k_with "@startL" => (guard_hyp hT28; ((k_dflt (refine' enter ?k6_e ?k7_e ?k9_e ?kB_e ?kD_e ?_ ?c2_e ?c3_e ?c4_e; (case k6_e => k_is); (case k7_e => k_is); (case k9_e => first | exact BindsTo.of_eq rfl | exact binds_K (by k_in) rfl (by k_is) rfl rfl rfl); (case kB_e => exact rfl); (case kD_e => decide +kernel); (case c2_e => exact rfl); (case c3_e => exact rfl); (case c4_e => exact rfl); k_whole; intro g' L' h' tk' cells' F' N' Y' l1' B' X' T' D' XB' TB' hgl; (try dsimp only); (try k_lift B'); (try k_fold)))))
  k_with "truthy ref" => (guard_hyp hT28; ((k_here; k_dflt (refine' truthy_il ?N_m ?H_m ?l_m ?b_m ?_; (case N_m => k_asm); (case H_m => assumption); (case l_m => (simp only [List.length_cons, List.length_nil] at *; omega)); (case b_m => first | exact decide_eq_true (Nat.succ_pos _) | rfl)))))
  k_with "truthy ref" => (guard_hyp hT28; ((k_here; k_dflt (refine' truthy_ig ?N_aP ?H_aP ?l_aP ?b_aP ?_; (case N_aP => k_asm); (case H_aP => assumption); (case l_aP => (simp only [List.length_cons, List.length_nil] at *; omega)); (case b_aP => first | exact decide_eq_true (Nat.succ_pos _) | rfl)))))
  k_with "subscriptTail" => (guard_hyp hT28; ((k_here; (with_reducible show wpAny _ _ (subscriptTail _ _ (Value.ref _) (Value.int _ _)) _ _ _); k_dflt (refine' item_il ?N_w ?H_w ?a_w ?b_w ?x_w (fun t => ?_) ?h_w; (case N_w => k_asm); (case H_w => assumption); (case a_w => decide); (case b_w => decide); (case x_w => rfl); (case h_w => with_unfolding_all rfl)))))
  k_with "subscriptTail" => (guard_hyp hT28; ((k_here; (with_reducible show wpAny _ _ (subscriptTail _ _ (Value.ref _) (Value.int _ _)) _ _ _); k_dflt (refine' item_ig ?N_aB ?H_aB ?a_aB ?b_aB ?x_aB (fun t => ?_) ?h_aB; (case N_aB => k_asm); (case H_aB => assumption); (case a_aB => decide); (case b_aB => decide); (case x_aB => rfl); (case h_aB => with_unfolding_all rfl)))))
  k_with "subscriptTail Name Slice ref ref" => (guard_hyp hT28; ((k_here; (with_reducible show wpAny _ _ (subscriptTail _ (PySem.Expr.Slice _ _ none _) (Value.ref _) (Value.ref _)) _ _ _); k_dflt (refine' slice_il ?F_c ?N_c ?H_c ?l_c ?p_c ?q_c ?m_c (fun D o h' F' N' l1 hI => ?_) ?h_c ?t_c; (case F_c => k_asm); (case N_c => k_asm); (case H_c => first | assumption | exact IL.up (by assumption) (by intro p hp; repeat' (first | exact hp | refine List.Mem.tail _ ?_))); (case l_c => omega); (case p_c => kmk_part); (case q_c => kmk_part); (case m_c => first | exact fun vs hi => kmk_from hi (by decide) | exact fun vs hi => kmk_upto hi (by decide)); (case h_c => with_unfolding_all rfl); (case t_c => kmk_pure); (try k_lt l1)))))
  k_with "subscriptTail Name Slice ref ref" => (guard_hyp hT28; ((k_here; (with_reducible show wpAny _ _ (subscriptTail _ (PySem.Expr.Slice _ _ none _) (Value.ref _) (Value.ref _)) _ _ _); k_dflt (refine' slice_ig ?F_am ?N_am ?H_am ?l_am ?p_am ?q_am ?m_am (fun D o h' F' N' l1 hI => ?_) ?h_am ?t_am; (case F_am => k_asm); (case N_am => k_asm); (case H_am => assumption); (case l_am => omega); (case p_am => kmk_part); (case q_am => kmk_part); (case m_am => first | exact fun vs hi => kmk_from hi (by decide) | exact fun vs hi => kmk_upto hi (by decide)); (case h_am => with_unfolding_all rfl); (case t_am => kmk_pure); (try k_lt l1)))))
  k_with "storeName" => (guard_hyp hT28; ((k_here; (with_reducible show wpAny _ _ (storeName _ (PySem.Str.ofString "rows") _) _ _ _); k_dflt (refine' store_cell ?F_k ?N_k ?c_k ?H_k ?k_k ?x_k (fun h' n' F' N' hnc hcl hco => ?_); (case x_k => rfl); (case F_k => k_asm); (case N_k => k_asm); (case c_k => rfl); (case k_k => rfl); (case H_k => first | assumption | exact CellIn.up (by assumption) (by intro p hp; repeat' (first | exact hp | refine List.Mem.tail _ ?_)))))))
  k_with "eval IfExp" => (guard_hyp hT28; ((k_here; (with_reducible show wpAny _ _ (eval (Expr.IfExp (Expr.Name _ _) (Expr.Constant _ _ _) (Expr.Constant _ _ _) _) _) _ _ _); k_dflt (refine' EvV.use (EvV.ife ?F_r ?v_r ?k_r ?l_r ?d_r EvV.int EvV.int) (fun u t' => ?_); (case l_r => rfl); (case F_r => k_asm); (case v_r => rfl); (case k_r => rfl); (case d_r => decide)))))
  k_with "eval Dict nil nil" => (guard_hyp hT28; ((k_here; k_dflt (refine' newDict_K ?k1_o ?k2_o ?b_o (fun d' h' o' F' N' l1 lo' hs' fs' hi' fi' => ?_); (case k1_o => k_asm); (case k2_o => k_asm); (case b_o => exact Top.nolimit (by k_asm))))))
  k_with "exec For Name Subscript cons nil" => (guard_hyp hT28; ((k_here; k_dflt (refine' For_cx ?_))))
  k_with "pyIter ref" => (guard_hyp hT28; ((k_here; k_dflt (obtain ⟨vs3, cc3, hl3, hv3⟩ := hI; refine' iter_listC ?T00_aa ?G00_aa ⟨?B_aa, ?F_aa, ?N_aa, ?X_aa, ?T_aa, ?D_aa, ?XB_aa, ?TB_aa⟩ rfl hl3 (fun i m₁ n₁ => SameOff off5 (mF5 (.int 0 208) (.ref d') (.ref ln) (.bool c)) m₁ ∧ ∃ init, LJ5a w (ns0.drop (Int.toNat 1)) L' i (defaults c) init d' ln rd n₁) ?h0_aa (fun lo hlo i ma na nb hJ hk => ⟨hJ.1, let ⟨init, hH⟩ := hJ.2; ⟨init, hH.kept (CellIn.lt (CellIn.up hc4 (fun p hp => by repeat' (first | exact hp | refine List.Mem.tail _ ?_))) hlo) hk⟩⟩) ?htg_aa (fun I i v m₁ n₁ h₁ tk gn g₁ hk hJ hSt hTn hG C' => ?_) (fun m₁ n₁ h₁ tk gn g₁ hJ hTn hG C' => ?_); (case B_aa => k_asm); (case F_aa => k_asm); (case N_aa => k_asm); (case X_aa => k_asm); (case T_aa => k_asm); (case D_aa => assumption); (case XB_aa => assumption); (case TB_aa => assumption); (case T00_aa => first | assumption | exact KtsTurn.refl); (case G00_aa => first | assumption | exact GRel.refl _); (case htg_aa => exact fun _ _ => rfl); (case h0_aa => exact ⟨off5_start, _, LJ5a.start hI0 HR hc1 hc2 hc3 hc4 (by k_mem) hi' lo' (by assumption) (fun p hp => by repeat' (first | exact hp | refine List.Mem.tail _ ?_))⟩)); rotate_left; (obtain ⟨hj1, init, hH⟩ := hJ; rw [hj1.eqM] at C'; obtain ⟨B', F', N', X', T', D', XB', TB'⟩ := C'; (try k_lift B'); (try k_fold)); rotate_right; (obtain ⟨hj1, init, hH⟩ := hJ; rw [hj1.eqM] at C'; (refine hide fun G__ k__ => ?_; obtain ⟨dr, tdr, hdr, hvt⟩ := hv3.get hk; refine k__ ?_; clear k__ G__); subst hvt; have hi3 : i < 3 := Nat.lt_of_lt_of_le (List.getElem?_eq_some_iff.mp hk).1 (by rw [hv3.len, List.length_take]; exact Nat.min_le_left _ _); obtain ⟨B', F', N', X', T', D', XB', TB'⟩ := C'; (try k_lift B'); (try k_fold)))))
  k_with "call ref" => (guard_hyp hT28; ((k_here; (with_reducible show wpAny _ _ (call (Value.ref 357) _ _) _ _ _); k_dflt (refine' Spec.use (c_codes _ _) ?hA_q ?B_q ?F_q ?N_q ?X_q ?T_q ?D_q ?XB_q ?TB_q ?hf_q ?hke_q ?hdp_q ?hun_q (fun v n' h' gn' tk' g' hR kT kF kN kB kX₀ kP kD kX kG => ?_); (case F_q => k_asm); (case N_q => k_asm); skip; (case hA_q => exact rfl); (case B_q => k_asm); (case X_q => k_asm); (case T_q => k_asm); (case D_q => assumption); (case XB_q => assumption); (case TB_q => assumption); (case hf_q => exact rfl); (case hke_q => exact rfl); (case hdp_q => k_room); (case hun_q => k_units); (all_goals (try (have kT2 := KtsTurn.trans (by assumption) kT; clear kT))); (all_goals (try (have kG2 := GRel.trans (by assumption) kG; clear kG))); obtain ⟨l, vs, nn, he, hl, hv, hs, hlt⟩ := hR; subst he; replace hH := LJ5a.up hH hs; replace hSt := StL.up (g' := gn) hSt hs; (try dsimp only); (try k_lift kB); (try k_fold)))))
  k_with "call ref" => (guard_hyp hT28; ((k_here; (with_reducible show wpAny _ _ (call (Value.ref 364) _ _) _ _ _); k_dflt (refine' Spec.use (c_values _ _) ?hA_p ?B_p ?F_p ?N_p ?X_p ?T_p ?D_p ?XB_p ?TB_p ?hf_p ?hke_p ?hdp_p ?hun_p (fun v n' h' gn' tk' g' hR kT kF kN kB kX₀ kP kD kX kG => ?_); (case F_p => k_asm); (case N_p => k_asm); skip; (case hA_p => exact rfl); (case B_p => k_asm); (case X_p => k_asm); (case T_p => k_asm); (case D_p => assumption); (case XB_p => assumption); (case TB_p => assumption); (case hf_p => exact rfl); (case hke_p => exact rfl); (case hdp_p => k_room); (case hun_p => k_units); (all_goals (try (have kT2 := KtsTurn.trans (by assumption) kT; clear kT))); (all_goals (try (have kG2 := GRel.trans (by assumption) kG; clear kG))); obtain ⟨lv, vsv, nnv, he, hlv, hvv, hsv, hltv⟩ := hR; subst he; replace hH := LJ5a.up hH (fun p hp => hsv p (.tail _ hp)); replace hSt := StL.up (g' := gn) hSt (fun p hp => hsv p (.tail _ hp)); (try dsimp only); (try k_lift kB); (try k_fold)))))
  k_with "subscriptTail" => (guard_hyp hT28; ((k_here; (with_reducible show wpAny _ _ (subscriptTail _ _ (Value.ref _) (Value.int (Int.fmod _ _) _)) _ _ _); (refine hide fun G__ k__ => ?_; obtain ⟨kk, hkk1, hkk2, hkk3, hkk4⟩ := at_mod (l := codes) (n := 10) rfl (by decide) dr; refine k__ ?_; clear k__ G__); obtain ⟨tk2, hkk5⟩ := hv.at hkk1; k_dflt (refine' item_led ?N_aw hl hkk3 ?b_aw hkk5 ?_ ?s_aw; (case N_aw => k_asm); (case b_aw => omega); (case s_aw => with_unfolding_all rfl)))))
  k_with "subscriptTail" => (guard_hyp hT28; ((k_here; (with_reducible show wpAny _ _ (subscriptTail _ _ (Value.ref _) (Value.int (Int.fmod _ _) _)) _ _ _); (refine hide fun G__ k__ => ?_; obtain ⟨vv, hvv1, hvv2, hvv3, hvv4⟩ := at_mod (l := values) (n := 14) rfl (by decide) (dr.fdiv 10); refine k__ ?_; clear k__ G__); obtain ⟨tk3, hvv5⟩ := hvv.at hvv1; k_dflt (refine' item_led ?N_aA hlv hvv3 ?b_aA hvv5 ?_ ?s_aA; (case N_aA => k_asm); (case b_aA => omega); (case s_aA => with_unfolding_all rfl)))))
  k_with "storeName" => (guard_hyp hT28; ((k_here; (with_reducible show wpAny _ _ (storeName _ (PySem.Str.ofString "code") _) _ _ _); obtain ⟨v2', hcc⟩ := hH.c2; k_dflt (refine' store_cell ?F_aI ?N_aI ?c_aI hcc ?k_aI ?x_aI (fun h' n' F' N' hnc hcl hco => ?_); (case x_aI => rfl); (case F_aI => k_asm); (case N_aI => k_asm); (case c_aI => rfl); (case k_aI => rfl)); replace hH := LJ5a.code hH hnc hcl hco; (try replace hSt := StL.nc (g' := gn) hSt hnc); (try (replace hSk := StK.nc (g' := gn) hSk hFd.isd hnc; replace hFd := hFd.nc hnc)); obtain ⟨oc, hcm, hcd⟩ := hcl; (try obtain ⟨orw, hrwm, hrwd⟩ := hH.c1))))
  k_with "call ref" => (guard_hyp hT28; ((k_here; (with_reducible show wpAny _ _ (call (Value.ref 406) _ _) _ _ _); k_dflt (refine' SpecR.use (c_fits _ _ _ _ _ _ _ ?HR_J _ _ _ _ ?hv_J) ?hA_J ?B_J ?F_J ?N_J ?X_J ?T_J ?D_J ?XB_J ?TB_J ?hf_J ?hke_J ?hdp_J ?hun_J (fun v h' gn' tk' g' hR kT kF kN kB kX₀ kP kD kX kG => ?_); (case F_J => k_asm); (case N_J => k_asm); (case HR_J => exact DicL.empty (hsv _ (.head _)) hi' lo'); (case hv_J => exact values_small _ hvv2); (case hA_J => exact rfl); (case B_J => k_asm); (case X_J => k_asm); (case T_J => k_asm); (case D_J => assumption); (case XB_J => assumption); (case TB_J => assumption); (case hf_J => exact rfl); (case hke_J => exact rfl); (case hdp_J => k_room); (case hun_J => k_units); (all_goals (try (have kT2 := KtsTurn.trans (by assumption) kT; clear kT))); (all_goals (try (have kG2 := GRel.trans (by assumption) kG; clear kG))); obtain ⟨iv, tv, he, hiv⟩ := hR; subst he; have hcm2 := hsv _ (.tail _ hcm); (try dsimp only); (try k_lift kB); (try k_fold)))))
  k_with "setItem ref int int" => (guard_hyp hT28; ((k_here; (refine hide fun G__ k__ => ?_; obtain ⟨oFD, kFD, hFD⟩ := hH.first; refine k__ ?_; clear k__ G__); rename News _ _ _ _ => hNo; k_dflt (refine' store_int ?F_a8 hNo hFD ?len_a8 (fun h' n' od' kvs' F' N' hD' hk' => ?_); (case F_a8 => k_asm); (case len_a8 => (have hlz := hH.len; omega))); have hH2 := LJ5a.put hNo hH hkk2 hiv hD' hk'; have hSt2 := StL.put (g' := gn) hSt hNo hFD.body hFD.isd hk')))
  k_with "exec For Name Name cons nil" => (guard_hyp hT28; ((k_here; k_dflt (refine' For_cx ?_))))
  k_with "pyIter ref" => (guard_hyp hT28; ((k_here; k_dflt (refine' iter_keysC ?T00_ab ?G00_ab ⟨?B_ab, ?F_ab, ?N_ab, ?X_ab, ?T_ab, ?D_ab, ?XB_ab, ?TB_ab⟩ rfl hFd0.body hFd0.isd hFd0.low (fun i m₁ n₁ => (∃ u, SameOff off5 (mF5 (.int (ffault (init.take i)) u) (.ref fd) (.ref ln) (.bool c)) m₁) ∧ DicI w fd init n₁ oF kF ∧ LJ5a w (ns0.drop (Int.toNat 1)) L' 3 (defaults c) init fd ln rd n₁) ?h0_ab (fun lo hlo i ma na nb hJ hk => ⟨hJ.1, hJ.2.1.kept hk, hJ.2.2.kept (CellIn.lt hH0.c4 hlo) hk⟩) ?htg_ab (fun I ep i k y t m₁ n₁ h₁ tk gn g₁ hk hJ hSk hTn hG C' => ?_) (fun m₁ n₁ h₁ tk gn g₁ hJ hTn hG C' => ?_); (case B_ab => k_asm); (case F_ab => k_asm); (case N_ab => k_asm); (case X_ab => k_asm); (case T_ab => k_asm); (case D_ab => assumption); (case XB_ab => assumption); (case TB_ab => assumption); (case T00_ab => first | assumption | exact KtsTurn.refl); (case G00_ab => first | assumption | exact GRel.refl _); (case htg_ab => exact fun _ _ => rfl); (case h0_ab => exact ⟨⟨_, SameOff.eqs hj0⟩, hFd0, hH0⟩)); rotate_left; (obtain ⟨⟨uf, hj1⟩, hFd, hH⟩ := hJ; rw [hFd0.nums.len', List.take_length] at hj1; rw [hj1.eqM] at C'; obtain ⟨B', F', N', X', T', D', XB', TB'⟩ := C'; (try k_lift B'); (try k_fold)); rotate_right; (obtain ⟨⟨uf, hj1⟩, hFd, hH⟩ := hJ; rw [hj1.eqM] at C'; (refine hide fun G__ k__ => ?_; obtain ⟨pp, tp, hpp, hee⟩ := hFd0.nums.get hk; refine k__ ?_; clear k__ G__); subst hee; have hlk := look_get hFd0.keysNd hpp; obtain ⟨B', F', N', X', T', D', XB', TB'⟩ := C'; (try k_lift B'); (try k_fold)))))
  k_with "subscriptTail" => (guard_hyp hT28; ((k_here; k_dflt (refine' item_ints ?N_a9 hFd hlk (fun u => ?_) ?s_a9; (case N_a9 => k_asm); (case s_a9 => with_unfolding_all rfl)))))
  k_with "call ref" => (guard_hyp hT28; ((k_here; (with_reducible show wpAny _ _ (call (Value.ref 378) _ _) _ _ _); k_dflt (refine' Spec.use (c_lawnew _ _ _ _ init _ _ ?H_F ?hb_F ?hl_F) ?hA_F ?B_F ?F_F ?N_F ?X_F ?T_F ?D_F ?XB_F ?TB_F ?hf_F ?hke_F ?hdp_F ?hun_F (fun v n' h' gn' tk' g' hR kT kF kN kB kX₀ kP kD kX kG => ?_); (case F_F => k_asm); (case N_F => k_asm); (case H_F => exact hFd0); (case hb_F => exact hH.small); (case hl_F => exact Nat.le_trans hH.len (by decide)); (case hA_F => exact rfl); (case B_F => k_asm); (case X_F => k_asm); (case T_F => k_asm); (case D_F => assumption); (case XB_F => assumption); (case TB_F => assumption); (case hf_F => exact rfl); (case hke_F => exact rfl); (case hdp_F => k_room); (case hun_F => k_units); (all_goals (try (have kT2 := KtsTurn.trans (by assumption) kT; clear kT))); (all_goals (try (have kG2 := GRel.trans (by assumption) kG; clear kG))); (refine hide fun G__ k__ => ?_; obtain ⟨tp, sv, tq, he, htp, hsub, hcase⟩ := hR.out; refine k__ ?_; clear k__ G__); subst he; replace hH := LJ5a.up hH hsub; (try dsimp only); (try k_lift kB); (try k_fold)))))
  k_with "storeName" => (guard_hyp hT28; ((k_here; (with_reducible show wpAny _ _ (storeName _ (PySem.Str.ofString "told") _) _ _ _); obtain ⟨v2', hcc⟩ := hH.c3; k_dflt (refine' store_cell ?F_aJ ?N_aJ ?c_aJ hcc ?k_aJ ?x_aJ (fun h' n' F' N' hnc hcl hco => ?_); (case x_aJ => rfl); (case F_aJ => k_asm); (case N_aJ => k_asm); (case c_aJ => rfl); (case k_aJ => rfl)); replace hH := LJ5a.told hH hnc hcl hco; have hct := hcl; obtain ⟨oc, hcm, hcd⟩ := hcl)))
  k_with "pyIter ref" => (guard_hyp hT28; ((k_here; k_dflt (refine' iter_keysC ?T00_ac ?G00_ac ⟨?B_ac, ?F_ac, ?N_ac, ?X_ac, ?T_ac, ?D_ac, ?XB_ac, ?TB_ac⟩ rfl hFd0.body hFd0.isd hFd0.low (fun i m₁ n₁ => SameOff off4 (mSet (.ref a) (.int (ffault init) uf1) (.ref fd) (.ref ln) (.bool c)) m₁ ∧ DicI w fd init n₁ oF kF ∧ LJ5a w (ns0.drop (Int.toNat 1)) L' 3 (putAll (defaults c) (init.take i)) init fd ln rd n₁) ?h0_ac (fun lo hlo i ma na nb hJ hk => ⟨hJ.1, hJ.2.1.kept hk, hJ.2.2.kept (CellIn.lt hH0.c4 hlo) hk⟩) ?htg_ac (fun I ep i k y t m₁ n₁ h₁ tk gn g₁ hk hJ hSk hTn hG C' => ?_) (fun m₁ n₁ h₁ tk gn g₁ hJ hTn hG C' => ?_); (case B_ac => k_asm); (case F_ac => k_asm); (case N_ac => k_asm); (case X_ac => k_asm); (case T_ac => k_asm); (case D_ac => assumption); (case XB_ac => assumption); (case TB_ac => assumption); (case T00_ac => first | assumption | exact KtsTurn.refl); (case G00_ac => first | assumption | exact GRel.refl _); (case htg_ac => exact fun _ _ => rfl); (case h0_ac => exact ⟨SameOff.eqs hj0, hFd0, hH0⟩)); rotate_left; (obtain ⟨hj1, hFd, hH⟩ := hJ; rw [hFd0.nums.len', List.take_length] at hH; rw [hj1.eqM] at C'; obtain ⟨B', F', N', X', T', D', XB', TB'⟩ := C'; (try k_lift B'); (try k_fold)); rotate_right; (obtain ⟨hj1, hFd, hH⟩ := hJ; rw [hj1.eqM] at C'; (refine hide fun G__ k__ => ?_; obtain ⟨pp, tp, hpp, hee⟩ := hFd0.nums.get hk; refine k__ ?_; clear k__ G__); subst hee; have hlk := look_get hFd0.keysNd hpp; obtain ⟨B', F', N', X', T', D', XB', TB'⟩ := C'; (try k_lift B'); (try k_fold)))))
  k_with "setItem ref int ref" => (guard_hyp hT28; ((k_here; (refine hide fun G__ k__ => ?_; obtain ⟨oRD, kRD, lRD, hRD⟩ := hH.rows; refine k__ ?_; clear k__ G__); have hHu := LJ5a.up hH (fun p hp => List.Mem.tail (l', W.listOf (List.toArray [Value.int pp u]) 0) hp); have hRu := hRD.mono (fun p hp => List.Mem.tail (l', W.listOf (List.toArray [Value.int pp u]) 0) hp); rename News _ _ _ _ => hNo; k_dflt (refine' store_rowD ?F_aC hNo hRu ?hm_aC ?hr_aC ?hne_aC ?hna_aC ?hfit_aC (fun h' n' od' kvs' ls' F' N' hD' hk' hls' => ?_); (case F_aC => k_asm); (case hm_aC => exact .head _); (case hr_aC => exact .cons .int .nil); (case hne_aC => exact List.cons_ne_nil _ _); (case hna_aC => exact fresh_row hRD (by assumption)); (case hfit_aC => (rw [← putAll_snoc, ← take_snoc hpp]; exact putAll_fit (Nat.le_trans (Nat.le_trans (by rw [List.length_take]; exact Nat.min_le_right _ _) hH.len) (by decide))))); rw [← putAll_snoc, ← take_snoc hpp] at hD'; have hH2 := LJ5a.rowput hNo hHu hRu hD' hk'; have hSk2 := StK.put (g' := gn) (StK.up (g' := gn) hSk (fun p hp => List.Mem.tail _ hp)) hNo hRu.body hRu.isd hH.sep hk'; have hFd2 := DicI.put (hFd.mono (fun p hp => List.Mem.tail _ hp)) hH.sep hk')))
  k_with "call ref" => (guard_hyp hT28; ((k_here; (with_reducible show wpAny _ _ (call (Value.ref 338) _ _) _ _ _); k_dflt (refine' Spec.use (c_new0 _ _ _) ?hA_X ?B_X ?F_X ?N_X ?X_X ?T_X ?D_X ?XB_X ?TB_X ?hf_X ?hke_X ?hdp_X ?hun_X (fun v n' h' gn' tk' g' hR kT kF kN kB kX₀ kP kD kX kG => ?_); (case F_X => k_asm); (case N_X => k_asm); skip; (case hA_X => exact rfl); (case B_X => k_asm); (case X_X => k_asm); (case T_X => k_asm); (case D_X => assumption); (case XB_X => assumption); (case TB_X => assumption); (case hf_X => exact rfl); (case hke_X => exact rfl); (case hdp_X => k_room); (case hun_X => k_units); (all_goals (try (have kT2 := KtsTurn.trans (by assumption) kT; clear kT))); (all_goals (try (have kG2 := GRel.trans (by assumption) kG; clear kG))); skip; (try dsimp only); (try k_lift kB); (try k_fold)))))
  k_with "@J" => (guard_hyp hT28; (k_dflt (first | exact ⟨_, rfl, fun p hp => hp⟩ | exact ⟨_, _, _, _, _, off7_num (off7_of (SameOff.eqs hj0)), LJ5.of_a hH hcase2 hI hln (fun p hp => by repeat' (first | exact hp | refine List.Mem.tail _ ?_))⟩ | exact ⟨_, _, _, _, _, off7_start, ⟨hI0, hlen, ⟨_, _, _, HR⟩, .inl ⟨rfl, rfl⟩, hc1, ⟨_, hc2⟩, ⟨_, hc3⟩, hc4⟩⟩ | exact ⟨⟨(by repeat (first | exact SameOff.eqs (by assumption) | exact SameOff.refl | refine SameOff.ite (by rfl) ?_)), hFd2, hH2⟩, StK.up hSk2 (fun p hp => hp)⟩ | exact ⟨_, _, _, _, _, _, SameOff.eqs hj1, hH, .inr ⟨rfl, hz, rfl⟩⟩ | exact ⟨_, _, _, _, _, _, off4_first (SameOff.eqs hj0), hH0, .inl ⟨rfl, rfl⟩⟩ | exact ⟨_, _, _, _, _, SameOff.eqs hj0, hH, hct, hcase⟩ | exact ⟨_, _, _, _, _, off5_set (SameOff.eqs hj0), hH, hct, hcase⟩ | (have hfe := (ffault_step hpp).trans ((if_pos (by assumption)).trans hfr.symm); exact ⟨⟨⟨_, (by rw [hfe]; exact off5_fault (SameOff.eqs hj1))⟩, hFd, hH⟩, StK.up hSk (fun p hp => hp)⟩) | (have hfe := (ffault_step hpp).trans (if_neg (by assumption)); exact ⟨⟨⟨_, (by rw [hfe]; exact SameOff.eqs hj1)⟩, hFd, hH⟩, StK.up hSk (fun p hp => hp)⟩) | exact ⟨_, _, _, SameOff.eqs hj1, hH⟩ | exact LJ4_of (by assumption) (by assumption) (by assumption) (by assumption) (by assumption) (by assumption) (by assumption) hnc hcl hco hc2 hc3 hc4 | exact ⟨⟨(by repeat (first | exact SameOff.eqs (by assumption) | exact SameOff.refl | refine SameOff.ite (by rfl) ?_)), _, hH2⟩, StL.up hSt2 (fun p hp => hp)⟩ | exact ⟨_, _, _, SameOff.eqs hj1, hH.le (by rw [hv3.len, List.length_take]; exact Nat.min_le_left _ _)⟩)))
  trivial
set_option maxRecDepth 100000 in
set_option maxHeartbeats 40000000 in
theorem c_law (w : World) (dp un : Nat) (gd : Option (List Code)) (outer : List Env) (base : Heap) (loose : List Str) (mean : ExcName → Option Value) (mg mb : Str → Option Value) (news : Led) (s : Shared) (R : Result → Shared → Prop) (Goal : Prop)
    (l0 : Addr) (vs0 : List Value) (ns0 : List Int) (hlo : l0 ∉ outer.filterMap (·.frame)) (hi0 : IntsV ns0 vs0) (hn0 : ns0.length ≤ 63) (X : (hd.heap_39 w.params).In s.heap) (hdp : dp + 100 < recursionLimit) (hun : un + 1000 < cLine)
    (enter : Entry w { handled := none, depth := dp, frames := some outer, guards := gd, units := un } base outer loose mean mg mb 437 ⟨[.ref l0], []⟩ l0 vs0.toArray news s R Goal) : Goal := by
  have hT28 := trivial; have g1 := trivial; have g2 := trivial; have g4 := trivial; have g5 := trivial; have g6 := trivial; have g7 := trivial; have g8 := trivial
  revert X
  have kfl : Challenge.rw_ix0031_01.row = Challenge.rw_ix0031_01.row := rfl
  revert kfl
  k_fill
  intro kfl X
  k_extra "@startL"
  obtain ⟨o1, o2, o3, o4, hE, d1, d2, d3, d4⟩ := CellsAre.four Y'
  subst hE
  clear Y'
  replace d1 : o1.data = .cell none := d1
  replace d2 : o2.data = .cell none := d2
  replace d3 : o3.data = .cell none := d3
  replace d4 : o4.data = .cell none := d4
  replace F' : Fr g' L' h' (fun y => if y = Str.ofString "script" then some (Value.ref l0) else none) := F'
  simp only [List.cons_append, List.nil_append] at N'
  have hIG : IG l0 ns0 g' := ⟨_, hgl, hi0⟩
  have w1 : (L' + 1 + 1 + 1 + 1, o1) ∈ ((L' + 1 + 1 + 1 + 1, o1) :: (L' + 1 + 1 + 1, o2) :: (L' + 1 + 1, o3) :: (L' + 1, o4) :: news) := .head _
  have w2 : (L' + 1 + 1 + 1, o2) ∈ ((L' + 1 + 1 + 1 + 1, o1) :: (L' + 1 + 1 + 1, o2) :: (L' + 1 + 1, o3) :: (L' + 1, o4) :: news) := .tail _ (.head _)
  have w3 : (L' + 1 + 1, o3) ∈ ((L' + 1 + 1 + 1 + 1, o1) :: (L' + 1 + 1 + 1, o2) :: (L' + 1 + 1, o3) :: (L' + 1, o4) :: news) := .tail _ (.tail _ (.head _))
  have w4 : (L' + 1, o4) ∈ ((L' + 1 + 1 + 1 + 1, o1) :: (L' + 1 + 1 + 1, o2) :: (L' + 1 + 1, o3) :: (L' + 1, o4) :: news) := .tail _ (.tail _ (.tail _ (.head _)))
  generalize ((L' + 1 + 1 + 1 + 1, o1) :: (L' + 1 + 1 + 1, o2) :: (L' + 1 + 1, o3) :: (L' + 1, o4) :: news) = n₀ at N' w1 w2 w3 w4
  refine outQ fun QQ hQQ => ?_
  refine cut KtsTurn.refl (GRel.refl _) ⟨B', F', N', X', T', D', XB', TB'⟩ (LJ0 (ns0.headD 0) l0 n₀) ?_ fun m₁ n₁ h₁ gn tk g₁ hJ hTn hGn C' => ?_
  · cases ns0 with
    | nil => k_steps
    | cons i0 nsr => k_steps
  obtain ⟨u0, rfl, hb1⟩ := hJ
  have hIG1 := hIG.turn hTn hlo
  have hc1 : CellIn (L' + 1) none n₁ := ⟨o4, hb1 _ w4, d4⟩
  have hc2 : CellIn (L' + 1 + 1) none n₁ := ⟨o3, hb1 _ w3, d3⟩
  have hc3 : CellIn (L' + 1 + 1 + 1) none n₁ := ⟨o2, hb1 _ w2, d2⟩
  have hc4 : CellIn (L' + 1 + 1 + 1 + 1) none n₁ := ⟨o1, hb1 _ w1, d1⟩
  obtain ⟨B', F', N', X', T', D', XB', TB'⟩ := C'; (try k_lift B'); (try k_fold)
  have hTm := hTn; have hGm := hGn
  clear hIG w1 w2 w3 w4 d1 d2 d3 d4 hb1
  refine cutN [_, _, _, _] hTm hGm ⟨B', F', N', X', T', D', XB', TB'⟩ (LJ4 w (cmpI .Eq ((ns0.headD 0).fmod 2) 0) (ns0.headD 0) (ns0.drop (Int.toNat 1)) L' l0) ?_ fun m₁ n₁ h₁ gn tk g₁ hJ hTn hGn C' => ?_
  · k_steps
  generalize cmpI .Eq ((ns0.headD 0).fmod 2) 0 = c at hJ
  obtain ⟨u1, ln, rd, oR, kR, lR, rfl, hI0, HR, hc1, hc2, hc3, hc4⟩ := hJ
  obtain ⟨B', F', N', X', T', D', XB', TB'⟩ := C'; (try k_lift B'); (try k_fold)
  have hTm := hTn; have hGm := hGn
  have hlen : (ns0.drop (Int.toNat 1)).length ≤ 63 := Nat.le_trans (by rw [List.length_drop]; exact Nat.sub_le _ _) hn0
  refine cut hTm hGm ⟨B', F', N', X', T', D', XB', TB'⟩ (LJ5e w c L') ?_ fun m₁ n₁ h₁ gn tk g₁ hJ hTn hGn C' => ?_
  · refine wpAny_If ?_
    walk1
    split
    · refine cutN [_, _, _] hTm hGm ⟨B', F', N', X', T', D', XB', TB'⟩ (LJ5b w c (ns0.drop (Int.toNat 1)) L' ln rd) ?_ fun m₁ n₁ h₁ gn tk g₁ hJ hTn hGn C' => ?_
      · have hI := hI0
        k_steps
      · obtain ⟨uf0, fd, init, hj0, hH0⟩ := hJ
        (refine hide fun G__ k__ => ?_; obtain ⟨oF, kF, hFd0⟩ := hH0.first; refine k__ ?_; clear k__ G__)
        rw [hj0.eqM] at C'
        obtain ⟨B', F', N', X', T', D', XB', TB'⟩ := C'; (try k_lift B'); (try k_fold)
        have hTm := hTn; have hGm := hGn
        refine cut hTm hGm ⟨B', F', N', X', T', D', XB', TB'⟩ (LJ5c w c (ns0.drop (Int.toNat 1)) L' ln rd) ?_ fun m₁ n₁ h₁ gn tk g₁ hJ hTn hGn C' => ?_
        · k_steps
        · obtain ⟨uf1, fd, init, hj0, hH⟩ := hJ
          (refine hide fun G__ k__ => ?_; obtain ⟨oF, kF, hFd0⟩ := hH.first; refine k__ ?_; clear k__ G__)
          rw [hj0.eqM] at C'
          obtain ⟨B', F', N', X', T', D', XB', TB'⟩ := C'; (try k_lift B'); (try k_fold)
          have hTm := hTn; have hGm := hGn
          refine cut hTm hGm ⟨B', F', N', X', T', D', XB', TB'⟩ (LJ5d w c (ns0.drop (Int.toNat 1)) L' ln rd) ?_ fun m₁ n₁ h₁ gn tk g₁ hJ hTn hGn C' => ?_
          · k_steps
          · obtain ⟨uf1, fd, init, sv, tq, hj0, hH, hct0, hcase⟩ := hJ
            obtain ⟨oc, hcm, hcd⟩ := hct0
            rw [hj0.eqM] at C'
            obtain ⟨B', F', N', X', T', D', XB', TB'⟩ := C'; (try k_lift B'); (try k_fold)
            have hTm := hTn; have hGm := hGn
            refine cut hTm hGm ⟨B', F', N', X', T', D', XB', TB'⟩ (LJ5d w c (ns0.drop (Int.toNat 1)) L' ln rd) ?_ fun m₁ n₁ h₁ gn tk g₁ hJ hTn hGn C' => ?_
            · have hct : CellIn (L' + 1 + 1 + 1) (some (.int (ffault init) tq)) n₁ := ⟨oc, hcm, hcd⟩
              rcases id hcase with ⟨hz, a, rfl⟩ | ⟨hz, rfl⟩ <;> k_steps
            · clear hH hcm hcd hcase
              obtain ⟨uf1, fd, init, sv, tq, hj0, hH0, hct0, hcase⟩ := hJ
              (refine hide fun G__ k__ => ?_; obtain ⟨oF, kF, hFd0⟩ := hH0.first; refine k__ ?_; clear k__ G__)
              rw [hj0.eqM] at C'
              obtain ⟨B', F', N', X', T', D', XB', TB'⟩ := C'; (try k_lift B'); (try k_fold)
              have hTm := hTn; have hGm := hGn
              refine cut hTm hGm ⟨B', F', N', X', T', D', XB', TB'⟩ (LJ5f w c (ns0.drop (Int.toNat 1)) L' ln rd) ?_ fun m₁ n₁ h₁ gn tk g₁ hJ hTn hGn C' => ?_
              · rcases id hcase with ⟨hz, a, rfl⟩ | ⟨hz, rfl⟩ <;> k_steps
              · obtain ⟨fau, fv, fd, init, sv, ρ, hj0, hH, hcase2⟩ := hJ
                rw [hj0.eqM] at C'
                obtain ⟨B', F', N', X', T', D', XB', TB'⟩ := C'; (try k_lift B'); (try k_fold)
                have hI := hH.nums
                have hln : ((ns0.drop (Int.toNat 1)).drop (Int.toNat 3)).length ≤ 63 := Nat.le_trans (by rw [List.length_drop]; exact Nat.sub_le _ _) hlen
                k_steps
    · k_steps
  · clear enter
    have key : ∃ o, (hd.heap_39 w.params).lookup 437 = some o := ⟨_, by k_is⟩
    obtain ⟨oL, ho⟩ := key
    have ho2 := ho
    obtain rfl := lookE ho (by k_is)
    exact c_rest w dp un gd outer base loose mean mg mb _ ho2 L' _ _ _ _ _ hdp hun (by passes_own) c (fun m n h gn tk g T G C => hQQ _ _ ⟨rfl, h, gn, tk, m, n, g, rfl, T, G, C, trivial⟩) _ _ _ _ _ _ hJ hTn hGn C'
theorem entry_top {w : World} {s : Shared} {loose : List Str} {mean : ExcName → Option Value} {mg mb : Str → Option Value} {l0 : Addr} {its : Array Value} {R : Result → Shared → Prop}
    (X : (hd.heap_39 w.params).In s.heap) (T : Top hd.view_39 loose mean mg mb s.heap) (hl : s.heap.IsList l0 its)
    (fin : ∀ L' h₁ tk s', EndC w callerA s.heap [] loose mean mg mb s.heap s.gens L' { s with heap := h₁, toks := tk } (fun _ _ _ => True) s' → R (.ok (.ret (.bool true))) s') :
    Entry w callerA s.heap [] loose mean mg mb 437 ⟨[.ref l0], []⟩ l0 its [] s R (codeAny (model Challenge.rw_ix0031_01.row.prog w) callerA (.call (.ref 437) ⟨[.ref l0], []⟩) R s) := by
  intro name qual params body scope dV kV doc pm cdv ct oc an od osl binds ho hcd hbind hkind hnd h hco hgen hk
  refine codeAny_call_function (fd := fnOf name qual params body scope dV kV doc pm an cdv ct) (by decide) (X _ _ ho) rfl hco hgen rfl (codeRec_of X hcd) (hbind _ _ _ _ ?_)
  refine wpAny_newFunctionEnv_cells hk (kindsX hkind _) fun env' he s' x => ?_
  subst he
  refine ⟨T.nolimit.keeps x.toInCall.keep, codeAny_func ?_⟩
  obtain ⟨h₁, tk, rfl, _⟩ := x.done
  have hk₁ := x.toInCall.keep
  obtain ⟨cells, NC, Yc⟩ := Cl.news (h₀ := s.heap) (Nat.le_refl _) fun n c hm => ⟨x.cell n c (lookup_of_mem_nodup (cellsFrom_names scope.names 0 (s.heap.objs.size + 1) [] [] rfl ▸ hnd) hm), x.above n c hm⟩
  refine wpAny_mono (h s.heap s.heap.objs.size h₁ tk cells ⟨x.toInCall.ns, hk₁, Nat.le_refl _⟩ (by rw [List.append_nil]; exact fun p hp => ⟨(NC p hp).1, (NC p hp).2.1, (NC p hp).2.2⟩) Yc (fun p hp => nomatch hp) (below_caller s.heap) X T ktsDicts_nil X T hl) (fun fl s' hl => ?_) fun _ _ y => y
  obtain ⟨rfl, he⟩ := hl
  exact fin _ _ _ _ he
theorem law_at (w : World) (h : Challenge.rw_ix0031_01.row = Challenge.rw_ix0031_01.row) : nsIn (hd.heap_39 w.params) mainGlobals (Str.ofString "law") = some (some (.ref 437)) := by
  revert h; k_fill; intro h
  k_is
theorem law_adr {w : World} {h : Heap} {mg : Str → Option Value} {fa : Addr} (X : (hd.heap_39 w.params).In h) (G : h.Ns mainGlobals mg) (e2 : mg (Str.ofString "law") = some (.ref fa)) : fa = 437 := by
  rw [mg_of X G (law_at w rfl)] at e2
  injection e2 with e3
  injection e3 with e4
  exact e4.symm
theorem law_done {w : World} {loose : List Str} {s₀ s₁ : Shared} {mg mb : Str → Option Value} {l0 : Addr} {vs : List Value} {ns : List Int} (X : (hd.heap_39 w.params).In s₁.heap)
    (T : Top hd.view_39 loose (ExcName.means s₀.heap) mg mb s₁.heap)
    (hl : s₁.heap.IsList l0 vs.toArray) (hi : IntsAre vs ns) (hn : ns.length ≤ 63) (hg : s₁.gens = #[]) :
    codeAny (model Challenge.rw_ix0031_01.row.prog w) callerA (.call (.ref 437) ⟨[.ref l0], []⟩) (GoodWG Challenge.rw_ix0031_01.row.claim (classAt s₀.heap) (ExcName.means s₀.heap) [ofPy (PyData.list (ns.map PyData.int))] s₁) s₁ := by
  refine c_law w (1 + claimMargin) 4 (some []) [] s₁.heap _ (ExcName.means s₀.heap) mg mb [] s₁ _ _ l0 vs ns (fun h => nomatch h) (.of hi) hn X (by decide) (by decide) (entry_top X T hl fun L' h₁ tk s' he => ?_)
  obtain ⟨h', gn', tk', m', n', g', rfl, T1, G1, C1, _⟩ := he
  refine ⟨.inl ⟨_, .bool true, [], rfl, fun _ => rfl, ?_, ?_, fun _ => ⟨.nil, fun _ ha => nomatch ha⟩⟩, OldK.of_keep fun b o e => C1.F.keep _ _ (T1.other _ _ e (fun h => nomatch h)), rfl, ?_⟩
  · exact readsW_of_reads (d := .bool true) (.bool true)
  · first | rfl | kernel_rfl | exact postW_of (by wrow_shape) (by wtm_val) (by str_meet; first | done | w_fin)
  · exact G1.2 (.of_eq hg)
end Mine
set_option maxRecDepth 100000 in
set_option maxHeartbeats 8000000 in
theorem PySem.Challenge.cw_ix0031_01_holds : PySem.Challenge.rw_ix0031_01.Holds := by
  w_on
  refine holds_law (by kernel_rfl) fun said => ?_
  refine holds_open (q := Mine.hd.view_39) (loose := [Str.ofString "ErrorCodes", Str.ofString "ProtocolError", Str.ofString "SettingCodes", Str.ofString "Settings", Str.ofString "_validate_setting"]) (Xt := fun s => xlAt Mine.hd.view_39 [] s && recOk (RowW.records (OpenRow.toRowW PySem.Challenge.rw_ix0031_01.row)) s) (XP := XL Mine.hd.view_39 []) (Yf := Hook.obs (kHook Mine.hd.heap_39 Mine.hd.adr Mine.hd.adr_ok)) (Ya := Hook.val (kHook Mine.hd.heap_39 Mine.hd.adr Mine.hd.adr_ok)) (YP := Hook.says (kHook Mine.hd.heap_39 Mine.hd.adr Mine.hd.adr_ok)) (N := 8238) Mine.headL (Hook.of (kHook Mine.hd.heap_39 Mine.hd.adr Mine.hd.adr_ok)) (Hook.keeps (kHook Mine.hd.heap_39 Mine.hd.adr Mine.hd.adr_ok)) (fun s e => xl_of s (Bool.and_eq_true_iff.mp e).1) XL.keeps (by rfl) (by rfl) (by rfl) (fun s e => recFacts_of (Bool.and_eq_true_iff.mp e).2) (by rfl) (by first | assumption | decide +kernel) (by decide +kernel) ⟨rfl, rfl, rfl, rfl, rfl, by decide +kernel⟩ ?hw ?hc
  case hw => w_witness2
  case hc =>
    k_fill
    intro w s₀ s₁ mg mb G Y fa o pm cd doc dV kV ho hd hcd hD hmg hg args vals as hpre hlay hrd hwl hlo
    have KX := kIn_of Y
    clear ho hd hcd hD Y
    refine Ground.open G ?_
    intro T B D TE TW
    clear B D TE TW
    wrow_args hpre hlay hrd hwl hlo
    refine enter_call ?_
    have hfa : fa = 437 := Mine.law_adr KX T.g hmg
    subst hfa
    exact Mine.law_done KX T (by assumption) (by assumption) (Nat.le_of_not_lt fun q => absurd (Int.ofNat_lt.mpr q) (by assumption)) hg
