import PyProof.Rows.All
import Wide.All
import OpenK.AllK
import Wide.FinOn
import PySem.Challenge.RW_jg0026_01
set_option compiler.extract_closed false
set_option Elab.async false
set_option maxRecDepth 100000
set_option linter.unusedVariables false
section
open PySem PySem.W PySem.W.X PyProof.Rows
set_option maxHeartbeats 0
namespace Mine
noncomputable abbrev pw : Program := PySem.Challenge.pw_jg0026_01
noncomputable def top (i : Nat) : Stmt := pw.main.body.getD i (.Pass ⟨0, 0, 0, 0⟩)
noncomputable def clsBody : Stmt → List Stmt
  | .ClassDef _ _ _ b _ _ _ _ _ _ _ => b
  | _ => []
noncomputable def meth (i j : Nat) : Stmt := (clsBody (top i)).getD j (.Pass ⟨0, 0, 0, 0⟩)
noncomputable def fdOf (st : Stmt) (qual : Str) (dflt kwd pm cd : Value) : FuncData := match st with
  | .FunctionDef name args body _ _ _ scope _ _ _ => { name, qualname := qual, params := args, body := .stmts body, scope, globals := mainGlobals, closure := [], defaults := dflt, kwdefaults := kwd, pyModule := pm, code := cd, builtins := builtinsNs }
  | _ => default
noncomputable abbrev ent (P : Params) (x : Str) (t : Tok) (v : Value) : DictEntry := ⟨PyData.keyHash P x, .str x t, v⟩
noncomputable def o1 (P : Params) : Obj := { cls := (.type "dict"), data := .dict #[ent P (Str.ofString "builtins") 162 (.ref 4), ent P (Str.ofString "__main__") 163 (.ref 5)] 2 }
noncomputable def o3 (P : Params) : Obj := { cls := (.type "dict"), data := .dict #[ent P (Str.ofString "__name__") 165 (.str (Str.ofString "law_jg0026_01") 549), ent P (Str.ofString "__doc__") 166 .none, ent P (Str.ofString "__package__") 167 .none, ent P (Str.ofString "__loader__") 168 (.builtin "__main__.__loader__#opaque"), ent P (Str.ofString "__spec__") 169 .none, ent P (Str.ofString "__annotations__") 170 (.ref 6), ent P (Str.ofString "__builtins__") 171 (.ref 4), ent P (Str.ofString "__file__") 173 (.str (Str.ofString "/claim/cut.py") 172), ent P (Str.ofString "__cached__") 174 .none, ent P (Str.ofString "_wall") 193 (.ref 21), ent P (Str.ofString "RefFormatError") 215 (.ref 31), ent P (Str.ofString "_digit") 224 (.ref 41), ent P (Str.ofString "unhexlify") 230 (.ref 46), ent P (Str.ofString "ObjectID") 237 (.ref 53), ent P (Str.ofString "ZERO_SHA") 239 (.bytes #[48, 48, 48, 48, 48, 48, 48, 48, 48, 48, 48, 48, 48, 48, 48, 48, 48, 48, 48, 48, 48, 48, 48, 48, 48, 48, 48, 48, 48, 48, 48, 48, 48, 48, 48, 48, 48, 48, 48, 48] 238), ent P (Str.ofString "valid_hexsha") 246 (.ref 60), ent P (Str.ofString "HEADREF") 250 (.bytes #[72, 69, 65, 68] 249), ent P (Str.ofString "SYMREF") 252 (.bytes #[114, 101, 102, 58, 32] 251), ent P (Str.ofString "BAD_REF_CHARS") 254 (.bytes #[127, 32, 126, 94, 58, 63, 42, 91] 253), ent P (Str.ofString "Ref") 261 (.ref 67), ent P (Str.ofString "SymrefLoop") 292 (.ref 84), ent P (Str.ofString "parse_symref_value") 299 (.ref 94), ent P (Str.ofString "check_ref_format") 309 (.ref 101), ent P (Str.ofString "_collapse_slashes") 316 (.ref 108), ent P (Str.ofString "RefsContainer") 451 (.ref 204), ent P (Str.ofString "DictRefsContainer") 548 (.ref 281), ent P (Str.ofString "_law_names") 556 (.ref 290), ent P (Str.ofString "_law_parts") 576 (.ref 291), ent P (Str.ofString "_law_next") 585 (.ref 298), ent P (Str.ofString "_law_state") 591 (.ref 303), ent P (Str.ofString "_law_value") 599 (.ref 310), ent P (Str.ofString "_law_may_stand") 605 (.ref 315), ent P (Str.ofString "_law_named") 612 (.ref 322), ent P (Str.ofString "_law_valued") 619 (.ref 329), ent P (Str.ofString "_law_way") 629 (.ref 336), ent P (Str.ofString "_law_answer") 636 (.ref 343), ent P (Str.ofString "_law_set") 645 (.ref 350), ent P (Str.ofString "_law_out") 653 (.ref 357), ent P (Str.ofString "_law_deed") 670 (.ref 364), ent P (Str.ofString "_law_alike") 676 (.ref 369), ent P (Str.ofString "law") 682 (.ref 374)] 41 }
noncomputable def o4 (P : Params) : Obj := { cls := (.type "module"), dict := some 0, data := .plain }
noncomputable def o5 (P : Params) : Obj := { cls := (.type "module"), dict := some 3, data := .plain }
noncomputable def o6 (P : Params) : Obj := { cls := (.type "dict"), data := .dict #[] 0 }
noncomputable def o7 (P : Params) : Obj := { cls := (.type "tuple"), data := .seq #[] 0 }
noncomputable def o9 (P : Params) : Obj := { cls := (.type "code"), data := .fields #[(.str (Str.ofString "<module>") 176), (.str (Str.ofString "<module>") 177), (.str (Str.ofString "/claim/cut.py") 178), (.int 1 0), (.int 0 0), (.int 0 0), (.int 0 0), (.int 0 0), (.ref 7), (.bool false), (.int 175 0), (.ref 8), .none, .none, .none, .none, (.int 179 0), (.int 1 0), (.str (Str.ofString "/claim/cut.py") 180)] }
noncomputable def o11 (P : Params) : Obj := { cls := (.type "tuple"), data := .seq #[] 0 }
noncomputable def o13 (P : Params) : Obj := { cls := (.type "code"), data := .fields #[(.str (Str.ofString "<module>") 182), (.str (Str.ofString "<module>") 183), (.str (Str.ofString "/claim/cut.py") 184), (.int 1 0), (.int 0 0), (.int 0 0), (.int 0 0), (.int 0 0), (.ref 11), (.bool false), (.int 181 0), (.ref 12), .none, .none, .none, .none, (.int 185 0), (.int 1 0), (.str (Str.ofString "/claim/cut.py") 186)] }
noncomputable def o15 (P : Params) : Obj := { cls := (.type "tuple"), data := .seq #[] 0 }
noncomputable def o17 (P : Params) : Obj := { cls := (.type "tuple"), data := .seq #[(.str (Str.ofString "k") 190)] 0 }
noncomputable def o18 (P : Params) : Obj := { cls := (.type "tuple"), data := .seq #[] 0 }
noncomputable def o20 (P : Params) : Obj := { cls := (.type "code"), data := .fields #[(.str (Str.ofString "_wall") 187), (.str (Str.ofString "_wall") 188), (.str (Str.ofString "/claim/cut.py") 189), (.int 1 0), (.int 1 0), (.int 0 0), (.int 0 0), (.int 3 0), (.ref 15), (.bool true), (.int 181 0), (.ref 16), .none, (.ref 17), (.ref 18), (.ref 19), (.int 191 0), (.int 1 0), (.str (Str.ofString "/claim/cut.py") 192)] }
noncomputable def o21 (P : Params) : Obj := { cls := (.type "function"), data := .func (fdOf (top 0) (Str.ofString "_wall") .none .none (.str (Str.ofString "__main__") 164) (.ref 20)) }
noncomputable def o22 (P : Params) : Obj := { cls := (.type "tuple"), data := .seq #[(.type "Exception")] 0 }
noncomputable def o23 (P : Params) : Obj := { cls := (.type "builtin_function_or_method"), data := .fields #[(.builtin "type.__prepare__"), (.type "type")] }
noncomputable def o24 (P : Params) : Obj := { cls := (.type "dict"), data := .dict #[ent P (Str.ofString "__module__") 203 (.str (Str.ofString "dulwich.errors") 194), ent P (Str.ofString "__qualname__") 205 (.str (Str.ofString "RefFormatError") 204), ent P (Str.ofString "__firstlineno__") 207 (.int 5 206), ent P (Str.ofString "__static_attributes__") 208 (.ref 29)] 4 }
noncomputable def o25 (P : Params) : Obj := { cls := (.type "tuple"), data := .seq #[] 0 }
noncomputable def o27 (P : Params) : Obj := { cls := (.type "code"), data := .fields #[(.str (Str.ofString "RefFormatError") 198), (.str (Str.ofString "RefFormatError") 199), (.str (Str.ofString "/claim/cut.py") 200), (.int 5 0), (.int 0 0), (.int 0 0), (.int 0 0), (.int 0 0), (.ref 25), (.bool false), (.int 181 0), (.ref 26), .none, .none, .none, .none, (.int 201 0), (.int 5 0), (.str (Str.ofString "/claim/cut.py") 202)] }
noncomputable def o29 (P : Params) : Obj := { cls := (.type "tuple"), data := .seq #[] 0 }
noncomputable def o30 (P : Params) : Obj := { cls := (.type "dict"), data := .dict #[ent P (Str.ofString "__module__") 203 (.str (Str.ofString "dulwich.errors") 194), ent P (Str.ofString "__firstlineno__") 207 (.int 5 206), ent P (Str.ofString "__static_attributes__") 208 (.ref 29), ent P (Str.ofString "__weakref__") 210 (.ref 32), ent P (Str.ofString "__doc__") 211 .none] 3 }
noncomputable def o31 (P : Params) : Obj := { cls := (.type "type"), data := .cls { name := (Str.ofString "RefFormatError"), bases := [(.type "Exception")], mro := [(.ref 31), (.type "Exception"), (.type "BaseException"), (.type "object")], ns := 30, qualname := (Str.ofString "RefFormatError"), hasDict := true, subclasses := [] }, slots := #[some (.ref 22), none, some (.str (Str.ofString "RefFormatError") 196), some (.str (Str.ofString "RefFormatError") 204), some (.builtin "Exception.__new__"), some (.bool true)] }
noncomputable def o32 (P : Params) : Obj := { cls := (.type "getset_descriptor"), data := .fields #[(.str (Str.ofString "__weakref__") 209), (.ref 31), (.builtin "ExceptionGroup.__weakref__"), .none] }
noncomputable def o33 (P : Params) : Obj := { cls := (.type "super"), data := .fields #[(.ref 31), (.ref 31), (.ref 31)] }
noncomputable def o34 (P : Params) : Obj := { cls := (.type "builtin_function_or_method"), data := .fields #[(.builtin "object.__init_subclass__"), (.ref 31)] }
noncomputable def o35 (P : Params) : Obj := { cls := (.type "tuple"), data := .seq #[] 0 }
noncomputable def o37 (P : Params) : Obj := { cls := (.type "tuple"), data := .seq #[(.str (Str.ofString "octet") 221)] 0 }
noncomputable def o38 (P : Params) : Obj := { cls := (.type "tuple"), data := .seq #[] 0 }
noncomputable def o40 (P : Params) : Obj := { cls := (.type "code"), data := .fields #[(.str (Str.ofString "_digit") 218), (.str (Str.ofString "_digit") 219), (.str (Str.ofString "/claim/cut.py") 220), (.int 8 0), (.int 1 0), (.int 0 0), (.int 0 0), (.int 3 0), (.ref 35), (.bool true), (.int 181 0), (.ref 36), .none, (.ref 37), (.ref 38), (.ref 39), (.int 222 0), (.int 8 0), (.str (Str.ofString "/claim/cut.py") 223)] }
noncomputable def o41 (P : Params) : Obj := { cls := (.type "function"), data := .func (fdOf (top 4) (Str.ofString "_digit") .none .none (.str (Str.ofString "dulwich.objects") 216) (.ref 40)) }
noncomputable def o42 (P : Params) : Obj := { cls := (.type "tuple"), data := .seq #[] 0 }
noncomputable def o45 (P : Params) : Obj := { cls := (.type "code"), data := .fields #[(.str (Str.ofString "unhexlify") 225), (.str (Str.ofString "unhexlify") 226), (.str (Str.ofString "/claim/cut.py") 227), (.int 16 0), (.int 1 0), (.int 0 0), (.int 0 0), (.int 3 0), (.ref 42), (.bool true), (.int 181 0), (.ref 43), .none, .none, .none, (.ref 44), (.int 228 0), (.int 16 0), (.str (Str.ofString "/claim/cut.py") 229)] }
noncomputable def o46 (P : Params) : Obj := { cls := (.type "function"), data := .func (fdOf (top 5) (Str.ofString "unhexlify") .none .none (.str (Str.ofString "dulwich.objects") 216) (.ref 45)) }
noncomputable def o47 (P : Params) : Obj := { cls := (.type "tuple"), data := .seq #[] 0 }
noncomputable def o49 (P : Params) : Obj := { cls := (.type "tuple"), data := .seq #[(.str (Str.ofString "octets") 234)] 0 }
noncomputable def o50 (P : Params) : Obj := { cls := (.type "tuple"), data := .seq #[] 0 }
noncomputable def o52 (P : Params) : Obj := { cls := (.type "code"), data := .fields #[(.str (Str.ofString "ObjectID") 231), (.str (Str.ofString "ObjectID") 232), (.str (Str.ofString "/claim/cut.py") 233), (.int 20 0), (.int 1 0), (.int 0 0), (.int 0 0), (.int 3 0), (.ref 47), (.bool true), (.int 181 0), (.ref 48), .none, (.ref 49), (.ref 50), (.ref 51), (.int 235 0), (.int 20 0), (.str (Str.ofString "/claim/cut.py") 236)] }
noncomputable def o53 (P : Params) : Obj := { cls := (.type "function"), data := .func (fdOf (top 6) (Str.ofString "ObjectID") .none .none (.str (Str.ofString "dulwich.objects") 216) (.ref 52)) }
noncomputable def o54 (P : Params) : Obj := { cls := (.type "tuple"), data := .seq #[] 0 }
noncomputable def o56 (P : Params) : Obj := { cls := (.type "tuple"), data := .seq #[(.str (Str.ofString "hex") 243)] 0 }
noncomputable def o57 (P : Params) : Obj := { cls := (.type "tuple"), data := .seq #[] 0 }
noncomputable def o59 (P : Params) : Obj := { cls := (.type "code"), data := .fields #[(.str (Str.ofString "valid_hexsha") 240), (.str (Str.ofString "valid_hexsha") 241), (.str (Str.ofString "/claim/cut.py") 242), (.int 23 0), (.int 1 0), (.int 0 0), (.int 0 0), (.int 3 0), (.ref 54), (.bool true), (.int 181 0), (.ref 55), .none, (.ref 56), (.ref 57), (.ref 58), (.int 244 0), (.int 23 0), (.str (Str.ofString "/claim/cut.py") 245)] }
noncomputable def o60 (P : Params) : Obj := { cls := (.type "function"), data := .func (fdOf (top 8) (Str.ofString "valid_hexsha") .none .none (.str (Str.ofString "dulwich.objects") 216) (.ref 59)) }
noncomputable def o61 (P : Params) : Obj := { cls := (.type "tuple"), data := .seq #[] 0 }
noncomputable def o63 (P : Params) : Obj := { cls := (.type "tuple"), data := .seq #[(.str (Str.ofString "octets") 258)] 0 }
noncomputable def o64 (P : Params) : Obj := { cls := (.type "tuple"), data := .seq #[] 0 }
noncomputable def o66 (P : Params) : Obj := { cls := (.type "code"), data := .fields #[(.str (Str.ofString "Ref") 255), (.str (Str.ofString "Ref") 256), (.str (Str.ofString "/claim/cut.py") 257), (.int 36 0), (.int 1 0), (.int 0 0), (.int 0 0), (.int 3 0), (.ref 61), (.bool true), (.int 181 0), (.ref 62), .none, (.ref 63), (.ref 64), (.ref 65), (.int 259 0), (.int 36 0), (.str (Str.ofString "/claim/cut.py") 260)] }
noncomputable def o67 (P : Params) : Obj := { cls := (.type "function"), data := .func (fdOf (top 13) (Str.ofString "Ref") .none .none (.str (Str.ofString "dulwich.refs") 247) (.ref 66)) }
noncomputable def o68 (P : Params) : Obj := { cls := (.type "tuple"), data := .seq #[(.type "Exception")] 0 }
noncomputable def o69 (P : Params) : Obj := { cls := (.type "builtin_function_or_method"), data := .fields #[(.builtin "type.__prepare__"), (.type "type")] }
noncomputable def o70 (P : Params) : Obj := { cls := (.type "dict"), data := .dict #[ent P (Str.ofString "__module__") 269 (.str (Str.ofString "dulwich.refs") 247), ent P (Str.ofString "__qualname__") 271 (.str (Str.ofString "SymrefLoop") 270), ent P (Str.ofString "__firstlineno__") 273 (.int 38 272), ent P (Str.ofString "__init__") 282 (.ref 81), ent P (Str.ofString "__static_attributes__") 285 (.ref 82)] 5 }
noncomputable def o71 (P : Params) : Obj := { cls := (.type "tuple"), data := .seq #[] 0 }
noncomputable def o73 (P : Params) : Obj := { cls := (.type "code"), data := .fields #[(.str (Str.ofString "SymrefLoop") 264), (.str (Str.ofString "SymrefLoop") 265), (.str (Str.ofString "/claim/cut.py") 266), (.int 38 0), (.int 0 0), (.int 0 0), (.int 0 0), (.int 0 0), (.ref 71), (.bool false), (.int 181 0), (.ref 72), .none, .none, .none, .none, (.int 267 0), (.int 38 0), (.str (Str.ofString "/claim/cut.py") 268)] }
noncomputable def o75 (P : Params) : Obj := { cls := (.type "tuple"), data := .seq #[] 0 }
noncomputable def o77 (P : Params) : Obj := { cls := (.type "tuple"), data := .seq #[(.str (Str.ofString "self") 277), (.str (Str.ofString "ref") 278), (.str (Str.ofString "depth") 279)] 0 }
noncomputable def o78 (P : Params) : Obj := { cls := (.type "tuple"), data := .seq #[] 0 }
noncomputable def o80 (P : Params) : Obj := { cls := (.type "code"), data := .fields #[(.str (Str.ofString "__init__") 274), (.str (Str.ofString "SymrefLoop.__init__") 275), (.str (Str.ofString "/claim/cut.py") 276), (.int 40 0), (.int 3 0), (.int 0 0), (.int 0 0), (.int 3 0), (.ref 75), (.bool true), (.int 181 0), (.ref 76), .none, (.ref 77), (.ref 78), (.ref 79), (.int 280 0), (.int 40 0), (.str (Str.ofString "/claim/cut.py") 281)] }
noncomputable def o81 (P : Params) : Obj := { cls := (.type "function"), data := .func (fdOf (meth 14 0) (Str.ofString "SymrefLoop.__init__") .none .none (.str (Str.ofString "dulwich.refs") 247) (.ref 80)) }
noncomputable def o82 (P : Params) : Obj := { cls := (.type "tuple"), data := .seq #[(.str (Str.ofString "depth") 283), (.str (Str.ofString "ref") 284)] 0 }
noncomputable def o83 (P : Params) : Obj := { cls := (.type "dict"), data := .dict #[ent P (Str.ofString "__module__") 269 (.str (Str.ofString "dulwich.refs") 247), ent P (Str.ofString "__firstlineno__") 273 (.int 38 272), ent P (Str.ofString "__init__") 282 (.ref 81), ent P (Str.ofString "__static_attributes__") 285 (.ref 82), ent P (Str.ofString "__weakref__") 287 (.ref 85), ent P (Str.ofString "__doc__") 288 .none] 3 }
noncomputable def o84 (P : Params) : Obj := { cls := (.type "type"), data := .cls { name := (Str.ofString "SymrefLoop"), bases := [(.type "Exception")], mro := [(.ref 84), (.type "Exception"), (.type "BaseException"), (.type "object")], ns := 83, qualname := (Str.ofString "SymrefLoop"), hasDict := true, subclasses := [] }, slots := #[some (.ref 68), none, some (.str (Str.ofString "SymrefLoop") 262), some (.str (Str.ofString "SymrefLoop") 270), some (.builtin "Exception.__new__"), some (.bool true)] }
noncomputable def o85 (P : Params) : Obj := { cls := (.type "getset_descriptor"), data := .fields #[(.str (Str.ofString "__weakref__") 286), (.ref 84), (.builtin "ExceptionGroup.__weakref__"), .none] }
noncomputable def o86 (P : Params) : Obj := { cls := (.type "super"), data := .fields #[(.ref 84), (.ref 84), (.ref 84)] }
noncomputable def o87 (P : Params) : Obj := { cls := (.type "builtin_function_or_method"), data := .fields #[(.builtin "object.__init_subclass__"), (.ref 84)] }
noncomputable def o88 (P : Params) : Obj := { cls := (.type "tuple"), data := .seq #[] 0 }
noncomputable def o90 (P : Params) : Obj := { cls := (.type "tuple"), data := .seq #[(.str (Str.ofString "contents") 296)] 0 }
noncomputable def o91 (P : Params) : Obj := { cls := (.type "tuple"), data := .seq #[] 0 }
noncomputable def o93 (P : Params) : Obj := { cls := (.type "code"), data := .fields #[(.str (Str.ofString "parse_symref_value") 293), (.str (Str.ofString "parse_symref_value") 294), (.str (Str.ofString "/claim/cut.py") 295), (.int 43 0), (.int 1 0), (.int 0 0), (.int 0 0), (.int 3 0), (.ref 88), (.bool true), (.int 181 0), (.ref 89), .none, (.ref 90), (.ref 91), (.ref 92), (.int 297 0), (.int 43 0), (.str (Str.ofString "/claim/cut.py") 298)] }
noncomputable def o94 (P : Params) : Obj := { cls := (.type "function"), data := .func (fdOf (top 15) (Str.ofString "parse_symref_value") .none .none (.str (Str.ofString "dulwich.refs") 247) (.ref 93)) }
noncomputable def o95 (P : Params) : Obj := { cls := (.type "tuple"), data := .seq #[] 0 }
noncomputable def o97 (P : Params) : Obj := { cls := (.type "tuple"), data := .seq #[(.str (Str.ofString "refname") 303), (.str (Str.ofString "i") 304), (.str (Str.ofString "c") 305), (.str (Str.ofString "component") 306)] 0 }
noncomputable def o98 (P : Params) : Obj := { cls := (.type "tuple"), data := .seq #[] 0 }
noncomputable def o100 (P : Params) : Obj := { cls := (.type "code"), data := .fields #[(.str (Str.ofString "check_ref_format") 300), (.str (Str.ofString "check_ref_format") 301), (.str (Str.ofString "/claim/cut.py") 302), (.int 47 0), (.int 1 0), (.int 0 0), (.int 0 0), (.int 3 0), (.ref 95), (.bool true), (.int 181 0), (.ref 96), .none, (.ref 97), (.ref 98), (.ref 99), (.int 307 0), (.int 47 0), (.str (Str.ofString "/claim/cut.py") 308)] }
noncomputable def o101 (P : Params) : Obj := { cls := (.type "function"), data := .func (fdOf (top 16) (Str.ofString "check_ref_format") .none .none (.str (Str.ofString "dulwich.refs") 247) (.ref 100)) }
noncomputable def o102 (P : Params) : Obj := { cls := (.type "tuple"), data := .seq #[] 0 }
noncomputable def o104 (P : Params) : Obj := { cls := (.type "tuple"), data := .seq #[(.str (Str.ofString "refname") 313)] 0 }
noncomputable def o105 (P : Params) : Obj := { cls := (.type "tuple"), data := .seq #[] 0 }
noncomputable def o107 (P : Params) : Obj := { cls := (.type "code"), data := .fields #[(.str (Str.ofString "_collapse_slashes") 310), (.str (Str.ofString "_collapse_slashes") 311), (.str (Str.ofString "/claim/cut.py") 312), (.int 71 0), (.int 1 0), (.int 0 0), (.int 0 0), (.int 3 0), (.ref 102), (.bool true), (.int 181 0), (.ref 103), .none, (.ref 104), (.ref 105), (.ref 106), (.int 314 0), (.int 71 0), (.str (Str.ofString "/claim/cut.py") 315)] }
noncomputable def o108 (P : Params) : Obj := { cls := (.type "function"), data := .func (fdOf (top 17) (Str.ofString "_collapse_slashes") .none .none (.str (Str.ofString "dulwich.refs") 247) (.ref 107)) }
noncomputable def o109 (P : Params) : Obj := { cls := (.type "tuple"), data := .seq #[] 0 }
noncomputable def o110 (P : Params) : Obj := { cls := (.type "builtin_function_or_method"), data := .fields #[(.builtin "type.__prepare__"), (.type "type")] }
noncomputable def o111 (P : Params) : Obj := { cls := (.type "dict"), data := .dict #[ent P (Str.ofString "__module__") 324 (.str (Str.ofString "dulwich.refs") 247), ent P (Str.ofString "__qualname__") 326 (.str (Str.ofString "RefsContainer") 325), ent P (Str.ofString "__firstlineno__") 328 (.int 73 327), ent P (Str.ofString "keys") 336 (.ref 123), ent P (Str.ofString "subkeys") 347 (.ref 130), ent P (Str.ofString "as_dict") 359 (.ref 138), ent P (Str.ofString "_check_refname") 368 (.ref 145), ent P (Str.ofString "_check_ref_value") 376 (.ref 152), ent P (Str.ofString "read_ref") 385 (.ref 159), ent P (Str.ofString "follow") 397 (.ref 166), ent P (Str.ofString "__contains__") 405 (.ref 173), ent P (Str.ofString "__getitem__") 415 (.ref 180), ent P (Str.ofString "__setitem__") 424 (.ref 187), ent P (Str.ofString "__delitem__") 432 (.ref 194), ent P (Str.ofString "get_symrefs") 443 (.ref 201), ent P (Str.ofString "__static_attributes__") 444 (.ref 202)] 16 }
noncomputable def o112 (P : Params) : Obj := { cls := (.type "tuple"), data := .seq #[] 0 }
noncomputable def o114 (P : Params) : Obj := { cls := (.type "code"), data := .fields #[(.str (Str.ofString "RefsContainer") 319), (.str (Str.ofString "RefsContainer") 320), (.str (Str.ofString "/claim/cut.py") 321), (.int 73 0), (.int 0 0), (.int 0 0), (.int 0 0), (.int 0 0), (.ref 112), (.bool false), (.int 181 0), (.ref 113), .none, .none, .none, .none, (.int 322 0), (.int 73 0), (.str (Str.ofString "/claim/cut.py") 323)] }
noncomputable def o116 (P : Params) : Obj := { cls := (.type "tuple"), data := .seq #[.none] 0 }
noncomputable def o117 (P : Params) : Obj := { cls := (.type "tuple"), data := .seq #[] 0 }
noncomputable def o119 (P : Params) : Obj := { cls := (.type "tuple"), data := .seq #[(.str (Str.ofString "self") 332), (.str (Str.ofString "base") 333)] 0 }
noncomputable def o120 (P : Params) : Obj := { cls := (.type "tuple"), data := .seq #[] 0 }
noncomputable def o122 (P : Params) : Obj := { cls := (.type "code"), data := .fields #[(.str (Str.ofString "keys") 329), (.str (Str.ofString "RefsContainer.keys") 330), (.str (Str.ofString "/claim/cut.py") 331), (.int 75 0), (.int 2 0), (.int 0 0), (.int 0 0), (.int 3 0), (.ref 117), (.bool true), (.int 181 0), (.ref 118), .none, (.ref 119), (.ref 120), (.ref 121), (.int 334 0), (.int 75 0), (.str (Str.ofString "/claim/cut.py") 335)] }
noncomputable def o123 (P : Params) : Obj := { cls := (.type "function"), data := .func (fdOf (meth 18 0) (Str.ofString "RefsContainer.keys") (.ref 116) .none (.str (Str.ofString "dulwich.refs") 247) (.ref 122)) }
noncomputable def o124 (P : Params) : Obj := { cls := (.type "tuple"), data := .seq #[] 0 }
noncomputable def o126 (P : Params) : Obj := { cls := (.type "tuple"), data := .seq #[(.str (Str.ofString "self") 340), (.str (Str.ofString "base") 341), (.str (Str.ofString "keys") 342), (.str (Str.ofString "base_len") 343), (.str (Str.ofString "refname") 344)] 0 }
noncomputable def o127 (P : Params) : Obj := { cls := (.type "tuple"), data := .seq #[] 0 }
noncomputable def o129 (P : Params) : Obj := { cls := (.type "code"), data := .fields #[(.str (Str.ofString "subkeys") 337), (.str (Str.ofString "RefsContainer.subkeys") 338), (.str (Str.ofString "/claim/cut.py") 339), (.int 81 0), (.int 2 0), (.int 0 0), (.int 0 0), (.int 3 0), (.ref 124), (.bool true), (.int 181 0), (.ref 125), .none, (.ref 126), (.ref 127), (.ref 128), (.int 345 0), (.int 81 0), (.str (Str.ofString "/claim/cut.py") 346)] }
noncomputable def o130 (P : Params) : Obj := { cls := (.type "function"), data := .func (fdOf (meth 18 1) (Str.ofString "RefsContainer.subkeys") .none .none (.str (Str.ofString "dulwich.refs") 247) (.ref 129)) }
noncomputable def o131 (P : Params) : Obj := { cls := (.type "tuple"), data := .seq #[.none] 0 }
noncomputable def o132 (P : Params) : Obj := { cls := (.type "tuple"), data := .seq #[] 0 }
noncomputable def o134 (P : Params) : Obj := { cls := (.type "tuple"), data := .seq #[(.str (Str.ofString "self") 351), (.str (Str.ofString "base") 352), (.str (Str.ofString "ret") 353), (.str (Str.ofString "keys") 354), (.str (Str.ofString "base_bytes") 355), (.str (Str.ofString "key") 356)] 0 }
noncomputable def o135 (P : Params) : Obj := { cls := (.type "tuple"), data := .seq #[] 0 }
noncomputable def o137 (P : Params) : Obj := { cls := (.type "code"), data := .fields #[(.str (Str.ofString "as_dict") 348), (.str (Str.ofString "RefsContainer.as_dict") 349), (.str (Str.ofString "/claim/cut.py") 350), (.int 89 0), (.int 2 0), (.int 0 0), (.int 0 0), (.int 3 0), (.ref 132), (.bool true), (.int 181 0), (.ref 133), .none, (.ref 134), (.ref 135), (.ref 136), (.int 357 0), (.int 89 0), (.str (Str.ofString "/claim/cut.py") 358)] }
noncomputable def o138 (P : Params) : Obj := { cls := (.type "function"), data := .func (fdOf (meth 18 2) (Str.ofString "RefsContainer.as_dict") (.ref 131) .none (.str (Str.ofString "dulwich.refs") 247) (.ref 137)) }
noncomputable def o139 (P : Params) : Obj := { cls := (.type "tuple"), data := .seq #[] 0 }
noncomputable def o141 (P : Params) : Obj := { cls := (.type "tuple"), data := .seq #[(.str (Str.ofString "self") 363), (.str (Str.ofString "name") 364), (.str (Str.ofString "rest") 365)] 0 }
noncomputable def o142 (P : Params) : Obj := { cls := (.type "tuple"), data := .seq #[] 0 }
noncomputable def o144 (P : Params) : Obj := { cls := (.type "code"), data := .fields #[(.str (Str.ofString "_check_refname") 360), (.str (Str.ofString "RefsContainer._check_refname") 361), (.str (Str.ofString "/claim/cut.py") 362), (.int 104 0), (.int 2 0), (.int 0 0), (.int 0 0), (.int 3 0), (.ref 139), (.bool true), (.int 181 0), (.ref 140), .none, (.ref 141), (.ref 142), (.ref 143), (.int 366 0), (.int 104 0), (.str (Str.ofString "/claim/cut.py") 367)] }
noncomputable def o145 (P : Params) : Obj := { cls := (.type "function"), data := .func (fdOf (meth 18 3) (Str.ofString "RefsContainer._check_refname") .none .none (.str (Str.ofString "dulwich.refs") 247) (.ref 144)) }
noncomputable def o146 (P : Params) : Obj := { cls := (.type "tuple"), data := .seq #[] 0 }
noncomputable def o148 (P : Params) : Obj := { cls := (.type "tuple"), data := .seq #[(.str (Str.ofString "self") 372), (.str (Str.ofString "ref") 373)] 0 }
noncomputable def o149 (P : Params) : Obj := { cls := (.type "tuple"), data := .seq #[] 0 }
noncomputable def o151 (P : Params) : Obj := { cls := (.type "code"), data := .fields #[(.str (Str.ofString "_check_ref_value") 369), (.str (Str.ofString "RefsContainer._check_ref_value") 370), (.str (Str.ofString "/claim/cut.py") 371), (.int 116 0), (.int 2 0), (.int 0 0), (.int 0 0), (.int 3 0), (.ref 146), (.bool true), (.int 181 0), (.ref 147), .none, (.ref 148), (.ref 149), (.ref 150), (.int 374 0), (.int 116 0), (.str (Str.ofString "/claim/cut.py") 375)] }
noncomputable def o152 (P : Params) : Obj := { cls := (.type "function"), data := .func (fdOf (meth 18 4) (Str.ofString "RefsContainer._check_ref_value") .none .none (.str (Str.ofString "dulwich.refs") 247) (.ref 151)) }
noncomputable def o153 (P : Params) : Obj := { cls := (.type "tuple"), data := .seq #[] 0 }
noncomputable def o155 (P : Params) : Obj := { cls := (.type "tuple"), data := .seq #[(.str (Str.ofString "self") 380), (.str (Str.ofString "refname") 381), (.str (Str.ofString "contents") 382)] 0 }
noncomputable def o156 (P : Params) : Obj := { cls := (.type "tuple"), data := .seq #[] 0 }
noncomputable def o158 (P : Params) : Obj := { cls := (.type "code"), data := .fields #[(.str (Str.ofString "read_ref") 377), (.str (Str.ofString "RefsContainer.read_ref") 378), (.str (Str.ofString "/claim/cut.py") 379), (.int 120 0), (.int 2 0), (.int 0 0), (.int 0 0), (.int 3 0), (.ref 153), (.bool true), (.int 181 0), (.ref 154), .none, (.ref 155), (.ref 156), (.ref 157), (.int 383 0), (.int 120 0), (.str (Str.ofString "/claim/cut.py") 384)] }
noncomputable def o159 (P : Params) : Obj := { cls := (.type "function"), data := .func (fdOf (meth 18 5) (Str.ofString "RefsContainer.read_ref") .none .none (.str (Str.ofString "dulwich.refs") 247) (.ref 158)) }
noncomputable def o160 (P : Params) : Obj := { cls := (.type "tuple"), data := .seq #[] 0 }
noncomputable def o162 (P : Params) : Obj := { cls := (.type "tuple"), data := .seq #[(.str (Str.ofString "self") 389), (.str (Str.ofString "name") 390), (.str (Str.ofString "contents") 391), (.str (Str.ofString "depth") 392), (.str (Str.ofString "refnames") 393), (.str (Str.ofString "refname") 394)] 0 }
noncomputable def o163 (P : Params) : Obj := { cls := (.type "tuple"), data := .seq #[] 0 }
noncomputable def o165 (P : Params) : Obj := { cls := (.type "code"), data := .fields #[(.str (Str.ofString "follow") 386), (.str (Str.ofString "RefsContainer.follow") 387), (.str (Str.ofString "/claim/cut.py") 388), (.int 126 0), (.int 2 0), (.int 0 0), (.int 0 0), (.int 3 0), (.ref 160), (.bool true), (.int 181 0), (.ref 161), .none, (.ref 162), (.ref 163), (.ref 164), (.int 395 0), (.int 126 0), (.str (Str.ofString "/claim/cut.py") 396)] }
noncomputable def o166 (P : Params) : Obj := { cls := (.type "function"), data := .func (fdOf (meth 18 6) (Str.ofString "RefsContainer.follow") .none .none (.str (Str.ofString "dulwich.refs") 247) (.ref 165)) }
noncomputable def o167 (P : Params) : Obj := { cls := (.type "tuple"), data := .seq #[] 0 }
noncomputable def o169 (P : Params) : Obj := { cls := (.type "tuple"), data := .seq #[(.str (Str.ofString "self") 401), (.str (Str.ofString "refname") 402)] 0 }
noncomputable def o170 (P : Params) : Obj := { cls := (.type "tuple"), data := .seq #[] 0 }
noncomputable def o172 (P : Params) : Obj := { cls := (.type "code"), data := .fields #[(.str (Str.ofString "__contains__") 398), (.str (Str.ofString "RefsContainer.__contains__") 399), (.str (Str.ofString "/claim/cut.py") 400), (.int 141 0), (.int 2 0), (.int 0 0), (.int 0 0), (.int 3 0), (.ref 167), (.bool true), (.int 181 0), (.ref 168), .none, (.ref 169), (.ref 170), (.ref 171), (.int 403 0), (.int 141 0), (.str (Str.ofString "/claim/cut.py") 404)] }
noncomputable def o173 (P : Params) : Obj := { cls := (.type "function"), data := .func (fdOf (meth 18 7) (Str.ofString "RefsContainer.__contains__") .none .none (.str (Str.ofString "dulwich.refs") 247) (.ref 172)) }
noncomputable def o174 (P : Params) : Obj := { cls := (.type "tuple"), data := .seq #[] 0 }
noncomputable def o176 (P : Params) : Obj := { cls := (.type "tuple"), data := .seq #[(.str (Str.ofString "self") 409), (.str (Str.ofString "name") 410), (.str (Str.ofString "_") 411), (.str (Str.ofString "sha") 412)] 0 }
noncomputable def o177 (P : Params) : Obj := { cls := (.type "tuple"), data := .seq #[] 0 }
noncomputable def o179 (P : Params) : Obj := { cls := (.type "code"), data := .fields #[(.str (Str.ofString "__getitem__") 406), (.str (Str.ofString "RefsContainer.__getitem__") 407), (.str (Str.ofString "/claim/cut.py") 408), (.int 146 0), (.int 2 0), (.int 0 0), (.int 0 0), (.int 3 0), (.ref 174), (.bool true), (.int 181 0), (.ref 175), .none, (.ref 176), (.ref 177), (.ref 178), (.int 413 0), (.int 146 0), (.str (Str.ofString "/claim/cut.py") 414)] }
noncomputable def o180 (P : Params) : Obj := { cls := (.type "function"), data := .func (fdOf (meth 18 8) (Str.ofString "RefsContainer.__getitem__") .none .none (.str (Str.ofString "dulwich.refs") 247) (.ref 179)) }
noncomputable def o181 (P : Params) : Obj := { cls := (.type "tuple"), data := .seq #[] 0 }
noncomputable def o183 (P : Params) : Obj := { cls := (.type "tuple"), data := .seq #[(.str (Str.ofString "self") 419), (.str (Str.ofString "name") 420), (.str (Str.ofString "ref") 421)] 0 }
noncomputable def o184 (P : Params) : Obj := { cls := (.type "tuple"), data := .seq #[] 0 }
noncomputable def o186 (P : Params) : Obj := { cls := (.type "code"), data := .fields #[(.str (Str.ofString "__setitem__") 416), (.str (Str.ofString "RefsContainer.__setitem__") 417), (.str (Str.ofString "/claim/cut.py") 418), (.int 152 0), (.int 3 0), (.int 0 0), (.int 0 0), (.int 3 0), (.ref 181), (.bool true), (.int 181 0), (.ref 182), .none, (.ref 183), (.ref 184), (.ref 185), (.int 422 0), (.int 152 0), (.str (Str.ofString "/claim/cut.py") 423)] }
noncomputable def o187 (P : Params) : Obj := { cls := (.type "function"), data := .func (fdOf (meth 18 9) (Str.ofString "RefsContainer.__setitem__") .none .none (.str (Str.ofString "dulwich.refs") 247) (.ref 186)) }
noncomputable def o188 (P : Params) : Obj := { cls := (.type "tuple"), data := .seq #[] 0 }
noncomputable def o190 (P : Params) : Obj := { cls := (.type "tuple"), data := .seq #[(.str (Str.ofString "self") 428), (.str (Str.ofString "name") 429)] 0 }
noncomputable def o191 (P : Params) : Obj := { cls := (.type "tuple"), data := .seq #[] 0 }
noncomputable def o193 (P : Params) : Obj := { cls := (.type "code"), data := .fields #[(.str (Str.ofString "__delitem__") 425), (.str (Str.ofString "RefsContainer.__delitem__") 426), (.str (Str.ofString "/claim/cut.py") 427), (.int 156 0), (.int 2 0), (.int 0 0), (.int 0 0), (.int 3 0), (.ref 188), (.bool true), (.int 181 0), (.ref 189), .none, (.ref 190), (.ref 191), (.ref 192), (.int 430 0), (.int 156 0), (.str (Str.ofString "/claim/cut.py") 431)] }
noncomputable def o194 (P : Params) : Obj := { cls := (.type "function"), data := .func (fdOf (meth 18 10) (Str.ofString "RefsContainer.__delitem__") .none .none (.str (Str.ofString "dulwich.refs") 247) (.ref 193)) }
noncomputable def o195 (P : Params) : Obj := { cls := (.type "tuple"), data := .seq #[] 0 }
noncomputable def o197 (P : Params) : Obj := { cls := (.type "tuple"), data := .seq #[(.str (Str.ofString "self") 436), (.str (Str.ofString "ret") 437), (.str (Str.ofString "src") 438), (.str (Str.ofString "ref_value") 439), (.str (Str.ofString "dst") 440)] 0 }
noncomputable def o198 (P : Params) : Obj := { cls := (.type "tuple"), data := .seq #[] 0 }
noncomputable def o200 (P : Params) : Obj := { cls := (.type "code"), data := .fields #[(.str (Str.ofString "get_symrefs") 433), (.str (Str.ofString "RefsContainer.get_symrefs") 434), (.str (Str.ofString "/claim/cut.py") 435), (.int 159 0), (.int 1 0), (.int 0 0), (.int 0 0), (.int 3 0), (.ref 195), (.bool true), (.int 181 0), (.ref 196), .none, (.ref 197), (.ref 198), (.ref 199), (.int 441 0), (.int 159 0), (.str (Str.ofString "/claim/cut.py") 442)] }
noncomputable def o201 (P : Params) : Obj := { cls := (.type "function"), data := .func (fdOf (meth 18 11) (Str.ofString "RefsContainer.get_symrefs") .none .none (.str (Str.ofString "dulwich.refs") 247) (.ref 200)) }
noncomputable def o202 (P : Params) : Obj := { cls := (.type "tuple"), data := .seq #[] 0 }
noncomputable def o203 (P : Params) : Obj := { cls := (.type "dict"), data := .dict #[ent P (Str.ofString "__module__") 324 (.str (Str.ofString "dulwich.refs") 247), ent P (Str.ofString "__firstlineno__") 328 (.int 73 327), ent P (Str.ofString "keys") 336 (.ref 123), ent P (Str.ofString "subkeys") 347 (.ref 130), ent P (Str.ofString "as_dict") 359 (.ref 138), ent P (Str.ofString "_check_refname") 368 (.ref 145), ent P (Str.ofString "_check_ref_value") 376 (.ref 152), ent P (Str.ofString "read_ref") 385 (.ref 159), ent P (Str.ofString "follow") 397 (.ref 166), ent P (Str.ofString "__contains__") 405 (.ref 173), ent P (Str.ofString "__getitem__") 415 (.ref 180), ent P (Str.ofString "__setitem__") 424 (.ref 187), ent P (Str.ofString "__delitem__") 432 (.ref 194), ent P (Str.ofString "get_symrefs") 443 (.ref 201), ent P (Str.ofString "__static_attributes__") 444 (.ref 202), ent P (Str.ofString "__dict__") 446 (.ref 205), ent P (Str.ofString "__weakref__") 448 (.ref 206), ent P (Str.ofString "__doc__") 449 .none] 4 }
noncomputable def o204 (P : Params) : Obj := { cls := (.type "type"), data := .cls { name := (Str.ofString "RefsContainer"), bases := [(.type "object")], mro := [(.ref 204), (.type "object")], ns := 203, qualname := (Str.ofString "RefsContainer"), hasDict := true, subclasses := [(.ref 281)] }, slots := #[none, none, some (.str (Str.ofString "RefsContainer") 317), some (.str (Str.ofString "RefsContainer") 325), some (.builtin "object.__new__"), some (.bool true)] }
noncomputable def o205 (P : Params) : Obj := { cls := (.type "getset_descriptor"), data := .fields #[(.str (Str.ofString "__dict__") 445), (.ref 204), (.builtin "function.__dict__"), (.builtin "function.__dict__#set")] }
noncomputable def o206 (P : Params) : Obj := { cls := (.type "getset_descriptor"), data := .fields #[(.str (Str.ofString "__weakref__") 447), (.ref 204), (.builtin "ExceptionGroup.__weakref__"), .none] }
noncomputable def o207 (P : Params) : Obj := { cls := (.type "super"), data := .fields #[(.ref 204), (.ref 204), (.ref 204)] }
noncomputable def o208 (P : Params) : Obj := { cls := (.type "builtin_function_or_method"), data := .fields #[(.builtin "object.__init_subclass__"), (.ref 204)] }
noncomputable def o209 (P : Params) : Obj := { cls := (.type "tuple"), data := .seq #[(.ref 204)] 0 }
noncomputable def o210 (P : Params) : Obj := { cls := (.type "builtin_function_or_method"), data := .fields #[(.builtin "type.__prepare__"), (.type "type")] }
noncomputable def o211 (P : Params) : Obj := { cls := (.type "dict"), data := .dict #[ent P (Str.ofString "__module__") 459 (.str (Str.ofString "dulwich.refs") 247), ent P (Str.ofString "__qualname__") 461 (.str (Str.ofString "DictRefsContainer") 460), ent P (Str.ofString "__firstlineno__") 463 (.int 171 462), ent P (Str.ofString "__init__") 471 (.ref 222), ent P (Str.ofString "allkeys") 478 (.ref 229), ent P (Str.ofString "read_loose_ref") 486 (.ref 236), ent P (Str.ofString "get_packed_refs") 493 (.ref 243), ent P (Str.ofString "set_symbolic_ref") 504 (.ref 250), ent P (Str.ofString "set_if_equals") 515 (.ref 257), ent P (Str.ofString "add_if_new") 524 (.ref 264), ent P (Str.ofString "remove_if_equals") 534 (.ref 271), ent P (Str.ofString "get_peeled") 542 (.ref 278), ent P (Str.ofString "__static_attributes__") 545 (.ref 279)] 13 }
noncomputable def o212 (P : Params) : Obj := { cls := (.type "tuple"), data := .seq #[] 0 }
noncomputable def o214 (P : Params) : Obj := { cls := (.type "code"), data := .fields #[(.str (Str.ofString "DictRefsContainer") 454), (.str (Str.ofString "DictRefsContainer") 455), (.str (Str.ofString "/claim/cut.py") 456), (.int 171 0), (.int 0 0), (.int 0 0), (.int 0 0), (.int 0 0), (.ref 212), (.bool false), (.int 181 0), (.ref 213), .none, .none, .none, .none, (.int 457 0), (.int 171 0), (.str (Str.ofString "/claim/cut.py") 458)] }
noncomputable def o216 (P : Params) : Obj := { cls := (.type "tuple"), data := .seq #[] 0 }
noncomputable def o218 (P : Params) : Obj := { cls := (.type "tuple"), data := .seq #[(.str (Str.ofString "self") 467), (.str (Str.ofString "refs") 468)] 0 }
noncomputable def o219 (P : Params) : Obj := { cls := (.type "tuple"), data := .seq #[] 0 }
noncomputable def o221 (P : Params) : Obj := { cls := (.type "code"), data := .fields #[(.str (Str.ofString "__init__") 464), (.str (Str.ofString "DictRefsContainer.__init__") 465), (.str (Str.ofString "/claim/cut.py") 466), (.int 173 0), (.int 2 0), (.int 0 0), (.int 0 0), (.int 3 0), (.ref 216), (.bool true), (.int 181 0), (.ref 217), .none, (.ref 218), (.ref 219), (.ref 220), (.int 469 0), (.int 173 0), (.str (Str.ofString "/claim/cut.py") 470)] }
noncomputable def o222 (P : Params) : Obj := { cls := (.type "function"), data := .func (fdOf (meth 19 0) (Str.ofString "DictRefsContainer.__init__") .none .none (.str (Str.ofString "dulwich.refs") 247) (.ref 221)) }
noncomputable def o223 (P : Params) : Obj := { cls := (.type "tuple"), data := .seq #[] 0 }
noncomputable def o225 (P : Params) : Obj := { cls := (.type "tuple"), data := .seq #[(.str (Str.ofString "self") 475)] 0 }
noncomputable def o226 (P : Params) : Obj := { cls := (.type "tuple"), data := .seq #[] 0 }
noncomputable def o228 (P : Params) : Obj := { cls := (.type "code"), data := .fields #[(.str (Str.ofString "allkeys") 472), (.str (Str.ofString "DictRefsContainer.allkeys") 473), (.str (Str.ofString "/claim/cut.py") 474), (.int 177 0), (.int 1 0), (.int 0 0), (.int 0 0), (.int 3 0), (.ref 223), (.bool true), (.int 181 0), (.ref 224), .none, (.ref 225), (.ref 226), (.ref 227), (.int 476 0), (.int 177 0), (.str (Str.ofString "/claim/cut.py") 477)] }
noncomputable def o229 (P : Params) : Obj := { cls := (.type "function"), data := .func (fdOf (meth 19 1) (Str.ofString "DictRefsContainer.allkeys") .none .none (.str (Str.ofString "dulwich.refs") 247) (.ref 228)) }
noncomputable def o230 (P : Params) : Obj := { cls := (.type "tuple"), data := .seq #[] 0 }
noncomputable def o232 (P : Params) : Obj := { cls := (.type "tuple"), data := .seq #[(.str (Str.ofString "self") 482), (.str (Str.ofString "name") 483)] 0 }
noncomputable def o233 (P : Params) : Obj := { cls := (.type "tuple"), data := .seq #[] 0 }
noncomputable def o235 (P : Params) : Obj := { cls := (.type "code"), data := .fields #[(.str (Str.ofString "read_loose_ref") 479), (.str (Str.ofString "DictRefsContainer.read_loose_ref") 480), (.str (Str.ofString "/claim/cut.py") 481), (.int 180 0), (.int 2 0), (.int 0 0), (.int 0 0), (.int 3 0), (.ref 230), (.bool true), (.int 181 0), (.ref 231), .none, (.ref 232), (.ref 233), (.ref 234), (.int 484 0), (.int 180 0), (.str (Str.ofString "/claim/cut.py") 485)] }
noncomputable def o236 (P : Params) : Obj := { cls := (.type "function"), data := .func (fdOf (meth 19 2) (Str.ofString "DictRefsContainer.read_loose_ref") .none .none (.str (Str.ofString "dulwich.refs") 247) (.ref 235)) }
noncomputable def o237 (P : Params) : Obj := { cls := (.type "tuple"), data := .seq #[] 0 }
noncomputable def o239 (P : Params) : Obj := { cls := (.type "tuple"), data := .seq #[(.str (Str.ofString "self") 490)] 0 }
noncomputable def o240 (P : Params) : Obj := { cls := (.type "tuple"), data := .seq #[] 0 }
noncomputable def o242 (P : Params) : Obj := { cls := (.type "code"), data := .fields #[(.str (Str.ofString "get_packed_refs") 487), (.str (Str.ofString "DictRefsContainer.get_packed_refs") 488), (.str (Str.ofString "/claim/cut.py") 489), (.int 183 0), (.int 1 0), (.int 0 0), (.int 0 0), (.int 3 0), (.ref 237), (.bool true), (.int 181 0), (.ref 238), .none, (.ref 239), (.ref 240), (.ref 241), (.int 491 0), (.int 183 0), (.str (Str.ofString "/claim/cut.py") 492)] }
noncomputable def o243 (P : Params) : Obj := { cls := (.type "function"), data := .func (fdOf (meth 19 3) (Str.ofString "DictRefsContainer.get_packed_refs") .none .none (.str (Str.ofString "dulwich.refs") 247) (.ref 242)) }
noncomputable def o244 (P : Params) : Obj := { cls := (.type "tuple"), data := .seq #[] 0 }
noncomputable def o246 (P : Params) : Obj := { cls := (.type "tuple"), data := .seq #[(.str (Str.ofString "self") 497), (.str (Str.ofString "name") 498), (.str (Str.ofString "other") 499), (.str (Str.ofString "old") 500), (.str (Str.ofString "new") 501)] 0 }
noncomputable def o247 (P : Params) : Obj := { cls := (.type "tuple"), data := .seq #[] 0 }
noncomputable def o249 (P : Params) : Obj := { cls := (.type "code"), data := .fields #[(.str (Str.ofString "set_symbolic_ref") 494), (.str (Str.ofString "DictRefsContainer.set_symbolic_ref") 495), (.str (Str.ofString "/claim/cut.py") 496), (.int 186 0), (.int 3 0), (.int 0 0), (.int 0 0), (.int 3 0), (.ref 244), (.bool true), (.int 181 0), (.ref 245), .none, (.ref 246), (.ref 247), (.ref 248), (.int 502 0), (.int 186 0), (.str (Str.ofString "/claim/cut.py") 503)] }
noncomputable def o250 (P : Params) : Obj := { cls := (.type "function"), data := .func (fdOf (meth 19 4) (Str.ofString "DictRefsContainer.set_symbolic_ref") .none .none (.str (Str.ofString "dulwich.refs") 247) (.ref 249)) }
noncomputable def o251 (P : Params) : Obj := { cls := (.type "tuple"), data := .seq #[] 0 }
noncomputable def o253 (P : Params) : Obj := { cls := (.type "tuple"), data := .seq #[(.str (Str.ofString "self") 508), (.str (Str.ofString "name") 509), (.str (Str.ofString "old_ref") 510), (.str (Str.ofString "new_ref") 511), (.str (Str.ofString "old") 512)] 0 }
noncomputable def o254 (P : Params) : Obj := { cls := (.type "tuple"), data := .seq #[] 0 }
noncomputable def o256 (P : Params) : Obj := { cls := (.type "code"), data := .fields #[(.str (Str.ofString "set_if_equals") 505), (.str (Str.ofString "DictRefsContainer.set_if_equals") 506), (.str (Str.ofString "/claim/cut.py") 507), (.int 191 0), (.int 4 0), (.int 0 0), (.int 0 0), (.int 3 0), (.ref 251), (.bool true), (.int 181 0), (.ref 252), .none, (.ref 253), (.ref 254), (.ref 255), (.int 513 0), (.int 191 0), (.str (Str.ofString "/claim/cut.py") 514)] }
noncomputable def o257 (P : Params) : Obj := { cls := (.type "function"), data := .func (fdOf (meth 19 5) (Str.ofString "DictRefsContainer.set_if_equals") .none .none (.str (Str.ofString "dulwich.refs") 247) (.ref 256)) }
noncomputable def o258 (P : Params) : Obj := { cls := (.type "tuple"), data := .seq #[] 0 }
noncomputable def o260 (P : Params) : Obj := { cls := (.type "tuple"), data := .seq #[(.str (Str.ofString "self") 519), (.str (Str.ofString "name") 520), (.str (Str.ofString "ref") 521)] 0 }
noncomputable def o261 (P : Params) : Obj := { cls := (.type "tuple"), data := .seq #[] 0 }
noncomputable def o263 (P : Params) : Obj := { cls := (.type "code"), data := .fields #[(.str (Str.ofString "add_if_new") 516), (.str (Str.ofString "DictRefsContainer.add_if_new") 517), (.str (Str.ofString "/claim/cut.py") 518), (.int 200 0), (.int 3 0), (.int 0 0), (.int 0 0), (.int 3 0), (.ref 258), (.bool true), (.int 181 0), (.ref 259), .none, (.ref 260), (.ref 261), (.ref 262), (.int 522 0), (.int 200 0), (.str (Str.ofString "/claim/cut.py") 523)] }
noncomputable def o264 (P : Params) : Obj := { cls := (.type "function"), data := .func (fdOf (meth 19 6) (Str.ofString "DictRefsContainer.add_if_new") .none .none (.str (Str.ofString "dulwich.refs") 247) (.ref 263)) }
noncomputable def o265 (P : Params) : Obj := { cls := (.type "tuple"), data := .seq #[] 0 }
noncomputable def o267 (P : Params) : Obj := { cls := (.type "tuple"), data := .seq #[(.str (Str.ofString "self") 528), (.str (Str.ofString "name") 529), (.str (Str.ofString "old_ref") 530), (.str (Str.ofString "old") 531)] 0 }
noncomputable def o268 (P : Params) : Obj := { cls := (.type "tuple"), data := .seq #[] 0 }
noncomputable def o270 (P : Params) : Obj := { cls := (.type "code"), data := .fields #[(.str (Str.ofString "remove_if_equals") 525), (.str (Str.ofString "DictRefsContainer.remove_if_equals") 526), (.str (Str.ofString "/claim/cut.py") 527), (.int 207 0), (.int 3 0), (.int 0 0), (.int 0 0), (.int 3 0), (.ref 265), (.bool true), (.int 181 0), (.ref 266), .none, (.ref 267), (.ref 268), (.ref 269), (.int 532 0), (.int 207 0), (.str (Str.ofString "/claim/cut.py") 533)] }
noncomputable def o271 (P : Params) : Obj := { cls := (.type "function"), data := .func (fdOf (meth 19 7) (Str.ofString "DictRefsContainer.remove_if_equals") .none .none (.str (Str.ofString "dulwich.refs") 247) (.ref 270)) }
noncomputable def o272 (P : Params) : Obj := { cls := (.type "tuple"), data := .seq #[] 0 }
noncomputable def o274 (P : Params) : Obj := { cls := (.type "tuple"), data := .seq #[(.str (Str.ofString "self") 538), (.str (Str.ofString "name") 539)] 0 }
noncomputable def o275 (P : Params) : Obj := { cls := (.type "tuple"), data := .seq #[] 0 }
noncomputable def o277 (P : Params) : Obj := { cls := (.type "code"), data := .fields #[(.str (Str.ofString "get_peeled") 535), (.str (Str.ofString "DictRefsContainer.get_peeled") 536), (.str (Str.ofString "/claim/cut.py") 537), (.int 216 0), (.int 2 0), (.int 0 0), (.int 0 0), (.int 3 0), (.ref 272), (.bool true), (.int 181 0), (.ref 273), .none, (.ref 274), (.ref 275), (.ref 276), (.int 540 0), (.int 216 0), (.str (Str.ofString "/claim/cut.py") 541)] }
noncomputable def o278 (P : Params) : Obj := { cls := (.type "function"), data := .func (fdOf (meth 19 8) (Str.ofString "DictRefsContainer.get_peeled") .none .none (.str (Str.ofString "dulwich.refs") 247) (.ref 277)) }
noncomputable def o279 (P : Params) : Obj := { cls := (.type "tuple"), data := .seq #[(.str (Str.ofString "_peeled") 543), (.str (Str.ofString "_refs") 544)] 0 }
noncomputable def o280 (P : Params) : Obj := { cls := (.type "dict"), data := .dict #[ent P (Str.ofString "__module__") 459 (.str (Str.ofString "dulwich.refs") 247), ent P (Str.ofString "__firstlineno__") 463 (.int 171 462), ent P (Str.ofString "__init__") 471 (.ref 222), ent P (Str.ofString "allkeys") 478 (.ref 229), ent P (Str.ofString "read_loose_ref") 486 (.ref 236), ent P (Str.ofString "get_packed_refs") 493 (.ref 243), ent P (Str.ofString "set_symbolic_ref") 504 (.ref 250), ent P (Str.ofString "set_if_equals") 515 (.ref 257), ent P (Str.ofString "add_if_new") 524 (.ref 264), ent P (Str.ofString "remove_if_equals") 534 (.ref 271), ent P (Str.ofString "get_peeled") 542 (.ref 278), ent P (Str.ofString "__static_attributes__") 545 (.ref 279), ent P (Str.ofString "__doc__") 546 .none] 2 }
noncomputable def o281 (P : Params) : Obj := { cls := (.type "type"), data := .cls { name := (Str.ofString "DictRefsContainer"), bases := [(.ref 204)], mro := [(.ref 281), (.ref 204), (.type "object")], ns := 280, qualname := (Str.ofString "DictRefsContainer"), hasDict := true, subclasses := [] }, slots := #[some (.ref 209), none, some (.str (Str.ofString "DictRefsContainer") 452), some (.str (Str.ofString "DictRefsContainer") 460), some (.builtin "object.__new__"), some (.bool true)] }
noncomputable def o282 (P : Params) : Obj := { cls := (.type "super"), data := .fields #[(.ref 281), (.ref 281), (.ref 281)] }
noncomputable def o283 (P : Params) : Obj := { cls := (.type "builtin_function_or_method"), data := .fields #[(.builtin "object.__init_subclass__"), (.ref 281)] }
noncomputable def o284 (P : Params) : Obj := { cls := (.type "tuple"), data := .seq #[] 0 }
noncomputable def o286 (P : Params) : Obj := { cls := (.type "tuple"), data := .seq #[] 0 }
noncomputable def o287 (P : Params) : Obj := { cls := (.type "tuple"), data := .seq #[] 0 }
noncomputable def o289 (P : Params) : Obj := { cls := (.type "code"), data := .fields #[(.str (Str.ofString "_law_names") 551), (.str (Str.ofString "_law_names") 552), (.str (Str.ofString "/claim/cut.py") 553), (.int 219 0), (.int 0 0), (.int 0 0), (.int 0 0), (.int 3 0), (.ref 284), (.bool true), (.int 181 0), (.ref 285), .none, (.ref 286), (.ref 287), (.ref 288), (.int 554 0), (.int 219 0), (.str (Str.ofString "/claim/cut.py") 555)] }
noncomputable def o290 (P : Params) : Obj := { cls := (.type "function"), data := .func (fdOf (top 21) (Str.ofString "_law_names") .none .none (.str (Str.ofString "law_jg0026_01") 549) (.ref 289)) }
noncomputable def o291 (P : Params) : Obj := { cls := (.type "list"), data := .seq #[(.bytes #[97] 557), (.bytes #[47] 558), (.bytes #[46] 559), (.bytes #[64] 560), (.bytes #[123] 561), (.bytes #[46, 108, 111, 99, 107] 562), (.bytes #[126] 563), (.bytes #[32] 564), (.bytes #[31] 565), (.bytes #[98] 566), (.bytes #[92] 567), (.bytes #[42] 568), (.bytes #[127] 569), (.bytes #[233] 570), (.bytes #[94] 571), (.bytes #[58] 572), (.bytes #[63] 573), (.bytes #[91] 574), (.bytes #[10] 575)] 0 }
noncomputable def o292 (P : Params) : Obj := { cls := (.type "tuple"), data := .seq #[] 0 }
noncomputable def o294 (P : Params) : Obj := { cls := (.type "tuple"), data := .seq #[(.str (Str.ofString "state") 580), (.str (Str.ofString "size") 581), (.str (Str.ofString "place") 582)] 0 }
noncomputable def o295 (P : Params) : Obj := { cls := (.type "tuple"), data := .seq #[] 0 }
noncomputable def o297 (P : Params) : Obj := { cls := (.type "code"), data := .fields #[(.str (Str.ofString "_law_next") 577), (.str (Str.ofString "_law_next") 578), (.str (Str.ofString "/claim/cut.py") 579), (.int 222 0), (.int 2 0), (.int 0 0), (.int 0 0), (.int 3 0), (.ref 292), (.bool true), (.int 181 0), (.ref 293), .none, (.ref 294), (.ref 295), (.ref 296), (.int 583 0), (.int 222 0), (.str (Str.ofString "/claim/cut.py") 584)] }
noncomputable def o298 (P : Params) : Obj := { cls := (.type "function"), data := .func (fdOf (top 23) (Str.ofString "_law_next") .none .none (.str (Str.ofString "law_jg0026_01") 549) (.ref 297)) }
noncomputable def o299 (P : Params) : Obj := { cls := (.type "tuple"), data := .seq #[] 0 }
noncomputable def o302 (P : Params) : Obj := { cls := (.type "code"), data := .fields #[(.str (Str.ofString "_law_state") 586), (.str (Str.ofString "_law_state") 587), (.str (Str.ofString "/claim/cut.py") 588), (.int 228 0), (.int 1 0), (.int 0 0), (.int 0 0), (.int 3 0), (.ref 299), (.bool true), (.int 181 0), (.ref 300), .none, .none, .none, (.ref 301), (.int 589 0), (.int 228 0), (.str (Str.ofString "/claim/cut.py") 590)] }
noncomputable def o303 (P : Params) : Obj := { cls := (.type "function"), data := .func (fdOf (top 24) (Str.ofString "_law_state") .none .none (.str (Str.ofString "law_jg0026_01") 549) (.ref 302)) }
noncomputable def o304 (P : Params) : Obj := { cls := (.type "tuple"), data := .seq #[] 0 }
noncomputable def o306 (P : Params) : Obj := { cls := (.type "tuple"), data := .seq #[(.str (Str.ofString "state") 595), (.str (Str.ofString "kind") 596)] 0 }
noncomputable def o307 (P : Params) : Obj := { cls := (.type "tuple"), data := .seq #[] 0 }
noncomputable def o309 (P : Params) : Obj := { cls := (.type "code"), data := .fields #[(.str (Str.ofString "_law_value") 592), (.str (Str.ofString "_law_value") 593), (.str (Str.ofString "/claim/cut.py") 594), (.int 230 0), (.int 1 0), (.int 0 0), (.int 0 0), (.int 3 0), (.ref 304), (.bool true), (.int 181 0), (.ref 305), .none, (.ref 306), (.ref 307), (.ref 308), (.int 597 0), (.int 230 0), (.str (Str.ofString "/claim/cut.py") 598)] }
noncomputable def o310 (P : Params) : Obj := { cls := (.type "function"), data := .func (fdOf (top 25) (Str.ofString "_law_value") .none .none (.str (Str.ofString "law_jg0026_01") 549) (.ref 309)) }
noncomputable def o311 (P : Params) : Obj := { cls := (.type "tuple"), data := .seq #[] 0 }
noncomputable def o314 (P : Params) : Obj := { cls := (.type "code"), data := .fields #[(.str (Str.ofString "_law_may_stand") 600), (.str (Str.ofString "_law_may_stand") 601), (.str (Str.ofString "/claim/cut.py") 602), (.int 237 0), (.int 1 0), (.int 0 0), (.int 0 0), (.int 3 0), (.ref 311), (.bool true), (.int 181 0), (.ref 312), .none, .none, .none, (.ref 313), (.int 603 0), (.int 237 0), (.str (Str.ofString "/claim/cut.py") 604)] }
noncomputable def o315 (P : Params) : Obj := { cls := (.type "function"), data := .func (fdOf (top 26) (Str.ofString "_law_may_stand") .none .none (.str (Str.ofString "law_jg0026_01") 549) (.ref 314)) }
noncomputable def o316 (P : Params) : Obj := { cls := (.type "tuple"), data := .seq #[] 0 }
noncomputable def o318 (P : Params) : Obj := { cls := (.type "tuple"), data := .seq #[(.str (Str.ofString "name") 609)] 0 }
noncomputable def o319 (P : Params) : Obj := { cls := (.type "tuple"), data := .seq #[] 0 }
noncomputable def o321 (P : Params) : Obj := { cls := (.type "code"), data := .fields #[(.str (Str.ofString "_law_named") 606), (.str (Str.ofString "_law_named") 607), (.str (Str.ofString "/claim/cut.py") 608), (.int 250 0), (.int 1 0), (.int 0 0), (.int 0 0), (.int 3 0), (.ref 316), (.bool true), (.int 181 0), (.ref 317), .none, (.ref 318), (.ref 319), (.ref 320), (.int 610 0), (.int 250 0), (.str (Str.ofString "/claim/cut.py") 611)] }
noncomputable def o322 (P : Params) : Obj := { cls := (.type "function"), data := .func (fdOf (top 27) (Str.ofString "_law_named") .none .none (.str (Str.ofString "law_jg0026_01") 549) (.ref 321)) }
noncomputable def o323 (P : Params) : Obj := { cls := (.type "tuple"), data := .seq #[] 0 }
noncomputable def o325 (P : Params) : Obj := { cls := (.type "tuple"), data := .seq #[(.str (Str.ofString "value") 616)] 0 }
noncomputable def o326 (P : Params) : Obj := { cls := (.type "tuple"), data := .seq #[] 0 }
noncomputable def o328 (P : Params) : Obj := { cls := (.type "code"), data := .fields #[(.str (Str.ofString "_law_valued") 613), (.str (Str.ofString "_law_valued") 614), (.str (Str.ofString "/claim/cut.py") 615), (.int 252 0), (.int 1 0), (.int 0 0), (.int 0 0), (.int 3 0), (.ref 323), (.bool true), (.int 181 0), (.ref 324), .none, (.ref 325), (.ref 326), (.ref 327), (.int 617 0), (.int 252 0), (.str (Str.ofString "/claim/cut.py") 618)] }
noncomputable def o329 (P : Params) : Obj := { cls := (.type "function"), data := .func (fdOf (top 28) (Str.ofString "_law_valued") .none .none (.str (Str.ofString "law_jg0026_01") 549) (.ref 328)) }
noncomputable def o330 (P : Params) : Obj := { cls := (.type "tuple"), data := .seq #[] 0 }
noncomputable def o332 (P : Params) : Obj := { cls := (.type "tuple"), data := .seq #[(.str (Str.ofString "model") 623), (.str (Str.ofString "name") 624), (.str (Str.ofString "way") 625), (.str (Str.ofString "value") 626)] 0 }
noncomputable def o333 (P : Params) : Obj := { cls := (.type "tuple"), data := .seq #[] 0 }
noncomputable def o335 (P : Params) : Obj := { cls := (.type "code"), data := .fields #[(.str (Str.ofString "_law_way") 620), (.str (Str.ofString "_law_way") 621), (.str (Str.ofString "/claim/cut.py") 622), (.int 254 0), (.int 2 0), (.int 0 0), (.int 0 0), (.int 3 0), (.ref 330), (.bool true), (.int 181 0), (.ref 331), .none, (.ref 332), (.ref 333), (.ref 334), (.int 627 0), (.int 254 0), (.str (Str.ofString "/claim/cut.py") 628)] }
noncomputable def o336 (P : Params) : Obj := { cls := (.type "function"), data := .func (fdOf (top 29) (Str.ofString "_law_way") .none .none (.str (Str.ofString "law_jg0026_01") 549) (.ref 335)) }
noncomputable def o337 (P : Params) : Obj := { cls := (.type "tuple"), data := .seq #[] 0 }
noncomputable def o339 (P : Params) : Obj := { cls := (.type "tuple"), data := .seq #[(.str (Str.ofString "action") 633)] 0 }
noncomputable def o340 (P : Params) : Obj := { cls := (.type "tuple"), data := .seq #[] 0 }
noncomputable def o342 (P : Params) : Obj := { cls := (.type "code"), data := .fields #[(.str (Str.ofString "_law_answer") 630), (.str (Str.ofString "_law_answer") 631), (.str (Str.ofString "/claim/cut.py") 632), (.int 263 0), (.int 1 0), (.int 0 0), (.int 0 0), (.int 3 0), (.ref 337), (.bool true), (.int 181 0), (.ref 338), .none, (.ref 339), (.ref 340), (.ref 341), (.int 634 0), (.int 263 0), (.str (Str.ofString "/claim/cut.py") 635)] }
noncomputable def o343 (P : Params) : Obj := { cls := (.type "function"), data := .func (fdOf (top 30) (Str.ofString "_law_answer") .none .none (.str (Str.ofString "law_jg0026_01") 549) (.ref 342)) }
noncomputable def o344 (P : Params) : Obj := { cls := (.type "tuple"), data := .seq #[] 0 }
noncomputable def o346 (P : Params) : Obj := { cls := (.type "tuple"), data := .seq #[(.str (Str.ofString "kept") 640), (.str (Str.ofString "name") 641), (.str (Str.ofString "value") 642)] 0 }
noncomputable def o347 (P : Params) : Obj := { cls := (.type "tuple"), data := .seq #[] 0 }
noncomputable def o349 (P : Params) : Obj := { cls := (.type "code"), data := .fields #[(.str (Str.ofString "_law_set") 637), (.str (Str.ofString "_law_set") 638), (.str (Str.ofString "/claim/cut.py") 639), (.int 274 0), (.int 3 0), (.int 0 0), (.int 0 0), (.int 3 0), (.ref 344), (.bool true), (.int 181 0), (.ref 345), .none, (.ref 346), (.ref 347), (.ref 348), (.int 643 0), (.int 274 0), (.str (Str.ofString "/claim/cut.py") 644)] }
noncomputable def o350 (P : Params) : Obj := { cls := (.type "function"), data := .func (fdOf (top 31) (Str.ofString "_law_set") .none .none (.str (Str.ofString "law_jg0026_01") 549) (.ref 349)) }
noncomputable def o351 (P : Params) : Obj := { cls := (.type "tuple"), data := .seq #[] 0 }
noncomputable def o353 (P : Params) : Obj := { cls := (.type "tuple"), data := .seq #[(.str (Str.ofString "kept") 649), (.str (Str.ofString "name") 650)] 0 }
noncomputable def o354 (P : Params) : Obj := { cls := (.type "tuple"), data := .seq #[] 0 }
noncomputable def o356 (P : Params) : Obj := { cls := (.type "code"), data := .fields #[(.str (Str.ofString "_law_out") 646), (.str (Str.ofString "_law_out") 647), (.str (Str.ofString "/claim/cut.py") 648), (.int 277 0), (.int 2 0), (.int 0 0), (.int 0 0), (.int 3 0), (.ref 351), (.bool true), (.int 181 0), (.ref 352), .none, (.ref 353), (.ref 354), (.ref 355), (.int 651 0), (.int 277 0), (.str (Str.ofString "/claim/cut.py") 652)] }
noncomputable def o357 (P : Params) : Obj := { cls := (.type "function"), data := .func (fdOf (top 32) (Str.ofString "_law_out") .none .none (.str (Str.ofString "law_jg0026_01") 549) (.ref 356)) }
noncomputable def o358 (P : Params) : Obj := { cls := (.type "tuple"), data := .seq #[] 0 }
noncomputable def o359 (P : Params) : Obj := { cls := .none, data := .fields #[] }
noncomputable def o360 (P : Params) : Obj := { cls := (.type "tuple"), data := .seq #[(.str (Str.ofString "state") 657), (.str (Str.ofString "kept") 658), (.str (Str.ofString "model") 659), (.str (Str.ofString "deed") 660), (.str (Str.ofString "told") 661), (.str (Str.ofString "due") 662)] 0 }
noncomputable def o361 (P : Params) : Obj := { cls := (.type "tuple"), data := .seq #[(.str (Str.ofString "kept") 663), (.str (Str.ofString "name") 664), (.str (Str.ofString "old") 665), (.str (Str.ofString "other") 666), (.str (Str.ofString "value") 667)] 0 }
noncomputable def o363 (P : Params) : Obj := { cls := (.type "code"), data := .fields #[(.str (Str.ofString "_law_deed") 654), (.str (Str.ofString "_law_deed") 655), (.str (Str.ofString "/claim/cut.py") 656), (.int 280 0), (.int 3 0), (.int 0 0), (.int 0 0), (.int 3 0), (.ref 358), (.bool true), (.int 181 0), (.ref 359), .none, (.ref 360), (.ref 361), (.ref 362), (.int 668 0), (.int 280 0), (.str (Str.ofString "/claim/cut.py") 669)] }
noncomputable def o364 (P : Params) : Obj := { cls := (.type "function"), data := .func (fdOf (top 33) (Str.ofString "_law_deed") .none .none (.str (Str.ofString "law_jg0026_01") 549) (.ref 363)) }
noncomputable def o365 (P : Params) : Obj := { cls := (.type "tuple"), data := .seq #[] 0 }
noncomputable def o366 (P : Params) : Obj := { cls := .none, data := .fields #[] }
noncomputable def o368 (P : Params) : Obj := { cls := (.type "code"), data := .fields #[(.str (Str.ofString "_law_alike") 671), (.str (Str.ofString "_law_alike") 672), (.str (Str.ofString "/claim/cut.py") 673), (.int 321 0), (.int 2 0), (.int 0 0), (.int 0 0), (.int 3 0), (.ref 365), (.bool true), (.int 181 0), (.ref 366), .none, .none, .none, (.ref 367), (.int 674 0), (.int 321 0), (.str (Str.ofString "/claim/cut.py") 675)] }
noncomputable def o369 (P : Params) : Obj := { cls := (.type "function"), data := .func (fdOf (top 34) (Str.ofString "_law_alike") .none .none (.str (Str.ofString "law_jg0026_01") 549) (.ref 368)) }
noncomputable def o370 (P : Params) : Obj := { cls := (.type "tuple"), data := .seq #[] 0 }
noncomputable def o373 (P : Params) : Obj := { cls := (.type "code"), data := .fields #[(.str (Str.ofString "law") 677), (.str (Str.ofString "law") 678), (.str (Str.ofString "/claim/cut.py") 679), (.int 340 0), (.int 1 0), (.int 0 0), (.int 0 0), (.int 3 0), (.ref 370), (.bool true), (.int 181 0), (.ref 371), .none, .none, .none, (.ref 372), (.int 680 0), (.int 340 0), (.str (Str.ofString "/claim/cut.py") 681)] }
noncomputable def o374 (P : Params) : Obj := { cls := (.type "function"), data := .func (fdOf (top 35) (Str.ofString "law") .none .none (.str (Str.ofString "law_jg0026_01") 549) (.ref 373)) }
noncomputable def K (P : Params) : Frag :=
  (nat_lit 1, o1 P) ::
  (nat_lit 3, o3 P) ::
  (nat_lit 4, o4 P) ::
  (nat_lit 5, o5 P) ::
  (nat_lit 6, o6 P) ::
  (nat_lit 7, o7 P) ::
  (nat_lit 9, o9 P) ::
  (nat_lit 11, o11 P) ::
  (nat_lit 13, o13 P) ::
  (nat_lit 15, o15 P) ::
  (nat_lit 17, o17 P) ::
  (nat_lit 18, o18 P) ::
  (nat_lit 20, o20 P) ::
  (nat_lit 21, o21 P) ::
  (nat_lit 22, o22 P) ::
  (nat_lit 23, o23 P) ::
  (nat_lit 24, o24 P) ::
  (nat_lit 25, o25 P) ::
  (nat_lit 27, o27 P) ::
  (nat_lit 29, o29 P) ::
  (nat_lit 30, o30 P) ::
  (nat_lit 31, o31 P) ::
  (nat_lit 32, o32 P) ::
  (nat_lit 33, o33 P) ::
  (nat_lit 34, o34 P) ::
  (nat_lit 35, o35 P) ::
  (nat_lit 37, o37 P) ::
  (nat_lit 38, o38 P) ::
  (nat_lit 40, o40 P) ::
  (nat_lit 41, o41 P) ::
  (nat_lit 42, o42 P) ::
  (nat_lit 45, o45 P) ::
  (nat_lit 46, o46 P) ::
  (nat_lit 47, o47 P) ::
  (nat_lit 49, o49 P) ::
  (nat_lit 50, o50 P) ::
  (nat_lit 52, o52 P) ::
  (nat_lit 53, o53 P) ::
  (nat_lit 54, o54 P) ::
  (nat_lit 56, o56 P) ::
  (nat_lit 57, o57 P) ::
  (nat_lit 59, o59 P) ::
  (nat_lit 60, o60 P) ::
  (nat_lit 61, o61 P) ::
  (nat_lit 63, o63 P) ::
  (nat_lit 64, o64 P) ::
  (nat_lit 66, o66 P) ::
  (nat_lit 67, o67 P) ::
  (nat_lit 68, o68 P) ::
  (nat_lit 69, o69 P) ::
  (nat_lit 70, o70 P) ::
  (nat_lit 71, o71 P) ::
  (nat_lit 73, o73 P) ::
  (nat_lit 75, o75 P) ::
  (nat_lit 77, o77 P) ::
  (nat_lit 78, o78 P) ::
  (nat_lit 80, o80 P) ::
  (nat_lit 81, o81 P) ::
  (nat_lit 82, o82 P) ::
  (nat_lit 83, o83 P) ::
  (nat_lit 84, o84 P) ::
  (nat_lit 85, o85 P) ::
  (nat_lit 86, o86 P) ::
  (nat_lit 87, o87 P) ::
  (nat_lit 88, o88 P) ::
  (nat_lit 90, o90 P) ::
  (nat_lit 91, o91 P) ::
  (nat_lit 93, o93 P) ::
  (nat_lit 94, o94 P) ::
  (nat_lit 95, o95 P) ::
  (nat_lit 97, o97 P) ::
  (nat_lit 98, o98 P) ::
  (nat_lit 100, o100 P) ::
  (nat_lit 101, o101 P) ::
  (nat_lit 102, o102 P) ::
  (nat_lit 104, o104 P) ::
  (nat_lit 105, o105 P) ::
  (nat_lit 107, o107 P) ::
  (nat_lit 108, o108 P) ::
  (nat_lit 109, o109 P) ::
  (nat_lit 110, o110 P) ::
  (nat_lit 111, o111 P) ::
  (nat_lit 112, o112 P) ::
  (nat_lit 114, o114 P) ::
  (nat_lit 116, o116 P) ::
  (nat_lit 117, o117 P) ::
  (nat_lit 119, o119 P) ::
  (nat_lit 120, o120 P) ::
  (nat_lit 122, o122 P) ::
  (nat_lit 123, o123 P) ::
  (nat_lit 124, o124 P) ::
  (nat_lit 126, o126 P) ::
  (nat_lit 127, o127 P) ::
  (nat_lit 129, o129 P) ::
  (nat_lit 130, o130 P) ::
  (nat_lit 131, o131 P) ::
  (nat_lit 132, o132 P) ::
  (nat_lit 134, o134 P) ::
  (nat_lit 135, o135 P) ::
  (nat_lit 137, o137 P) ::
  (nat_lit 138, o138 P) ::
  (nat_lit 139, o139 P) ::
  (nat_lit 141, o141 P) ::
  (nat_lit 142, o142 P) ::
  (nat_lit 144, o144 P) ::
  (nat_lit 145, o145 P) ::
  (nat_lit 146, o146 P) ::
  (nat_lit 148, o148 P) ::
  (nat_lit 149, o149 P) ::
  (nat_lit 151, o151 P) ::
  (nat_lit 152, o152 P) ::
  (nat_lit 153, o153 P) ::
  (nat_lit 155, o155 P) ::
  (nat_lit 156, o156 P) ::
  (nat_lit 158, o158 P) ::
  (nat_lit 159, o159 P) ::
  (nat_lit 160, o160 P) ::
  (nat_lit 162, o162 P) ::
  (nat_lit 163, o163 P) ::
  (nat_lit 165, o165 P) ::
  (nat_lit 166, o166 P) ::
  (nat_lit 167, o167 P) ::
  (nat_lit 169, o169 P) ::
  (nat_lit 170, o170 P) ::
  (nat_lit 172, o172 P) ::
  (nat_lit 173, o173 P) ::
  (nat_lit 174, o174 P) ::
  (nat_lit 176, o176 P) ::
  (nat_lit 177, o177 P) ::
  (nat_lit 179, o179 P) ::
  (nat_lit 180, o180 P) ::
  (nat_lit 181, o181 P) ::
  (nat_lit 183, o183 P) ::
  (nat_lit 184, o184 P) ::
  (nat_lit 186, o186 P) ::
  (nat_lit 187, o187 P) ::
  (nat_lit 188, o188 P) ::
  (nat_lit 190, o190 P) ::
  (nat_lit 191, o191 P) ::
  (nat_lit 193, o193 P) ::
  (nat_lit 194, o194 P) ::
  (nat_lit 195, o195 P) ::
  (nat_lit 197, o197 P) ::
  (nat_lit 198, o198 P) ::
  (nat_lit 200, o200 P) ::
  (nat_lit 201, o201 P) ::
  (nat_lit 202, o202 P) ::
  (nat_lit 203, o203 P) ::
  (nat_lit 204, o204 P) ::
  (nat_lit 205, o205 P) ::
  (nat_lit 206, o206 P) ::
  (nat_lit 207, o207 P) ::
  (nat_lit 208, o208 P) ::
  (nat_lit 209, o209 P) ::
  (nat_lit 210, o210 P) ::
  (nat_lit 211, o211 P) ::
  (nat_lit 212, o212 P) ::
  (nat_lit 214, o214 P) ::
  (nat_lit 216, o216 P) ::
  (nat_lit 218, o218 P) ::
  (nat_lit 219, o219 P) ::
  (nat_lit 221, o221 P) ::
  (nat_lit 222, o222 P) ::
  (nat_lit 223, o223 P) ::
  (nat_lit 225, o225 P) ::
  (nat_lit 226, o226 P) ::
  (nat_lit 228, o228 P) ::
  (nat_lit 229, o229 P) ::
  (nat_lit 230, o230 P) ::
  (nat_lit 232, o232 P) ::
  (nat_lit 233, o233 P) ::
  (nat_lit 235, o235 P) ::
  (nat_lit 236, o236 P) ::
  (nat_lit 237, o237 P) ::
  (nat_lit 239, o239 P) ::
  (nat_lit 240, o240 P) ::
  (nat_lit 242, o242 P) ::
  (nat_lit 243, o243 P) ::
  (nat_lit 244, o244 P) ::
  (nat_lit 246, o246 P) ::
  (nat_lit 247, o247 P) ::
  (nat_lit 249, o249 P) ::
  (nat_lit 250, o250 P) ::
  (nat_lit 251, o251 P) ::
  (nat_lit 253, o253 P) ::
  (nat_lit 254, o254 P) ::
  (nat_lit 256, o256 P) ::
  (nat_lit 257, o257 P) ::
  (nat_lit 258, o258 P) ::
  (nat_lit 260, o260 P) ::
  (nat_lit 261, o261 P) ::
  (nat_lit 263, o263 P) ::
  (nat_lit 264, o264 P) ::
  (nat_lit 265, o265 P) ::
  (nat_lit 267, o267 P) ::
  (nat_lit 268, o268 P) ::
  (nat_lit 270, o270 P) ::
  (nat_lit 271, o271 P) ::
  (nat_lit 272, o272 P) ::
  (nat_lit 274, o274 P) ::
  (nat_lit 275, o275 P) ::
  (nat_lit 277, o277 P) ::
  (nat_lit 278, o278 P) ::
  (nat_lit 279, o279 P) ::
  (nat_lit 280, o280 P) ::
  (nat_lit 281, o281 P) ::
  (nat_lit 282, o282 P) ::
  (nat_lit 283, o283 P) ::
  (nat_lit 284, o284 P) ::
  (nat_lit 286, o286 P) ::
  (nat_lit 287, o287 P) ::
  (nat_lit 289, o289 P) ::
  (nat_lit 290, o290 P) ::
  (nat_lit 291, o291 P) ::
  (nat_lit 292, o292 P) ::
  (nat_lit 294, o294 P) ::
  (nat_lit 295, o295 P) ::
  (nat_lit 297, o297 P) ::
  (nat_lit 298, o298 P) ::
  (nat_lit 299, o299 P) ::
  (nat_lit 302, o302 P) ::
  (nat_lit 303, o303 P) ::
  (nat_lit 304, o304 P) ::
  (nat_lit 306, o306 P) ::
  (nat_lit 307, o307 P) ::
  (nat_lit 309, o309 P) ::
  (nat_lit 310, o310 P) ::
  (nat_lit 311, o311 P) ::
  (nat_lit 314, o314 P) ::
  (nat_lit 315, o315 P) ::
  (nat_lit 316, o316 P) ::
  (nat_lit 318, o318 P) ::
  (nat_lit 319, o319 P) ::
  (nat_lit 321, o321 P) ::
  (nat_lit 322, o322 P) ::
  (nat_lit 323, o323 P) ::
  (nat_lit 325, o325 P) ::
  (nat_lit 326, o326 P) ::
  (nat_lit 328, o328 P) ::
  (nat_lit 329, o329 P) ::
  (nat_lit 330, o330 P) ::
  (nat_lit 332, o332 P) ::
  (nat_lit 333, o333 P) ::
  (nat_lit 335, o335 P) ::
  (nat_lit 336, o336 P) ::
  (nat_lit 337, o337 P) ::
  (nat_lit 339, o339 P) ::
  (nat_lit 340, o340 P) ::
  (nat_lit 342, o342 P) ::
  (nat_lit 343, o343 P) ::
  (nat_lit 344, o344 P) ::
  (nat_lit 346, o346 P) ::
  (nat_lit 347, o347 P) ::
  (nat_lit 349, o349 P) ::
  (nat_lit 350, o350 P) ::
  (nat_lit 351, o351 P) ::
  (nat_lit 353, o353 P) ::
  (nat_lit 354, o354 P) ::
  (nat_lit 356, o356 P) ::
  (nat_lit 357, o357 P) ::
  (nat_lit 358, o358 P) ::
  (nat_lit 359, o359 P) ::
  (nat_lit 360, o360 P) ::
  (nat_lit 361, o361 P) ::
  (nat_lit 363, o363 P) ::
  (nat_lit 364, o364 P) ::
  (nat_lit 365, o365 P) ::
  (nat_lit 366, o366 P) ::
  (nat_lit 368, o368 P) ::
  (nat_lit 369, o369 P) ::
  (nat_lit 370, o370 P) ::
  (nat_lit 373, o373 P) ::
  (nat_lit 374, o374 P) :: []
noncomputable def as : List Addr := [1, 3, 4, 5, 6, 7, 9, 11, 13, 15, 17, 18, 20, 21, 22, 23, 24, 25, 27, 29, 30, 31, 32, 33, 34, 35, 37, 38, 40, 41, 42, 45, 46, 47, 49, 50, 52, 53, 54, 56, 57, 59, 60, 61, 63, 64, 66, 67, 68, 69, 70, 71, 73, 75, 77, 78, 80, 81, 82, 83, 84, 85, 86, 87, 88, 90, 91, 93, 94, 95, 97, 98, 100, 101, 102, 104, 105, 107, 108, 109, 110, 111, 112, 114, 116, 117, 119, 120, 122, 123, 124, 126, 127, 129, 130, 131, 132, 134, 135, 137, 138, 139, 141, 142, 144, 145, 146, 148, 149, 151, 152, 153, 155, 156, 158, 159, 160, 162, 163, 165, 166, 167, 169, 170, 172, 173, 174, 176, 177, 179, 180, 181, 183, 184, 186, 187, 188, 190, 191, 193, 194, 195, 197, 198, 200, 201, 202, 203, 204, 205, 206, 207, 208, 209, 210, 211, 212, 214, 216, 218, 219, 221, 222, 223, 225, 226, 228, 229, 230, 232, 233, 235, 236, 237, 239, 240, 242, 243, 244, 246, 247, 249, 250, 251, 253, 254, 256, 257, 258, 260, 261, 263, 264, 265, 267, 268, 270, 271, 272, 274, 275, 277, 278, 279, 280, 281, 282, 283, 284, 286, 287, 289, 290, 291, 292, 294, 295, 297, 298, 299, 302, 303, 304, 306, 307, 309, 310, 311, 314, 315, 316, 318, 319, 321, 322, 323, 325, 326, 328, 329, 330, 332, 333, 335, 336, 337, 339, 340, 342, 343, 344, 346, 347, 349, 350, 351, 353, 354, 356, 357, 358, 359, 360, 361, 363, 364, 365, 366, 368, 369, 370, 373, 374]
noncomputable def q : Program := view pw [35]
noncomputable def loose : List Str := [Str.ofString "_wall", Str.ofString "RefFormatError", Str.ofString "_digit", Str.ofString "unhexlify", Str.ofString "ObjectID", Str.ofString "ZERO_SHA", Str.ofString "valid_hexsha", Str.ofString "HEADREF", Str.ofString "SYMREF", Str.ofString "BAD_REF_CHARS", Str.ofString "Ref", Str.ofString "SymrefLoop", Str.ofString "parse_symref_value", Str.ofString "check_ref_format", Str.ofString "_collapse_slashes", Str.ofString "RefsContainer", Str.ofString "DictRefsContainer", Str.ofString "_law_names", Str.ofString "_law_parts", Str.ofString "_law_next", Str.ofString "_law_state", Str.ofString "_law_value", Str.ofString "_law_may_stand", Str.ofString "_law_named", Str.ofString "_law_valued", Str.ofString "_law_way", Str.ofString "_law_answer", Str.ofString "_law_set", Str.ofString "_law_out", Str.ofString "_law_deed", Str.ofString "_law_alike"]
end Mine
end
section
open PySem PySem.W PySem.W.X PyProof.Rows
set_option maxHeartbeats 0
namespace Mine
noncomputable def cO (st : Stmt) (qual : Str) : Obj := match st with
  | .FunctionDef name args body _ _ _ scope _ _ _ => { cls := .none, data := .func { name, qualname := qual, params := args, body := .stmts body, scope, globals := 0, closure := [], defaults := .none, kwdefaults := .none } }
  | _ => { cls := .none, data := .plain }
noncomputable def xHa_12 (P : Params) : Obj := { cls := .none, data := .fields #[] }
noncomputable def xHa_14 (P : Params) : Obj := { cls := (.type "frame"), data := .plain, slots := #[some (.ref 13), some (.ref 3), some (.ref 3), none, some (.str (Str.ofString "__main__") 164), none, some (.ref 0)] }
noncomputable def Ha (P : Params) : Heap := ⟨⟨boot_o_0 P :: o1 P :: boot_o_2 P :: boot_o_3 P :: o4 P :: o5 P :: o6 P :: o7 P :: boot_o_8 P :: o9 P :: boot_o_10 P :: o11 P :: xHa_12 P :: o13 P :: xHa_14 P :: []⟩, {}⟩
noncomputable def xH1_2 (P : Params) : Obj := { cls := .none, data := .dict #[ent P (Str.ofString "type.__subclasses__.Exception.0") 212 (.int 31 0), ent P (Str.ofString "type.__subclasses__.Exception.n") 213 (.int 2 0), ent P (Str.ofString "type.__subclasses__.Exception.1") 289 (.int 84 0)] 3 }
noncomputable def xH1_3 (P : Params) : Obj := { cls := (.type "dict"), data := .dict #[ent P (Str.ofString "__name__") 165 (.str (Str.ofString "dulwich.refs") 247), ent P (Str.ofString "__doc__") 166 .none, ent P (Str.ofString "__package__") 167 .none, ent P (Str.ofString "__loader__") 168 (.builtin "__main__.__loader__#opaque"), ent P (Str.ofString "__spec__") 169 .none, ent P (Str.ofString "__annotations__") 170 (.ref 6), ent P (Str.ofString "__builtins__") 171 (.ref 4), ent P (Str.ofString "__file__") 173 (.str (Str.ofString "/claim/cut.py") 172), ent P (Str.ofString "__cached__") 174 .none, ent P (Str.ofString "_wall") 193 (.ref 21), ent P (Str.ofString "RefFormatError") 215 (.ref 31), ent P (Str.ofString "_digit") 224 (.ref 41), ent P (Str.ofString "unhexlify") 230 (.ref 46), ent P (Str.ofString "ObjectID") 237 (.ref 53), ent P (Str.ofString "ZERO_SHA") 239 (.bytes #[48, 48, 48, 48, 48, 48, 48, 48, 48, 48, 48, 48, 48, 48, 48, 48, 48, 48, 48, 48, 48, 48, 48, 48, 48, 48, 48, 48, 48, 48, 48, 48, 48, 48, 48, 48, 48, 48, 48, 48] 238), ent P (Str.ofString "valid_hexsha") 246 (.ref 60), ent P (Str.ofString "HEADREF") 250 (.bytes #[72, 69, 65, 68] 249), ent P (Str.ofString "SYMREF") 252 (.bytes #[114, 101, 102, 58, 32] 251), ent P (Str.ofString "BAD_REF_CHARS") 254 (.bytes #[127, 32, 126, 94, 58, 63, 42, 91] 253), ent P (Str.ofString "Ref") 261 (.ref 67), ent P (Str.ofString "SymrefLoop") 292 (.ref 84), ent P (Str.ofString "parse_symref_value") 299 (.ref 94), ent P (Str.ofString "check_ref_format") 309 (.ref 101), ent P (Str.ofString "_collapse_slashes") 316 (.ref 108)] 24 }
noncomputable def xH1_12 (P : Params) : Obj := { cls := .none, data := .fields #[(.int 1 0), (.int 0 0), (.ref 20), (.int 5 0), (.int 0 0), (.ref 27), (.int 8 0), (.int 0 0), (.ref 40), (.int 16 0), (.int 0 0), (.ref 45), (.int 20 0), (.int 0 0), (.ref 52), (.int 23 0), (.int 0 0), (.ref 59), (.int 36 0), (.int 0 0), (.ref 66), (.int 38 0), (.int 0 0), (.ref 73), (.int 43 0), (.int 0 0), (.ref 93), (.int 47 0), (.int 0 0), (.ref 100), (.int 71 0), (.int 0 0), (.ref 107)] }
noncomputable def xH1_16 (P : Params) : Obj := { cls := .none, data := .fields #[] }
noncomputable def xH1_19 (P : Params) : Obj := cO (top 0) (Str.ofString "_wall")
noncomputable def xH1_26 (P : Params) : Obj := { cls := .none, data := .fields #[] }
noncomputable def xH1_28 (P : Params) : Obj := { cls := (.type "frame"), data := .plain, slots := #[some (.ref 27), some (.ref 3), some (.ref 24), none, some (.str (Str.ofString "dulwich.errors") 194), none, some (.ref 0)] }
noncomputable def xH1_36 (P : Params) : Obj := { cls := .none, data := .fields #[] }
noncomputable def xH1_39 (P : Params) : Obj := cO (top 4) (Str.ofString "_digit")
noncomputable def xH1_43 (P : Params) : Obj := { cls := .none, data := .fields #[] }
noncomputable def xH1_44 (P : Params) : Obj := cO (top 5) (Str.ofString "unhexlify")
noncomputable def xH1_48 (P : Params) : Obj := { cls := .none, data := .fields #[] }
noncomputable def xH1_51 (P : Params) : Obj := cO (top 6) (Str.ofString "ObjectID")
noncomputable def xH1_55 (P : Params) : Obj := { cls := .none, data := .fields #[] }
noncomputable def xH1_58 (P : Params) : Obj := cO (top 8) (Str.ofString "valid_hexsha")
noncomputable def xH1_62 (P : Params) : Obj := { cls := .none, data := .fields #[] }
noncomputable def xH1_65 (P : Params) : Obj := cO (top 13) (Str.ofString "Ref")
noncomputable def xH1_72 (P : Params) : Obj := { cls := .none, data := .fields #[(.int 40 0), (.int 4 0), (.ref 80)] }
noncomputable def xH1_74 (P : Params) : Obj := { cls := (.type "frame"), data := .plain, slots := #[some (.ref 73), some (.ref 3), some (.ref 70), none, some (.str (Str.ofString "dulwich.refs") 247), none, some (.ref 0)] }
noncomputable def xH1_76 (P : Params) : Obj := { cls := .none, data := .fields #[] }
noncomputable def xH1_79 (P : Params) : Obj := cO (meth 14 0) (Str.ofString "SymrefLoop.__init__")
noncomputable def xH1_89 (P : Params) : Obj := { cls := .none, data := .fields #[] }
noncomputable def xH1_92 (P : Params) : Obj := cO (top 15) (Str.ofString "parse_symref_value")
noncomputable def xH1_96 (P : Params) : Obj := { cls := .none, data := .fields #[] }
noncomputable def xH1_99 (P : Params) : Obj := cO (top 16) (Str.ofString "check_ref_format")
noncomputable def xH1_103 (P : Params) : Obj := { cls := .none, data := .fields #[] }
noncomputable def xH1_106 (P : Params) : Obj := cO (top 17) (Str.ofString "_collapse_slashes")
noncomputable def H1 (P : Params) : Heap := ⟨⟨boot_o_0 P :: o1 P :: xH1_2 P :: xH1_3 P :: o4 P :: o5 P :: o6 P :: o7 P :: boot_o_8 P :: o9 P :: boot_o_10 P :: o11 P :: xH1_12 P :: o13 P :: xHa_14 P :: o15 P :: xH1_16 P :: o17 P :: o18 P :: xH1_19 P :: o20 P :: o21 P :: o22 P :: o23 P :: o24 P :: o25 P :: xH1_26 P :: o27 P :: xH1_28 P :: o29 P :: o30 P :: o31 P :: o32 P :: o33 P :: o34 P :: o35 P :: xH1_36 P :: o37 P :: o38 P :: xH1_39 P :: o40 P :: o41 P :: o42 P :: xH1_43 P :: xH1_44 P :: o45 P :: o46 P :: o47 P :: xH1_48 P :: o49 P :: o50 P :: xH1_51 P :: o52 P :: o53 P :: o54 P :: xH1_55 P :: o56 P :: o57 P :: xH1_58 P :: o59 P :: o60 P :: o61 P :: xH1_62 P :: o63 P :: o64 P :: xH1_65 P :: o66 P :: o67 P :: o68 P :: o69 P :: o70 P :: o71 P :: xH1_72 P :: o73 P :: xH1_74 P :: o75 P :: xH1_76 P :: o77 P :: o78 P :: xH1_79 P :: o80 P :: o81 P :: o82 P :: o83 P :: o84 P :: o85 P :: o86 P :: o87 P :: o88 P :: xH1_89 P :: o90 P :: o91 P :: xH1_92 P :: o93 P :: o94 P :: o95 P :: xH1_96 P :: o97 P :: o98 P :: xH1_99 P :: o100 P :: o101 P :: o102 P :: xH1_103 P :: o104 P :: o105 P :: xH1_106 P :: o107 P :: o108 P :: []⟩, {}⟩
noncomputable def xH2_3 (P : Params) : Obj := { cls := (.type "dict"), data := .dict #[ent P (Str.ofString "__name__") 165 (.str (Str.ofString "dulwich.refs") 247), ent P (Str.ofString "__doc__") 166 .none, ent P (Str.ofString "__package__") 167 .none, ent P (Str.ofString "__loader__") 168 (.builtin "__main__.__loader__#opaque"), ent P (Str.ofString "__spec__") 169 .none, ent P (Str.ofString "__annotations__") 170 (.ref 6), ent P (Str.ofString "__builtins__") 171 (.ref 4), ent P (Str.ofString "__file__") 173 (.str (Str.ofString "/claim/cut.py") 172), ent P (Str.ofString "__cached__") 174 .none, ent P (Str.ofString "_wall") 193 (.ref 21), ent P (Str.ofString "RefFormatError") 215 (.ref 31), ent P (Str.ofString "_digit") 224 (.ref 41), ent P (Str.ofString "unhexlify") 230 (.ref 46), ent P (Str.ofString "ObjectID") 237 (.ref 53), ent P (Str.ofString "ZERO_SHA") 239 (.bytes #[48, 48, 48, 48, 48, 48, 48, 48, 48, 48, 48, 48, 48, 48, 48, 48, 48, 48, 48, 48, 48, 48, 48, 48, 48, 48, 48, 48, 48, 48, 48, 48, 48, 48, 48, 48, 48, 48, 48, 48] 238), ent P (Str.ofString "valid_hexsha") 246 (.ref 60), ent P (Str.ofString "HEADREF") 250 (.bytes #[72, 69, 65, 68] 249), ent P (Str.ofString "SYMREF") 252 (.bytes #[114, 101, 102, 58, 32] 251), ent P (Str.ofString "BAD_REF_CHARS") 254 (.bytes #[127, 32, 126, 94, 58, 63, 42, 91] 253), ent P (Str.ofString "Ref") 261 (.ref 67), ent P (Str.ofString "SymrefLoop") 292 (.ref 84), ent P (Str.ofString "parse_symref_value") 299 (.ref 94), ent P (Str.ofString "check_ref_format") 309 (.ref 101), ent P (Str.ofString "_collapse_slashes") 316 (.ref 108), ent P (Str.ofString "RefsContainer") 451 (.ref 204)] 25 }
noncomputable def xH2_12 (P : Params) : Obj := { cls := .none, data := .fields #[(.int 1 0), (.int 0 0), (.ref 20), (.int 5 0), (.int 0 0), (.ref 27), (.int 8 0), (.int 0 0), (.ref 40), (.int 16 0), (.int 0 0), (.ref 45), (.int 20 0), (.int 0 0), (.ref 52), (.int 23 0), (.int 0 0), (.ref 59), (.int 36 0), (.int 0 0), (.ref 66), (.int 38 0), (.int 0 0), (.ref 73), (.int 43 0), (.int 0 0), (.ref 93), (.int 47 0), (.int 0 0), (.ref 100), (.int 71 0), (.int 0 0), (.ref 107), (.int 73 0), (.int 0 0), (.ref 114)] }
noncomputable def xH2_113 (P : Params) : Obj := { cls := .none, data := .fields #[(.int 75 0), (.int 4 0), (.ref 122), (.int 81 0), (.int 4 0), (.ref 129), (.int 89 0), (.int 4 0), (.ref 137), (.int 104 0), (.int 4 0), (.ref 144), (.int 116 0), (.int 4 0), (.ref 151), (.int 120 0), (.int 4 0), (.ref 158), (.int 126 0), (.int 4 0), (.ref 165), (.int 141 0), (.int 4 0), (.ref 172), (.int 146 0), (.int 4 0), (.ref 179), (.int 152 0), (.int 4 0), (.ref 186), (.int 156 0), (.int 4 0), (.ref 193), (.int 159 0), (.int 4 0), (.ref 200)] }
noncomputable def xH2_115 (P : Params) : Obj := { cls := (.type "frame"), data := .plain, slots := #[some (.ref 114), some (.ref 3), some (.ref 111), none, some (.str (Str.ofString "dulwich.refs") 247), none, some (.ref 0)] }
noncomputable def xH2_118 (P : Params) : Obj := { cls := .none, data := .fields #[] }
noncomputable def xH2_121 (P : Params) : Obj := cO (meth 18 0) (Str.ofString "RefsContainer.keys")
noncomputable def xH2_125 (P : Params) : Obj := { cls := .none, data := .fields #[] }
noncomputable def xH2_128 (P : Params) : Obj := cO (meth 18 1) (Str.ofString "RefsContainer.subkeys")
noncomputable def xH2_133 (P : Params) : Obj := { cls := .none, data := .fields #[] }
noncomputable def xH2_136 (P : Params) : Obj := cO (meth 18 2) (Str.ofString "RefsContainer.as_dict")
noncomputable def xH2_140 (P : Params) : Obj := { cls := .none, data := .fields #[] }
noncomputable def xH2_143 (P : Params) : Obj := cO (meth 18 3) (Str.ofString "RefsContainer._check_refname")
noncomputable def xH2_147 (P : Params) : Obj := { cls := .none, data := .fields #[] }
noncomputable def xH2_150 (P : Params) : Obj := cO (meth 18 4) (Str.ofString "RefsContainer._check_ref_value")
noncomputable def xH2_154 (P : Params) : Obj := { cls := .none, data := .fields #[] }
noncomputable def xH2_157 (P : Params) : Obj := cO (meth 18 5) (Str.ofString "RefsContainer.read_ref")
noncomputable def xH2_161 (P : Params) : Obj := { cls := .none, data := .fields #[] }
noncomputable def xH2_164 (P : Params) : Obj := cO (meth 18 6) (Str.ofString "RefsContainer.follow")
noncomputable def xH2_168 (P : Params) : Obj := { cls := .none, data := .fields #[] }
noncomputable def xH2_171 (P : Params) : Obj := cO (meth 18 7) (Str.ofString "RefsContainer.__contains__")
noncomputable def xH2_175 (P : Params) : Obj := { cls := .none, data := .fields #[] }
noncomputable def xH2_178 (P : Params) : Obj := cO (meth 18 8) (Str.ofString "RefsContainer.__getitem__")
noncomputable def xH2_182 (P : Params) : Obj := { cls := .none, data := .fields #[] }
noncomputable def xH2_185 (P : Params) : Obj := cO (meth 18 9) (Str.ofString "RefsContainer.__setitem__")
noncomputable def xH2_189 (P : Params) : Obj := { cls := .none, data := .fields #[] }
noncomputable def xH2_192 (P : Params) : Obj := cO (meth 18 10) (Str.ofString "RefsContainer.__delitem__")
noncomputable def xH2_196 (P : Params) : Obj := { cls := .none, data := .fields #[] }
noncomputable def xH2_199 (P : Params) : Obj := cO (meth 18 11) (Str.ofString "RefsContainer.get_symrefs")
noncomputable def xH2_204 (P : Params) : Obj := { cls := (.type "type"), data := .cls { name := (Str.ofString "RefsContainer"), bases := [(.type "object")], mro := [(.ref 204), (.type "object")], ns := 203, qualname := (Str.ofString "RefsContainer"), hasDict := true, subclasses := [] }, slots := #[none, none, some (.str (Str.ofString "RefsContainer") 317), some (.str (Str.ofString "RefsContainer") 325), some (.builtin "object.__new__"), some (.bool true)] }
noncomputable def H2 (P : Params) : Heap := ⟨⟨boot_o_0 P :: o1 P :: xH1_2 P :: xH2_3 P :: o4 P :: o5 P :: o6 P :: o7 P :: boot_o_8 P :: o9 P :: boot_o_10 P :: o11 P :: xH2_12 P :: o13 P :: xHa_14 P :: o15 P :: xH1_16 P :: o17 P :: o18 P :: xH1_19 P :: o20 P :: o21 P :: o22 P :: o23 P :: o24 P :: o25 P :: xH1_26 P :: o27 P :: xH1_28 P :: o29 P :: o30 P :: o31 P :: o32 P :: o33 P :: o34 P :: o35 P :: xH1_36 P :: o37 P :: o38 P :: xH1_39 P :: o40 P :: o41 P :: o42 P :: xH1_43 P :: xH1_44 P :: o45 P :: o46 P :: o47 P :: xH1_48 P :: o49 P :: o50 P :: xH1_51 P :: o52 P :: o53 P :: o54 P :: xH1_55 P :: o56 P :: o57 P :: xH1_58 P :: o59 P :: o60 P :: o61 P :: xH1_62 P :: o63 P :: o64 P :: xH1_65 P :: o66 P :: o67 P :: o68 P :: o69 P :: o70 P :: o71 P :: xH1_72 P :: o73 P :: xH1_74 P :: o75 P :: xH1_76 P :: o77 P :: o78 P :: xH1_79 P :: o80 P :: o81 P :: o82 P :: o83 P :: o84 P :: o85 P :: o86 P :: o87 P :: o88 P :: xH1_89 P :: o90 P :: o91 P :: xH1_92 P :: o93 P :: o94 P :: o95 P :: xH1_96 P :: o97 P :: o98 P :: xH1_99 P :: o100 P :: o101 P :: o102 P :: xH1_103 P :: o104 P :: o105 P :: xH1_106 P :: o107 P :: o108 P :: o109 P :: o110 P :: o111 P :: o112 P :: xH2_113 P :: o114 P :: xH2_115 P :: o116 P :: o117 P :: xH2_118 P :: o119 P :: o120 P :: xH2_121 P :: o122 P :: o123 P :: o124 P :: xH2_125 P :: o126 P :: o127 P :: xH2_128 P :: o129 P :: o130 P :: o131 P :: o132 P :: xH2_133 P :: o134 P :: o135 P :: xH2_136 P :: o137 P :: o138 P :: o139 P :: xH2_140 P :: o141 P :: o142 P :: xH2_143 P :: o144 P :: o145 P :: o146 P :: xH2_147 P :: o148 P :: o149 P :: xH2_150 P :: o151 P :: o152 P :: o153 P :: xH2_154 P :: o155 P :: o156 P :: xH2_157 P :: o158 P :: o159 P :: o160 P :: xH2_161 P :: o162 P :: o163 P :: xH2_164 P :: o165 P :: o166 P :: o167 P :: xH2_168 P :: o169 P :: o170 P :: xH2_171 P :: o172 P :: o173 P :: o174 P :: xH2_175 P :: o176 P :: o177 P :: xH2_178 P :: o179 P :: o180 P :: o181 P :: xH2_182 P :: o183 P :: o184 P :: xH2_185 P :: o186 P :: o187 P :: o188 P :: xH2_189 P :: o190 P :: o191 P :: xH2_192 P :: o193 P :: o194 P :: o195 P :: xH2_196 P :: o197 P :: o198 P :: xH2_199 P :: o200 P :: o201 P :: o202 P :: o203 P :: xH2_204 P :: o205 P :: o206 P :: o207 P :: o208 P :: []⟩, {}⟩
noncomputable def xH3_3 (P : Params) : Obj := { cls := (.type "dict"), data := .dict #[ent P (Str.ofString "__name__") 165 (.str (Str.ofString "dulwich.refs") 247), ent P (Str.ofString "__doc__") 166 .none, ent P (Str.ofString "__package__") 167 .none, ent P (Str.ofString "__loader__") 168 (.builtin "__main__.__loader__#opaque"), ent P (Str.ofString "__spec__") 169 .none, ent P (Str.ofString "__annotations__") 170 (.ref 6), ent P (Str.ofString "__builtins__") 171 (.ref 4), ent P (Str.ofString "__file__") 173 (.str (Str.ofString "/claim/cut.py") 172), ent P (Str.ofString "__cached__") 174 .none, ent P (Str.ofString "_wall") 193 (.ref 21), ent P (Str.ofString "RefFormatError") 215 (.ref 31), ent P (Str.ofString "_digit") 224 (.ref 41), ent P (Str.ofString "unhexlify") 230 (.ref 46), ent P (Str.ofString "ObjectID") 237 (.ref 53), ent P (Str.ofString "ZERO_SHA") 239 (.bytes #[48, 48, 48, 48, 48, 48, 48, 48, 48, 48, 48, 48, 48, 48, 48, 48, 48, 48, 48, 48, 48, 48, 48, 48, 48, 48, 48, 48, 48, 48, 48, 48, 48, 48, 48, 48, 48, 48, 48, 48] 238), ent P (Str.ofString "valid_hexsha") 246 (.ref 60), ent P (Str.ofString "HEADREF") 250 (.bytes #[72, 69, 65, 68] 249), ent P (Str.ofString "SYMREF") 252 (.bytes #[114, 101, 102, 58, 32] 251), ent P (Str.ofString "BAD_REF_CHARS") 254 (.bytes #[127, 32, 126, 94, 58, 63, 42, 91] 253), ent P (Str.ofString "Ref") 261 (.ref 67), ent P (Str.ofString "SymrefLoop") 292 (.ref 84), ent P (Str.ofString "parse_symref_value") 299 (.ref 94), ent P (Str.ofString "check_ref_format") 309 (.ref 101), ent P (Str.ofString "_collapse_slashes") 316 (.ref 108), ent P (Str.ofString "RefsContainer") 451 (.ref 204), ent P (Str.ofString "DictRefsContainer") 548 (.ref 281)] 26 }
noncomputable def xH3_12 (P : Params) : Obj := { cls := .none, data := .fields #[(.int 1 0), (.int 0 0), (.ref 20), (.int 5 0), (.int 0 0), (.ref 27), (.int 8 0), (.int 0 0), (.ref 40), (.int 16 0), (.int 0 0), (.ref 45), (.int 20 0), (.int 0 0), (.ref 52), (.int 23 0), (.int 0 0), (.ref 59), (.int 36 0), (.int 0 0), (.ref 66), (.int 38 0), (.int 0 0), (.ref 73), (.int 43 0), (.int 0 0), (.ref 93), (.int 47 0), (.int 0 0), (.ref 100), (.int 71 0), (.int 0 0), (.ref 107), (.int 73 0), (.int 0 0), (.ref 114), (.int 171 0), (.int 0 0), (.ref 214)] }
noncomputable def xH3_213 (P : Params) : Obj := { cls := .none, data := .fields #[(.int 173 0), (.int 4 0), (.ref 221), (.int 177 0), (.int 4 0), (.ref 228), (.int 180 0), (.int 4 0), (.ref 235), (.int 183 0), (.int 4 0), (.ref 242), (.int 186 0), (.int 4 0), (.ref 249), (.int 191 0), (.int 4 0), (.ref 256), (.int 200 0), (.int 4 0), (.ref 263), (.int 207 0), (.int 4 0), (.ref 270), (.int 216 0), (.int 4 0), (.ref 277)] }
noncomputable def xH3_215 (P : Params) : Obj := { cls := (.type "frame"), data := .plain, slots := #[some (.ref 214), some (.ref 3), some (.ref 211), none, some (.str (Str.ofString "dulwich.refs") 247), none, some (.ref 0)] }
noncomputable def xH3_217 (P : Params) : Obj := { cls := .none, data := .fields #[] }
noncomputable def xH3_220 (P : Params) : Obj := cO (meth 19 0) (Str.ofString "DictRefsContainer.__init__")
noncomputable def xH3_224 (P : Params) : Obj := { cls := .none, data := .fields #[] }
noncomputable def xH3_227 (P : Params) : Obj := cO (meth 19 1) (Str.ofString "DictRefsContainer.allkeys")
noncomputable def xH3_231 (P : Params) : Obj := { cls := .none, data := .fields #[] }
noncomputable def xH3_234 (P : Params) : Obj := cO (meth 19 2) (Str.ofString "DictRefsContainer.read_loose_ref")
noncomputable def xH3_238 (P : Params) : Obj := { cls := .none, data := .fields #[] }
noncomputable def xH3_241 (P : Params) : Obj := cO (meth 19 3) (Str.ofString "DictRefsContainer.get_packed_refs")
noncomputable def xH3_245 (P : Params) : Obj := { cls := .none, data := .fields #[] }
noncomputable def xH3_248 (P : Params) : Obj := cO (meth 19 4) (Str.ofString "DictRefsContainer.set_symbolic_ref")
noncomputable def xH3_252 (P : Params) : Obj := { cls := .none, data := .fields #[] }
noncomputable def xH3_255 (P : Params) : Obj := cO (meth 19 5) (Str.ofString "DictRefsContainer.set_if_equals")
noncomputable def xH3_259 (P : Params) : Obj := { cls := .none, data := .fields #[] }
noncomputable def xH3_262 (P : Params) : Obj := cO (meth 19 6) (Str.ofString "DictRefsContainer.add_if_new")
noncomputable def xH3_266 (P : Params) : Obj := { cls := .none, data := .fields #[] }
noncomputable def xH3_269 (P : Params) : Obj := cO (meth 19 7) (Str.ofString "DictRefsContainer.remove_if_equals")
noncomputable def xH3_273 (P : Params) : Obj := { cls := .none, data := .fields #[] }
noncomputable def xH3_276 (P : Params) : Obj := cO (meth 19 8) (Str.ofString "DictRefsContainer.get_peeled")
noncomputable def H3 (P : Params) : Heap := ⟨⟨boot_o_0 P :: o1 P :: xH1_2 P :: xH3_3 P :: o4 P :: o5 P :: o6 P :: o7 P :: boot_o_8 P :: o9 P :: boot_o_10 P :: o11 P :: xH3_12 P :: o13 P :: xHa_14 P :: o15 P :: xH1_16 P :: o17 P :: o18 P :: xH1_19 P :: o20 P :: o21 P :: o22 P :: o23 P :: o24 P :: o25 P :: xH1_26 P :: o27 P :: xH1_28 P :: o29 P :: o30 P :: o31 P :: o32 P :: o33 P :: o34 P :: o35 P :: xH1_36 P :: o37 P :: o38 P :: xH1_39 P :: o40 P :: o41 P :: o42 P :: xH1_43 P :: xH1_44 P :: o45 P :: o46 P :: o47 P :: xH1_48 P :: o49 P :: o50 P :: xH1_51 P :: o52 P :: o53 P :: o54 P :: xH1_55 P :: o56 P :: o57 P :: xH1_58 P :: o59 P :: o60 P :: o61 P :: xH1_62 P :: o63 P :: o64 P :: xH1_65 P :: o66 P :: o67 P :: o68 P :: o69 P :: o70 P :: o71 P :: xH1_72 P :: o73 P :: xH1_74 P :: o75 P :: xH1_76 P :: o77 P :: o78 P :: xH1_79 P :: o80 P :: o81 P :: o82 P :: o83 P :: o84 P :: o85 P :: o86 P :: o87 P :: o88 P :: xH1_89 P :: o90 P :: o91 P :: xH1_92 P :: o93 P :: o94 P :: o95 P :: xH1_96 P :: o97 P :: o98 P :: xH1_99 P :: o100 P :: o101 P :: o102 P :: xH1_103 P :: o104 P :: o105 P :: xH1_106 P :: o107 P :: o108 P :: o109 P :: o110 P :: o111 P :: o112 P :: xH2_113 P :: o114 P :: xH2_115 P :: o116 P :: o117 P :: xH2_118 P :: o119 P :: o120 P :: xH2_121 P :: o122 P :: o123 P :: o124 P :: xH2_125 P :: o126 P :: o127 P :: xH2_128 P :: o129 P :: o130 P :: o131 P :: o132 P :: xH2_133 P :: o134 P :: o135 P :: xH2_136 P :: o137 P :: o138 P :: o139 P :: xH2_140 P :: o141 P :: o142 P :: xH2_143 P :: o144 P :: o145 P :: o146 P :: xH2_147 P :: o148 P :: o149 P :: xH2_150 P :: o151 P :: o152 P :: o153 P :: xH2_154 P :: o155 P :: o156 P :: xH2_157 P :: o158 P :: o159 P :: o160 P :: xH2_161 P :: o162 P :: o163 P :: xH2_164 P :: o165 P :: o166 P :: o167 P :: xH2_168 P :: o169 P :: o170 P :: xH2_171 P :: o172 P :: o173 P :: o174 P :: xH2_175 P :: o176 P :: o177 P :: xH2_178 P :: o179 P :: o180 P :: o181 P :: xH2_182 P :: o183 P :: o184 P :: xH2_185 P :: o186 P :: o187 P :: o188 P :: xH2_189 P :: o190 P :: o191 P :: xH2_192 P :: o193 P :: o194 P :: o195 P :: xH2_196 P :: o197 P :: o198 P :: xH2_199 P :: o200 P :: o201 P :: o202 P :: o203 P :: o204 P :: o205 P :: o206 P :: o207 P :: o208 P :: o209 P :: o210 P :: o211 P :: o212 P :: xH3_213 P :: o214 P :: xH3_215 P :: o216 P :: xH3_217 P :: o218 P :: o219 P :: xH3_220 P :: o221 P :: o222 P :: o223 P :: xH3_224 P :: o225 P :: o226 P :: xH3_227 P :: o228 P :: o229 P :: o230 P :: xH3_231 P :: o232 P :: o233 P :: xH3_234 P :: o235 P :: o236 P :: o237 P :: xH3_238 P :: o239 P :: o240 P :: xH3_241 P :: o242 P :: o243 P :: o244 P :: xH3_245 P :: o246 P :: o247 P :: xH3_248 P :: o249 P :: o250 P :: o251 P :: xH3_252 P :: o253 P :: o254 P :: xH3_255 P :: o256 P :: o257 P :: o258 P :: xH3_259 P :: o260 P :: o261 P :: xH3_262 P :: o263 P :: o264 P :: o265 P :: xH3_266 P :: o267 P :: o268 P :: xH3_269 P :: o270 P :: o271 P :: o272 P :: xH3_273 P :: o274 P :: o275 P :: xH3_276 P :: o277 P :: o278 P :: o279 P :: o280 P :: o281 P :: o282 P :: o283 P :: []⟩, {}⟩
noncomputable def xHe_12 (P : Params) : Obj := { cls := .none, data := .fields #[(.int 1 0), (.int 0 0), (.ref 20), (.int 5 0), (.int 0 0), (.ref 27), (.int 8 0), (.int 0 0), (.ref 40), (.int 16 0), (.int 0 0), (.ref 45), (.int 20 0), (.int 0 0), (.ref 52), (.int 23 0), (.int 0 0), (.ref 59), (.int 36 0), (.int 0 0), (.ref 66), (.int 38 0), (.int 0 0), (.ref 73), (.int 43 0), (.int 0 0), (.ref 93), (.int 47 0), (.int 0 0), (.ref 100), (.int 71 0), (.int 0 0), (.ref 107), (.int 73 0), (.int 0 0), (.ref 114), (.int 171 0), (.int 0 0), (.ref 214), (.int 219 0), (.int 0 0), (.ref 289), (.int 222 0), (.int 0 0), (.ref 297), (.int 228 0), (.int 0 0), (.ref 302), (.int 230 0), (.int 0 0), (.ref 309), (.int 237 0), (.int 0 0), (.ref 314), (.int 250 0), (.int 0 0), (.ref 321), (.int 252 0), (.int 0 0), (.ref 328), (.int 254 0), (.int 0 0), (.ref 335), (.int 263 0), (.int 0 0), (.ref 342), (.int 274 0), (.int 0 0), (.ref 349), (.int 277 0), (.int 0 0), (.ref 356), (.int 280 0), (.int 0 0), (.ref 363), (.int 321 0), (.int 0 0), (.ref 368), (.int 340 0), (.int 0 0), (.ref 373)] }
noncomputable def xHe_285 (P : Params) : Obj := { cls := .none, data := .fields #[] }
noncomputable def xHe_288 (P : Params) : Obj := cO (top 21) (Str.ofString "_law_names")
noncomputable def xHe_293 (P : Params) : Obj := { cls := .none, data := .fields #[] }
noncomputable def xHe_296 (P : Params) : Obj := cO (top 23) (Str.ofString "_law_next")
noncomputable def xHe_300 (P : Params) : Obj := { cls := .none, data := .fields #[] }
noncomputable def xHe_301 (P : Params) : Obj := cO (top 24) (Str.ofString "_law_state")
noncomputable def xHe_305 (P : Params) : Obj := { cls := .none, data := .fields #[] }
noncomputable def xHe_308 (P : Params) : Obj := cO (top 25) (Str.ofString "_law_value")
noncomputable def xHe_312 (P : Params) : Obj := { cls := .none, data := .fields #[] }
noncomputable def xHe_313 (P : Params) : Obj := cO (top 26) (Str.ofString "_law_may_stand")
noncomputable def xHe_317 (P : Params) : Obj := { cls := .none, data := .fields #[] }
noncomputable def xHe_320 (P : Params) : Obj := cO (top 27) (Str.ofString "_law_named")
noncomputable def xHe_324 (P : Params) : Obj := { cls := .none, data := .fields #[] }
noncomputable def xHe_327 (P : Params) : Obj := cO (top 28) (Str.ofString "_law_valued")
noncomputable def xHe_331 (P : Params) : Obj := { cls := .none, data := .fields #[] }
noncomputable def xHe_334 (P : Params) : Obj := cO (top 29) (Str.ofString "_law_way")
noncomputable def xHe_338 (P : Params) : Obj := { cls := .none, data := .fields #[] }
noncomputable def xHe_341 (P : Params) : Obj := cO (top 30) (Str.ofString "_law_answer")
noncomputable def xHe_345 (P : Params) : Obj := { cls := .none, data := .fields #[] }
noncomputable def xHe_348 (P : Params) : Obj := cO (top 31) (Str.ofString "_law_set")
noncomputable def xHe_352 (P : Params) : Obj := { cls := .none, data := .fields #[] }
noncomputable def xHe_355 (P : Params) : Obj := cO (top 32) (Str.ofString "_law_out")
noncomputable def xHe_362 (P : Params) : Obj := cO (top 33) (Str.ofString "_law_deed")
noncomputable def xHe_367 (P : Params) : Obj := cO (top 34) (Str.ofString "_law_alike")
noncomputable def xHe_371 (P : Params) : Obj := { cls := .none, data := .fields #[] }
noncomputable def xHe_372 (P : Params) : Obj := cO (top 35) (Str.ofString "law")
noncomputable def He (P : Params) : Heap := ⟨⟨boot_o_0 P :: o1 P :: xH1_2 P :: o3 P :: o4 P :: o5 P :: o6 P :: o7 P :: boot_o_8 P :: o9 P :: boot_o_10 P :: o11 P :: xHe_12 P :: o13 P :: xHa_14 P :: o15 P :: xH1_16 P :: o17 P :: o18 P :: xH1_19 P :: o20 P :: o21 P :: o22 P :: o23 P :: o24 P :: o25 P :: xH1_26 P :: o27 P :: xH1_28 P :: o29 P :: o30 P :: o31 P :: o32 P :: o33 P :: o34 P :: o35 P :: xH1_36 P :: o37 P :: o38 P :: xH1_39 P :: o40 P :: o41 P :: o42 P :: xH1_43 P :: xH1_44 P :: o45 P :: o46 P :: o47 P :: xH1_48 P :: o49 P :: o50 P :: xH1_51 P :: o52 P :: o53 P :: o54 P :: xH1_55 P :: o56 P :: o57 P :: xH1_58 P :: o59 P :: o60 P :: o61 P :: xH1_62 P :: o63 P :: o64 P :: xH1_65 P :: o66 P :: o67 P :: o68 P :: o69 P :: o70 P :: o71 P :: xH1_72 P :: o73 P :: xH1_74 P :: o75 P :: xH1_76 P :: o77 P :: o78 P :: xH1_79 P :: o80 P :: o81 P :: o82 P :: o83 P :: o84 P :: o85 P :: o86 P :: o87 P :: o88 P :: xH1_89 P :: o90 P :: o91 P :: xH1_92 P :: o93 P :: o94 P :: o95 P :: xH1_96 P :: o97 P :: o98 P :: xH1_99 P :: o100 P :: o101 P :: o102 P :: xH1_103 P :: o104 P :: o105 P :: xH1_106 P :: o107 P :: o108 P :: o109 P :: o110 P :: o111 P :: o112 P :: xH2_113 P :: o114 P :: xH2_115 P :: o116 P :: o117 P :: xH2_118 P :: o119 P :: o120 P :: xH2_121 P :: o122 P :: o123 P :: o124 P :: xH2_125 P :: o126 P :: o127 P :: xH2_128 P :: o129 P :: o130 P :: o131 P :: o132 P :: xH2_133 P :: o134 P :: o135 P :: xH2_136 P :: o137 P :: o138 P :: o139 P :: xH2_140 P :: o141 P :: o142 P :: xH2_143 P :: o144 P :: o145 P :: o146 P :: xH2_147 P :: o148 P :: o149 P :: xH2_150 P :: o151 P :: o152 P :: o153 P :: xH2_154 P :: o155 P :: o156 P :: xH2_157 P :: o158 P :: o159 P :: o160 P :: xH2_161 P :: o162 P :: o163 P :: xH2_164 P :: o165 P :: o166 P :: o167 P :: xH2_168 P :: o169 P :: o170 P :: xH2_171 P :: o172 P :: o173 P :: o174 P :: xH2_175 P :: o176 P :: o177 P :: xH2_178 P :: o179 P :: o180 P :: o181 P :: xH2_182 P :: o183 P :: o184 P :: xH2_185 P :: o186 P :: o187 P :: o188 P :: xH2_189 P :: o190 P :: o191 P :: xH2_192 P :: o193 P :: o194 P :: o195 P :: xH2_196 P :: o197 P :: o198 P :: xH2_199 P :: o200 P :: o201 P :: o202 P :: o203 P :: o204 P :: o205 P :: o206 P :: o207 P :: o208 P :: o209 P :: o210 P :: o211 P :: o212 P :: xH3_213 P :: o214 P :: xH3_215 P :: o216 P :: xH3_217 P :: o218 P :: o219 P :: xH3_220 P :: o221 P :: o222 P :: o223 P :: xH3_224 P :: o225 P :: o226 P :: xH3_227 P :: o228 P :: o229 P :: o230 P :: xH3_231 P :: o232 P :: o233 P :: xH3_234 P :: o235 P :: o236 P :: o237 P :: xH3_238 P :: o239 P :: o240 P :: xH3_241 P :: o242 P :: o243 P :: o244 P :: xH3_245 P :: o246 P :: o247 P :: xH3_248 P :: o249 P :: o250 P :: o251 P :: xH3_252 P :: o253 P :: o254 P :: xH3_255 P :: o256 P :: o257 P :: o258 P :: xH3_259 P :: o260 P :: o261 P :: xH3_262 P :: o263 P :: o264 P :: o265 P :: xH3_266 P :: o267 P :: o268 P :: xH3_269 P :: o270 P :: o271 P :: o272 P :: xH3_273 P :: o274 P :: o275 P :: xH3_276 P :: o277 P :: o278 P :: o279 P :: o280 P :: o281 P :: o282 P :: o283 P :: o284 P :: xHe_285 P :: o286 P :: o287 P :: xHe_288 P :: o289 P :: o290 P :: o291 P :: o292 P :: xHe_293 P :: o294 P :: o295 P :: xHe_296 P :: o297 P :: o298 P :: o299 P :: xHe_300 P :: xHe_301 P :: o302 P :: o303 P :: o304 P :: xHe_305 P :: o306 P :: o307 P :: xHe_308 P :: o309 P :: o310 P :: o311 P :: xHe_312 P :: xHe_313 P :: o314 P :: o315 P :: o316 P :: xHe_317 P :: o318 P :: o319 P :: xHe_320 P :: o321 P :: o322 P :: o323 P :: xHe_324 P :: o325 P :: o326 P :: xHe_327 P :: o328 P :: o329 P :: o330 P :: xHe_331 P :: o332 P :: o333 P :: xHe_334 P :: o335 P :: o336 P :: o337 P :: xHe_338 P :: o339 P :: o340 P :: xHe_341 P :: o342 P :: o343 P :: o344 P :: xHe_345 P :: o346 P :: o347 P :: xHe_348 P :: o349 P :: o350 P :: o351 P :: xHe_352 P :: o353 P :: o354 P :: xHe_355 P :: o356 P :: o357 P :: o358 P :: o359 P :: o360 P :: o361 P :: xHe_362 P :: o363 P :: o364 P :: o365 P :: o366 P :: xHe_367 P :: o368 P :: o369 P :: o370 P :: xHe_371 P :: xHe_372 P :: o373 P :: o374 P :: []⟩, {}⟩
noncomputable def stA (H : Params → Heap) (t : Nat) (w : World) (os : OsState) : Shared := ⟨H w.params, #[], boot_drawn, t, os⟩
noncomputable abbrev topL : List Stmt := behindTheImports pw
noncomputable abbrev topE : Env := { scope := pw.main.scope, locals := mainNs, globals := mainNs, cells := [], code := .ref 13, frame := some 14 }
noncomputable abbrev topC : Code := .body topL topE
noncomputable abbrev tq : Pos := ⟨0, 0, 0, 0⟩
noncomputable abbrev tF : List Frame := [topFrame tq]
noncomputable abbrev ann6 : Option Value := some (.ref 6)
noncomputable def tl1 : List Stmt := topL.take 18
noncomputable def tl2 : List Stmt := (topL.drop 18).take 1
noncomputable def tl3 : List Stmt := (topL.drop 19).take 1
noncomputable def tl4 : List Stmt := topL.drop 20
end Mine
end
section
open PySem PySem.W PySem.W.X PyProof.Rows
set_option maxHeartbeats 0
namespace Mine
theorem run1 : ∀ (w : World) (os : OsState), segRun treeTable pw w 11 ann6 1 800 (stA Ha 187 w os) (piecesOf tl1 topE topC tq tF) = some (.next, stA H1 317 w os, topC, ⟨71, 0, 72, 83⟩) := by
  intro w os
  kernel_rfl
end Mine
end
section
open PySem PySem.W PySem.W.X PyProof.Rows
set_option maxHeartbeats 0
namespace Mine
theorem run2 : ∀ (w : World) (os : OsState), segRun treeTable pw w 11 ann6 1 620 (stA H1 317 w os) (piecesOf tl2 topE topC ⟨71, 0, 72, 83⟩ tF) = some (.next, stA H2 452 w os, topC, ⟨73, 0, 170, 18⟩) := by
  intro w os
  kernel_rfl
end Mine
end
section
open PySem PySem.W PySem.W.X PyProof.Rows
set_option maxHeartbeats 0
namespace Mine
theorem run3 : ∀ (w : World) (os : OsState), segRun treeTable pw w 11 ann6 1 540 (stA H2 452 w os) (piecesOf tl3 topE topC ⟨73, 0, 170, 18⟩ tF) = some (.next, stA H3 549 w os, topC, ⟨171, 0, 217, 16⟩) := by
  intro w os
  kernel_rfl
end Mine
end
section
open PySem PySem.W PySem.W.X PyProof.Rows
set_option maxHeartbeats 0
namespace Mine
theorem run4 : ∀ (w : World) (os : OsState), segRun treeTable pw w 11 ann6 1 520 (stA H3 549 w os) (piecesOf tl4 topE topC ⟨171, 0, 217, 16⟩ tF) = some (.next, stA He 683 w os, topC, ⟨340, 0, 353, 15⟩) := by
  intro w os
  kernel_rfl
end Mine
end
section
open PySem PySem.W PySem.W.X PyProof.Rows
set_option maxHeartbeats 0
namespace Mine
theorem run0 : ∀ (w : World) (os : OsState), topGo treeTable pw w 11 ann6 12 (stA boot_heap boot_toks w os) (topStub pw) = some (stA Ha 187 w os, ⟨denote treeTable topC, topC, tq, tF⟩) := by
  intro w os
  kernel_rfl
theorem runB : ∀ (w : World) (os : OsState), segRun treeTable pw w 11 ann6 1 1 (stA Ha 187 w os) (blockOf topL topE topC tq tF) = some (.next, stA Ha 187 w os, topC, tq) := by
  intro w os
  kernel_rfl
theorem run5 : ∀ (w : World) (os : OsState), topRun treeTable pw w 11 ann6 2 (stA He 683 w os) ⟨doneF .next, topC, ⟨340, 0, 353, 15⟩, tF⟩ = some (stA He 683 w os) := by
  intro w os
  kernel_rfl
theorem top_parts : topL = tl1 ++ (tl2 ++ (tl3 ++ (tl4 ++ []))) := by kernel_rfl
theorem sizes : ∀ w : World, ((boot_heap w.params).isNs mainGlobals && (#[] : Array GenState).size == 0, (boot_heap w.params).objs.size, (boot_heap w.params).nsMap mainGlobals "__annotations__") = (true, 11, ann6) := by
  intro w
  kernel_rfl
end Mine
end
section
open PySem PySem.W PySem.W.X PyProof.Rows
set_option maxHeartbeats 0
namespace Mine
theorem looks1 : ∀ (w : World) (os : OsState), (staticsOk (importedModules pw.main.body) (boot_heap w.params) (He w.params) && namesBound pw (He w.params) && gensDone (stA He 683 w os) && laidKept (boot_heap w.params) (He w.params)) = true := by
  intro w os
  kernel_rfl
end Mine
end
section
open PySem PySem.W PySem.W.X PyProof.Rows
set_option maxHeartbeats 0
namespace Mine
theorem looks2 : ∀ (w : World) (os : OsState), openSeen Mine.q Mine.loose (importedModules pw.main.body) (fun s => xlAt Mine.q [] s && recOk PySem.Challenge.rw_jg0026_01.row.records s) true (stA He 683 w os) = openGood Mine.q Mine.loose := by
  intro w os
  kernel_rfl
theorem looks3 : ∀ (w : World) (os : OsState), obsZ Mine.as (stA He 683 w os) = valZ Mine.K 375 683 w := by
  intro w os
  kernel_rfl
end Mine
end
section
open PySem PySem.W PySem.W.X PyProof.Rows
set_option maxHeartbeats 0
namespace Mine
theorem runTop (w : World) (os : OsState) : topRun treeTable pw w 11 ann6 (12 + (1 + (800 + (620 + (540 + (520 + 2)))))) (stA boot_heap boot_toks w os) (topStub pw) = some (stA He 683 w os) :=
  go_top (run0 w os) (piece_block (runB w os) ((congrArg (fun l => topRun treeTable pw w 11 ann6 (800 + (620 + (540 + (520 + 2)))) (stA Ha 187 w os) (restOf l topE topC tq tF)) top_parts).trans
    (piece_app (run1 w os) (piece_app (run2 w os) (piece_app (run3 w os) (piece_app (run4 w os) (piece_nil (run5 w os))))))))
theorem opens : ∀ w : World, (fencedOpening treeTable pw w 4732).map (fun s => (s.heap, s.gens, s.drawn, s.toks)) = some (boot_heap w.params, Array.mk [], boot_drawn, boot_toks) :=
  boot_open (by kernel_rfl) (by rfl) (fun s => by kernel_rfl)
theorem left : LeftO PySem.Challenge.rw_jg0026_01.row.prog Mine.q Mine.loose (fun s => xlAt Mine.q [] s && recOk PySem.Challenge.rw_jg0026_01.row.records s) (obsZ Mine.as) (valZ Mine.K 375 683) 4732 :=
  LeftO.of_pieces (p := pw) (H₀ := boot_heap) (H₁ := He) (gs₀ := Array.mk []) (gs₁ := #[]) (d₀ := boot_drawn) (d₁ := boot_drawn) (k₀ := boot_toks) (k₁ := 683) (m₀ := 11) (ann := ann6)
    opens sizes runTop (by decide) fun w => funext fun os => Prod.ext (looks1 w os) (Prod.ext (looks2 w os) (looks3 w os))
end Mine
end
section
open PySem PySem.W PySem.W.X PyProof.Rows
set_option maxHeartbeats 0
namespace Mine
noncomputable abbrev LW : OpenLaw := PySem.Challenge.rw_jg0026_01
theorem said1 : sreFenced LW.row.prog.main = true := by kernel_rfl
theorem said2 : ((moduleNames LW.row.prog.main.body).isEmpty || lookedIntoSs (moduleNames LW.row.prog.main.body) LW.row.prog.main.body) = true := by kernel_rfl
theorem said3 : namesResolve LW.row.prog = true := by kernel_rfl
theorem said4 : (LW.row.prog.boundNames.all fun n => !worldNames.contains n) = true := by kernel_rfl
theorem said5 : noRoadLSs { strict := !(importedModules LW.row.prog.main.body).all cThrough.contains, foot := none, bare := (["vars", "dir", "locals"] : List Str).filter (readsOut LW.row.prog LW.row.prog.main.body) } LW.row.prog.main.body = true := by kernel_rfl
theorem said6 : (namesMeet LW.row.prog LW.row.prog.main.body fun _ n => attrL n) = true := by kernel_rfl
theorem looksSaid : looksOpen LW.row.prog = true := look_both (look_both (look_both (look_both (look_both said1 said2) said3) said4) said5) said6
theorem partSaid : LW.row.partSaid = true := (look_both (look_both (look_both (look_both (look_both (look_both (look_both (look_both (look_both (look_both (look_both (look_both (look_both looksSaid (by kernel_rfl)) (by kernel_rfl)) (by kernel_rfl)) (by kernel_rfl)) (by kernel_rfl)) (by kernel_rfl)) (by kernel_rfl)) (by kernel_rfl)) (by kernel_rfl)) (by kernel_rfl)) (by kernel_rfl)) (by kernel_rfl)) (by kernel_rfl))
theorem rowSaid : LW.row.wellSaid = true := (look_both (look_both partSaid (by kernel_rfl)) (by kernel_rfl))
theorem said7 : noRoadLSs { strict := true, foot := some LW.bound', writes := LW.writes, may := LW.may } LW.footing = true := by kernel_rfl
theorem lawSaid : PySem.Challenge.rw_jg0026_01.wellSaid = true := (look_both (look_both (look_both (look_both (look_both (look_both (look_both (look_both (look_both (look_both (look_both (look_both (look_both (look_both (look_both (look_both (look_both (look_both rowSaid (by kernel_rfl)) (by kernel_rfl)) (by kernel_rfl)) (by kernel_rfl)) (by kernel_rfl)) said7) (by kernel_rfl)) (by kernel_rfl)) (by kernel_rfl)) (by kernel_rfl)) (by kernel_rfl)) (by kernel_rfl)) (by kernel_rfl)) (by kernel_rfl)) (by kernel_rfl)) (by kernel_rfl)) (by kernel_rfl)) (by kernel_rfl))
end Mine
end
section
open PySem PySem.W PySem.Calls PyProof.Rows
namespace Mine
inductive V where
  | none | bool (b : Bool) | int (i : Int) | byt (b : List UInt8) | str (x : Str) | ref (a : Addr) | ty (n : String) | bi (n : String) | odd
deriving DecidableEq
noncomputable def er : Value → V
  | .none => .none
  | .bool b => .bool b
  | .int i _ => .int i
  | .bytes b _ => .byt b.toList
  | .str x _ => .str x
  | .ref a => .ref a
  | .type n => .ty n
  | .builtin n => .bi n
  | _ => .odd
theorem no5 {α β γ : Sort _} {p q : α → β → γ → Prop} {P : Prop} (h : ∃ a b c, p a b c ∧ q a b c ∧ False) : P := by
  obtain ⟨_, _, _, _, _, z⟩ := h
  exact z.elim
theorem er_int {v : Value} {i : Int} (h : er v = .int i) : ∃ t, v = .int i t := by cases v <;> simp [er] at h; subst h; exact ⟨_, rfl⟩
theorem er_bool {v : Value} {b : Bool} (h : er v = .bool b) : v = .bool b := by cases v <;> simp [er] at h; subst h; rfl
theorem er_none {v : Value} (h : er v = .none) : v = .none := by cases v <;> simp [er] at h; rfl
theorem er_ref {v : Value} {a : Addr} (h : er v = .ref a) : v = .ref a := by cases v <;> simp [er] at h; subst h; rfl
theorem er_byt {v : Value} {b : List UInt8} (h : er v = .byt b) : ∃ t, v = .bytes b.toArray t := by cases v <;> simp [er] at h; subst h; exact ⟨_, rfl⟩
theorem er_str {v : Value} {b : Str} (h : er v = .str b) : ∃ t, v = .str b t := by cases v <;> simp [er] at h; subst h; exact ⟨_, rfl⟩
theorem er_bi {v : Value} {b : String} (h : er v = .bi b) : v = .builtin b := by cases v <;> simp [er] at h; subst h; rfl
theorem er_ty {v : Value} {b : String} (h : er v = .ty b) : v = .type b := by cases v <;> simp [er] at h; subst h; rfl
inductive O where
  | ns (m : Str → Option V)
  | list (xs : List V)
  | tup (xs : List V)
  | dict (es : List (List UInt8 × V)) (ep : Nat)
  | set (ks : List (List UInt8))
  | pr (P : Obj → Prop)
section
variable (w : World)
noncomputable def IsO (h : Heap) (a : Addr) : O → Prop
  | .ns m => ∃ m', h.Ns a m' ∧ ∀ x, (m' x).map er = m x
  | .list xs => ∃ vs n, h.get? a = some { cls := .type "list", data := .seq vs n } ∧ vs.toList.map er = xs
  | .tup xs => ∃ vs n, h.get? a = some { cls := .type "tuple", data := .seq vs n } ∧ vs.toList.map er = xs
  | .dict es ep => ∃ kvs, h.DictAt (bytesKind pw w) a kvs ep ∧ kvs.map (fun p => (p.1, er p.2)) = es
  | .set ks => ∃ o es ep t, h.get? a = some o ∧ o.ExactSet ∧ o.data = .set es ep t ∧ ElemsOf (bytesKind pw w) es.toList ∧ t.fits es.size = true ∧ (es.toList.map fun e => er e.2).Perm (ks.map V.byt) ∧ ks.Nodup ∧ t.led = !(w.params.followText "set-order") ∧ (t.plain = true → es = #[])
  | .pr P => ∃ o, h.get? a = some o ∧ P o
end
theorem IsO.there {w : World} {h : Heap} {a : Addr} {o : O} (x : IsO w h a o) : ∃ ob, h.get? a = some ob := by
  cases o with
  | ns m => obtain ⟨m', ⟨o, es, ep, ho, hd, _⟩, _⟩ := x; exact ⟨o, ho⟩
  | list xs => obtain ⟨vs, n, ho, _⟩ := x; exact ⟨_, ho⟩
  | tup xs => obtain ⟨vs, n, ho, _⟩ := x; exact ⟨_, ho⟩
  | dict es ep => obtain ⟨kvs, ⟨o, es, ho, _, hd, _⟩, _⟩ := x; exact ⟨o, ho⟩
  | set ks => obtain ⟨o, es, ep, t, ho, _, hd, _⟩ := x; exact ⟨o, ho⟩
  | pr P => obtain ⟨o, ho, _⟩ := x; exact ⟨o, ho⟩
theorem IsO.alive {w : World} {h : Heap} {a : Addr} {m : Str → Option V} (x : IsO w h a (.ns m)) : ∃ ob, h.get? a = some ob ∧ ∀ vs, ob.data ≠ .fields vs := by
  obtain ⟨m', ⟨o, es, ep, ho, hd, _⟩, _⟩ := x; exact ⟨o, ho, fun vs e => by rw [hd] at e; cases e⟩
theorem IsO.of_get {w : World} {h h' : Heap} {a : Addr} {o : O} (e : ∀ ob, h.get? a = some ob → h'.get? a = some ob) (x : IsO w h a o) : IsO w h' a o := by
  cases o with
  | ns m => obtain ⟨m', ⟨o, es, ep, ho, r⟩, q⟩ := x; exact ⟨m', ⟨o, es, ep, e _ ho, r⟩, q⟩
  | list xs => obtain ⟨vs, n, ho, r⟩ := x; exact ⟨vs, n, e _ ho, r⟩
  | tup xs => obtain ⟨vs, n, ho, r⟩ := x; exact ⟨vs, n, e _ ho, r⟩
  | dict es ep => obtain ⟨kvs, ⟨o, es, ho, r⟩, q⟩ := x; exact ⟨kvs, ⟨o, es, e _ ho, r⟩, q⟩
  | set ks => obtain ⟨o, es, ep, t, ho, r⟩ := x; exact ⟨o, es, ep, t, e _ ho, r⟩
  | pr P => obtain ⟨o, ho, r⟩ := x; exact ⟨o, e _ ho, r⟩
noncomputable abbrev MS := Addr → Option O
noncomputable def upd (σ : MS) (a : Addr) (o : O) : MS := fun b => if b = a then some o else σ b
theorem upd_self (σ : MS) (a : Addr) (o : O) : upd σ a o a = some o := by simp [upd]
theorem upd_ne (σ : MS) {a b : Addr} (o : O) (h : b ≠ a) : upd σ a o b = σ b := by simp [upd, h]
theorem upd_upd (σ : MS) (a : Addr) (o o' : O) : upd (upd σ a o) a o' = upd σ a o' := by funext b; by_cases h : b = a <;> simp [upd, h]
theorem funFrames_alive {h h' base : Heap} : ∀ {l : List Env}, (∀ b ∈ l.filterMap (·.frame), ∀ o, h.get? b = some o → (∀ vs, o.data ≠ .fields vs) → ∃ o', h'.get? b = some o' ∧ ∀ vs, o'.data ≠ .fields vs) → h.FunFrames base l → h'.FunFrames base l
  | [], _, _ => trivial
  | _ :: _, k, ⟨hk, ⟨L, o, hf, hn, ho, hd⟩, hr⟩ => let ⟨o', ho', hd'⟩ := k L (List.mem_filterMap.mpr ⟨_, .head _, hf⟩) o ho hd; ⟨hk, ⟨L, o', hf, hn, ho', hd'⟩, funFrames_alive (fun b hb => k b (by
    obtain ⟨x, hx, hf⟩ := List.mem_filterMap.mp hb
    exact List.mem_filterMap.mpr ⟨x, .tail _ hx, hf⟩)) hr⟩
structure Rel (w : World) (B : Heap) (os : OsState) (l : List Env) (σ : MS) (s : Shared) : Prop where
  gens : s.gens = #[]
  os : s.os = os
  old : ∀ b o, B.get? b = some o → s.heap.get? b = some o
  known : ∀ a o, σ a = some o → B.get? a = none ∧ IsO w s.heap a o
  frames : s.heap.FunFrames B l
  nsf : ∀ a o, σ a = some o → a ∈ l.filterMap (·.frame) → ∃ m, o = .ns m
section
variable {w : World} {B : Heap} {os : OsState} {l : List Env} {σ : MS} {s : Shared}
theorem Rel.toks (R : Rel w B os l σ s) (t : Nat) : Rel w B os l σ { s with toks := t } := ⟨R.gens, R.os, R.old, R.known, R.frames, R.nsf⟩
theorem Rel.grow (R : Rel w B os l σ s) {h' : Heap} (k : ∀ b o, s.heap.get? b = some o → h'.get? b = some o) (t : Nat) : Rel w B os l σ { s with heap := h', toks := t } :=
  ⟨R.gens, R.os, fun b o e => k b o (R.old b o e), fun a o e => ⟨(R.known a o e).1, (R.known a o e).2.of_get (k a)⟩, R.frames.of_keeps fun b o e _ => ⟨o, k b o e, rfl⟩, R.nsf⟩
theorem Rel.fresh (R : Rel w B os l σ s) : σ s.heap.objs.size = none ∧ B.get? s.heap.objs.size = none := by
  constructor
  · cases e : σ s.heap.objs.size with
    | none => rfl
    | some o => obtain ⟨ob, ho⟩ := (R.known _ o e).2.there; exact absurd (Heap.lt_size ho) (Nat.lt_irrefl _)
  · cases e : B.get? s.heap.objs.size with
    | none => rfl
    | some o => exact absurd (Heap.lt_size (R.old _ o e)) (Nat.lt_irrefl _)
theorem Rel.new (R : Rel w B os l σ s) {h' : Heap} {a : Addr} {o : O} (k : ∀ b o, s.heap.get? b = some o → h'.get? b = some o) (ha : s.heap.get? a = none) (i : IsO w h' a o) (t : Nat) : Rel w B os l (upd σ a o) { s with heap := h', toks := t } :=
  have hb : B.get? a = none := by
    cases q : B.get? a with
    | none => rfl
    | some o' => have := R.old a o' q; rw [ha] at this; cases this
  ⟨R.gens, R.os, (R.grow k t).old, fun b o' e => by
    by_cases h : b = a
    · subst h; rw [upd_self] at e; cases e; exact ⟨hb, i⟩
    · rw [upd_ne _ _ h] at e; exact (R.grow k t).known b o' e, (R.grow k t).frames, fun b o' e hm => by
    by_cases h : b = a
    · subst h
      obtain ⟨_, ob, ho, _⟩ := R.frames.mem hm
      rw [ha] at ho; cases ho
    · rw [upd_ne _ _ h] at e; exact R.nsf b o' e hm⟩
theorem Rel.turn (R : Rel w B os l σ s) {h' : Heap} {a : Addr} {o o' : O} (hσ : σ a = some o) (k : Heap.SameBut a s.heap h') (i : IsO w h' a o') (t : Nat) (hn : ∀ m, o = .ns m → ∃ m', o' = .ns m') : Rel w B os l (upd σ a o') { s with heap := h', toks := t } := by
  have ha := (R.known a o hσ).1
  refine ⟨R.gens, R.os, fun b ob e => (k.2 b fun z => by subst z; rw [ha] at e; cases e).trans (R.old b ob e), fun b ob e => ?_, funFrames_alive (fun b hb ob e hd => ?_) R.frames, fun b ob e hm => ?_⟩
  · by_cases h : b = a
    · subst h; rw [upd_self] at e; cases e; exact ⟨ha, i⟩
    · rw [upd_ne _ _ h] at e; exact ⟨(R.known b ob e).1, (R.known b ob e).2.of_get fun x y => (k.2 b h).trans y⟩
  · by_cases h : b = a
    · subst h
      obtain ⟨m, hm⟩ := R.nsf b o hσ hb
      obtain ⟨m', hm'⟩ := hn m hm
      subst hm'
      exact i.alive
    · exact ⟨ob, (k.2 b h).trans e, hd⟩
  · by_cases h : b = a
    · subst h; rw [upd_self] at e; cases e
      obtain ⟨m, hm'⟩ := R.nsf b o hσ hm
      exact hn m hm'
    · rw [upd_ne _ _ h] at e; exact R.nsf b ob e hm
theorem Rel.less (R : Rel w B os l σ s) {τ : MS} (h : ∀ a o, τ a = some o → σ a = some o) : Rel w B os l τ s := ⟨R.gens, R.os, R.old, fun a o e => R.known a o (h a o e), R.frames, fun a o e => R.nsf a o (h a o e)⟩
end
structure Ar (A : Around) (l : List Env) (n : Nat) : Prop where
  frames : A.frames = some l
  handled : A.handled = none
  depth : A.depth + n < recursionLimit
  units : A.units + 40 * n + 100 < cLine
theorem Ar.deep {A : Around} {l : List Env} {n : Nat} {env : Env} (hA : Ar A l (n + 1)) : Ar (A.deeper env) (env :: l) n := by
  refine ⟨?_, hA.handled, ?_, ?_⟩
  · show A.frames.map _ = _; rw [hA.frames]; rfl
  · show A.depth + 1 + n < _; have := hA.depth; omega
  · show A.units + 3 + 40 * n + 100 < _; have := hA.units; omega
theorem ix0 {n i : Nat} (h : 0 = n - i) (hi : i ≤ n) : i = n := Nat.le_antisymm hi (Nat.le_of_sub_eq_zero h.symm)
theorem ix1 {k n i : Nat} (h : k + 1 = n - i) : i < n := Nat.lt_of_sub_pos (h ▸ Nat.succ_pos k)
theorem ix2 {k n i : Nat} (h : k + 1 = n - i) : k = n - (i + 1) := by rw [Nat.sub_succ, ← h]; rfl
theorem ix3 {n i : Nat} (h : i < n) : n - (i + 1) < n - i := Nat.sub_lt_sub_left h (Nat.lt_succ_self i)
structure XR (w : World) (B : Heap) (os : OsState) (l : List Env) (e : Addr) (cls : Value) (σ : MS) (s : Shared) : Prop where
  gens : s.gens = #[]
  os : s.os = os
  way : ∃ B₂ a0, B.StaysIn B₂ ∧ B₂.StaysIn s.heap ∧ B₂.get? e = none ∧ s.heap.FunFrames B₂ l ∧
    (∀ a o, σ a = some o → B.get? a = none ∧ (IsO w B₂ a o ∨ ∃ m, o = .ns m ∧ IsO w s.heap a o)) ∧
    ((∃ oe vs, s.heap.get? e = some oe ∧ oe.cls = cls ∧ oe.data = .fields vs ∧ vs[1]? = some .none ∧ vs[0]? = some a0) ∨ s.heap.TracedW B₂ e cls a0 ∨ ∃ env l' L, l = env :: l' ∧ env.frame = some L ∧ s.heap.TracedAtW B₂ e cls a0 (rawInt L))
theorem isO_slots {w : World} {h h' : Heap} {a : Addr} {m : Str → Option V} (u : h.UpToSlots h') (x : IsO w h a (.ns m)) : IsO w h' a (.ns m) := by
  obtain ⟨m', hm, q⟩ := x
  exact ⟨m', u.ns hm, q⟩
theorem funFrames_base' {B B₂ h : Heap} (k : B.StaysIn B₂) : ∀ {l : List Env}, h.FunFrames B₂ l → h.FunFrames B l
  | [], _ => trivial
  | _ :: _, ⟨hk, ⟨L, o, hf, hn, ho, hd⟩, hr⟩ => ⟨hk, ⟨L, o, hf, fresh_of_stays k hn, ho, hd⟩, funFrames_base' k hr⟩
section
variable {w : World} {B : Heap} {os : OsState} {l : List Env} {σ : MS} {s : Shared} {e : Addr} {cls : Value}
theorem hidden_stays {h h' : Heap} (l : List Env) (k : ∀ b o, h.get? b = some o → h'.get? b = some o) : (hideAll h (l.filterMap (·.frame))).StaysIn h' := fun b o q => k b o (of_hideAll _ q)
theorem XR.new (R : Rel w B os l σ s) {h' : Heap} {oe : Obj} {vs : Array Value} {a0 : Value} (k : ∀ b o, s.heap.get? b = some o → h'.get? b = some o) (hn : s.heap.get? e = none)
    (he : h'.get? e = some oe) (hc : oe.cls = cls) (hd : oe.data = .fields vs) (h1 : vs[1]? = some .none) (h0 : vs[0]? = some a0) (t : Nat) : XR w B os l e cls σ { s with heap := h', toks := t } := by
  have R' := R.grow k t
  refine ⟨R.gens, R.os, hideAll s.heap (l.filterMap (·.frame)), a0, fun b o q => ?_, hidden_stays l k, ?_, ?_, fun a o q => ⟨(R.known a o q).1, ?_⟩, .inl ⟨oe, vs, he, hc, hd, h1, h0⟩⟩
  · refine hideAll_get _ (R.old b o q) fun hm => ?_
    have := (R.frames.mem hm).1
    rw [q] at this; cases this
  · cases q : (hideAll s.heap (l.filterMap (·.frame))).get? e with
    | none => rfl
    | some o => have := of_hideAll _ q; rw [hn] at this; cases this
  · exact (funFrames_hide R'.frames fun env he a hf => List.mem_filterMap.mpr ⟨env, he, hf⟩ : Heap.FunFrames h' _ l) |> fun z => by
      have hsub : ∀ {l' : List Env}, (∀ env ∈ l', env ∈ l) → Heap.FunFrames h' B l' → Heap.FunFrames h' (hideAll s.heap (l.filterMap (·.frame))) l' := by
        intro l' hl' x
        induction l' with
        | nil => trivial
        | cons env r ih =>
          obtain ⟨a1, ⟨L, o, a2, a3, a4, a5⟩, a6⟩ := x
          exact ⟨a1, ⟨L, o, a2, hideAll_none _ (List.mem_filterMap.mpr ⟨env, hl' env (.head _), a2⟩), a4, a5⟩, ih (fun e' he' => hl' e' (.tail _ he')) a6⟩
      exact hsub (fun _ h => h) R'.frames
  · by_cases hm : a ∈ l.filterMap (·.frame)
    · obtain ⟨m, rfl⟩ := R.nsf a o q hm
      exact .inr ⟨m, rfl, (R'.known a _ q).2⟩
    · exact .inl ((R.known a o q).2.of_get fun ob z => hideAll_get _ z hm)
theorem XR.leave {A : Around} {env : Env} {L : Addr} (hA : A.frames = some (env :: l)) (hf : env.frame = some L) (X : XR w B os (env :: l) e cls σ s) {Q : Unit → Shared → Prop} {E : Value → Shared → Prop} {M : Model}
    (h : ∀ s', XR w B os l e cls σ s' → Q () s') : wpAny M A (leaving env (.ref e)) Q E s := by
  obtain ⟨g, o, B₂, a0, hB, hk, hn, hfr, hkn, hx⟩ := X
  have fin : ∀ h', B₂.StaysIn h' → h'.FunFrames B₂ l → h'.TracedW B₂ e cls a0 → s.heap.UpToSlots h' → Q () { s with heap := h' } := fun h' x1 x2 x3 x4 =>
    h _ ⟨g, o, B₂, a0, hB, x1, hn, x2, fun a ob q => ⟨(hkn a ob q).1, (hkn a ob q).2.imp id fun ⟨m, z, y⟩ => ⟨m, z, by subst z; exact isO_slots x4 y⟩⟩, .inr (.inl x3)⟩
  rcases hx with ⟨oe, vs, he, hc, hd, h1, h0⟩ | ht | ⟨env', l', L', hl', hf', ht⟩
  · refine wpAny_leaving_firstW hA hfr hf he hk hn hd h1 h0 fun h' ⟨k1, ⟨_, _, k2⟩, k3, k4⟩ => fin h' k1 k2 (by rw [← hc]; exact k3) k4
  · refine wpAny_leaves_onW hA hf ⟨hk, hn, hfr, ht⟩ fun h' hF u => fin h' hF.1 hF.2.2.1 hF.2.2.2 u
  · cases hl'
    rw [hf] at hf'; cases hf'
    unfold leaving
    refine wpAny_bind (wpAny_noteFrame_againW hf ht ?_)
    refine wpAny_landsW ⟨hk, hn, hfr, ht⟩ fun h' hF u => ?_
    exact fin h' hF.1 hF.2.2.1.2.2 hF.2.2.2 u
end
section
variable (w : World) (B : Heap) (os : OsState) (l : List Env)
noncomputable def W {α : Type} (A : Around) (t : Sem α) (Q : α → MS → Prop) (E : Value → MS → Prop) (σ : MS) : Prop :=
  ∀ s, Rel w B os l σ s → wpAny (model pw w) A t (fun a s' => ∃ σ', Rel w B os l σ' s' ∧ Q a σ') (fun v s' => ∃ e cls σ', v = .ref e ∧ XR w B os l e cls σ' s' ∧ E cls σ') s
end
section
variable {w : World} {B : Heap} {os : OsState} {l : List Env} {σ : MS} {A : Around} {E : Value → MS → Prop} {α β : Type}
theorem W.mono {t : Sem α} {Q Q' : α → MS → Prop} {E' : Value → MS → Prop} (h : W w B os l A t Q E σ) (hq : ∀ a σ, Q a σ → Q' a σ) (he : ∀ a σ, E a σ → E' a σ) : W w B os l A t Q' E' σ :=
  fun s R => wpAny_mono (h s R) (fun a s' ⟨σ', R', q⟩ => ⟨σ', R', hq _ _ q⟩) fun a s' ⟨e, c, σ', h1, R', q⟩ => ⟨e, c, σ', h1, R', he _ _ q⟩
end
end Mine
end
section
open PySem PySem.W PySem.Calls PyProof.Rows
namespace Mine
section
variable (w : World) (B : Heap) (os : OsState) (l : List Env) (A : Around)
noncomputable def EV (env : Env) (e : Expr) (Q : V → MS → Prop) (E : Value → MS → Prop) (σ : MS) : Prop := W w B os l A (eval e env) (fun v σ' => Q (er v) σ') E σ
noncomputable def BN (op : Operator) (a b : V) (Q : V → MS → Prop) (E : Value → MS → Prop) (σ : MS) : Prop := ∀ va vb, er va = a → er vb = b → W w B os l A (binaryOp op va vb) (fun v σ' => Q (er v) σ') E σ
noncomputable def CM (op : CmpOp) (a b : V) (Q : V → MS → Prop) (E : Value → MS → Prop) (σ : MS) : Prop := ∀ va vb, er va = a → er vb = b → W w B os l A (compareOp op va vb) (fun v σ' => Q (er v) σ') E σ
noncomputable def TR (env : Env) (e : Expr) (Q : Bool → MS → Prop) (E : Value → MS → Prop) (σ : MS) : Prop := W w B os l A (isTrue e env (eval e env)) Q E σ
noncomputable def TU (a : V) (Q : Bool → MS → Prop) (E : Value → MS → Prop) (σ : MS) : Prop := ∀ va, er va = a → W w B os l A (truthy va) Q E σ
noncomputable def SI (value slice : Expr) (a b : V) (Q : V → MS → Prop) (E : Value → MS → Prop) (σ : MS) : Prop := ∀ va vb, er va = a → er vb = b → W w B os l A (subscriptTail value slice va vb) (fun v σ' => Q (er v) σ') E σ
inductive Fl where
  | next | brk | cont | ret (v : V)
noncomputable def erF : Flow → Fl
  | .next => .next | .brk => .brk | .cont => .cont | .ret v => .ret (er v)
noncomputable def ST (env : Env) (st : Stmt) (Q : Fl → MS → Prop) (E : Value → MS → Prop) (σ : MS) : Prop := W w B os l A (exec st env) (fun f σ' => Q (erF f) σ') E σ
noncomputable def SS (env : Env) (st : List Stmt) (Q : Fl → MS → Prop) (E : Value → MS → Prop) (σ : MS) : Prop := W w B os l A (execs st env) (fun f σ' => Q (erF f) σ') E σ
end
section
variable (w : World) (B : Heap) (os : OsState) (l : List Env) (A : Around) (env : Env) (E : Value → MS → Prop)
noncomputable abbrev kTU (Q : Bool → MS → Prop) : V → MS → Prop := fun c σ => TU w B os l A c Q E σ
noncomputable abbrev kBN (op : Operator) (Q : V → MS → Prop) (a : V) : V → MS → Prop := fun b σ => BN w B os l A op a b Q E σ
noncomputable abbrev kBin (y : Expr) (op : Operator) (Q : V → MS → Prop) : V → MS → Prop := fun a σ => EV w B os l A env y (kBN w B os l A E op Q a) E σ
noncomputable abbrev kCM (op : CmpOp) (Q : V → MS → Prop) (a : V) : V → MS → Prop := fun b σ => CM w B os l A op a b Q E σ
noncomputable abbrev kCmp (y : Expr) (op : CmpOp) (Q : V → MS → Prop) : V → MS → Prop := fun a σ => EV w B os l A env y (kCM w B os l A E op Q a) E σ
noncomputable abbrev kAnd (rest : List Expr) (pos : Pos) (Q : Bool → MS → Prop) : Bool → MS → Prop := fun c σ => match c with | true => TR w B os l A env (.BoolOp .And rest pos) Q E σ | false => Q false σ
noncomputable abbrev kOr (rest : List Expr) (pos : Pos) (Q : Bool → MS → Prop) : Bool → MS → Prop := fun c σ => match c with | true => Q true σ | false => TR w B os l A env (.BoolOp .Or rest pos) Q E σ
noncomputable abbrev kIfx (b o : Expr) (Q : V → MS → Prop) : Bool → MS → Prop := fun c σ => match c with | true => EV w B os l A env b Q E σ | false => EV w B os l A env o Q E σ
end
noncomputable abbrev kNot (Q : Bool → MS → Prop) : Bool → MS → Prop := fun c σ => Q (!c) σ
section
variable {w : World} {B : Heap} {os : OsState} {l : List Env} {A : Around} {σ : MS} {E : Value → MS → Prop} {env : Env}
theorem EV.name {x : Str} {pos : Pos} {m : Str → Option V} {v : V} {Q : V → MS → Prop} (hσ : σ env.locals = some (.ns m)) (hv : m x = some v) (h : Q v σ)
    (hk : env.scope.kind = .function := by rfl) (hl : env.kindOf x = some .local := by rfl) (hd : (x == ("__debug__" : Str)) = false := by decide) : EV w B os l A env (.Name x pos) Q E σ := fun s R => by
  obtain ⟨_, m', hm, e⟩ := R.known _ _ hσ
  have e' := e x
  rw [hv] at e'
  obtain ⟨v', hv', rfl⟩ := Option.map_eq_some_iff.mp e'
  exact wpAny_Name (wpAny_loadName_local hk hl hm hv' ⟨σ, R, h⟩) hd
theorem EV.int {i : Int} {k : Nat} {pos : Pos} {Q : V → MS → Prop} (h : Q (.int i) σ) : EV w B os l A env (.Constant (.int i) k pos) Q E σ := fun s R => wpAny_Constant_int ⟨σ, R.toks _, h⟩
theorem EV.byt {x : List UInt8} {k : Nat} {pos : Pos} {Q : V → MS → Prop} (h : Q (.byt x) σ) : EV w B os l A env (.Constant (.bytes x) k pos) Q E σ := fun s R => Constant_bytes ⟨σ, R.toks _, by simpa [er] using h⟩
theorem EV.str {x : Str} {k : Nat} {pos : Pos} {Q : V → MS → Prop} (h : Q (.str x) σ) : EV w B os l A env (.Constant (.str x) k pos) Q E σ := fun s R => Constant_str ⟨σ, R.toks _, h⟩
theorem EV.none {k : Nat} {pos : Pos} {Q : V → MS → Prop} (h : Q .none σ) : EV w B os l A env (.Constant .none k pos) Q E σ := fun s R => Constant_none ⟨σ, R, h⟩
theorem EV.bool {b : Bool} {k : Nat} {pos : Pos} {Q : V → MS → Prop} (h : Q (.bool b) σ) : EV w B os l A env (.Constant (.bool b) k pos) Q E σ := fun s R => Constant_bool ⟨σ, R, h⟩
theorem EV.binop {x y : Expr} {op : Operator} {pos : Pos} {Q : V → MS → Prop} (h : EV w B os l A env x (kBin w B os l A env E y op Q) E σ) : EV w B os l A env (.BinOp x op y pos) Q E σ :=
  fun s R => wpAny_BinOp (wpAny_mono (h s R) (fun a s₁ ⟨σ₁, R₁, h₁⟩ => wpAny_mono (h₁ s₁ R₁) (fun b s₂ ⟨σ₂, R₂, h₂⟩ => h₂ a b rfl rfl s₂ R₂) fun _ _ x => x) fun _ _ x => x)
theorem EV.cmp {x y : Expr} {op : CmpOp} {pos : Pos} {Q : V → MS → Prop} (h : EV w B os l A env x (kCmp w B os l A env E y op Q) E σ)
    (hm : behindInMarks op y = false := by with_unfolding_all rfl) : EV w B os l A env (.Compare x [op] [y] pos) Q E σ :=
  fun s R => wpAny_Compare1 (wpAny_mono (h s R) (fun a s₁ ⟨σ₁, R₁, h₁⟩ => wpAny_mono (h₁ s₁ R₁) (fun b s₂ ⟨σ₂, R₂, h₂⟩ => h₂ a b rfl rfl s₂ R₂) fun _ _ x => x) fun _ _ x => x) hm
theorem TR.cmp {x y : Expr} {op : CmpOp} {pos : Pos} {Q : Bool → MS → Prop} (h : EV w B os l A env x (kCmp w B os l A env E y op (kTU w B os l A E Q)) E σ)
    (hm : behindInMarks op y = false := by with_unfolding_all rfl) : TR w B os l A env (.Compare x [op] [y] pos) Q E σ :=
  fun s R => wpAny_isTrue_Compare1 (wpAny_mono (h s R) (fun a s₁ ⟨σ₁, R₁, h₁⟩ => wpAny_mono (h₁ s₁ R₁) (fun b s₂ ⟨σ₂, R₂, h₂⟩ => wpAny_mono (h₂ a b rfl rfl s₂ R₂) (fun c s₃ ⟨σ₃, R₃, h₃⟩ => h₃ c rfl s₃ R₃) fun _ _ x => x) fun _ _ x => x) fun _ _ x => x) hm
theorem TR.plain {e : Expr} {Q : Bool → MS → Prop} (h : EV w B os l A env e (kTU w B os l A E Q) E σ)
    (he : isTrue e env (eval e env) = (do let v ← eval e env; standAt e.pos; holding [v] (truthy v)) := by rfl) : TR w B os l A env e Q E σ :=
  fun s R => isTrue_plain (wpAny_mono (h s R) (fun a s₁ ⟨σ₁, R₁, h₁⟩ => h₁ a rfl s₁ R₁) fun _ _ x => x) he
theorem TR.not {x : Expr} {pos : Pos} {Q : Bool → MS → Prop} (h : TR w B os l A env x (kNot Q) E σ) : TR w B os l A env (.UnaryOp .Not x pos) Q E σ := fun s R => isTrue_not (h s R)
theorem TR.and_nil {pos : Pos} {Q : Bool → MS → Prop} (h : Q true σ) : TR w B os l A env (.BoolOp .And [] pos) Q E σ := fun s R => isTrue_and_nil ⟨σ, R, h⟩
theorem TR.or_nil {pos : Pos} {Q : Bool → MS → Prop} (h : Q false σ) : TR w B os l A env (.BoolOp .Or [] pos) Q E σ := fun s R => isTrue_or_nil ⟨σ, R, h⟩
theorem TR.and {x : Expr} {rest : List Expr} {pos : Pos} {Q : Bool → MS → Prop} (h : TR w B os l A env x (kAnd w B os l A env E rest pos Q) E σ) : TR w B os l A env (.BoolOp .And (x :: rest) pos) Q E σ :=
  fun s R => isTrue_and (wpAny_mono (h s R) (fun c s₁ ⟨σ₁, R₁, h₁⟩ => by
    cases c with
    | true => exact h₁ s₁ R₁
    | false => rw [if_neg (by decide)]; exact ⟨σ₁, R₁, h₁⟩) fun _ _ x => x)
theorem TR.or {x : Expr} {rest : List Expr} {pos : Pos} {Q : Bool → MS → Prop} (h : TR w B os l A env x (kOr w B os l A env E rest pos Q) E σ) : TR w B os l A env (.BoolOp .Or (x :: rest) pos) Q E σ :=
  fun s R => isTrue_or (wpAny_mono (h s R) (fun c s₁ ⟨σ₁, R₁, h₁⟩ => by
    cases c with
    | false => exact h₁ s₁ R₁
    | true => rw [if_pos rfl]; exact ⟨σ₁, R₁, h₁⟩) fun _ _ x => x)
theorem EV.ifexp {t b o : Expr} {pos : Pos} {Q : V → MS → Prop} (h : TR w B os l A env t (kIfx w B os l A env E b o Q) E σ) : EV w B os l A env (.IfExp t b o pos) Q E σ :=
  fun s R => IfExp_ (wpAny_mono (h s R) (fun c s₁ ⟨σ₁, R₁, h₁⟩ => by
    cases c with
    | true => rw [if_pos rfl]; exact h₁ s₁ R₁
    | false => rw [if_neg (by decide)]; exact h₁ s₁ R₁) fun _ _ x => x)
theorem TU.bool {b : Bool} {Q : Bool → MS → Prop} (h : Q b σ) : TU w B os l A (.bool b) Q E σ := fun va ha s R => by rw [er_bool ha]; exact wpAny_truthy_bool ⟨σ, R, h⟩
theorem TU.none {Q : Bool → MS → Prop} (h : Q false σ) : TU w B os l A .none Q E σ := fun va ha s R => by rw [er_none ha]; exact truthy_none ⟨σ, R, h⟩
theorem BN.addI {i j : Int} {Q : V → MS → Prop} (h : Q (.int (i + j)) σ) : BN w B os l A .Add (.int i) (.int j) Q E σ := fun va vb ha hb s R => by
  obtain ⟨t, rfl⟩ := er_int ha; obtain ⟨u, rfl⟩ := er_int hb; refine add_int ?_; exact ⟨σ, R.toks _, h⟩
theorem BN.mulI {i j : Int} {Q : V → MS → Prop} (hm : IntMulOk i j) (h : Q (.int (i * j)) σ) : BN w B os l A .Mult (.int i) (.int j) Q E σ := fun va vb ha hb s R => by
  obtain ⟨t, rfl⟩ := er_int ha; obtain ⟨u, rfl⟩ := er_int hb; refine mul_int ?_ hm; exact ⟨σ, R.toks _, h⟩
theorem CM.ltI {i j : Int} {Q : V → MS → Prop} (h : Q (.bool (decide (i < j))) σ) : CM w B os l A .Lt (.int i) (.int j) Q E σ := fun va vb ha hb s R => by
  obtain ⟨t, rfl⟩ := er_int ha; obtain ⟨u, rfl⟩ := er_int hb; refine lt_int ?_; exact ⟨σ, R, h⟩
theorem CM.leI {i j : Int} {Q : V → MS → Prop} (h : Q (.bool (decide (i ≤ j))) σ) : CM w B os l A .LtE (.int i) (.int j) Q E σ := fun va vb ha hb s R => by
  obtain ⟨t, rfl⟩ := er_int ha; obtain ⟨u, rfl⟩ := er_int hb; refine le_int ?_; exact ⟨σ, R, h⟩
theorem CM.gtI {i j : Int} {Q : V → MS → Prop} (h : Q (.bool (decide (i > j))) σ) : CM w B os l A .Gt (.int i) (.int j) Q E σ := fun va vb ha hb s R => by
  obtain ⟨t, rfl⟩ := er_int ha; obtain ⟨u, rfl⟩ := er_int hb; refine gt_int ?_; exact ⟨σ, R, h⟩
theorem CM.eqI {i j : Int} {Q : V → MS → Prop} (h : Q (.bool (i == j)) σ) : CM w B os l A .Eq (.int i) (.int j) Q E σ := fun va vb ha hb s R => by
  obtain ⟨t, rfl⟩ := er_int ha; obtain ⟨u, rfl⟩ := er_int hb; refine eq_int ?_; exact ⟨σ, R, h⟩
theorem CM.eqB {x y : List UInt8} {Q : V → MS → Prop} (h : Q (.bool (x == y)) σ) : CM w B os l A .Eq (.byt x) (.byt y) Q E σ := fun va vb ha hb s R => by
  obtain ⟨t, rfl⟩ := er_byt ha; obtain ⟨u, rfl⟩ := er_byt hb; refine eq_bytes ?_; exact ⟨σ, R, by simpa [er] using h⟩
theorem CM.neB {x y : List UInt8} {Q : V → MS → Prop} (h : Q (.bool (x != y)) σ) : CM w B os l A .NotEq (.byt x) (.byt y) Q E σ := fun va vb ha hb s R => by
  obtain ⟨t, rfl⟩ := er_byt ha; obtain ⟨u, rfl⟩ := er_byt hb; refine ne_bytes ?_; exact ⟨σ, R, by simpa [er] using h⟩
end
end Mine
end
section
open PySem PySem.W PySem.Calls PyProof.Rows
namespace Mine
noncomputable def put (m : Str → Option V) (x : Str) (v : V) : Str → Option V := fun y => if y = x then some v else m y
noncomputable def retV : Fl → V
  | .ret v => v
  | _ => .none
section
variable (w : World) (B : Heap) (os : OsState) (l : List Env) (A : Around)
noncomputable def CL (f : V) (xs : List V) (Q : V → MS → Prop) (E : Value → MS → Prop) (σ : MS) : Prop := ∀ vf vs, er vf = f → vs.map er = xs → W w B os l A (call vf vs) (fun v σ' => Q (er v) σ') E σ
end
noncomputable abbrev kRet (Q : Fl → MS → Prop) : V → MS → Prop := fun v σ => Q (.ret v) σ
section
variable (w : World) (B : Heap) (os : OsState) (l : List Env) (A : Around) (env : Env) (E : Value → MS → Prop)
noncomputable abbrev kCL (f : V) (Q : V → MS → Prop) : List V → MS → Prop := fun vs σ => CL w B os l A f vs Q E σ
noncomputable abbrev kCLm (f ov : V) (Q : V → MS → Prop) : List V → MS → Prop := fun xs σ => CL w B os l A f (ov :: xs) Q E σ
end
section
variable {w : World} {B : Heap} {os : OsState} {l : List Env} {A : Around} {σ : MS} {E : Value → MS → Prop} {env : Env}
theorem Rel.pop {s : Shared} {τ : MS} (R : Rel w B os (env :: l) τ s) : Rel w B os l τ s :=
  ⟨R.gens, R.os, R.old, R.known, R.frames.2.2, fun a o e hm => R.nsf a o e (by
    obtain ⟨x, hx, hf⟩ := List.mem_filterMap.mp hm
    exact List.mem_filterMap.mpr ⟨x, .tail _ hx, hf⟩)⟩
theorem SS.nil {Q : Fl → MS → Prop} (h : Q .next σ) : SS w B os l A env [] Q E σ := fun s R => wpAny_execs_nil ⟨σ, R, h⟩
theorem SS.cons {st : Stmt} {rest : List Stmt} {Q : Fl → MS → Prop} (h : ST w B os l A env st (fun f σ₁ => match f with | .next => SS w B os l A env rest Q E σ₁ | f => Q f σ₁) E σ) : SS w B os l A env (st :: rest) Q E σ :=
  fun s R => wpAny_execs_cons (wpAny_mono (h s R) (fun f s₁ ⟨σ₁, R₁, h₁⟩ => by
    cases f with
    | next => exact h₁ s₁ R₁
    | _ => exact ⟨σ₁, R₁, h₁⟩) fun _ _ x => x)
theorem ST.ret {e : Expr} {pos : Pos} {Q : Fl → MS → Prop} (h : EV w B os l A env e (kRet Q) E σ) : ST w B os l A env (.Return (some e) pos) Q E σ := fun s R => wpAny_Return_some (h s R)
theorem ST.retNone {pos : Pos} {Q : Fl → MS → Prop} (h : Q (.ret .none) σ) : ST w B os l A env (.Return none pos) Q E σ := fun s R => wpAny_Return_none ⟨σ, R, h⟩
theorem ST.pass {pos : Pos} {Q : Fl → MS → Prop} (h : Q .next σ) : ST w B os l A env (.Pass pos) Q E σ := fun s R => wpAny_Pass ⟨σ, R, h⟩
theorem ST.if {t : Expr} {b o : List Stmt} {pos : Pos} {Q : Fl → MS → Prop} (h : TR w B os l A env t (fun c σ₁ => match c with | true => SS w B os l A env b Q E σ₁ | false => SS w B os l A env o Q E σ₁) E σ) : ST w B os l A env (.If t b o pos) Q E σ :=
  fun s R => wpAny_If (wpAny_mono (h s R) (fun c s₁ ⟨σ₁, R₁, h₁⟩ => by
    cases c with
    | true => exact h₁ s₁ R₁
    | false => exact h₁ s₁ R₁) fun _ _ x => x)
theorem storeW {x : Str} {v : Value} {m : Str → Option V} {Q : Unit → MS → Prop} (hσ : σ env.locals = some (.ns m)) (h : Q () (upd σ env.locals (.ns (put m x (er v)))))
    (hl : env.kindOf x = some .local := by rfl) (hp : (env.scope.kind == .class || (env.scope.kind == .module && env.locals != env.globals)) = false := by rfl) : W w B os l A (storeName env x v) Q E σ := fun s R => by
  obtain ⟨_, m', hm, e⟩ := R.known _ _ hσ
  refine wpAny_storeName_local hl hm (fun h' hn hs => ⟨_, R.turn hσ hs (o' := .ns (put m x (er v))) ⟨_, hn, fun y => ?_⟩ _ (fun m₀ _ => ⟨_, rfl⟩), h⟩) hp
  unfold put
  by_cases q : y = x <;> simp [q, e]
theorem ST.assign {x : Str} {p pos : Pos} {e : Expr} {Q : Fl → MS → Prop} (h : EV w B os l A env e (fun v σ₁ => ∃ m, σ₁ env.locals = some (.ns m) ∧ Q .next (upd σ₁ env.locals (.ns (put m x v)))) E σ)
    (hs : swapsWith e (some (.Name x p)) pos.line env = pure false := by rfl) (hl : env.kindOf x = some .local := by rfl)
    (hp : (env.scope.kind == .class || (env.scope.kind == .module && env.locals != env.globals)) = false := by rfl) : ST w B os l A env (.Assign [.Name x p] e pos) Q E σ :=
  fun s R => wpAny_Assign_Name (wpAny_mono (h s R) (fun v s₁ ⟨σ₁, R₁, m, hσ, h₁⟩ => wpAny_mono (storeW (Q := fun _ σ' => Q .next σ') hσ h₁ hl hp s₁ R₁) (fun _ _ x => x) fun _ _ x => x) fun _ _ x => x) hs
theorem lookup_er (x : Str) : ∀ r : List (Str × Value), (r.lookup x).map er = (r.map fun y => (y.1, er y.2)).lookup x
  | [] => rfl
  | y :: r => by
    show (match x == y.1 with | true => some y.2 | false => r.lookup x).map er = (match x == y.1 with | true => some (er y.2) | false => (r.map fun y => (y.1, er y.2)).lookup x)
    cases x == y.1 with
    | true => rfl
    | false => exact lookup_er x r
structure IsFn (B : Heap) (f : Addr) (fd : FuncData) (body : List Stmt) : Prop where
  there : ∃ o, B.get? f = some o ∧ o.data = .func fd
  code : B.CodeRec fd.code fd.qualname
  body : fd.body = .stmts body
  co : fd.scope.isCoroutine = false
  gen : fd.scope.isGenerator = false
  kind : fd.scope.kind = .function
theorem CL.def {f : Addr} {fd : FuncData} {body : List Stmt} {xs : List V} {bs : List (Str × V)} {n : Nat} {Q : V → MS → Prop} (hA : Ar A l (n + 1)) (hlim : B.NoLimit) (hf : IsFn B f fd body)
    (hb : ∀ vs s, vs.map er = xs → Rel w B os l σ s → ∃ rb, BindsTo s fd ⟨vs, []⟩ rb ∧ rb.map (fun x => (x.1, er x.2)) = bs)
    (hcell : ∀ x ∈ fd.scope.names, x.2 ≠ .cell) (hloc : ∀ x ∈ bs, fd.scope.names.lookup x.1 = some .local)
    (h : ∀ L A', σ L = none → Ar A' (callEnv fd L f :: l) n → SS w B os (callEnv fd L f :: l) A' (callEnv fd L f) body (fun fl σ' => Q (retV fl) σ') E (upd σ L (.ns fun x => bs.reverse.lookup x))) :
    CL w B os l A (.ref f) xs Q E σ := fun vf vs hvf hvs s R => by
  rw [er_ref hvf]
  obtain ⟨o, ho, hd⟩ := hf.there
  obtain ⟨rb, hbind, hrb⟩ := hb vs s hvs R
  refine wpAny_call (codeAny_call_def (Nat.lt_of_le_of_lt (Nat.le_add_right _ _) hA.depth) (R.old _ _ ho) hd (hlim.keeps R.old) (hf.code.keeps R.old) hf.body hbind hcell (fun x hx => ?_) (fun h₀ hns hk => ?_) hf.co hf.gen hf.kind)
  · exact hloc (x.1, er x.2) (hrb ▸ List.mem_map.mpr ⟨x, hx, rfl⟩)
  have hfr := R.fresh
  have hA' : Ar (A.deeper (callEnv fd s.heap.objs.size f)) (callEnv fd s.heap.objs.size f :: l) n := hA.deep
  have hi : IsO w h₀ s.heap.objs.size (.ns fun x => bs.reverse.lookup x) := ⟨_, hns, fun x => by
    rw [← hrb, ← List.map_reverse]; exact lookup_er x _⟩
  have R₁ := R.new (a := s.heap.objs.size) hk (by
    cases q : s.heap.get? s.heap.objs.size with
    | none => rfl
    | some o => exact absurd (Heap.lt_size q) (Nat.lt_irrefl _)) hi (s.toks + rb.length)
  have R₂ : Rel w B os (callEnv fd s.heap.objs.size f :: l) (upd σ s.heap.objs.size (.ns fun x => bs.reverse.lookup x)) { s with heap := h₀, toks := s.toks + rb.length } := by
    obtain ⟨oL, es, ep, hL, hLd, _⟩ := hns
    refine ⟨R₁.gens, R₁.os, R₁.old, R₁.known, ⟨by rw [show (callEnv fd s.heap.objs.size f).scope = fd.scope from rfl, hf.kind]; decide, ⟨_, oL, rfl, hfr.2, hL, fun vs e => by rw [hLd] at e; cases e⟩, R₁.frames⟩, fun a o e hm => ?_⟩
    rcases List.mem_cons.mp hm with rfl | hm
    · rw [upd_self] at e; cases e; exact ⟨_, rfl⟩
    · exact R₁.nsf a o e hm
  refine wpAny_mono (h _ _ hfr.1 hA' _ R₂) (fun fl s' ⟨σ', R', q⟩ => ⟨σ', R'.pop, ?_⟩) fun v s' ⟨e, c, σ', hv, X, q⟩ => ?_
  · cases fl <;> exact q
  · subst hv
    exact XR.leave (A := A.deeper (callEnv fd s.heap.objs.size f)) hA'.frames rfl X fun s'' X' => ⟨e, c, σ', rfl, X', q⟩
end
end Mine
end
section
open PySem PySem.W PySem.Calls PyProof.Rows
namespace Mine
noncomputable def gtab : List (Str × V) :=
  [("RefFormatError", .ref 31), ("_digit", .ref 41), ("unhexlify", .ref 46), ("ObjectID", .ref 53), ("ZERO_SHA", .byt (List.replicate 40 48)), ("valid_hexsha", .ref 60),
   ("HEADREF", .byt [72, 69, 65, 68]), ("SYMREF", .byt [114, 101, 102, 58, 32]), ("BAD_REF_CHARS", .byt [127, 32, 126, 94, 58, 63, 42, 91]), ("Ref", .ref 67), ("SymrefLoop", .ref 84),
   ("parse_symref_value", .ref 94), ("check_ref_format", .ref 101), ("_collapse_slashes", .ref 108), ("RefsContainer", .ref 204), ("DictRefsContainer", .ref 281),
   ("_law_names", .ref 290), ("_law_parts", .ref 291), ("_law_next", .ref 298), ("_law_state", .ref 303), ("_law_value", .ref 310), ("_law_may_stand", .ref 315), ("_law_named", .ref 322), ("_law_valued", .ref 329),
   ("_law_way", .ref 336), ("_law_answer", .ref 343), ("_law_set", .ref 350), ("_law_out", .ref 357), ("_law_deed", .ref 364), ("_law_alike", .ref 369), ("law", .ref 374)]
noncomputable def gmore : List Str := ["__name__", "__doc__", "__package__", "__loader__", "__spec__", "__annotations__", "__builtins__", "__file__", "__cached__", "_wall"]
structure BF (w : World) (B : Heap) : Prop where
  lim : B.NoLimit
  names : ∃ mg mb, B.Ns mainGlobals mg ∧ B.Ns builtinsNs mb ∧ (∀ x v, gtab.lookup x = some v → ∃ v', mg x = some v' ∧ er v' = v) ∧ (∀ x, gtab.lookup x = Option.none → gmore.contains x = false → mg x = Option.none) ∧ (∀ x : Str, x ≠ Str.ofString "__name__" → mb x = bootBuiltins x)
  ob : ∀ a o, (K w.params).lookup a = some o → a ≠ 359 → a ≠ 366 → B.get? a = some o
section
variable (w : World) (B : Heap) (os : OsState) (l : List Env) (A : Around)
noncomputable def SQ (env : Env) (es : List Expr) (Q : List V → MS → Prop) (E : Value → MS → Prop) (σ : MS) : Prop := match es with
  | [] => Q [] σ
  | e :: es => W w B os l A (spliced ((false, eval e env) :: es.map fun e => (false, eval e env))) (fun vs σ' => Q (vs.map er) σ') E σ
end
noncomputable abbrev kArg (Q : List V → MS → Prop) (v : V) : List V → MS → Prop := fun vs σ => Q (v :: vs) σ
section
variable (w : World) (B : Heap) (os : OsState) (l : List Env) (A : Around) (env : Env) (E : Value → MS → Prop)
noncomputable abbrev kSQ (es : List Expr) (Q : List V → MS → Prop) : V → MS → Prop := fun v σ => SQ w B os l A env es (kArg Q v) E σ
noncomputable abbrev kSI (x y : Expr) (Q : V → MS → Prop) (a : V) : V → MS → Prop := fun b σ => SI w B os l A x y a b Q E σ
noncomputable abbrev kSub (x y : Expr) (Q : V → MS → Prop) : V → MS → Prop := fun a σ => EV w B os l A env y (kSI w B os l A E x y Q a) E σ
end
section
variable {w : World} {B : Heap} {os : OsState} {l : List Env} {A : Around} {σ : MS} {E : Value → MS → Prop} {env : Env}
theorem EV.glob {x : Str} {pos : Pos} {v : V} {Q : V → MS → Prop} (G : BF w B) (hv : gtab.lookup x = some v) (h : Q v σ)
    (hg : env.globals = mainGlobals := by rfl) (hk : env.scope.kind = .function := by rfl) (hl : env.kindOf x = some .globalImplicit := by kernel_rfl!) (hd : (x == ("__debug__" : Str)) = false := by kernel_rfl!) : EV w B os l A env (.Name x pos) Q E σ := fun s R => by
  obtain ⟨mg, mb, hm, _, h1, _⟩ := G.names
  obtain ⟨v', hv', rfl⟩ := h1 x v hv
  exact Calls.Name_function_global hk hl (Calls.loadGlobal_global (by rw [hg]; exact hm.keeps R.old) hv' ⟨σ, R, h⟩) hd
theorem EV.built {x : Str} {pos : Pos} {v : V} {Q : V → MS → Prop} (G : BF w B) (hn : gtab.lookup x = Option.none) (hn' : gmore.contains x = false) (hb : (bootBuiltins x).map er = some v) (h : Q v σ)
    (hg : env.globals = mainGlobals := by rfl) (hbs : env.builtins = builtinsNs := by rfl) (hk : env.scope.kind = .function := by rfl) (hl : env.kindOf x = some .globalImplicit := by kernel_rfl!) (hd : (x == ("__debug__" : Str)) = false := by kernel_rfl!)
    : EV w B os l A env (.Name x pos) Q E σ := fun s R => by
  obtain ⟨mg, mb, hm, hmb, _, h2, h3⟩ := G.names
  obtain ⟨v', hv', rfl⟩ := Option.map_eq_some_iff.mp hb
  have hx : x ≠ Str.ofString "__name__" := by
    rintro rfl
    have : gmore.contains (Str.ofString "__name__") = true := by decide +kernel
    rw [this] at hn'; cases hn'
  exact Calls.Name_function_global hk hl (Calls.loadGlobal_builtin (by rw [hg]; exact hm.keeps R.old) (h2 x hn hn') (by rw [hbs]; exact hmb.keeps R.old) ((h3 x hx).trans hv') ⟨σ, R, h⟩) hd
theorem SQ.nil {Q : List V → MS → Prop} (h : Q [] σ) : SQ w B os l A env [] Q E σ := h
theorem SQ.spliced {es : List Expr} {Q : List V → MS → Prop} (h : SQ w B os l A env es Q E σ) : W w B os l A (spliced (es.map fun e => (false, eval e env))) (fun vs σ' => Q (vs.map er) σ') E σ := by
  cases es with
  | nil => exact fun s R => spliced_nil ⟨σ, R, h⟩
  | cons e es => exact h
theorem SQ.cons {e : Expr} {es : List Expr} {Q : List V → MS → Prop} (h : EV w B os l A env e (kSQ w B os l A env E es Q) E σ) : SQ w B os l A env (e :: es) Q E σ :=
  fun s R => spliced_cons (wpAny_mono (h s R) (fun v s₁ ⟨σ₁, R₁, h₁⟩ => h₁.spliced s₁ R₁) fun _ _ x => x)
theorem SQ.args {f : Value} {es : List Expr} {Q : List V → MS → Prop} (h : SQ w B os l A env es Q E σ) :
    W w B os l A (evalArgs f true (es.map fun e => (false, eval e env)) []) (fun a σ' => ∃ vs, a = ⟨vs, []⟩ ∧ Q (vs.map er) σ') E σ := fun s R => by
  cases es with
  | nil => exact evalArgs_nil3 ⟨σ, R, [], rfl, h⟩
  | cons e es => exact Calls.evalArgs_plain (wpAny_mono (h s R) (fun vs s₂ ⟨σ₂, R₂, h₂⟩ => ⟨σ₂, R₂, vs, rfl, h₂⟩) fun _ _ x => x)
theorem plain_any (env : Env) (es : List Expr) : (es.map fun e => (false, eval e env)).any (·.1) = false := by simp
theorem EV.callDef {x : Str} {p pos : Pos} {es : List Expr} {a : Addr} {o : Obj} {fd : FuncData} {Q : V → MS → Prop} (G : BF w B) (hv : gtab.lookup x = some (.ref a)) (ho : B.get? a = some o) (hd : o.data = .func fd)
    (h : SQ w B os l A env es (kCL w B os l A E (.ref a) Q) E σ)
    (hs : backTo pos (starEach es env) = es.map (fun e => (false, eval e env)) := by rfl)
    (hg : env.globals = mainGlobals := by rfl) (hk : env.scope.kind = .function := by rfl) (hl : env.kindOf x = some .globalImplicit := by kernel_rfl!) (hdb : (x == ("__debug__" : Str)) = false := by kernel_rfl!)
    : EV w B os l A env (.Call (.Name x p) es [] pos) Q E σ := fun s R => by
  refine wpAny_Call_NameR (wpAny_mono (EV.glob (Q := fun v σ₁ => v = .ref a ∧ σ₁ = σ) G hv ⟨rfl, rfl⟩ hg hk hl hdb s R) (fun v s₁ hq1 => ?_) fun _ _ x => x)
  obtain ⟨σ₁, R₁, hv₁, hσ⟩ := hq1
  rw [er_ref hv₁, hs]
  subst hσ
  refine Calls.callWith_function (wpAny_mono (h.args s₁ R₁) (fun a s₂ ⟨σ₂, R₂, vs, ha, h₂⟩ => ⟨⟨R₂.old _ _ ho, hd⟩, ?_⟩) fun _ _ x => x)
  subst ha
  exact h₂ _ vs rfl rfl s₂ R₂
theorem EV.callBi {x : Str} {p pos : Pos} {es : List Expr} {id : String} {Q : V → MS → Prop} (G : BF w B) (hn : gtab.lookup x = Option.none) (hn' : gmore.contains x = false) (hb : (bootBuiltins x).map er = some (.bi id))
    (h : SQ w B os l A env es (kCL w B os l A E (.bi id) Q) E σ)
    (hs : backTo pos (starEach es env) = es.map (fun e => (false, eval e env)) := by rfl)
    (hg : env.globals = mainGlobals := by rfl) (hbs : env.builtins = builtinsNs := by rfl) (hk : env.scope.kind = .function := by rfl) (hl : env.kindOf x = some .globalImplicit := by kernel_rfl!) (hdb : (x == ("__debug__" : Str)) = false := by kernel_rfl!)
    : EV w B os l A env (.Call (.Name x p) es [] pos) Q E σ := fun s R => by
  refine wpAny_Call_NameR (wpAny_mono (EV.built (Q := fun v σ₁ => v = .bi id ∧ σ₁ = σ) G hn hn' hb ⟨rfl, rfl⟩ hg hbs hk hl hdb s R) (fun v s₁ hq1 => ?_) fun _ _ x => x)
  obtain ⟨σ₁, R₁, hv₁, hσ⟩ := hq1
  rw [er_bi hv₁, hs]
  subst hσ
  refine Calls.callWith_builtin (plain_any env es) (wpAny_mono (h.args s₁ R₁) (fun a s₂ hq1 => ?_) fun _ _ x => x)
  obtain ⟨σ₂, R₂, vs, ha, h₂⟩ := hq1
  subst ha
  exact h₂ _ vs rfl rfl s₂ R₂
theorem EV.callTy {x : Str} {p pos : Pos} {es : List Expr} {id : String} {Q : V → MS → Prop} (G : BF w B) (hn : gtab.lookup x = Option.none) (hn' : gmore.contains x = false) (hb : (bootBuiltins x).map er = some (.ty id))
    (h : SQ w B os l A env es (kCL w B os l A E (.ty id) Q) E σ)
    (hs : backTo pos (starEach es env) = es.map (fun e => (false, eval e env)) := by rfl)
    (hg : env.globals = mainGlobals := by rfl) (hbs : env.builtins = builtinsNs := by rfl) (hk : env.scope.kind = .function := by rfl) (hl : env.kindOf x = some .globalImplicit := by kernel_rfl!) (hdb : (x == ("__debug__" : Str)) = false := by kernel_rfl!)
    : EV w B os l A env (.Call (.Name x p) es [] pos) Q E σ := fun s R => by
  refine wpAny_Call_NameR (wpAny_mono (EV.built (Q := fun v σ₁ => v = .ty id ∧ σ₁ = σ) G hn hn' hb ⟨rfl, rfl⟩ hg hbs hk hl hdb s R) (fun v s₁ hq1 => ?_) fun _ _ x => x)
  obtain ⟨σ₁, R₁, hv₁, hσ⟩ := hq1
  rw [er_ty hv₁, hs]
  subst hσ
  refine PyProof.Rows.callWith_type (plain_any env es) (wpAny_mono (h.args s₁ R₁) (fun a s₂ hq1 => ?_) fun _ _ x => x)
  obtain ⟨σ₂, R₂, vs, ha, h₂⟩ := hq1
  subst ha
  exact h₂ _ vs rfl rfl s₂ R₂
theorem list1 {vs : List Value} {a : V} (h : vs.map er = [a]) : ∃ x, vs = [x] ∧ er x = a := by
  obtain ⟨x, t, rfl, hx, ht⟩ := List.map_eq_cons_iff.mp h
  exact ⟨x, by rw [List.map_eq_nil_iff.mp ht], hx⟩
theorem list2 {vs : List Value} {a b : V} (h : vs.map er = [a, b]) : ∃ x y, vs = [x, y] ∧ er x = a ∧ er y = b := by
  obtain ⟨x, t, rfl, hx, ht⟩ := List.map_eq_cons_iff.mp h
  obtain ⟨y, rfl, hy⟩ := list1 ht
  exact ⟨x, y, rfl, hx, hy⟩
theorem list3 {vs : List Value} {a b c : V} (h : vs.map er = [a, b, c]) : ∃ x y z, vs = [x, y, z] ∧ er x = a ∧ er y = b ∧ er z = c := by
  obtain ⟨x, t, rfl, hx, ht⟩ := List.map_eq_cons_iff.mp h
  obtain ⟨y, z, rfl, hy⟩ := list2 ht
  exact ⟨x, y, z, rfl, hx, hy⟩
theorem CL.abs {i : Int} {Q : V → MS → Prop} (h : Q (.int (if i < 0 then -i else i)) σ) : CL w B os l A (.bi "abs") [.int i] Q E σ := fun vf vs hf hs s R => by
  obtain ⟨x, rfl, hx⟩ := list1 hs
  obtain ⟨t, rfl⟩ := er_int hx
  rw [er_bi hf]
  exact call_abs_int fun u tk => ⟨σ, R.toks tk, h⟩
theorem CL.lenList {a : Addr} {xs : List V} {Q : V → MS → Prop} (ha : σ a = some (.list xs)) (hfit : (xs.length : Int) < 2 ^ 63) (h : Q (.int xs.length) σ) : CL w B os l A (.bi "len") [.ref a] Q E σ := fun vf vs hf hs s R => by
  obtain ⟨x, rfl, hx⟩ := list1 hs
  rw [er_bi hf, er_ref hx]
  obtain ⟨_, vs, n, hx', rfl⟩ := R.known _ _ ha
  have hl := IsL.isList hx'
  have e : ((vs.toList.map er).length : Int) = (vs.size : Int) := by simp
  rw [e] at h hfit
  exact Calls.call_len_list hl hfit ⟨σ, R.toks _, h⟩
theorem CL.lenB {b : List UInt8} {Q : V → MS → Prop} (hfit : b.length ≤ 1099511627776) (h : Q (.int b.length) σ) : CL w B os l A (.bi "len") [.byt b] Q E σ := fun vf vs hf hs s R => by
  obtain ⟨x, rfl, hx⟩ := list1 hs
  obtain ⟨t, rfl⟩ := er_byt hx
  rw [er_bi hf]
  exact len_bytes (by simpa using hfit) ⟨σ, R.toks _, by simpa [er] using h⟩
theorem EV.sub {x y : Expr} {pos : Pos} {Q : V → MS → Prop} (h : EV w B os l A env x (kSub w B os l A env E x y Q) E σ) : EV w B os l A env (.Subscript x y pos) Q E σ :=
  fun s R => Subscript_ (wpAny_mono (h s R) (fun a s₁ ⟨σ₁, R₁, h₁⟩ => wpAny_mono (h₁ s₁ R₁) (fun b s₂ ⟨σ₂, R₂, h₂⟩ => h₂ a b rfl rfl s₂ R₂) fun _ _ x => x) fun _ _ x => x)
theorem SI.list {x y : Expr} {a : Addr} {xs : List V} {i : Int} {v : V} {Q : V → MS → Prop} (ha : σ a = some (.list xs)) (h0 : 0 ≤ i) (hfit : i < 2 ^ 63) (hx : xs[i.toNat]? = some v) (h : Q v σ)
    (hs : ∀ u, subscripted y false (.ref a) (.int i u) = operate [.ref a, .int i u] (getItem (.ref a) (.int i u)) := by intro _; with_unfolding_all rfl) : SI w B os l A x y (.ref a) (.int i) Q E σ := fun va vb ha' hb s R => by
  obtain ⟨u, rfl⟩ := er_int hb
  rw [er_ref ha']
  obtain ⟨_, vs, n, hx', rfl⟩ := R.known _ _ ha
  have hl := IsL.isList hx'
  rw [List.getElem?_map] at hx
  obtain ⟨v', hv', rfl⟩ := Option.map_eq_some_iff.mp hx
  exact tail_any hl.typeIs slot_list_getitem.lookup (wpAny_getItem_list hl h0 hfit (by simpa using hv') ⟨σ, R, h⟩) (hs u)
theorem ST.assignSub {o i value : Expr} {pos' pos : Pos} {Q : Fl → MS → Prop}
    (h : EV w B os l A env value (fun v σ₁ => EV w B os l A env o (fun ov σ₂ => EV w B os l A env i (fun iv σ₃ => ∀ a b c, er a = ov → er b = iv → er c = v → W w B os l A (setItem a b c) (fun _ σ' => Q .next σ') E σ₃) E σ₂) E σ₁) E σ)
    (hs : swapsWith value (some (.Subscript o i pos')) pos.line env = pure false := by rfl) : ST w B os l A env (.Assign [.Subscript o i pos'] value pos) Q E σ := fun s R =>
  wpAny_Assign_Subscript (wpAny_mono (h s R) (fun v s₁ ⟨σ₁, R₁, h₁⟩ => wpAny_mono (h₁ s₁ R₁) (fun a s₂ ⟨σ₂, R₂, h₂⟩ => wpAny_mono (h₂ s₂ R₂) (fun b s₃ ⟨σ₃, R₃, h₃⟩ => h₃ a b v rfl rfl rfl s₃ R₃) fun _ _ x => x) fun _ _ x => x) fun _ _ x => x) hs
theorem setList {a : Addr} {xs : List V} {i : Int} {va vb vc : Value} {v : V} {Q : Unit → MS → Prop} (hva : er va = .ref a) (hvb : er vb = .int i) (hvc : er vc = v) (ha : σ a = some (.list xs)) (h0 : 0 ≤ i) (hfit : i < 2 ^ 63) (hn : i < xs.length)
    (h : Q () (upd σ a (.list (xs.set i.toNat v)))) : W w B os l A (setItem va vb vc) Q E σ := fun s R => by
  obtain ⟨u, rfl⟩ := er_int hvb
  rw [er_ref hva]
  obtain ⟨_, vs, n, hl, rfl⟩ := R.known _ _ ha
  refine ki_setAt hl h0 hfit (by simpa using hn) ⟨_, R.turn (o' := .list _) ha (Heap.SameBut.update ..) ⟨_, _, IsL.update hl _, ?_⟩ _ (fun m e => by cases e), h⟩
  simp [List.map_set, hvc]
theorem setListBack {a : Addr} {xs : List V} {i : Int} {va vb vc : Value} {v : V} {Q : Unit → MS → Prop} (hva : er va = .ref a) (hvb : er vb = .int i) (hvc : er vc = v) (ha : σ a = some (.list xs)) (h0 : i < 0) (h1 : -(xs.length : Int) ≤ i) (hfit : -(2 ^ 63) ≤ i)
    (h : Q () (upd σ a (.list (xs.set (i + xs.length).toNat v)))) : W w B os l A (setItem va vb vc) Q E σ := fun s R => by
  obtain ⟨u, rfl⟩ := er_int hvb
  rw [er_ref hva]
  obtain ⟨_, vs, n, hl, rfl⟩ := R.known _ _ ha
  refine ki_setBack hl h0 (by simpa using h1) hfit ⟨_, R.turn (o' := .list _) ha (Heap.SameBut.update ..) ⟨_, _, IsL.update hl _, ?_⟩ _ (fun m e => by cases e), h⟩
  simp [List.map_set, hvc]
theorem CL.append {a : Addr} {xs : List V} {v : V} {Q : V → MS → Prop} (ha : σ a = some (.list xs)) (hz : xs.length ≤ 1000000) (h : Q .none (upd σ a (.list (xs ++ [v])))) : CL w B os l A (.bi "list.append") [.ref a, v] Q E σ := fun vf vs hf hs s R => by
  obtain ⟨x, y, rfl, hx, rfl⟩ := list2 hs
  rw [er_bi hf, er_ref hx]
  obtain ⟨_, us, n, hl, rfl⟩ := R.known _ _ ha
  refine append_at hl (fun h' hs' ho => ⟨_, R.turn (o' := .list _) ha hs' ⟨_, _, ho, ?_⟩ _ (fun m e => by cases e), h⟩) (Nat.le_trans (by simpa using hz) (by decide +kernel))
  simp
theorem BN.modI {i j : Int} {Q : V → MS → Prop} (hA : A.handled = Option.none) (hj : j ≠ 0) (h : Q (.int (i.fmod j)) σ) : BN w B os l A .Mod (.int i) (.int j) Q E σ := fun va vb ha hb s R => by
  obtain ⟨t, rfl⟩ := er_int ha; obtain ⟨u, rfl⟩ := er_int hb
  exact mod_int_or hA (fun e => absurd e hj) fun _ => ⟨σ, R.toks _, h⟩
theorem BN.divI {i j : Int} {Q : V → MS → Prop} (hA : A.handled = Option.none) (hj : j ≠ 0) (hj' : j.natAbs < 1073741824) (h : Q (.int (i.fdiv j)) σ) : BN w B os l A .FloorDiv (.int i) (.int j) Q E σ := fun va vb ha hb s R => by
  obtain ⟨t, rfl⟩ := er_int ha; obtain ⟨u, rfl⟩ := er_int hb
  exact floordiv_int_or hA (fun e => absurd e hj) (fun _ => ⟨σ, R.toks _, h⟩) fun _ => .inl (PyProof.noPylong_small hj')
theorem BN.subI {i j : Int} {Q : V → MS → Prop} (h : Q (.int (i - j)) σ) : BN w B os l A .Sub (.int i) (.int j) Q E σ := fun va vb ha hb s R => by
  obtain ⟨t, rfl⟩ := er_int ha; obtain ⟨u, rfl⟩ := er_int hb; refine sub_int ?_; exact ⟨σ, R.toks _, h⟩
theorem IsFn.of {a : Addr} {fd : FuncData} {body : List Stmt} (G : BF w B) (c : Addr) (n1 : a ≠ 359) (n2 : a ≠ 366) (n3 : c ≠ 359) (n4 : c ≠ 366) (ho : ∃ o, (K w.params).lookup a = some o ∧ o.data = .func fd)
    (hc : codeIn (K w.params) (.ref c) fd.qualname = true) (hcd : fd.code = .ref c) (hb : fd.body = .stmts body) (hco : fd.scope.isCoroutine = false) (hg : fd.scope.isGenerator = false) (hk : fd.scope.kind = .function) : IsFn B a fd body := by
  obtain ⟨o, ho, hd⟩ := ho
  refine ⟨⟨o, G.ob a o ho n1 n2, hd⟩, ?_, hb, hco, hg, hk⟩
  rw [hcd]
  unfold codeIn at hc
  simp only at hc
  split at hc
  · rename_i vs _ ho
    split at hc
    · rename_i a n t r hv
      exact ⟨c, _, vs, t, rfl, G.ob _ _ ho n3 n4, rfl, by rw [← Array.getElem?_toList, hv, ← beq_iff_eq.mp hc]; rfl⟩
    · cases hc
  · cases hc
end
end Mine
end
section
open PySem PySem.W PySem.Calls PyProof.Rows
namespace Mine
noncomputable def bodyOf : Stmt → List Stmt
  | .FunctionDef _ _ b _ _ _ _ _ _ _ => b
  | _ => []
noncomputable abbrev fr (bs : List (Str × V)) : Str → Option V := fun x => bs.lookup x
noncomputable def Le (τ σ : MS) : Prop := ∀ a o, τ a = some o → σ a = some o
noncomputable abbrev Dn (P : MS → Prop) (σ : MS) : Prop := ∃ τ, Le τ σ ∧ P τ
noncomputable abbrev kBody (Q : V → MS → Prop) : Fl → MS → Prop := fun fl σ => Dn (Q (retV fl)) σ
noncomputable abbrev kDn (E : Value → MS → Prop) : Value → MS → Prop := fun c σ => Dn (E c) σ
noncomputable abbrev kDnV (Q : V → MS → Prop) : V → MS → Prop := fun v σ => Dn (Q v) σ
theorem Le.rfl {σ : MS} : Le σ σ := fun _ _ h => h
theorem Le.trans {ρ τ σ : MS} (h : Le ρ τ) (k : Le τ σ) : Le ρ σ := fun a o e => k a o (h a o e)
theorem Le.fresh {σ : MS} {a : Addr} {o : O} (h : σ a = none) : Le σ (upd σ a o) := fun b ob e => by
  rw [upd_ne]; exact e
  rintro rfl; rw [h] at e; cases e
theorem Le.upd {τ σ : MS} {a : Addr} {o : O} (h : Le τ σ) : Le (upd τ a o) (upd σ a o) := fun b ob e => by
  by_cases q : b = a
  · subst q; rw [upd_self] at e ⊢; exact e
  · rw [upd_ne _ _ q] at e ⊢; exact h b ob e
theorem Le.over {τ σ : MS} {a : Addr} {o : O} (h : Le τ σ) (k : τ a = none) : Le τ (Mine.upd σ a o) := fun b ob e => by
  rw [upd_ne]; exact h b ob e
  rintro rfl; rw [k] at e; cases e
theorem Dn.of {P : MS → Prop} {σ : MS} (h : P σ) : Dn P σ := ⟨σ, Le.rfl, h⟩
theorem XR.less {w : World} {B : Heap} {os : OsState} {l : List Env} {e : Addr} {cls : Value} {σ τ : MS} {s : Shared} (X : XR w B os l e cls σ s) (h : Le τ σ) : XR w B os l e cls τ s := by
  obtain ⟨g, o, B₂, a0, h1, h2, h3, h4, h5, h6⟩ := X
  exact ⟨g, o, B₂, a0, h1, h2, h3, h4, fun a ob q => h5 a ob (h a ob q), h6⟩
section
variable {w : World} {B : Heap} {os : OsState} {l : List Env} {A : Around} {σ : MS} {E : Value → MS → Prop} {env : Env} {α : Type}
theorem W.forget {t : Sem α} {Q : α → MS → Prop} (h : W w B os l A t (fun a => Dn (Q a)) (fun c => Dn (E c)) σ) : W w B os l A t Q E σ :=
  fun s R => wpAny_mono (h s R) (fun a s' ⟨σ', R', τ, hl, q⟩ => ⟨τ, R'.less hl, q⟩) fun v s' ⟨e, c, σ', hv, X, τ, hl, q⟩ => ⟨e, c, τ, hv, X.less hl, q⟩
theorem EV.forget {e : Expr} {Q : V → MS → Prop} (h : EV w B os l A env e (fun a => Dn (Q a)) (fun c => Dn (E c)) σ) : EV w B os l A env e Q E σ := W.forget h
theorem CL.forget {f : V} {xs : List V} {Q : V → MS → Prop} (h : CL w B os l A f xs (fun a => Dn (Q a)) (fun c => Dn (E c)) σ) : CL w B os l A f xs Q E σ := fun vf vs h1 h2 => W.forget (h vf vs h1 h2)
theorem EV.mono {e : Expr} {Q Q' : V → MS → Prop} {E' : Value → MS → Prop} (h : EV w B os l A env e Q E σ) (hq : ∀ a σ, Q a σ → Q' a σ) (he : ∀ a σ, E a σ → E' a σ) : EV w B os l A env e Q' E' σ := W.mono h (fun a σ => hq _ _) he
theorem CL.mono {f : V} {xs : List V} {Q Q' : V → MS → Prop} {E' : Value → MS → Prop} (h : CL w B os l A f xs Q E σ) (hq : ∀ a σ, Q a σ → Q' a σ) (he : ∀ a σ, E a σ → E' a σ) : CL w B os l A f xs Q' E' σ := fun vf vs h1 h2 => W.mono (h vf vs h1 h2) (fun a σ => hq _ _) he
theorem TR.mono {e : Expr} {Q Q' : Bool → MS → Prop} {E' : Value → MS → Prop} (h : TR w B os l A env e Q E σ) (hq : ∀ a σ, Q a σ → Q' a σ) (he : ∀ a σ, E a σ → E' a σ) : TR w B os l A env e Q' E' σ := W.mono h hq he
theorem list0 {vs : List Value} (h : vs.map er = []) : vs = [] := by cases vs <;> simp at h ⊢
theorem list4 {vs : List Value} {a b c d : V} (h : vs.map er = [a, b, c, d]) : ∃ x y z u, vs = [x, y, z, u] ∧ er x = a ∧ er y = b ∧ er z = c ∧ er u = d := by
  obtain ⟨x, t, rfl, hx, ht⟩ := List.map_eq_cons_iff.mp h
  obtain ⟨y, z, u, rfl, hy⟩ := list3 ht
  exact ⟨x, y, z, u, rfl, hx, hy⟩
theorem locs {fd : FuncData} {bs : List (Str × V)} (ns : List Str) (hn : bs.map (·.1) = ns) (h : ∀ x ∈ ns, fd.scope.names.lookup x = some .local) : ∀ x ∈ bs, fd.scope.names.lookup x.1 = some .local :=
  fun x hx => h x.1 (hn ▸ List.mem_map.mpr ⟨x, hx, rfl⟩)
theorem CL.defF {f : Addr} {fd : FuncData} {body : List Stmt} {xs : List V} {bs rbs : List (Str × V)} {n : Nat} {Q : V → MS → Prop} (hA : Ar A l (n + 1)) (G : BF w B) (hf : IsFn B f fd body)
    (hb : ∀ vs s, vs.map er = xs → Rel w B os l σ s → ∃ rb, BindsTo s fd ⟨vs, []⟩ rb ∧ rb.map (fun x => (x.1, er x.2)) = bs)
    (hcell : ∀ x ∈ fd.scope.names, x.2 ≠ .cell) (hloc : ∀ x ∈ bs, fd.scope.names.lookup x.1 = some .local) (hr : bs.reverse = rbs)
    (h : ∀ L A', σ L = none → Ar A' (callEnv fd L f :: l) n → SS w B os (callEnv fd L f :: l) A' (callEnv fd L f) body (kBody Q) (kDn E) (upd σ L (.ns (fr rbs)))) :
    CL w B os l A (.ref f) xs Q E σ := by
  subst hr
  exact CL.forget (CL.def hA G.lim hf hb hcell hloc h)
end
end Mine
end
section
open PySem PySem.W PySem.Calls PyProof.Rows
namespace Mine
section
variable {w : World} {B : Heap} {os : OsState} {l : List Env} {A : Around} {σ : MS} {E : Value → MS → Prop}
noncomputable abbrev fd41 : FuncData := fdOf (top 4) (Str.ofString "_digit") .none .none (.str (Str.ofString "dulwich.objects") 216) (.ref 40)
noncomputable abbrev bd41 : List Stmt := bodyOf (top 4)
theorem is41 (G : BF w B) : IsFn B 41 fd41 bd41 := IsFn.of G 40 (by decide) (by decide) (by decide) (by decide) ⟨o41 w.params, by kernel_rfl!, rfl⟩ (by kernel_rfl!) rfl rfl rfl rfl rfl
theorem call41 {n : Nat} {x0 : V} {Q : V → MS → Prop} (hA : Ar A l (n + 1)) (G : BF w B)
    (h : ∀ L A', σ L = none → Ar A' (callEnv fd41 L 41 :: l) n → SS w B os (callEnv fd41 L 41 :: l) A' (callEnv fd41 L 41) bd41 (kBody Q) (kDn E) (upd σ L (.ns (fr [(Str.ofString "octet", x0)])))) :
    CL w B os l A (.ref 41) [x0] Q E σ :=
  by refine CL.defF (bs := [(Str.ofString "octet", x0)]) (rbs := [(Str.ofString "octet", x0)]) hA G (is41 G) (fun vs s hv _ => by
    obtain ⟨v0, rfl, rfl⟩ := list1 hv
    exact ⟨[(Str.ofString "octet", v0)], BindsTo.of_eq (by kernel_rfl!), rfl⟩) (by decide +kernel) (locs ["octet"] (by rfl) (by decide +kernel)) rfl ?_; with_reducible exact h
noncomputable abbrev fd46 : FuncData := fdOf (top 5) (Str.ofString "unhexlify") .none .none (.str (Str.ofString "dulwich.objects") 216) (.ref 45)
noncomputable abbrev bd46 : List Stmt := bodyOf (top 5)
theorem is46 (G : BF w B) : IsFn B 46 fd46 bd46 := IsFn.of G 45 (by decide) (by decide) (by decide) (by decide) ⟨o46 w.params, by kernel_rfl!, rfl⟩ (by kernel_rfl!) rfl rfl rfl rfl rfl
noncomputable abbrev fd53 : FuncData := fdOf (top 6) (Str.ofString "ObjectID") .none .none (.str (Str.ofString "dulwich.objects") 216) (.ref 52)
noncomputable abbrev bd53 : List Stmt := bodyOf (top 6)
theorem is53 (G : BF w B) : IsFn B 53 fd53 bd53 := IsFn.of G 52 (by decide) (by decide) (by decide) (by decide) ⟨o53 w.params, by kernel_rfl!, rfl⟩ (by kernel_rfl!) rfl rfl rfl rfl rfl
theorem call53 {n : Nat} {x0 : V} {Q : V → MS → Prop} (hA : Ar A l (n + 1)) (G : BF w B)
    (h : ∀ L A', σ L = none → Ar A' (callEnv fd53 L 53 :: l) n → SS w B os (callEnv fd53 L 53 :: l) A' (callEnv fd53 L 53) bd53 (kBody Q) (kDn E) (upd σ L (.ns (fr [(Str.ofString "octets", x0)])))) :
    CL w B os l A (.ref 53) [x0] Q E σ :=
  by refine CL.defF (bs := [(Str.ofString "octets", x0)]) (rbs := [(Str.ofString "octets", x0)]) hA G (is53 G) (fun vs s hv _ => by
    obtain ⟨v0, rfl, rfl⟩ := list1 hv
    exact ⟨[(Str.ofString "octets", v0)], BindsTo.of_eq (by kernel_rfl!), rfl⟩) (by decide +kernel) (locs ["octets"] (by rfl) (by decide +kernel)) rfl ?_; with_reducible exact h
noncomputable abbrev fd60 : FuncData := fdOf (top 8) (Str.ofString "valid_hexsha") .none .none (.str (Str.ofString "dulwich.objects") 216) (.ref 59)
noncomputable abbrev bd60 : List Stmt := bodyOf (top 8)
theorem is60 (G : BF w B) : IsFn B 60 fd60 bd60 := IsFn.of G 59 (by decide) (by decide) (by decide) (by decide) ⟨o60 w.params, by kernel_rfl!, rfl⟩ (by kernel_rfl!) rfl rfl rfl rfl rfl
theorem call60 {n : Nat} {x0 : V} {Q : V → MS → Prop} (hA : Ar A l (n + 1)) (G : BF w B)
    (h : ∀ L A', σ L = none → Ar A' (callEnv fd60 L 60 :: l) n → SS w B os (callEnv fd60 L 60 :: l) A' (callEnv fd60 L 60) bd60 (kBody Q) (kDn E) (upd σ L (.ns (fr [(Str.ofString "hex", x0)])))) :
    CL w B os l A (.ref 60) [x0] Q E σ :=
  by refine CL.defF (bs := [(Str.ofString "hex", x0)]) (rbs := [(Str.ofString "hex", x0)]) hA G (is60 G) (fun vs s hv _ => by
    obtain ⟨v0, rfl, rfl⟩ := list1 hv
    exact ⟨[(Str.ofString "hex", v0)], BindsTo.of_eq (by kernel_rfl!), rfl⟩) (by decide +kernel) (locs ["hex"] (by rfl) (by decide +kernel)) rfl ?_; with_reducible exact h
noncomputable abbrev fd67 : FuncData := fdOf (top 13) (Str.ofString "Ref") .none .none (.str (Str.ofString "dulwich.refs") 247) (.ref 66)
noncomputable abbrev bd67 : List Stmt := bodyOf (top 13)
theorem is67 (G : BF w B) : IsFn B 67 fd67 bd67 := IsFn.of G 66 (by decide) (by decide) (by decide) (by decide) ⟨o67 w.params, by kernel_rfl!, rfl⟩ (by kernel_rfl!) rfl rfl rfl rfl rfl
theorem call67 {n : Nat} {x0 : V} {Q : V → MS → Prop} (hA : Ar A l (n + 1)) (G : BF w B)
    (h : ∀ L A', σ L = none → Ar A' (callEnv fd67 L 67 :: l) n → SS w B os (callEnv fd67 L 67 :: l) A' (callEnv fd67 L 67) bd67 (kBody Q) (kDn E) (upd σ L (.ns (fr [(Str.ofString "octets", x0)])))) :
    CL w B os l A (.ref 67) [x0] Q E σ :=
  by refine CL.defF (bs := [(Str.ofString "octets", x0)]) (rbs := [(Str.ofString "octets", x0)]) hA G (is67 G) (fun vs s hv _ => by
    obtain ⟨v0, rfl, rfl⟩ := list1 hv
    exact ⟨[(Str.ofString "octets", v0)], BindsTo.of_eq (by kernel_rfl!), rfl⟩) (by decide +kernel) (locs ["octets"] (by rfl) (by decide +kernel)) rfl ?_; with_reducible exact h
noncomputable abbrev fd81 : FuncData := fdOf (meth 14 0) (Str.ofString "SymrefLoop.__init__") .none .none (.str (Str.ofString "dulwich.refs") 247) (.ref 80)
noncomputable abbrev bd81 : List Stmt := bodyOf (meth 14 0)
theorem is81 (G : BF w B) : IsFn B 81 fd81 bd81 := IsFn.of G 80 (by decide) (by decide) (by decide) (by decide) ⟨o81 w.params, by kernel_rfl!, rfl⟩ (by kernel_rfl!) rfl rfl rfl rfl rfl
noncomputable abbrev fd94 : FuncData := fdOf (top 15) (Str.ofString "parse_symref_value") .none .none (.str (Str.ofString "dulwich.refs") 247) (.ref 93)
noncomputable abbrev bd94 : List Stmt := bodyOf (top 15)
theorem is94 (G : BF w B) : IsFn B 94 fd94 bd94 := IsFn.of G 93 (by decide) (by decide) (by decide) (by decide) ⟨o94 w.params, by kernel_rfl!, rfl⟩ (by kernel_rfl!) rfl rfl rfl rfl rfl
theorem call94 {n : Nat} {x0 : V} {Q : V → MS → Prop} (hA : Ar A l (n + 1)) (G : BF w B)
    (h : ∀ L A', σ L = none → Ar A' (callEnv fd94 L 94 :: l) n → SS w B os (callEnv fd94 L 94 :: l) A' (callEnv fd94 L 94) bd94 (kBody Q) (kDn E) (upd σ L (.ns (fr [(Str.ofString "contents", x0)])))) :
    CL w B os l A (.ref 94) [x0] Q E σ :=
  by refine CL.defF (bs := [(Str.ofString "contents", x0)]) (rbs := [(Str.ofString "contents", x0)]) hA G (is94 G) (fun vs s hv _ => by
    obtain ⟨v0, rfl, rfl⟩ := list1 hv
    exact ⟨[(Str.ofString "contents", v0)], BindsTo.of_eq (by kernel_rfl!), rfl⟩) (by decide +kernel) (locs ["contents"] (by rfl) (by decide +kernel)) rfl ?_; with_reducible exact h
noncomputable abbrev fd101 : FuncData := fdOf (top 16) (Str.ofString "check_ref_format") .none .none (.str (Str.ofString "dulwich.refs") 247) (.ref 100)
noncomputable abbrev bd101 : List Stmt := bodyOf (top 16)
theorem is101 (G : BF w B) : IsFn B 101 fd101 bd101 := IsFn.of G 100 (by decide) (by decide) (by decide) (by decide) ⟨o101 w.params, by kernel_rfl!, rfl⟩ (by kernel_rfl!) rfl rfl rfl rfl rfl
theorem call101 {n : Nat} {x0 : V} {Q : V → MS → Prop} (hA : Ar A l (n + 1)) (G : BF w B)
    (h : ∀ L A', σ L = none → Ar A' (callEnv fd101 L 101 :: l) n → SS w B os (callEnv fd101 L 101 :: l) A' (callEnv fd101 L 101) bd101 (kBody Q) (kDn E) (upd σ L (.ns (fr [(Str.ofString "refname", x0)])))) :
    CL w B os l A (.ref 101) [x0] Q E σ :=
  by refine CL.defF (bs := [(Str.ofString "refname", x0)]) (rbs := [(Str.ofString "refname", x0)]) hA G (is101 G) (fun vs s hv _ => by
    obtain ⟨v0, rfl, rfl⟩ := list1 hv
    exact ⟨[(Str.ofString "refname", v0)], BindsTo.of_eq (by kernel_rfl!), rfl⟩) (by decide +kernel) (locs ["refname"] (by rfl) (by decide +kernel)) rfl ?_; with_reducible exact h
noncomputable abbrev fd123 : FuncData := fdOf (meth 18 0) (Str.ofString "RefsContainer.keys") (.ref 116) .none (.str (Str.ofString "dulwich.refs") 247) (.ref 122)
noncomputable abbrev bd123 : List Stmt := bodyOf (meth 18 0)
theorem is123 (G : BF w B) : IsFn B 123 fd123 bd123 := IsFn.of G 122 (by decide) (by decide) (by decide) (by decide) ⟨o123 w.params, by kernel_rfl!, rfl⟩ (by kernel_rfl!) rfl rfl rfl rfl rfl
noncomputable abbrev fd130 : FuncData := fdOf (meth 18 1) (Str.ofString "RefsContainer.subkeys") .none .none (.str (Str.ofString "dulwich.refs") 247) (.ref 129)
noncomputable abbrev bd130 : List Stmt := bodyOf (meth 18 1)
theorem is130 (G : BF w B) : IsFn B 130 fd130 bd130 := IsFn.of G 129 (by decide) (by decide) (by decide) (by decide) ⟨o130 w.params, by kernel_rfl!, rfl⟩ (by kernel_rfl!) rfl rfl rfl rfl rfl
theorem call130 {n : Nat} {x0 x1 : V} {Q : V → MS → Prop} (hA : Ar A l (n + 1)) (G : BF w B)
    (h : ∀ L A', σ L = none → Ar A' (callEnv fd130 L 130 :: l) n → SS w B os (callEnv fd130 L 130 :: l) A' (callEnv fd130 L 130) bd130 (kBody Q) (kDn E) (upd σ L (.ns (fr [(Str.ofString "base", x1), (Str.ofString "self", x0)])))) :
    CL w B os l A (.ref 130) [x0, x1] Q E σ :=
  by refine CL.defF (bs := [(Str.ofString "self", x0), (Str.ofString "base", x1)]) (rbs := [(Str.ofString "base", x1), (Str.ofString "self", x0)]) hA G (is130 G) (fun vs s hv _ => by
    obtain ⟨v0, v1, rfl, rfl, rfl⟩ := list2 hv
    exact ⟨[(Str.ofString "self", v0), (Str.ofString "base", v1)], BindsTo.of_eq (by kernel_rfl!), rfl⟩) (by decide +kernel) (locs ["self", "base"] (by rfl) (by decide +kernel)) rfl ?_; with_reducible exact h
noncomputable abbrev fd138 : FuncData := fdOf (meth 18 2) (Str.ofString "RefsContainer.as_dict") (.ref 131) .none (.str (Str.ofString "dulwich.refs") 247) (.ref 137)
noncomputable abbrev bd138 : List Stmt := bodyOf (meth 18 2)
theorem is138 (G : BF w B) : IsFn B 138 fd138 bd138 := IsFn.of G 137 (by decide) (by decide) (by decide) (by decide) ⟨o138 w.params, by kernel_rfl!, rfl⟩ (by kernel_rfl!) rfl rfl rfl rfl rfl
noncomputable abbrev fd145 : FuncData := fdOf (meth 18 3) (Str.ofString "RefsContainer._check_refname") .none .none (.str (Str.ofString "dulwich.refs") 247) (.ref 144)
noncomputable abbrev bd145 : List Stmt := bodyOf (meth 18 3)
theorem is145 (G : BF w B) : IsFn B 145 fd145 bd145 := IsFn.of G 144 (by decide) (by decide) (by decide) (by decide) ⟨o145 w.params, by kernel_rfl!, rfl⟩ (by kernel_rfl!) rfl rfl rfl rfl rfl
theorem call145 {n : Nat} {x0 x1 : V} {Q : V → MS → Prop} (hA : Ar A l (n + 1)) (G : BF w B)
    (h : ∀ L A', σ L = none → Ar A' (callEnv fd145 L 145 :: l) n → SS w B os (callEnv fd145 L 145 :: l) A' (callEnv fd145 L 145) bd145 (kBody Q) (kDn E) (upd σ L (.ns (fr [(Str.ofString "name", x1), (Str.ofString "self", x0)])))) :
    CL w B os l A (.ref 145) [x0, x1] Q E σ :=
  by refine CL.defF (bs := [(Str.ofString "self", x0), (Str.ofString "name", x1)]) (rbs := [(Str.ofString "name", x1), (Str.ofString "self", x0)]) hA G (is145 G) (fun vs s hv _ => by
    obtain ⟨v0, v1, rfl, rfl, rfl⟩ := list2 hv
    exact ⟨[(Str.ofString "self", v0), (Str.ofString "name", v1)], BindsTo.of_eq (by kernel_rfl!), rfl⟩) (by decide +kernel) (locs ["self", "name"] (by rfl) (by decide +kernel)) rfl ?_; with_reducible exact h
noncomputable abbrev fd152 : FuncData := fdOf (meth 18 4) (Str.ofString "RefsContainer._check_ref_value") .none .none (.str (Str.ofString "dulwich.refs") 247) (.ref 151)
noncomputable abbrev bd152 : List Stmt := bodyOf (meth 18 4)
theorem is152 (G : BF w B) : IsFn B 152 fd152 bd152 := IsFn.of G 151 (by decide) (by decide) (by decide) (by decide) ⟨o152 w.params, by kernel_rfl!, rfl⟩ (by kernel_rfl!) rfl rfl rfl rfl rfl
theorem call152 {n : Nat} {x0 x1 : V} {Q : V → MS → Prop} (hA : Ar A l (n + 1)) (G : BF w B)
    (h : ∀ L A', σ L = none → Ar A' (callEnv fd152 L 152 :: l) n → SS w B os (callEnv fd152 L 152 :: l) A' (callEnv fd152 L 152) bd152 (kBody Q) (kDn E) (upd σ L (.ns (fr [(Str.ofString "ref", x1), (Str.ofString "self", x0)])))) :
    CL w B os l A (.ref 152) [x0, x1] Q E σ :=
  by refine CL.defF (bs := [(Str.ofString "self", x0), (Str.ofString "ref", x1)]) (rbs := [(Str.ofString "ref", x1), (Str.ofString "self", x0)]) hA G (is152 G) (fun vs s hv _ => by
    obtain ⟨v0, v1, rfl, rfl, rfl⟩ := list2 hv
    exact ⟨[(Str.ofString "self", v0), (Str.ofString "ref", v1)], BindsTo.of_eq (by kernel_rfl!), rfl⟩) (by decide +kernel) (locs ["self", "ref"] (by rfl) (by decide +kernel)) rfl ?_; with_reducible exact h
noncomputable abbrev fd159 : FuncData := fdOf (meth 18 5) (Str.ofString "RefsContainer.read_ref") .none .none (.str (Str.ofString "dulwich.refs") 247) (.ref 158)
noncomputable abbrev bd159 : List Stmt := bodyOf (meth 18 5)
theorem is159 (G : BF w B) : IsFn B 159 fd159 bd159 := IsFn.of G 158 (by decide) (by decide) (by decide) (by decide) ⟨o159 w.params, by kernel_rfl!, rfl⟩ (by kernel_rfl!) rfl rfl rfl rfl rfl
theorem call159 {n : Nat} {x0 x1 : V} {Q : V → MS → Prop} (hA : Ar A l (n + 1)) (G : BF w B)
    (h : ∀ L A', σ L = none → Ar A' (callEnv fd159 L 159 :: l) n → SS w B os (callEnv fd159 L 159 :: l) A' (callEnv fd159 L 159) bd159 (kBody Q) (kDn E) (upd σ L (.ns (fr [(Str.ofString "refname", x1), (Str.ofString "self", x0)])))) :
    CL w B os l A (.ref 159) [x0, x1] Q E σ :=
  by refine CL.defF (bs := [(Str.ofString "self", x0), (Str.ofString "refname", x1)]) (rbs := [(Str.ofString "refname", x1), (Str.ofString "self", x0)]) hA G (is159 G) (fun vs s hv _ => by
    obtain ⟨v0, v1, rfl, rfl, rfl⟩ := list2 hv
    exact ⟨[(Str.ofString "self", v0), (Str.ofString "refname", v1)], BindsTo.of_eq (by kernel_rfl!), rfl⟩) (by decide +kernel) (locs ["self", "refname"] (by rfl) (by decide +kernel)) rfl ?_; with_reducible exact h
noncomputable abbrev fd166 : FuncData := fdOf (meth 18 6) (Str.ofString "RefsContainer.follow") .none .none (.str (Str.ofString "dulwich.refs") 247) (.ref 165)
noncomputable abbrev bd166 : List Stmt := bodyOf (meth 18 6)
theorem is166 (G : BF w B) : IsFn B 166 fd166 bd166 := IsFn.of G 165 (by decide) (by decide) (by decide) (by decide) ⟨o166 w.params, by kernel_rfl!, rfl⟩ (by kernel_rfl!) rfl rfl rfl rfl rfl
theorem call166 {n : Nat} {x0 x1 : V} {Q : V → MS → Prop} (hA : Ar A l (n + 1)) (G : BF w B)
    (h : ∀ L A', σ L = none → Ar A' (callEnv fd166 L 166 :: l) n → SS w B os (callEnv fd166 L 166 :: l) A' (callEnv fd166 L 166) bd166 (kBody Q) (kDn E) (upd σ L (.ns (fr [(Str.ofString "name", x1), (Str.ofString "self", x0)])))) :
    CL w B os l A (.ref 166) [x0, x1] Q E σ :=
  by refine CL.defF (bs := [(Str.ofString "self", x0), (Str.ofString "name", x1)]) (rbs := [(Str.ofString "name", x1), (Str.ofString "self", x0)]) hA G (is166 G) (fun vs s hv _ => by
    obtain ⟨v0, v1, rfl, rfl, rfl⟩ := list2 hv
    exact ⟨[(Str.ofString "self", v0), (Str.ofString "name", v1)], BindsTo.of_eq (by kernel_rfl!), rfl⟩) (by decide +kernel) (locs ["self", "name"] (by rfl) (by decide +kernel)) rfl ?_; with_reducible exact h
noncomputable abbrev fd173 : FuncData := fdOf (meth 18 7) (Str.ofString "RefsContainer.__contains__") .none .none (.str (Str.ofString "dulwich.refs") 247) (.ref 172)
noncomputable abbrev bd173 : List Stmt := bodyOf (meth 18 7)
theorem is173 (G : BF w B) : IsFn B 173 fd173 bd173 := IsFn.of G 172 (by decide) (by decide) (by decide) (by decide) ⟨o173 w.params, by kernel_rfl!, rfl⟩ (by kernel_rfl!) rfl rfl rfl rfl rfl
theorem call173 {n : Nat} {x0 x1 : V} {Q : V → MS → Prop} (hA : Ar A l (n + 1)) (G : BF w B)
    (h : ∀ L A', σ L = none → Ar A' (callEnv fd173 L 173 :: l) n → SS w B os (callEnv fd173 L 173 :: l) A' (callEnv fd173 L 173) bd173 (kBody Q) (kDn E) (upd σ L (.ns (fr [(Str.ofString "refname", x1), (Str.ofString "self", x0)])))) :
    CL w B os l A (.ref 173) [x0, x1] Q E σ :=
  by refine CL.defF (bs := [(Str.ofString "self", x0), (Str.ofString "refname", x1)]) (rbs := [(Str.ofString "refname", x1), (Str.ofString "self", x0)]) hA G (is173 G) (fun vs s hv _ => by
    obtain ⟨v0, v1, rfl, rfl, rfl⟩ := list2 hv
    exact ⟨[(Str.ofString "self", v0), (Str.ofString "refname", v1)], BindsTo.of_eq (by kernel_rfl!), rfl⟩) (by decide +kernel) (locs ["self", "refname"] (by rfl) (by decide +kernel)) rfl ?_; with_reducible exact h
noncomputable abbrev fd180 : FuncData := fdOf (meth 18 8) (Str.ofString "RefsContainer.__getitem__") .none .none (.str (Str.ofString "dulwich.refs") 247) (.ref 179)
noncomputable abbrev bd180 : List Stmt := bodyOf (meth 18 8)
theorem is180 (G : BF w B) : IsFn B 180 fd180 bd180 := IsFn.of G 179 (by decide) (by decide) (by decide) (by decide) ⟨o180 w.params, by kernel_rfl!, rfl⟩ (by kernel_rfl!) rfl rfl rfl rfl rfl
theorem call180 {n : Nat} {x0 x1 : V} {Q : V → MS → Prop} (hA : Ar A l (n + 1)) (G : BF w B)
    (h : ∀ L A', σ L = none → Ar A' (callEnv fd180 L 180 :: l) n → SS w B os (callEnv fd180 L 180 :: l) A' (callEnv fd180 L 180) bd180 (kBody Q) (kDn E) (upd σ L (.ns (fr [(Str.ofString "name", x1), (Str.ofString "self", x0)])))) :
    CL w B os l A (.ref 180) [x0, x1] Q E σ :=
  by refine CL.defF (bs := [(Str.ofString "self", x0), (Str.ofString "name", x1)]) (rbs := [(Str.ofString "name", x1), (Str.ofString "self", x0)]) hA G (is180 G) (fun vs s hv _ => by
    obtain ⟨v0, v1, rfl, rfl, rfl⟩ := list2 hv
    exact ⟨[(Str.ofString "self", v0), (Str.ofString "name", v1)], BindsTo.of_eq (by kernel_rfl!), rfl⟩) (by decide +kernel) (locs ["self", "name"] (by rfl) (by decide +kernel)) rfl ?_; with_reducible exact h
noncomputable abbrev fd187 : FuncData := fdOf (meth 18 9) (Str.ofString "RefsContainer.__setitem__") .none .none (.str (Str.ofString "dulwich.refs") 247) (.ref 186)
noncomputable abbrev bd187 : List Stmt := bodyOf (meth 18 9)
theorem is187 (G : BF w B) : IsFn B 187 fd187 bd187 := IsFn.of G 186 (by decide) (by decide) (by decide) (by decide) ⟨o187 w.params, by kernel_rfl!, rfl⟩ (by kernel_rfl!) rfl rfl rfl rfl rfl
theorem call187 {n : Nat} {x0 x1 x2 : V} {Q : V → MS → Prop} (hA : Ar A l (n + 1)) (G : BF w B)
    (h : ∀ L A', σ L = none → Ar A' (callEnv fd187 L 187 :: l) n → SS w B os (callEnv fd187 L 187 :: l) A' (callEnv fd187 L 187) bd187 (kBody Q) (kDn E) (upd σ L (.ns (fr [(Str.ofString "ref", x2), (Str.ofString "name", x1), (Str.ofString "self", x0)])))) :
    CL w B os l A (.ref 187) [x0, x1, x2] Q E σ :=
  by refine CL.defF (bs := [(Str.ofString "self", x0), (Str.ofString "name", x1), (Str.ofString "ref", x2)]) (rbs := [(Str.ofString "ref", x2), (Str.ofString "name", x1), (Str.ofString "self", x0)]) hA G (is187 G) (fun vs s hv _ => by
    obtain ⟨v0, v1, v2, rfl, rfl, rfl, rfl⟩ := list3 hv
    exact ⟨[(Str.ofString "self", v0), (Str.ofString "name", v1), (Str.ofString "ref", v2)], BindsTo.of_eq (by kernel_rfl!), rfl⟩) (by decide +kernel) (locs ["self", "name", "ref"] (by rfl) (by decide +kernel)) rfl ?_; with_reducible exact h
noncomputable abbrev fd194 : FuncData := fdOf (meth 18 10) (Str.ofString "RefsContainer.__delitem__") .none .none (.str (Str.ofString "dulwich.refs") 247) (.ref 193)
noncomputable abbrev bd194 : List Stmt := bodyOf (meth 18 10)
theorem is194 (G : BF w B) : IsFn B 194 fd194 bd194 := IsFn.of G 193 (by decide) (by decide) (by decide) (by decide) ⟨o194 w.params, by kernel_rfl!, rfl⟩ (by kernel_rfl!) rfl rfl rfl rfl rfl
theorem call194 {n : Nat} {x0 x1 : V} {Q : V → MS → Prop} (hA : Ar A l (n + 1)) (G : BF w B)
    (h : ∀ L A', σ L = none → Ar A' (callEnv fd194 L 194 :: l) n → SS w B os (callEnv fd194 L 194 :: l) A' (callEnv fd194 L 194) bd194 (kBody Q) (kDn E) (upd σ L (.ns (fr [(Str.ofString "name", x1), (Str.ofString "self", x0)])))) :
    CL w B os l A (.ref 194) [x0, x1] Q E σ :=
  by refine CL.defF (bs := [(Str.ofString "self", x0), (Str.ofString "name", x1)]) (rbs := [(Str.ofString "name", x1), (Str.ofString "self", x0)]) hA G (is194 G) (fun vs s hv _ => by
    obtain ⟨v0, v1, rfl, rfl, rfl⟩ := list2 hv
    exact ⟨[(Str.ofString "self", v0), (Str.ofString "name", v1)], BindsTo.of_eq (by kernel_rfl!), rfl⟩) (by decide +kernel) (locs ["self", "name"] (by rfl) (by decide +kernel)) rfl ?_; with_reducible exact h
noncomputable abbrev fd201 : FuncData := fdOf (meth 18 11) (Str.ofString "RefsContainer.get_symrefs") .none .none (.str (Str.ofString "dulwich.refs") 247) (.ref 200)
noncomputable abbrev bd201 : List Stmt := bodyOf (meth 18 11)
theorem is201 (G : BF w B) : IsFn B 201 fd201 bd201 := IsFn.of G 200 (by decide) (by decide) (by decide) (by decide) ⟨o201 w.params, by kernel_rfl!, rfl⟩ (by kernel_rfl!) rfl rfl rfl rfl rfl
theorem call201 {n : Nat} {x0 : V} {Q : V → MS → Prop} (hA : Ar A l (n + 1)) (G : BF w B)
    (h : ∀ L A', σ L = none → Ar A' (callEnv fd201 L 201 :: l) n → SS w B os (callEnv fd201 L 201 :: l) A' (callEnv fd201 L 201) bd201 (kBody Q) (kDn E) (upd σ L (.ns (fr [(Str.ofString "self", x0)])))) :
    CL w B os l A (.ref 201) [x0] Q E σ :=
  by refine CL.defF (bs := [(Str.ofString "self", x0)]) (rbs := [(Str.ofString "self", x0)]) hA G (is201 G) (fun vs s hv _ => by
    obtain ⟨v0, rfl, rfl⟩ := list1 hv
    exact ⟨[(Str.ofString "self", v0)], BindsTo.of_eq (by kernel_rfl!), rfl⟩) (by decide +kernel) (locs ["self"] (by rfl) (by decide +kernel)) rfl ?_; with_reducible exact h
noncomputable abbrev fd222 : FuncData := fdOf (meth 19 0) (Str.ofString "DictRefsContainer.__init__") .none .none (.str (Str.ofString "dulwich.refs") 247) (.ref 221)
noncomputable abbrev bd222 : List Stmt := bodyOf (meth 19 0)
theorem is222 (G : BF w B) : IsFn B 222 fd222 bd222 := IsFn.of G 221 (by decide) (by decide) (by decide) (by decide) ⟨o222 w.params, by kernel_rfl!, rfl⟩ (by kernel_rfl!) rfl rfl rfl rfl rfl
noncomputable abbrev fd229 : FuncData := fdOf (meth 19 1) (Str.ofString "DictRefsContainer.allkeys") .none .none (.str (Str.ofString "dulwich.refs") 247) (.ref 228)
noncomputable abbrev bd229 : List Stmt := bodyOf (meth 19 1)
theorem is229 (G : BF w B) : IsFn B 229 fd229 bd229 := IsFn.of G 228 (by decide) (by decide) (by decide) (by decide) ⟨o229 w.params, by kernel_rfl!, rfl⟩ (by kernel_rfl!) rfl rfl rfl rfl rfl
theorem call229 {n : Nat} {x0 : V} {Q : V → MS → Prop} (hA : Ar A l (n + 1)) (G : BF w B)
    (h : ∀ L A', σ L = none → Ar A' (callEnv fd229 L 229 :: l) n → SS w B os (callEnv fd229 L 229 :: l) A' (callEnv fd229 L 229) bd229 (kBody Q) (kDn E) (upd σ L (.ns (fr [(Str.ofString "self", x0)])))) :
    CL w B os l A (.ref 229) [x0] Q E σ :=
  by refine CL.defF (bs := [(Str.ofString "self", x0)]) (rbs := [(Str.ofString "self", x0)]) hA G (is229 G) (fun vs s hv _ => by
    obtain ⟨v0, rfl, rfl⟩ := list1 hv
    exact ⟨[(Str.ofString "self", v0)], BindsTo.of_eq (by kernel_rfl!), rfl⟩) (by decide +kernel) (locs ["self"] (by rfl) (by decide +kernel)) rfl ?_; with_reducible exact h
noncomputable abbrev fd236 : FuncData := fdOf (meth 19 2) (Str.ofString "DictRefsContainer.read_loose_ref") .none .none (.str (Str.ofString "dulwich.refs") 247) (.ref 235)
noncomputable abbrev bd236 : List Stmt := bodyOf (meth 19 2)
theorem is236 (G : BF w B) : IsFn B 236 fd236 bd236 := IsFn.of G 235 (by decide) (by decide) (by decide) (by decide) ⟨o236 w.params, by kernel_rfl!, rfl⟩ (by kernel_rfl!) rfl rfl rfl rfl rfl
theorem call236 {n : Nat} {x0 x1 : V} {Q : V → MS → Prop} (hA : Ar A l (n + 1)) (G : BF w B)
    (h : ∀ L A', σ L = none → Ar A' (callEnv fd236 L 236 :: l) n → SS w B os (callEnv fd236 L 236 :: l) A' (callEnv fd236 L 236) bd236 (kBody Q) (kDn E) (upd σ L (.ns (fr [(Str.ofString "name", x1), (Str.ofString "self", x0)])))) :
    CL w B os l A (.ref 236) [x0, x1] Q E σ :=
  by refine CL.defF (bs := [(Str.ofString "self", x0), (Str.ofString "name", x1)]) (rbs := [(Str.ofString "name", x1), (Str.ofString "self", x0)]) hA G (is236 G) (fun vs s hv _ => by
    obtain ⟨v0, v1, rfl, rfl, rfl⟩ := list2 hv
    exact ⟨[(Str.ofString "self", v0), (Str.ofString "name", v1)], BindsTo.of_eq (by kernel_rfl!), rfl⟩) (by decide +kernel) (locs ["self", "name"] (by rfl) (by decide +kernel)) rfl ?_; with_reducible exact h
noncomputable abbrev fd243 : FuncData := fdOf (meth 19 3) (Str.ofString "DictRefsContainer.get_packed_refs") .none .none (.str (Str.ofString "dulwich.refs") 247) (.ref 242)
noncomputable abbrev bd243 : List Stmt := bodyOf (meth 19 3)
theorem is243 (G : BF w B) : IsFn B 243 fd243 bd243 := IsFn.of G 242 (by decide) (by decide) (by decide) (by decide) ⟨o243 w.params, by kernel_rfl!, rfl⟩ (by kernel_rfl!) rfl rfl rfl rfl rfl
theorem call243 {n : Nat} {x0 : V} {Q : V → MS → Prop} (hA : Ar A l (n + 1)) (G : BF w B)
    (h : ∀ L A', σ L = none → Ar A' (callEnv fd243 L 243 :: l) n → SS w B os (callEnv fd243 L 243 :: l) A' (callEnv fd243 L 243) bd243 (kBody Q) (kDn E) (upd σ L (.ns (fr [(Str.ofString "self", x0)])))) :
    CL w B os l A (.ref 243) [x0] Q E σ :=
  by refine CL.defF (bs := [(Str.ofString "self", x0)]) (rbs := [(Str.ofString "self", x0)]) hA G (is243 G) (fun vs s hv _ => by
    obtain ⟨v0, rfl, rfl⟩ := list1 hv
    exact ⟨[(Str.ofString "self", v0)], BindsTo.of_eq (by kernel_rfl!), rfl⟩) (by decide +kernel) (locs ["self"] (by rfl) (by decide +kernel)) rfl ?_; with_reducible exact h
noncomputable abbrev fd250 : FuncData := fdOf (meth 19 4) (Str.ofString "DictRefsContainer.set_symbolic_ref") .none .none (.str (Str.ofString "dulwich.refs") 247) (.ref 249)
noncomputable abbrev bd250 : List Stmt := bodyOf (meth 19 4)
theorem is250 (G : BF w B) : IsFn B 250 fd250 bd250 := IsFn.of G 249 (by decide) (by decide) (by decide) (by decide) ⟨o250 w.params, by kernel_rfl!, rfl⟩ (by kernel_rfl!) rfl rfl rfl rfl rfl
theorem call250 {n : Nat} {x0 x1 x2 : V} {Q : V → MS → Prop} (hA : Ar A l (n + 1)) (G : BF w B)
    (h : ∀ L A', σ L = none → Ar A' (callEnv fd250 L 250 :: l) n → SS w B os (callEnv fd250 L 250 :: l) A' (callEnv fd250 L 250) bd250 (kBody Q) (kDn E) (upd σ L (.ns (fr [(Str.ofString "other", x2), (Str.ofString "name", x1), (Str.ofString "self", x0)])))) :
    CL w B os l A (.ref 250) [x0, x1, x2] Q E σ :=
  by refine CL.defF (bs := [(Str.ofString "self", x0), (Str.ofString "name", x1), (Str.ofString "other", x2)]) (rbs := [(Str.ofString "other", x2), (Str.ofString "name", x1), (Str.ofString "self", x0)]) hA G (is250 G) (fun vs s hv _ => by
    obtain ⟨v0, v1, v2, rfl, rfl, rfl, rfl⟩ := list3 hv
    exact ⟨[(Str.ofString "self", v0), (Str.ofString "name", v1), (Str.ofString "other", v2)], BindsTo.of_eq (by kernel_rfl!), rfl⟩) (by decide +kernel) (locs ["self", "name", "other"] (by rfl) (by decide +kernel)) rfl ?_; with_reducible exact h
noncomputable abbrev fd257 : FuncData := fdOf (meth 19 5) (Str.ofString "DictRefsContainer.set_if_equals") .none .none (.str (Str.ofString "dulwich.refs") 247) (.ref 256)
noncomputable abbrev bd257 : List Stmt := bodyOf (meth 19 5)
theorem is257 (G : BF w B) : IsFn B 257 fd257 bd257 := IsFn.of G 256 (by decide) (by decide) (by decide) (by decide) ⟨o257 w.params, by kernel_rfl!, rfl⟩ (by kernel_rfl!) rfl rfl rfl rfl rfl
theorem call257 {n : Nat} {x0 x1 x2 x3 : V} {Q : V → MS → Prop} (hA : Ar A l (n + 1)) (G : BF w B)
    (h : ∀ L A', σ L = none → Ar A' (callEnv fd257 L 257 :: l) n → SS w B os (callEnv fd257 L 257 :: l) A' (callEnv fd257 L 257) bd257 (kBody Q) (kDn E) (upd σ L (.ns (fr [(Str.ofString "new_ref", x3), (Str.ofString "old_ref", x2), (Str.ofString "name", x1), (Str.ofString "self", x0)])))) :
    CL w B os l A (.ref 257) [x0, x1, x2, x3] Q E σ :=
  by refine CL.defF (bs := [(Str.ofString "self", x0), (Str.ofString "name", x1), (Str.ofString "old_ref", x2), (Str.ofString "new_ref", x3)]) (rbs := [(Str.ofString "new_ref", x3), (Str.ofString "old_ref", x2), (Str.ofString "name", x1), (Str.ofString "self", x0)]) hA G (is257 G) (fun vs s hv _ => by
    obtain ⟨v0, v1, v2, v3, rfl, rfl, rfl, rfl, rfl⟩ := list4 hv
    exact ⟨[(Str.ofString "self", v0), (Str.ofString "name", v1), (Str.ofString "old_ref", v2), (Str.ofString "new_ref", v3)], BindsTo.of_eq (by kernel_rfl!), rfl⟩) (by decide +kernel) (locs ["self", "name", "old_ref", "new_ref"] (by rfl) (by decide +kernel)) rfl ?_; with_reducible exact h
noncomputable abbrev fd264 : FuncData := fdOf (meth 19 6) (Str.ofString "DictRefsContainer.add_if_new") .none .none (.str (Str.ofString "dulwich.refs") 247) (.ref 263)
noncomputable abbrev bd264 : List Stmt := bodyOf (meth 19 6)
theorem is264 (G : BF w B) : IsFn B 264 fd264 bd264 := IsFn.of G 263 (by decide) (by decide) (by decide) (by decide) ⟨o264 w.params, by kernel_rfl!, rfl⟩ (by kernel_rfl!) rfl rfl rfl rfl rfl
theorem call264 {n : Nat} {x0 x1 x2 : V} {Q : V → MS → Prop} (hA : Ar A l (n + 1)) (G : BF w B)
    (h : ∀ L A', σ L = none → Ar A' (callEnv fd264 L 264 :: l) n → SS w B os (callEnv fd264 L 264 :: l) A' (callEnv fd264 L 264) bd264 (kBody Q) (kDn E) (upd σ L (.ns (fr [(Str.ofString "ref", x2), (Str.ofString "name", x1), (Str.ofString "self", x0)])))) :
    CL w B os l A (.ref 264) [x0, x1, x2] Q E σ :=
  by refine CL.defF (bs := [(Str.ofString "self", x0), (Str.ofString "name", x1), (Str.ofString "ref", x2)]) (rbs := [(Str.ofString "ref", x2), (Str.ofString "name", x1), (Str.ofString "self", x0)]) hA G (is264 G) (fun vs s hv _ => by
    obtain ⟨v0, v1, v2, rfl, rfl, rfl, rfl⟩ := list3 hv
    exact ⟨[(Str.ofString "self", v0), (Str.ofString "name", v1), (Str.ofString "ref", v2)], BindsTo.of_eq (by kernel_rfl!), rfl⟩) (by decide +kernel) (locs ["self", "name", "ref"] (by rfl) (by decide +kernel)) rfl ?_; with_reducible exact h
noncomputable abbrev fd271 : FuncData := fdOf (meth 19 7) (Str.ofString "DictRefsContainer.remove_if_equals") .none .none (.str (Str.ofString "dulwich.refs") 247) (.ref 270)
noncomputable abbrev bd271 : List Stmt := bodyOf (meth 19 7)
theorem is271 (G : BF w B) : IsFn B 271 fd271 bd271 := IsFn.of G 270 (by decide) (by decide) (by decide) (by decide) ⟨o271 w.params, by kernel_rfl!, rfl⟩ (by kernel_rfl!) rfl rfl rfl rfl rfl
theorem call271 {n : Nat} {x0 x1 x2 : V} {Q : V → MS → Prop} (hA : Ar A l (n + 1)) (G : BF w B)
    (h : ∀ L A', σ L = none → Ar A' (callEnv fd271 L 271 :: l) n → SS w B os (callEnv fd271 L 271 :: l) A' (callEnv fd271 L 271) bd271 (kBody Q) (kDn E) (upd σ L (.ns (fr [(Str.ofString "old_ref", x2), (Str.ofString "name", x1), (Str.ofString "self", x0)])))) :
    CL w B os l A (.ref 271) [x0, x1, x2] Q E σ :=
  by refine CL.defF (bs := [(Str.ofString "self", x0), (Str.ofString "name", x1), (Str.ofString "old_ref", x2)]) (rbs := [(Str.ofString "old_ref", x2), (Str.ofString "name", x1), (Str.ofString "self", x0)]) hA G (is271 G) (fun vs s hv _ => by
    obtain ⟨v0, v1, v2, rfl, rfl, rfl, rfl⟩ := list3 hv
    exact ⟨[(Str.ofString "self", v0), (Str.ofString "name", v1), (Str.ofString "old_ref", v2)], BindsTo.of_eq (by kernel_rfl!), rfl⟩) (by decide +kernel) (locs ["self", "name", "old_ref"] (by rfl) (by decide +kernel)) rfl ?_; with_reducible exact h
noncomputable abbrev fd290 : FuncData := fdOf (top 21) (Str.ofString "_law_names") .none .none (.str (Str.ofString "law_jg0026_01") 549) (.ref 289)
noncomputable abbrev bd290 : List Stmt := bodyOf (top 21)
theorem is290 (G : BF w B) : IsFn B 290 fd290 bd290 := IsFn.of G 289 (by decide) (by decide) (by decide) (by decide) ⟨o290 w.params, by kernel_rfl!, rfl⟩ (by kernel_rfl!) rfl rfl rfl rfl rfl
theorem call290 {n : Nat} {Q : V → MS → Prop} (hA : Ar A l (n + 1)) (G : BF w B)
    (h : ∀ L A', σ L = none → Ar A' (callEnv fd290 L 290 :: l) n → SS w B os (callEnv fd290 L 290 :: l) A' (callEnv fd290 L 290) bd290 (kBody Q) (kDn E) (upd σ L (.ns (fr [])))) :
    CL w B os l A (.ref 290) [] Q E σ :=
  by refine CL.defF (bs := []) (rbs := []) hA G (is290 G) (fun vs s hv _ => ⟨[], by rw [list0 hv]; exact BindsTo.of_eq (by kernel_rfl!), rfl⟩) (by decide +kernel) (fun x hx => absurd hx List.not_mem_nil) rfl ?_; with_reducible exact h
noncomputable abbrev fd298 : FuncData := fdOf (top 23) (Str.ofString "_law_next") .none .none (.str (Str.ofString "law_jg0026_01") 549) (.ref 297)
noncomputable abbrev bd298 : List Stmt := bodyOf (top 23)
theorem is298 (G : BF w B) : IsFn B 298 fd298 bd298 := IsFn.of G 297 (by decide) (by decide) (by decide) (by decide) ⟨o298 w.params, by kernel_rfl!, rfl⟩ (by kernel_rfl!) rfl rfl rfl rfl rfl
theorem call298 {n : Nat} {x0 x1 : V} {Q : V → MS → Prop} (hA : Ar A l (n + 1)) (G : BF w B)
    (h : ∀ L A', σ L = none → Ar A' (callEnv fd298 L 298 :: l) n → SS w B os (callEnv fd298 L 298 :: l) A' (callEnv fd298 L 298) bd298 (kBody Q) (kDn E) (upd σ L (.ns (fr [(Str.ofString "size", x1), (Str.ofString "state", x0)])))) :
    CL w B os l A (.ref 298) [x0, x1] Q E σ :=
  by refine CL.defF (bs := [(Str.ofString "state", x0), (Str.ofString "size", x1)]) (rbs := [(Str.ofString "size", x1), (Str.ofString "state", x0)]) hA G (is298 G) (fun vs s hv _ => by
    obtain ⟨v0, v1, rfl, rfl, rfl⟩ := list2 hv
    exact ⟨[(Str.ofString "state", v0), (Str.ofString "size", v1)], BindsTo.of_eq (by kernel_rfl!), rfl⟩) (by decide +kernel) (locs ["state", "size"] (by rfl) (by decide +kernel)) rfl ?_; with_reducible exact h
noncomputable abbrev fd303 : FuncData := fdOf (top 24) (Str.ofString "_law_state") .none .none (.str (Str.ofString "law_jg0026_01") 549) (.ref 302)
noncomputable abbrev bd303 : List Stmt := bodyOf (top 24)
theorem is303 (G : BF w B) : IsFn B 303 fd303 bd303 := IsFn.of G 302 (by decide) (by decide) (by decide) (by decide) ⟨o303 w.params, by kernel_rfl!, rfl⟩ (by kernel_rfl!) rfl rfl rfl rfl rfl
theorem call303 {n : Nat} {x0 : V} {Q : V → MS → Prop} (hA : Ar A l (n + 1)) (G : BF w B)
    (h : ∀ L A', σ L = none → Ar A' (callEnv fd303 L 303 :: l) n → SS w B os (callEnv fd303 L 303 :: l) A' (callEnv fd303 L 303) bd303 (kBody Q) (kDn E) (upd σ L (.ns (fr [(Str.ofString "script", x0)])))) :
    CL w B os l A (.ref 303) [x0] Q E σ :=
  by refine CL.defF (bs := [(Str.ofString "script", x0)]) (rbs := [(Str.ofString "script", x0)]) hA G (is303 G) (fun vs s hv _ => by
    obtain ⟨v0, rfl, rfl⟩ := list1 hv
    exact ⟨[(Str.ofString "script", v0)], BindsTo.of_eq (by kernel_rfl!), rfl⟩) (by decide +kernel) (locs ["script"] (by rfl) (by decide +kernel)) rfl ?_; with_reducible exact h
noncomputable abbrev fd310 : FuncData := fdOf (top 25) (Str.ofString "_law_value") .none .none (.str (Str.ofString "law_jg0026_01") 549) (.ref 309)
noncomputable abbrev bd310 : List Stmt := bodyOf (top 25)
theorem is310 (G : BF w B) : IsFn B 310 fd310 bd310 := IsFn.of G 309 (by decide) (by decide) (by decide) (by decide) ⟨o310 w.params, by kernel_rfl!, rfl⟩ (by kernel_rfl!) rfl rfl rfl rfl rfl
theorem call310 {n : Nat} {x0 : V} {Q : V → MS → Prop} (hA : Ar A l (n + 1)) (G : BF w B)
    (h : ∀ L A', σ L = none → Ar A' (callEnv fd310 L 310 :: l) n → SS w B os (callEnv fd310 L 310 :: l) A' (callEnv fd310 L 310) bd310 (kBody Q) (kDn E) (upd σ L (.ns (fr [(Str.ofString "state", x0)])))) :
    CL w B os l A (.ref 310) [x0] Q E σ :=
  by refine CL.defF (bs := [(Str.ofString "state", x0)]) (rbs := [(Str.ofString "state", x0)]) hA G (is310 G) (fun vs s hv _ => by
    obtain ⟨v0, rfl, rfl⟩ := list1 hv
    exact ⟨[(Str.ofString "state", v0)], BindsTo.of_eq (by kernel_rfl!), rfl⟩) (by decide +kernel) (locs ["state"] (by rfl) (by decide +kernel)) rfl ?_; with_reducible exact h
noncomputable abbrev fd315 : FuncData := fdOf (top 26) (Str.ofString "_law_may_stand") .none .none (.str (Str.ofString "law_jg0026_01") 549) (.ref 314)
noncomputable abbrev bd315 : List Stmt := bodyOf (top 26)
theorem is315 (G : BF w B) : IsFn B 315 fd315 bd315 := IsFn.of G 314 (by decide) (by decide) (by decide) (by decide) ⟨o315 w.params, by kernel_rfl!, rfl⟩ (by kernel_rfl!) rfl rfl rfl rfl rfl
theorem call315 {n : Nat} {x0 : V} {Q : V → MS → Prop} (hA : Ar A l (n + 1)) (G : BF w B)
    (h : ∀ L A', σ L = none → Ar A' (callEnv fd315 L 315 :: l) n → SS w B os (callEnv fd315 L 315 :: l) A' (callEnv fd315 L 315) bd315 (kBody Q) (kDn E) (upd σ L (.ns (fr [(Str.ofString "name", x0)])))) :
    CL w B os l A (.ref 315) [x0] Q E σ :=
  by refine CL.defF (bs := [(Str.ofString "name", x0)]) (rbs := [(Str.ofString "name", x0)]) hA G (is315 G) (fun vs s hv _ => by
    obtain ⟨v0, rfl, rfl⟩ := list1 hv
    exact ⟨[(Str.ofString "name", v0)], BindsTo.of_eq (by kernel_rfl!), rfl⟩) (by decide +kernel) (locs ["name"] (by rfl) (by decide +kernel)) rfl ?_; with_reducible exact h
noncomputable abbrev fd322 : FuncData := fdOf (top 27) (Str.ofString "_law_named") .none .none (.str (Str.ofString "law_jg0026_01") 549) (.ref 321)
noncomputable abbrev bd322 : List Stmt := bodyOf (top 27)
theorem is322 (G : BF w B) : IsFn B 322 fd322 bd322 := IsFn.of G 321 (by decide) (by decide) (by decide) (by decide) ⟨o322 w.params, by kernel_rfl!, rfl⟩ (by kernel_rfl!) rfl rfl rfl rfl rfl
theorem call322 {n : Nat} {x0 : V} {Q : V → MS → Prop} (hA : Ar A l (n + 1)) (G : BF w B)
    (h : ∀ L A', σ L = none → Ar A' (callEnv fd322 L 322 :: l) n → SS w B os (callEnv fd322 L 322 :: l) A' (callEnv fd322 L 322) bd322 (kBody Q) (kDn E) (upd σ L (.ns (fr [(Str.ofString "name", x0)])))) :
    CL w B os l A (.ref 322) [x0] Q E σ :=
  by refine CL.defF (bs := [(Str.ofString "name", x0)]) (rbs := [(Str.ofString "name", x0)]) hA G (is322 G) (fun vs s hv _ => by
    obtain ⟨v0, rfl, rfl⟩ := list1 hv
    exact ⟨[(Str.ofString "name", v0)], BindsTo.of_eq (by kernel_rfl!), rfl⟩) (by decide +kernel) (locs ["name"] (by rfl) (by decide +kernel)) rfl ?_; with_reducible exact h
noncomputable abbrev fd329 : FuncData := fdOf (top 28) (Str.ofString "_law_valued") .none .none (.str (Str.ofString "law_jg0026_01") 549) (.ref 328)
noncomputable abbrev bd329 : List Stmt := bodyOf (top 28)
theorem is329 (G : BF w B) : IsFn B 329 fd329 bd329 := IsFn.of G 328 (by decide) (by decide) (by decide) (by decide) ⟨o329 w.params, by kernel_rfl!, rfl⟩ (by kernel_rfl!) rfl rfl rfl rfl rfl
theorem call329 {n : Nat} {x0 : V} {Q : V → MS → Prop} (hA : Ar A l (n + 1)) (G : BF w B)
    (h : ∀ L A', σ L = none → Ar A' (callEnv fd329 L 329 :: l) n → SS w B os (callEnv fd329 L 329 :: l) A' (callEnv fd329 L 329) bd329 (kBody Q) (kDn E) (upd σ L (.ns (fr [(Str.ofString "value", x0)])))) :
    CL w B os l A (.ref 329) [x0] Q E σ :=
  by refine CL.defF (bs := [(Str.ofString "value", x0)]) (rbs := [(Str.ofString "value", x0)]) hA G (is329 G) (fun vs s hv _ => by
    obtain ⟨v0, rfl, rfl⟩ := list1 hv
    exact ⟨[(Str.ofString "value", v0)], BindsTo.of_eq (by kernel_rfl!), rfl⟩) (by decide +kernel) (locs ["value"] (by rfl) (by decide +kernel)) rfl ?_; with_reducible exact h
noncomputable abbrev fd336 : FuncData := fdOf (top 29) (Str.ofString "_law_way") .none .none (.str (Str.ofString "law_jg0026_01") 549) (.ref 335)
noncomputable abbrev bd336 : List Stmt := bodyOf (top 29)
theorem is336 (G : BF w B) : IsFn B 336 fd336 bd336 := IsFn.of G 335 (by decide) (by decide) (by decide) (by decide) ⟨o336 w.params, by kernel_rfl!, rfl⟩ (by kernel_rfl!) rfl rfl rfl rfl rfl
theorem call336 {n : Nat} {x0 x1 : V} {Q : V → MS → Prop} (hA : Ar A l (n + 1)) (G : BF w B)
    (h : ∀ L A', σ L = none → Ar A' (callEnv fd336 L 336 :: l) n → SS w B os (callEnv fd336 L 336 :: l) A' (callEnv fd336 L 336) bd336 (kBody Q) (kDn E) (upd σ L (.ns (fr [(Str.ofString "name", x1), (Str.ofString "model", x0)])))) :
    CL w B os l A (.ref 336) [x0, x1] Q E σ :=
  by refine CL.defF (bs := [(Str.ofString "model", x0), (Str.ofString "name", x1)]) (rbs := [(Str.ofString "name", x1), (Str.ofString "model", x0)]) hA G (is336 G) (fun vs s hv _ => by
    obtain ⟨v0, v1, rfl, rfl, rfl⟩ := list2 hv
    exact ⟨[(Str.ofString "model", v0), (Str.ofString "name", v1)], BindsTo.of_eq (by kernel_rfl!), rfl⟩) (by decide +kernel) (locs ["model", "name"] (by rfl) (by decide +kernel)) rfl ?_; with_reducible exact h
noncomputable abbrev fd343 : FuncData := fdOf (top 30) (Str.ofString "_law_answer") .none .none (.str (Str.ofString "law_jg0026_01") 549) (.ref 342)
noncomputable abbrev bd343 : List Stmt := bodyOf (top 30)
theorem is343 (G : BF w B) : IsFn B 343 fd343 bd343 := IsFn.of G 342 (by decide) (by decide) (by decide) (by decide) ⟨o343 w.params, by kernel_rfl!, rfl⟩ (by kernel_rfl!) rfl rfl rfl rfl rfl
theorem call343 {n : Nat} {x0 : V} {Q : V → MS → Prop} (hA : Ar A l (n + 1)) (G : BF w B)
    (h : ∀ L A', σ L = none → Ar A' (callEnv fd343 L 343 :: l) n → SS w B os (callEnv fd343 L 343 :: l) A' (callEnv fd343 L 343) bd343 (kBody Q) (kDn E) (upd σ L (.ns (fr [(Str.ofString "action", x0)])))) :
    CL w B os l A (.ref 343) [x0] Q E σ :=
  by refine CL.defF (bs := [(Str.ofString "action", x0)]) (rbs := [(Str.ofString "action", x0)]) hA G (is343 G) (fun vs s hv _ => by
    obtain ⟨v0, rfl, rfl⟩ := list1 hv
    exact ⟨[(Str.ofString "action", v0)], BindsTo.of_eq (by kernel_rfl!), rfl⟩) (by decide +kernel) (locs ["action"] (by rfl) (by decide +kernel)) rfl ?_; with_reducible exact h
noncomputable abbrev fd350 : FuncData := fdOf (top 31) (Str.ofString "_law_set") .none .none (.str (Str.ofString "law_jg0026_01") 549) (.ref 349)
noncomputable abbrev bd350 : List Stmt := bodyOf (top 31)
theorem is350 (G : BF w B) : IsFn B 350 fd350 bd350 := IsFn.of G 349 (by decide) (by decide) (by decide) (by decide) ⟨o350 w.params, by kernel_rfl!, rfl⟩ (by kernel_rfl!) rfl rfl rfl rfl rfl
theorem call350 {n : Nat} {x0 x1 x2 : V} {Q : V → MS → Prop} (hA : Ar A l (n + 1)) (G : BF w B)
    (h : ∀ L A', σ L = none → Ar A' (callEnv fd350 L 350 :: l) n → SS w B os (callEnv fd350 L 350 :: l) A' (callEnv fd350 L 350) bd350 (kBody Q) (kDn E) (upd σ L (.ns (fr [(Str.ofString "value", x2), (Str.ofString "name", x1), (Str.ofString "kept", x0)])))) :
    CL w B os l A (.ref 350) [x0, x1, x2] Q E σ :=
  by refine CL.defF (bs := [(Str.ofString "kept", x0), (Str.ofString "name", x1), (Str.ofString "value", x2)]) (rbs := [(Str.ofString "value", x2), (Str.ofString "name", x1), (Str.ofString "kept", x0)]) hA G (is350 G) (fun vs s hv _ => by
    obtain ⟨v0, v1, v2, rfl, rfl, rfl, rfl⟩ := list3 hv
    exact ⟨[(Str.ofString "kept", v0), (Str.ofString "name", v1), (Str.ofString "value", v2)], BindsTo.of_eq (by kernel_rfl!), rfl⟩) (by decide +kernel) (locs ["kept", "name", "value"] (by rfl) (by decide +kernel)) rfl ?_; with_reducible exact h
noncomputable abbrev fd357 : FuncData := fdOf (top 32) (Str.ofString "_law_out") .none .none (.str (Str.ofString "law_jg0026_01") 549) (.ref 356)
noncomputable abbrev bd357 : List Stmt := bodyOf (top 32)
theorem is357 (G : BF w B) : IsFn B 357 fd357 bd357 := IsFn.of G 356 (by decide) (by decide) (by decide) (by decide) ⟨o357 w.params, by kernel_rfl!, rfl⟩ (by kernel_rfl!) rfl rfl rfl rfl rfl
theorem call357 {n : Nat} {x0 x1 : V} {Q : V → MS → Prop} (hA : Ar A l (n + 1)) (G : BF w B)
    (h : ∀ L A', σ L = none → Ar A' (callEnv fd357 L 357 :: l) n → SS w B os (callEnv fd357 L 357 :: l) A' (callEnv fd357 L 357) bd357 (kBody Q) (kDn E) (upd σ L (.ns (fr [(Str.ofString "name", x1), (Str.ofString "kept", x0)])))) :
    CL w B os l A (.ref 357) [x0, x1] Q E σ :=
  by refine CL.defF (bs := [(Str.ofString "kept", x0), (Str.ofString "name", x1)]) (rbs := [(Str.ofString "name", x1), (Str.ofString "kept", x0)]) hA G (is357 G) (fun vs s hv _ => by
    obtain ⟨v0, v1, rfl, rfl, rfl⟩ := list2 hv
    exact ⟨[(Str.ofString "kept", v0), (Str.ofString "name", v1)], BindsTo.of_eq (by kernel_rfl!), rfl⟩) (by decide +kernel) (locs ["kept", "name"] (by rfl) (by decide +kernel)) rfl ?_; with_reducible exact h
noncomputable abbrev fd364 : FuncData := fdOf (top 33) (Str.ofString "_law_deed") .none .none (.str (Str.ofString "law_jg0026_01") 549) (.ref 363)
noncomputable abbrev bd364 : List Stmt := bodyOf (top 33)
theorem is364 (G : BF w B) : IsFn B 364 fd364 bd364 := IsFn.of G 363 (by decide) (by decide) (by decide) (by decide) ⟨o364 w.params, by kernel_rfl!, rfl⟩ (by kernel_rfl!) rfl rfl rfl rfl rfl
noncomputable abbrev fd369 : FuncData := fdOf (top 34) (Str.ofString "_law_alike") .none .none (.str (Str.ofString "law_jg0026_01") 549) (.ref 368)
noncomputable abbrev bd369 : List Stmt := bodyOf (top 34)
theorem is369 (G : BF w B) : IsFn B 369 fd369 bd369 := IsFn.of G 368 (by decide) (by decide) (by decide) (by decide) ⟨o369 w.params, by kernel_rfl!, rfl⟩ (by kernel_rfl!) rfl rfl rfl rfl rfl
noncomputable abbrev fd374 : FuncData := fdOf (top 35) (Str.ofString "law") .none .none (.str (Str.ofString "law_jg0026_01") 549) (.ref 373)
noncomputable abbrev bd374 : List Stmt := bodyOf (top 35)
theorem is374 (G : BF w B) : IsFn B 374 fd374 bd374 := IsFn.of G 373 (by decide) (by decide) (by decide) (by decide) ⟨o374 w.params, by kernel_rfl!, rfl⟩ (by kernel_rfl!) rfl rfl rfl rfl rfl
theorem call123_1 {n : Nat} {x0 : V} {Q : V → MS → Prop} (hA : Ar A l (n + 1)) (G : BF w B)
    (h : ∀ L A', σ L = none → Ar A' (callEnv fd123 L 123 :: l) n → SS w B os (callEnv fd123 L 123 :: l) A' (callEnv fd123 L 123) bd123 (kBody Q) (kDn E) (upd σ L (.ns (fr [(Str.ofString "base", .none), (Str.ofString "self", x0)])))) :
    CL w B os l A (.ref 123) [x0] Q E σ :=
  by refine CL.defF (bs := [(Str.ofString "self", x0), (Str.ofString "base", .none)]) (rbs := [(Str.ofString "base", .none), (Str.ofString "self", x0)]) hA G (is123 G) (fun vs s hv R => by
    obtain ⟨v0, rfl, rfl⟩ := list1 hv
    exact ⟨[(Str.ofString "self", v0), (Str.ofString "base", .none)], BindsTo.of_defaults (T := 116) (o := o116 w.params) rfl (R.old _ _ (G.ob 116 (o116 w.params) (by kernel_rfl!) (by decide) (by decide))) rfl rfl rfl, rfl⟩) (by decide +kernel) (locs ["self", "base"] (by rfl) (by decide +kernel)) rfl ?_; with_reducible exact h
theorem call123_2 {n : Nat} {x0 x1 : V} {Q : V → MS → Prop} (hA : Ar A l (n + 1)) (G : BF w B)
    (h : ∀ L A', σ L = none → Ar A' (callEnv fd123 L 123 :: l) n → SS w B os (callEnv fd123 L 123 :: l) A' (callEnv fd123 L 123) bd123 (kBody Q) (kDn E) (upd σ L (.ns (fr [(Str.ofString "base", x1), (Str.ofString "self", x0)])))) :
    CL w B os l A (.ref 123) [x0, x1] Q E σ :=
  by refine CL.defF (bs := [(Str.ofString "self", x0), (Str.ofString "base", x1)]) (rbs := [(Str.ofString "base", x1), (Str.ofString "self", x0)]) hA G (is123 G) (fun vs s hv R => by
    obtain ⟨v0, v1, rfl, rfl, rfl⟩ := list2 hv
    exact ⟨[(Str.ofString "self", v0), (Str.ofString "base", v1)], BindsTo.of_defaults (T := 116) (o := o116 w.params) rfl (R.old _ _ (G.ob 116 (o116 w.params) (by kernel_rfl!) (by decide) (by decide))) rfl rfl rfl, rfl⟩) (by decide +kernel) (locs ["self", "base"] (by rfl) (by decide +kernel)) rfl ?_; with_reducible exact h
theorem call138_1 {n : Nat} {x0 : V} {Q : V → MS → Prop} (hA : Ar A l (n + 1)) (G : BF w B)
    (h : ∀ L A', σ L = none → Ar A' (callEnv fd138 L 138 :: l) n → SS w B os (callEnv fd138 L 138 :: l) A' (callEnv fd138 L 138) bd138 (kBody Q) (kDn E) (upd σ L (.ns (fr [(Str.ofString "base", .none), (Str.ofString "self", x0)])))) :
    CL w B os l A (.ref 138) [x0] Q E σ :=
  by refine CL.defF (bs := [(Str.ofString "self", x0), (Str.ofString "base", .none)]) (rbs := [(Str.ofString "base", .none), (Str.ofString "self", x0)]) hA G (is138 G) (fun vs s hv R => by
    obtain ⟨v0, rfl, rfl⟩ := list1 hv
    exact ⟨[(Str.ofString "self", v0), (Str.ofString "base", .none)], BindsTo.of_defaults (T := 131) (o := o131 w.params) rfl (R.old _ _ (G.ob 131 (o131 w.params) (by kernel_rfl!) (by decide) (by decide))) rfl rfl rfl, rfl⟩) (by decide +kernel) (locs ["self", "base"] (by rfl) (by decide +kernel)) rfl ?_; with_reducible exact h
end
end Mine
end
section
open PySem PySem.W PySem.Calls PyProof.Rows
namespace Mine
theorem upd_comm {σ : MS} {a b : Addr} {o o' : O} (h : a ≠ b) : upd (upd σ a o) b o' = upd (upd σ b o') a o := by
  funext c
  unfold upd
  by_cases h1 : c = b
  · subst h1; simp [Ne.symm h]
  · by_cases h2 : c = a <;> simp [h1, h2, h]
theorem ne_of_none {σ : MS} {L a : Addr} {o : O} (h : σ L = none) (k : σ a = some o) : a ≠ L := by rintro rfl; rw [h] at k; cases k
theorem un {σ : MS} {L a : Addr} {o : O} {o' : O} (h : σ L = none) (k : σ a = some o) : upd σ L o' a = some o := (upd_ne _ _ (ne_of_none h k)).trans k
theorem uu {σ : MS} {a : Addr} {o : O} : upd σ a o a = some o := upd_self _ _ _
section
variable {w : World} {B : Heap} {os : OsState} {l : List Env} {A : Around} {σ : MS} {E : Value → MS → Prop} {env : Env}
noncomputable abbrev nx (w : World) (B : Heap) (os : OsState) (l : List Env) (A : Around) (env : Env) (rest : List Stmt) (Q : Fl → MS → Prop) (E : Value → MS → Prop) (f : Fl) (σ : MS) : Prop := match f with
  | .next => SS w B os l A env rest Q E σ
  | f => Q f σ
end
section
variable (w : World) (B : Heap) (os : OsState) (l : List Env) (A : Around) (env : Env) (E : Value → MS → Prop)
noncomputable abbrev kAsg (x : Str) (rest : List Stmt) (Q : Fl → MS → Prop) : V → MS → Prop := fun v σ₁ => ∃ τ L m, σ₁ = upd τ L (.ns m) ∧ env.locals = L ∧ SS w B os l A env rest Q E (upd τ L (.ns (put m x v)))
noncomputable abbrev kIf (b o rest : List Stmt) (Q : Fl → MS → Prop) : Bool → MS → Prop := fun c σ₁ => (c = true → SS w B os l A env b (nx w B os l A env rest Q E) E σ₁) ∧ (c = false → SS w B os l A env o (nx w B os l A env rest Q E) E σ₁)
noncomputable abbrev kThen (rest : List Stmt) (Q : Fl → MS → Prop) : Unit → MS → Prop := fun _ σ => SS w B os l A env rest Q E σ
noncomputable abbrev kSt3 (rest : List Stmt) (Q : Fl → MS → Prop) (v ov : V) : V → MS → Prop := fun iv σ₃ => ∀ a b c, er a = ov → er b = iv → er c = v → W w B os l A (setItem a b c) (kThen w B os l A env E rest Q) E σ₃
noncomputable abbrev kSt2 (i : Expr) (rest : List Stmt) (Q : Fl → MS → Prop) (v : V) : V → MS → Prop := fun ov σ₂ => EV w B os l A env i (kSt3 w B os l A env E rest Q v ov) E σ₂
noncomputable abbrev kSt (o i : Expr) (rest : List Stmt) (Q : Fl → MS → Prop) : V → MS → Prop := fun v σ₁ => EV w B os l A env o (kSt2 w B os l A env E i rest Q v) E σ₁
end
section
variable {w : World} {B : Heap} {os : OsState} {l : List Env} {A : Around} {σ : MS} {E : Value → MS → Prop} {env : Env}
theorem SS.consNx {st : Stmt} {rest : List Stmt} {Q : Fl → MS → Prop} (h : ST w B os l A env st (nx w B os l A env rest Q E) E σ) : SS w B os l A env (st :: rest) Q E σ := SS.cons h
theorem SS.nxt {rest : List Stmt} {Q : Fl → MS → Prop} {env' : Env} (h : SS w B os l A env rest Q E σ) : SS w B os l A env' [] (nx w B os l A env rest Q E) E σ := SS.nil h
theorem SS.assign {x : Str} {p pos : Pos} {e : Expr} {rest : List Stmt} {Q : Fl → MS → Prop}
    (h : EV w B os l A env e (kAsg w B os l A env E x rest Q) E σ)
    (hs : swapsWith e (some (.Name x p)) pos.line env = pure false := by rfl) (hl : env.kindOf x = some .local := by rfl)
    (hp : (env.scope.kind == .class || (env.scope.kind == .module && env.locals != env.globals)) = false := by rfl) : SS w B os l A env (.Assign [.Name x p] e pos :: rest) Q E σ :=
  SS.cons (ST.assign (EV.mono h (fun v σ₁ ⟨τ, L, m, h1, h2, h3⟩ => ⟨m, by rw [h1, h2]; exact upd_self _ _ _, by rw [h1, h2, upd_upd]; exact h3⟩) fun _ _ x => x) hs hl hp)
theorem SS.ret {e : Expr} {pos : Pos} {rest : List Stmt} {Q : Fl → MS → Prop} (h : EV w B os l A env e (kRet Q) E σ) : SS w B os l A env (.Return (some e) pos :: rest) Q E σ := SS.cons (ST.ret h)
theorem SS.retNone {pos : Pos} {rest : List Stmt} {Q : Fl → MS → Prop} (h : Q (.ret .none) σ) : SS w B os l A env (.Return none pos :: rest) Q E σ := SS.cons (ST.retNone h)
theorem SS.pass {pos : Pos} {rest : List Stmt} {Q : Fl → MS → Prop} (h : SS w B os l A env rest Q E σ) : SS w B os l A env (.Pass pos :: rest) Q E σ := SS.cons (ST.pass h)
theorem SS.if {t : Expr} {b o : List Stmt} {pos : Pos} {rest : List Stmt} {Q : Fl → MS → Prop}
    (h : TR w B os l A env t (kIf w B os l A env E b o rest Q) E σ) : SS w B os l A env (.If t b o pos :: rest) Q E σ :=
  SS.cons (ST.if (TR.mono h (fun c σ₁ h₁ => match c, h₁ with | true, h₁ => h₁.1 rfl | false, h₁ => h₁.2 rfl) fun _ _ x => x))
theorem SS.assignSub {o i value : Expr} {pos' pos : Pos} {rest : List Stmt} {Q : Fl → MS → Prop}
    (h : EV w B os l A env value (kSt w B os l A env E o i rest Q) E σ)
    (hs : swapsWith value (some (.Subscript o i pos')) pos.line env = pure false := by rfl) : SS w B os l A env (.Assign [.Subscript o i pos'] value pos :: rest) Q E σ := SS.cons (ST.assignSub h hs)
end
end Mine
end
section
open PySem PySem.W PySem.Calls PyProof.Rows PySem.Builtin
set_option maxHeartbeats 1000000
namespace Mine
theorem slot_b_strip : Slot "bytes" "strip" "bytes.strip" :=
  .of (owner := "bytes") (n := "strip") (by rw [typeLookup_type, builtinLookup_eq_fast]; kernel_rfl) (by decide +kernel) (by decide +kernel) (by decide +kernel)
    (by first | exact .inl (by decide +kernel) | exact .inr (by decide +kernel)) (by rw [isSubtype_type]; kernel_rfl)
theorem type_b_strip : typeOf (.builtin "bytes.strip") = pure (.type "method_descriptor") := by show builtinType _ = _; rw [builtinType_eq_fast]; kernel_rfl
theorem entry_b_strip : entryFor table "bytes.strip" = some Builtin.«bytes.strip» := entryFor_of_tree (by kernel_rfl)
theorem args_b_strip (a b : Value) : argsOk "bytes.strip" ⟨[a, b], []⟩ := by unfold argsOk; kernel_rfl
theorem slot_b_rstrip : Slot "bytes" "rstrip" "bytes.rstrip" :=
  .of (owner := "bytes") (n := "rstrip") (by rw [typeLookup_type, builtinLookup_eq_fast]; kernel_rfl) (by decide +kernel) (by decide +kernel) (by decide +kernel)
    (by first | exact .inl (by decide +kernel) | exact .inr (by decide +kernel)) (by rw [isSubtype_type]; kernel_rfl)
theorem type_b_rstrip : typeOf (.builtin "bytes.rstrip") = pure (.type "method_descriptor") := by show builtinType _ = _; rw [builtinType_eq_fast]; kernel_rfl
theorem entry_b_rstrip : entryFor table "bytes.rstrip" = some Builtin.«bytes.rstrip» := entryFor_of_tree (by kernel_rfl)
theorem args_b_rstrip (a b : Value) : argsOk "bytes.rstrip" ⟨[a, b], []⟩ := by unfold argsOk; kernel_rfl
theorem slot_b_split : Slot "bytes" "split" "bytes.split" :=
  .of (owner := "bytes") (n := "split") (by rw [typeLookup_type, builtinLookup_eq_fast]; kernel_rfl) (by decide +kernel) (by decide +kernel) (by decide +kernel)
    (by first | exact .inl (by decide +kernel) | exact .inr (by decide +kernel)) (by rw [isSubtype_type]; kernel_rfl)
theorem type_b_split : typeOf (.builtin "bytes.split") = pure (.type "method_descriptor") := by show builtinType _ = _; rw [builtinType_eq_fast]; kernel_rfl
theorem entry_b_split : entryFor table "bytes.split" = some Builtin.«bytes.split» := entryFor_of_tree (by kernel_rfl)
theorem args_b_split (a b : Value) : argsOk "bytes.split" ⟨[a, b], []⟩ := by unfold argsOk; kernel_rfl
theorem slot_b_join : Slot "bytes" "join" "bytes.join" :=
  .of (owner := "bytes") (n := "join") (by rw [typeLookup_type, builtinLookup_eq_fast]; kernel_rfl) (by decide +kernel) (by decide +kernel) (by decide +kernel)
    (by first | exact .inl (by decide +kernel) | exact .inr (by decide +kernel)) (by rw [isSubtype_type]; kernel_rfl)
theorem type_b_join : typeOf (.builtin "bytes.join") = pure (.type "method_descriptor") := by show builtinType _ = _; rw [builtinType_eq_fast]; kernel_rfl
theorem entry_b_join : entryFor table "bytes.join" = some Builtin.«bytes.join» := entryFor_of_tree (by kernel_rfl)
theorem args_b_join (a b : Value) : argsOk "bytes.join" ⟨[a, b], []⟩ := by unfold argsOk; kernel_rfl
section
variable {b c : Array UInt8} {t u : Tok}
theorem inst_tuple_b : isInstance (.bytes c u) (.type "tuple") = pure false := by
  show isSubtype (.type "bytes") (.type "tuple") = _
  rw [isSubtype_type]; kernel_rfl
theorem sw_eq : «bytes.startswith» ⟨[.bytes b t, .bytes c u], []⟩ = ret (.bool (c.toList.isPrefixOf b.toList)) := by
  unfold «bytes.startswith» Bytes.tailMatchM
  show (isInstance (.bytes c u) (.type "tuple") >>= fun r => _) = _
  rw [inst_tuple_b]
  show (Bytes.buffer? _ (.bytes c u) >>= fun r => _) = _
  rw [KBy.buffer_eq]
  show ret _ = _
  refine congrArg (fun r => ret (Value.bool r)) ?_
  obtain ⟨b⟩ := b; obtain ⟨c⟩ := c
  rw [Bool.eq_iff_iff, List.isPrefixOf_iff_prefix, List.prefix_iff_eq_take]
  simp only [Option.getD_none, Int.lt_irrefl, if_false, Bool.false_eq_true, List.size_toArray]
  have e0 : (if (b.length : Int) < 0 then Max.max 0 ((b.length : Int) + b.length) else (b.length : Int)) = b.length := if_neg (by omega)
  simp only [e0, Int.min_self]
  by_cases h : (b.length : Int) - 0 < (c.length : Int)
  · rw [if_pos h]
    constructor
    · intro q; cases q
    · intro q
      have := congrArg List.length q
      rw [List.length_take] at this
      omega
  · rw [if_neg h]
    rw [beq_iff_eq, ← Array.toList_inj]
    constructor <;> intro q
    · simpa using q.symm
    · simpa using q.symm
theorem ew_eq : «bytes.endswith» ⟨[.bytes b t, .bytes c u], []⟩ = ret (.bool (c.toList.isSuffixOf b.toList)) := by
  unfold «bytes.endswith» Bytes.tailMatchM
  show (isInstance (.bytes c u) (.type "tuple") >>= fun r => _) = _
  rw [inst_tuple_b]
  show (Bytes.buffer? _ (.bytes c u) >>= fun r => _) = _
  rw [KBy.buffer_eq]
  show ret _ = _
  refine congrArg (fun r => ret (Value.bool r)) ?_
  obtain ⟨b⟩ := b; obtain ⟨c⟩ := c
  rw [Bool.eq_iff_iff, List.isSuffixOf_iff_suffix, List.suffix_iff_eq_drop]
  simp only [Option.getD_none, Int.lt_irrefl, if_false, if_true, List.size_toArray]
  have e0 : (if (b.length : Int) < 0 then Max.max 0 ((b.length : Int) + b.length) else (b.length : Int)) = b.length := if_neg (by omega)
  simp only [e0, Int.min_self]
  by_cases h : (b.length : Int) - 0 < (c.length : Int)
  · rw [if_pos h]
    constructor
    · intro q; cases q
    · intro q
      have := congrArg List.length q
      rw [List.length_drop] at this
      omega
  · rw [if_neg h]
    have e1 : List.take (b.length - (b.length - c.length)) (List.drop (b.length - c.length) b) = List.drop (b.length - c.length) b := List.take_of_length_le (by simp)
    rw [beq_iff_eq, ← Array.toList_inj]
    constructor <;> intro q
    · simpa [e1] using q.symm
    · simpa [e1] using q.symm
theorem like_eq {id : String} : Bytes.bytesLike id (.bytes c u) = pure c := by
  unfold Bytes.bytesLike
  rw [KBy.buffer_eq]
  rfl
end
noncomputable def rstripB (x y : List UInt8) : List UInt8 := (x.reverse.dropWhile y.contains).reverse
noncomputable def stripB (x y : List UInt8) : List UInt8 := rstripB (x.dropWhile y.contains) y
theorem stripB_sub (x y : List UInt8) : (stripB x y).Sublist x := by
  unfold stripB rstripB
  have h : ∀ z : List UInt8, (z.reverse.dropWhile y.contains).reverse.Sublist z := fun z => by
    have := (List.dropWhile_sublist (p := y.contains) (l := z.reverse)).reverse
    simpa using this
  exact (h _).trans (List.dropWhile_sublist _)
theorem rstripB_sub (x y : List UInt8) : (rstripB x y).Sublist x := by
  unfold rstripB
  have := (List.dropWhile_sublist (p := y.contains) (l := x.reverse)).reverse
  simpa using this
section
variable {M : Model} {A : Around} {E : Value → Shared → Prop} {s : Shared} {x y : List UInt8} {t u : Tok} {Q : Value → Shared → Prop}
theorem strip_fin {z : List UInt8} {tag : String} (hz : z.Sublist x) (hs : x.length ≤ 1000000) (h : ∀ t' k, Q (.bytes z.toArray t') { s with toks := k }) :
    wpAny M A (if (z.length == x.toArray.size) = true then do rule tag; let r ← Bytes.Kind.bytes.same (.bytes x.toArray t); ret r else do let r ← Bytes.Kind.bytes.new z.toArray; ret r) (fun fin s' => ∃ v, fin = .done (.ret v) ∧ Q v s') E s := by
  by_cases hc : (z.length == x.toArray.size) = true
  · rw [if_pos hc]
    have e : z = x := hz.eq_of_length (by simpa using hc)
    subst e
    exact wpAny_bind (wpAny_rule (wpAny_bind (wpAny_of_eq (a := Value.bytes z.toArray t) rfl (wpAny_pure ⟨_, rfl, h t s.toks⟩))))
  · rw [if_neg hc]
    refine wpAny_bind (m := mkBytes z.toArray) (wpAny_mkBytes (wpAny_pure ⟨_, rfl, h _ _⟩) ?_)
    have := hz.length_le
    rw [List.size_toArray, sizeLine_eq]
    omega
theorem strip_wp (hs : x.length ≤ 1000000) (h : ∀ t' k, Q (.bytes (stripB x y).toArray t') { s with toks := k }) :
    wpAny M A («bytes.strip» ⟨[.bytes x.toArray t, .bytes y.toArray u], []⟩) (fun fin s' => ∃ v, fin = .done (.ret v) ∧ Q v s') E s := by
  unfold «bytes.strip» Bytes.stripM
  show wpAny _ _ (Bytes.bytesLike _ (.bytes y.toArray u) >>= fun r => _) _ _ _
  rw [like_eq]
  refine wpAny_bind (wpAny_pure ?_)
  rw [show y.toArray.contains = y.contains from by funext c; simp]
  exact strip_fin (t := t) (z := stripB x y) (stripB_sub x y) hs h
theorem rstrip_wp (hs : x.length ≤ 1000000) (h : ∀ t' k, Q (.bytes (rstripB x y).toArray t') { s with toks := k }) :
    wpAny M A («bytes.rstrip» ⟨[.bytes x.toArray t, .bytes y.toArray u], []⟩) (fun fin s' => ∃ v, fin = .done (.ret v) ∧ Q v s') E s := by
  unfold «bytes.rstrip» Bytes.stripM
  show wpAny _ _ (Bytes.bytesLike _ (.bytes y.toArray u) >>= fun r => _) _ _ _
  rw [like_eq]
  refine wpAny_bind (wpAny_pure ?_)
  rw [show y.toArray.contains = y.contains from by funext c; simp]
  exact strip_fin (t := t) (z := rstripB x y) (rstripB_sub x y) hs h
end
end Mine
end
section
open PySem PySem.W PySem.Calls PyProof.Rows PySem.Builtin
set_option maxHeartbeats 1000000
namespace Mine
noncomputable def hasB (y : List UInt8) : List UInt8 → Bool
  | [] => y.isPrefixOf []
  | c :: r => y.isPrefixOf (c :: r) || hasB y r
theorem hasB_iff {y : List UInt8} : ∀ {x : List UInt8}, hasB y x = true ↔ ∃ i, i ≤ x.length ∧ y <+: x.drop i
  | [] => by
    rw [hasB, List.isPrefixOf_iff_prefix]
    exact ⟨fun h => ⟨0, Nat.le_refl _, h⟩, fun ⟨i, _, h⟩ => by simpa using h⟩
  | c :: r => by
    rw [hasB, Bool.or_eq_true, List.isPrefixOf_iff_prefix, hasB_iff]
    constructor
    · rintro (h | ⟨i, hi, h⟩)
      · exact ⟨0, Nat.zero_le _, h⟩
      · exact ⟨i + 1, by simpa using hi, by simpa using h⟩
    · rintro ⟨i, hi, h⟩
      cases i with
      | zero => exact .inl h
      | succ i => exact .inr ⟨i, by simpa using hi, by simpa using h⟩
theorem b_no_index : typeLookup (.type "bytes") "__index__" = pure none := by rw [typeLookup_type, builtinLookup_eq_fast]; kernel_rfl
section
variable {M : Model} {A : Around} {E : Value → Shared → Prop} {s : Shared} {b c : Array UInt8} {t u : Tok}
theorem asIndex_bytes {Q : Int → Shared → Prop} (hh : A.handled = none) (h : ∀ h' tk e, Heap.NewExc s.heap h' e "TypeError" → E (.ref e) { s with heap := h', toks := tk }) : wpAny M A (asIndex (.bytes c u)) Q E s := by
  unfold asIndex
  refine wpAny_bind (wpAny_of_eq (a := none) rfl ?_)
  have e : callSpecial? (.bytes c u) "__index__" = pure none := by
    unfold callSpecial?
    rw [KBy.special_eq b_no_index]
    rfl
  refine wpAny_bind (wpAny_of_eq e ?_)
  refine wpAny_bind ?_
  unfold typeNameOfCut shownTypeOf
  refine wpAny_bind (wpAny_bind (wpAny_typeOf (typeIs_bytes _ c u) ?_))
  simp only [show (Value.type "bytes" == Value.type "builtin_function_or_method") = false by decide, Bool.false_eq_true, if_false]
  refine wpAny_pure ?_
  refine wpAny_of_eq (a := "bytes") (by kernel_rfl!) ?_
  exact_raiseError plainExc_TypeError hh h
theorem containsIn_bytes {id : String} {Q : Bool → Shared → Prop} (hh : A.handled = none) (h : ∀ h' tk, (∀ b o, s.heap.get? b = some o → h'.get? b = some o) → Q (Bytes.find? b c 0 b.size).isSome { s with heap := h', toks := tk }) :
    wpAny M A (Bytes.containsIn id (.bytes b t) (.bytes c u)) Q E s := by
  unfold Bytes.containsIn
  refine wpAny_bind (wpAny_attempt (asIndex_bytes hh fun h' tk e hn => ?_))
  rw [KBy.buffer_eq]
  refine wpAny_bind (wpAny_pure ?_)
  show wpAny M A (Bytes.buffer? id (.bytes c u) >>= fun r => _) _ _ _
  rw [KBy.buffer_eq]
  refine wpAny_bind (wpAny_pure ?_)
  exact wpAny_bind (wpAny_rule (wpAny_pure (h _ _ hn.keeps)))
theorem containsIn_int {id : String} {i : Int} {Q : Bool → Shared → Prop} (h0 : 0 ≤ i) (h1 : i < 256) (h : Q (b.contains i.toNat.toUInt8) s) : wpAny M A (Bytes.containsIn id (.bytes b t) (.int i u)) Q E s := by
  unfold Bytes.containsIn
  refine wpAny_bind (wpAny_attempt (wpAny_of_eq (a := i) rfl ?_))
  rw [KBy.buffer_eq]
  refine wpAny_bind (wpAny_pure ?_)
  show wpAny M A (if (i < 0 || i ≥ 256) = true then _ else _) _ _ _
  rw [if_neg (by simp; omega)]
  exact wpAny_pure h
end
section
variable {prog : Program} {w : World} {A : Around} {E : Value → Shared → Prop} {s : Shared} {x y : List UInt8} {t u : Tok} {Q : Value → Shared → Prop}
theorem find_isSome (x y : List UInt8) : (Bytes.find? x.toArray y.toArray 0 x.toArray.size).isSome = hasB y x := by
  unfold Bytes.find?
  rw [Bool.eq_iff_iff, hasB_iff, List.find?_isSome]
  constructor
  · rintro ⟨i, hi, e⟩
    have hi' : i < x.length + 1 - y.length := by simpa using hi
    refine ⟨i, by omega, ?_⟩
    have e' := congrArg Array.toList (eq_of_beq e)
    rw [List.prefix_iff_eq_take]
    simpa using e'.symm
  · rintro ⟨i, hi, e⟩
    have hl := e.length_le
    rw [List.length_drop] at hl
    by_cases hy : y.length ≤ x.length - i
    · refine ⟨i, by simp; omega, ?_⟩
      rw [beq_iff_eq, ← Array.toList_inj]
      rw [List.prefix_iff_eq_take] at e
      simpa using e.symm
    · omega
theorem in_bytes (hh : A.handled = none) (h : ∀ h' tk, (∀ b o, s.heap.get? b = some o → h'.get? b = some o) → Q (.bool (hasB y x)) { s with heap := h', toks := tk }) :
    wpAny (model prog w) A (compareOp .In (.bytes y.toArray u) (.bytes x.toArray t)) Q E s := by
  refine In_slot (typeIs_bytes s x.toArray t) FB.slot_bytes_contains (wpAny_call_entry FB.slot_bytes_contains (typeIs_bytes s x.toArray t) FB.entry_bytes_contains ?_ (FB.args_bytes_contains_2 _ _))
  show wpAny _ _ (Bytes.containsIn "bytes.__contains__" (.bytes x.toArray t) (.bytes y.toArray u) >>= fun r => _) _ _ _
  refine wpAny_bind (containsIn_bytes hh fun h' tk hk => wpAny_pure ⟨_, rfl, wpAny_truthy_bool (by rw [find_isSome]; exact h h' tk hk)⟩)
theorem in_bytes_int {i : Int} (h0 : 0 ≤ i) (h1 : i < 256) (h : Q (.bool (x.contains i.toNat.toUInt8)) s) :
    wpAny (model prog w) A (compareOp .In (.int i u) (.bytes x.toArray t)) Q E s := by
  refine In_slot (typeIs_bytes s x.toArray t) FB.slot_bytes_contains (wpAny_call_entry FB.slot_bytes_contains (typeIs_bytes s x.toArray t) FB.entry_bytes_contains ?_ (FB.args_bytes_contains_2 _ _))
  show wpAny _ _ (Bytes.containsIn "bytes.__contains__" (.bytes x.toArray t) (.int i u) >>= fun r => _) _ _ _
  refine wpAny_bind (containsIn_int h0 h1 (wpAny_pure ⟨_, rfl, wpAny_truthy_bool (by simpa using h)⟩))
theorem notIn_bytes (hh : A.handled = none) (h : ∀ h' tk, (∀ b o, s.heap.get? b = some o → h'.get? b = some o) → Q (.bool (!hasB y x)) { s with heap := h', toks := tk }) :
    wpAny (model prog w) A (compareOp .NotIn (.bytes y.toArray u) (.bytes x.toArray t)) Q E s := by
  refine NotIn_slot (typeIs_bytes s x.toArray t) FB.slot_bytes_contains (wpAny_call_entry FB.slot_bytes_contains (typeIs_bytes s x.toArray t) FB.entry_bytes_contains ?_ (FB.args_bytes_contains_2 _ _))
  show wpAny _ _ (Bytes.containsIn "bytes.__contains__" (.bytes x.toArray t) (.bytes y.toArray u) >>= fun r => _) _ _ _
  refine wpAny_bind (containsIn_bytes hh fun h' tk hk => wpAny_pure ⟨_, rfl, wpAny_truthy_bool (by rw [find_isSome]; exact h h' tk hk)⟩)
theorem mapM_bytes {M : Model} {xs : List (List UInt8)} {Q : List Value → Shared → Prop} (hs : ∀ x ∈ xs, x.length ≤ 1000000) (h : ∀ vs k, (∃ ts : List Tok, ts.length = xs.length ∧ vs = List.zipWith (fun (x : List UInt8) t => Value.bytes x.toArray t) xs ts) → Q vs { s with toks := k }) :
    wpAny M A ((xs.map List.toArray).mapM Bytes.Kind.bytes.new) Q E s := by
  induction xs generalizing s Q with
  | nil => exact h [] s.toks ⟨[], rfl, rfl⟩ |> fun q => by rw [List.map_nil, List.mapM_nil]; exact wpAny_pure q
  | cons x xs ih =>
    rw [List.map_cons, List.mapM_cons]
    refine wpAny_bind (m := mkBytes x.toArray) (wpAny_mkBytes (wpAny_bind (ih (fun y hy => hs y (.tail _ hy)) fun vs k ⟨ts, h1, h2⟩ => wpAny_pure (h _ _ ⟨s.toks :: ts, by simp [h1], by rw [h2]; rfl⟩))) ?_)
    have := hs x (.head _)
    rw [List.size_toArray, sizeLine_eq]
    omega
noncomputable def cutAt (sep : UInt8) : List UInt8 → List UInt8 → List (List UInt8)
  | acc, [] => [acc]
  | acc, c :: r => if c = sep then acc :: cutAt sep [] r else cutAt sep (acc ++ [c]) r
noncomputable def splitB (sep : UInt8) (x : List UInt8) : List (List UInt8) := cutAt sep [] x
noncomputable def posB (sep : UInt8) : Nat → List UInt8 → List Nat
  | _, [] => []
  | i, c :: r => if c = sep then i :: posB sep (i + 1) r else posB sep (i + 1) r
theorem occ_eq (x : List UInt8) (sep : UInt8) : ∀ (rest pre : List UInt8) (acc : List Nat) (last : Nat), pre ++ rest = x → last ≤ pre.length →
    (((List.range' pre.length rest.length)).foldl (fun (acc : List Nat × Nat) (i : Nat) => if i ≥ acc.2 && x.toArray.extract i (i + #[sep].size) == #[sep] then (i :: acc.1, i + #[sep].size) else acc) (acc, last)).1 = (posB sep pre.length rest).reverse ++ acc
  | [], pre, acc, last, _, _ => by simp [posB]
  | c :: r, pre, acc, last, hx, hl => by
    have hx' : (pre ++ [c]) ++ r = x := by simpa using hx
    have ih := fun acc last h => occ_eq x sep r (pre ++ [c]) acc last hx' h
    simp only [List.length_append, List.length_cons, List.length_nil, Nat.zero_add] at ih
    rw [List.length_cons, List.range'_succ, List.foldl_cons, posB]
    have e : (x.toArray.extract pre.length (pre.length + #[sep].size) == #[sep]) = decide (c = sep) := by
      rw [Bool.eq_iff_iff, beq_iff_eq, ← Array.toList_inj, decide_eq_true_iff, ← hx]
      simp
    simp only [e]
    by_cases hc : c = sep
    · simp only [hc, decide_true, Bool.and_true, ge_iff_le, decide_eq_true_iff, hl, if_true]
      have := ih (pre.length :: acc) (pre.length + 1) (Nat.le_refl _)
      simpa using this
    · simp only [hc, decide_false, Bool.and_false, Bool.false_eq_true, if_false]
      exact ih acc last (by omega)
theorem betw_eq (x : List UInt8) (sep : UInt8) : ∀ (rest pre : List UInt8) (st : Array (Array UInt8) × Nat), pre ++ rest = x → st.2 ≤ pre.length →
    (((posB sep pre.length rest).foldl (fun (q : Array (Array UInt8) × Nat) (p : Nat) => (q.1.push (x.toArray.extract q.2 p), p + 1)) st).1.push
      (x.toArray.extract ((posB sep pre.length rest).foldl (fun (q : Array (Array UInt8) × Nat) (p : Nat) => (q.1.push (x.toArray.extract q.2 p), p + 1)) st).2 x.toArray.size)).toList
      = st.1.toList ++ (cutAt sep (pre.drop st.2) rest).map List.toArray
  | [], pre, st, hx, hl => by
    have : pre = x := by simpa using hx
    subst this
    simp [posB, cutAt]
    exact List.take_of_length_le (by simp)
  | c :: r, pre, st, hx, hl => by
    have hx' : (pre ++ [c]) ++ r = x := by simpa using hx
    have ih := fun st h => betw_eq x sep r (pre ++ [c]) st hx' h
    simp only [List.length_append, List.length_cons, List.length_nil, Nat.zero_add] at ih
    rw [posB, cutAt]
    by_cases hc : c = sep
    · rw [if_pos hc, if_pos hc, List.foldl_cons]
      rw [ih (st.1.push (x.toArray.extract st.2 pre.length), pre.length + 1) (Nat.le_refl _)]
      have e : x.toArray.extract st.2 pre.length = (pre.drop st.2).toArray := by
        rw [← hx, ← Array.toList_inj]
        simp [List.drop_append_of_le_length hl]
      rw [e]
      simp
    · rw [if_neg hc, if_neg hc]
      rw [ih st (Nat.le_succ_of_le hl), List.drop_append_of_le_length hl]
theorem posB_len (sep : UInt8) : ∀ (i : Nat) (x : List UInt8), (posB sep i x).length ≤ x.length
  | _, [] => Nat.le_refl _
  | i, c :: r => by
    have := posB_len sep (i + 1) r
    rw [posB]
    split <;> simp <;> omega
theorem occurrences_eq (x : List UInt8) (sep : UInt8) : Bytes.occurrences x.toArray #[sep] 0 x.toArray.size = posB sep 0 x := by
  have h := occ_eq x sep x [] [] 0 rfl (Nat.le_refl _)
  unfold Bytes.occurrences
  have e : (List.range (x.toArray.size + 1 - (0 + #[sep].size))).map (· + 0) = List.range' ([] : List UInt8).length x.length := by
    simp [List.range_eq_range']
  rw [e]
  have := congrArg List.reverse h
  simpa using this
theorem between_eq (x : List UInt8) (sep : UInt8) : Bytes.between x.toArray 1 (posB sep 0 x) = (splitB sep x).map List.toArray := by
  have h := betw_eq x sep x [] (#[], 0) rfl (Nat.le_refl _)
  exact h
theorem cutAt_len (sep : UInt8) : ∀ (x acc : List UInt8), (cutAt sep acc x).length ≤ x.length + 1 ∧ ∀ y ∈ cutAt sep acc x, y.length ≤ acc.length + x.length
  | [], acc => by simp [cutAt]
  | c :: r, acc => by
    rw [cutAt]
    split
    · have := cutAt_len sep r []
      refine ⟨by simp; omega, fun y hy => ?_⟩
      rcases List.mem_cons.mp hy with rfl | hy
      · simp
      · have := this.2 y hy; simp at this ⊢; omega
    · have := cutAt_len sep r (acc ++ [c])
      refine ⟨by simp; omega, fun y hy => ?_⟩
      have := this.2 y hy; simp at this ⊢; omega
theorem split_wp {sep : UInt8} {Q : Value → Shared → Prop} (hs : x.length ≤ 1000000)
    (h : ∀ vs k, (∃ ts : List Tok, ts.length = (splitB sep x).length ∧ vs = List.zipWith (fun (x : List UInt8) t => Value.bytes x.toArray t) (splitB sep x) ts) → Q (.ref s.heap.objs.size) { s with heap := s.heap.push { cls := .type "list", data := .seq vs.toArray }, toks := k }) :
    wpAny (model prog w) A («bytes.split» ⟨[.bytes x.toArray t, .bytes #[sep] u], []⟩) (fun fin s' => ∃ v, fin = .done (.ret v) ∧ Q v s') E s := by
  have hl := cutAt_len sep x []
  unfold «bytes.split» Bytes.splitM
  show wpAny _ _ (Bytes.bytesLike _ (.bytes #[sep] u) >>= fun r => _) _ _ _
  rw [like_eq]
  refine wpAny_bind (wpAny_pure ?_)
  show wpAny _ _ (if (List.take (x.toArray.size + 1) (Bytes.occurrences x.toArray #[sep] 0 x.toArray.size)).isEmpty = true then (do rule _; let r ← Bytes.Kind.bytes.same (.bytes x.toArray t); let r ← newList [r]; ret r) else (do let r ← (Bytes.between x.toArray #[sep].size (List.take (x.toArray.size + 1) (Bytes.occurrences x.toArray #[sep] 0 x.toArray.size))).mapM Bytes.Kind.bytes.new; let r ← newList r; ret r)) _ _ _
  rw [occurrences_eq, List.take_of_length_le (by have := posB_len sep 0 x; simp; omega)]
  have hb := between_eq x sep
  by_cases hp : (posB sep 0 x).isEmpty = true
  · rw [if_pos hp]
    rw [List.isEmpty_iff.mp hp] at hb
    have e : splitB sep x = [x] := by
      have : (splitB sep x).map List.toArray = [x.toArray] := by rw [← hb]; simp [Bytes.between]
      have := congrArg (List.map Array.toList) this
      simpa using this
    refine wpAny_bind (wpAny_rule (wpAny_bind (wpAny_of_eq (a := Value.bytes x.toArray t) rfl (wpAny_bind (wpAny_newList (wpAny_pure ⟨_, rfl, h [_] s.toks ⟨[t], by rw [e]; rfl, by rw [e]; rfl⟩⟩))))))
  · rw [if_neg hp]
    refine wpAny_bind (m := (Bytes.between x.toArray 1 (posB sep 0 x)).mapM Bytes.Kind.bytes.new) ?_
    rw [hb]
    refine mapM_bytes (fun y hy => ?_) fun vs k hv => wpAny_bind ?_
    · have := hl.2 y hy; simp at this; omega
    · obtain ⟨ts, h1, h2⟩ := hv
      refine wpAny_newList (wpAny_pure ⟨_, rfl, h vs k ⟨ts, h1, h2⟩⟩) ?_
      rw [h2, List.length_zipWith, h1, Nat.min_self, sizeLine_eq]
      have := hl.1
      unfold splitB
      omega
end
end Mine
end
section
open PySem PySem.W PySem.Calls PyProof.Rows
namespace Mine
noncomputable def TyOf (σ : MS) (v : V) (T : String) : Prop := match v with
  | .byt _ => T = "bytes"
  | .ref a => match σ a with
    | some (.list _) => T = "list"
    | some (.dict _ _) => T = "dict"
    | some (.set _) => T = "set"
    | some (.tup _) => T = "tuple"
    | _ => False
  | _ => False
section
variable (w : World) (B : Heap) (os : OsState) (l : List Env) (A : Around) (env : Env) (E : Value → MS → Prop)
noncomputable abbrev kMeth (es : List Expr) (T id : String) (Q : V → MS → Prop) : V → MS → Prop := fun ov σ₁ => TyOf σ₁ ov T ∧ SQ w B os l A env es (kCLm w B os l A E (.bi id) ov Q) E σ₁
end
structure MF (T : String) (name : Str) (id : String) : Prop where
  pa : PlainAttrs T
  slot : Slot T name id
  ty : typeOf (.builtin id) = pure (.type "method_descriptor")
theorem mf_b_startswith : MF "bytes" "startswith" "bytes.startswith" := ⟨FB.plainAttrs_bytes, FB.slot_bytes_startswith, FB.type_bytes_startswith⟩
theorem mf_b_endswith : MF "bytes" "endswith" "bytes.endswith" := ⟨FB.plainAttrs_bytes, FB.slot_bytes_endswith, FB.type_bytes_endswith⟩
theorem mf_b_strip : MF "bytes" "strip" "bytes.strip" := ⟨FB.plainAttrs_bytes, slot_b_strip, type_b_strip⟩
theorem mf_b_rstrip : MF "bytes" "rstrip" "bytes.rstrip" := ⟨FB.plainAttrs_bytes, slot_b_rstrip, type_b_rstrip⟩
theorem mf_b_split : MF "bytes" "split" "bytes.split" := ⟨FB.plainAttrs_bytes, slot_b_split, type_b_split⟩
theorem mf_b_join : MF "bytes" "join" "bytes.join" := ⟨FB.plainAttrs_bytes, slot_b_join, type_b_join⟩
theorem mf_append : MF "list" "append" "list.append" := ⟨F.plainAttrs_list, slot_list_append, type_list_append⟩
section
variable {w : World} {B : Heap} {os : OsState} {l : List Env} {A : Around} {σ : MS} {E : Value → MS → Prop} {env : Env} {s : Shared}
theorem TyOf.is {v : Value} {T : String} (R : Rel w B os l σ s) (h : TyOf σ (er v) T) : s.TypeIs v T ∧ (∀ a, v = .ref a → ∃ ob, s.heap.get? a = some ob ∧ ob.dict = none) := by
  cases v with
  | bytes b t => subst h; exact ⟨typeIs_bytes s b t, fun a e => by cases e⟩
  | ref a =>
    simp only [er, TyOf] at h
    split at h
    · rename_i xs e; subst h
      obtain ⟨_, vs, n, ho, _⟩ := R.known _ _ e
      exact ⟨⟨_, ho, rfl⟩, fun b q => by cases q; exact ⟨_, ho, rfl⟩⟩
    · rename_i xs ep e; subst h
      obtain ⟨_, kvs, ⟨o, es, ho, hx, _⟩, _⟩ := R.known _ _ e
      exact ⟨⟨_, ho, hx.1⟩, fun b q => by cases q; exact ⟨_, ho, hx.2.1⟩⟩
    · rename_i xs e; subst h
      obtain ⟨_, o, es, ep, t, ho, hx, _⟩ := R.known _ _ e
      exact ⟨⟨_, ho, hx.1⟩, fun b q => by cases q; exact ⟨_, ho, hx.2.1⟩⟩
    · rename_i xs e; subst h
      obtain ⟨_, vs, n, ho, _⟩ := R.known _ _ e
      exact ⟨⟨_, ho, rfl⟩, fun b q => by cases q; exact ⟨_, ho, rfl⟩⟩
    · exact h.elim
  | _ => simp [er, TyOf] at h
theorem EV.meth {o : Expr} {name : Str} {apos pos : Pos} {es : List Expr} {T id : String} {Q : V → MS → Prop} (mf : MF T name id)
    (h : EV w B os l A env o (kMeth w B os l A env E es T id Q) E σ)
    (hbase : attributeBase o name env (eval o env) = eval o env := by rfl)
    (hfew : ((backTo pos (starEach es env)).all (fun x => !x.1) && (backToKw pos (keywordEach [] env)).all (fun x => x.1.isSome) && decide (es.length + ([] : List Keyword).length + (if ([] : List Keyword).isEmpty then 0 else 1) < 30)) = true := by rfl)
    (hline : (apos.endLine == pos.line) = true := by rfl)
    (hs : backTo pos (starEach es env) = es.map (fun e => (false, eval e env)) := by rfl) : EV w B os l A env (.Call (.Attribute o name apos) es [] pos) Q E σ := fun s R =>
  wpAny_Call_method hbase hfew hline mf.pa mf.slot mf.ty (wpAny_mono (h s R) (fun ov s₁ ⟨σ₁, R₁, ht, h₁⟩ => by
    have hT := ht.is R₁
    refine ⟨hT.1, hT.2, ?_⟩
    rw [hs]
    refine Calls.callWith_builtin (plain_any env es) (wpAny_mono (h₁.args s₁ R₁) (fun a s₂ hq1 => ?_) fun _ _ x => x)
    obtain ⟨σ₂, R₂, vs, ha, h₂⟩ := hq1
    subst ha
    exact h₂ (.builtin id) (ov :: vs) rfl rfl s₂ R₂) fun _ _ x => x)
theorem CL.startswith {x y : List UInt8} {Q : V → MS → Prop} (h : Q (.bool (y.isPrefixOf x)) σ) : CL w B os l A (.bi "bytes.startswith") [.byt x, .byt y] Q E σ := fun vf vs hf hs s R => by
  obtain ⟨a, b, rfl, ha, hb⟩ := list2 hs
  obtain ⟨t, rfl⟩ := er_byt ha; obtain ⟨u, rfl⟩ := er_byt hb
  rw [er_bi hf]
  refine call_gives FB.slot_bytes_startswith (typeIs_bytes s _ t) FB.entry_bytes_startswith (FB.args_bytes_startswith_2 _ _) (m := .val (.bool (y.isPrefixOf x))) (.of_eq sw_eq) ⟨σ, R, h⟩
theorem CL.endswith {x y : List UInt8} {Q : V → MS → Prop} (h : Q (.bool (y.isSuffixOf x)) σ) : CL w B os l A (.bi "bytes.endswith") [.byt x, .byt y] Q E σ := fun vf vs hf hs s R => by
  obtain ⟨a, b, rfl, ha, hb⟩ := list2 hs
  obtain ⟨t, rfl⟩ := er_byt ha; obtain ⟨u, rfl⟩ := er_byt hb
  rw [er_bi hf]
  refine call_gives FB.slot_bytes_endswith (typeIs_bytes s _ t) FB.entry_bytes_endswith (FB.args_bytes_endswith_2 _ _) (m := .val (.bool (y.isSuffixOf x))) (.of_eq ew_eq) ⟨σ, R, h⟩
theorem CL.strip {x y : List UInt8} {Q : V → MS → Prop} (hs : x.length ≤ 1000000) (h : Q (.byt (stripB x y)) σ) : CL w B os l A (.bi "bytes.strip") [.byt x, .byt y] Q E σ := fun vf vs hf hv s R => by
  obtain ⟨a, b, rfl, ha, hb⟩ := list2 hv
  obtain ⟨t, rfl⟩ := er_byt ha; obtain ⟨u, rfl⟩ := er_byt hb
  rw [er_bi hf]
  exact wpAny_call_entry slot_b_strip (typeIs_bytes s _ t) entry_b_strip (strip_wp hs fun t' k => ⟨σ, R.toks k, by simpa [er] using h⟩) (args_b_strip _ _)
theorem CL.rstrip {x y : List UInt8} {Q : V → MS → Prop} (hs : x.length ≤ 1000000) (h : Q (.byt (rstripB x y)) σ) : CL w B os l A (.bi "bytes.rstrip") [.byt x, .byt y] Q E σ := fun vf vs hf hv s R => by
  obtain ⟨a, b, rfl, ha, hb⟩ := list2 hv
  obtain ⟨t, rfl⟩ := er_byt ha; obtain ⟨u, rfl⟩ := er_byt hb
  rw [er_bi hf]
  exact wpAny_call_entry slot_b_rstrip (typeIs_bytes s _ t) entry_b_rstrip (rstrip_wp hs fun t' k => ⟨σ, R.toks k, by simpa [er] using h⟩) (args_b_rstrip _ _)
theorem zip_er : ∀ (xs : List (List UInt8)) (ts : List Tok), ts.length = xs.length → (List.zipWith (fun (x : List UInt8) t => Value.bytes x.toArray t) xs ts).map er = xs.map V.byt
  | [], [], _ => rfl
  | x :: xs, t :: ts, h => by
    rw [List.zipWith_cons_cons, List.map_cons, List.map_cons, zip_er xs ts (by simpa using h)]
    rfl
theorem get_none (s : Shared) : s.heap.get? s.heap.objs.size = none := by
  cases q : s.heap.get? s.heap.objs.size with
  | none => rfl
  | some o => exact absurd (Heap.lt_size q) (Nat.lt_irrefl _)
theorem Rel.newList (R : Rel w B os l σ s) {vs : List Value} {xs : List V} (e : vs.map er = xs) (t : Nat) : Rel w B os l (upd σ s.heap.objs.size (.list xs)) { s with heap := s.heap.push { cls := .type "list", data := .seq vs.toArray }, toks := t } :=
  R.new (o := .list xs) (fun b o h => Heap.get?_push_of_some _ h) (get_none s) ⟨vs.toArray, 0, Heap.get?_push_size _ rfl, by simpa using e⟩ t
theorem Rel.newTup (R : Rel w B os l σ s) {vs : List Value} {xs : List V} (e : vs.map er = xs) (t : Nat) : Rel w B os l (upd σ s.heap.objs.size (.tup xs)) { s with heap := s.heap.push { cls := .type "tuple", data := .seq vs.toArray }, toks := t } :=
  R.new (o := .tup xs) (fun b o h => Heap.get?_push_of_some _ h) (get_none s) ⟨vs.toArray, 0, Heap.get?_push_size _ rfl, by simpa using e⟩ t
theorem CL.split {x : List UInt8} {sep : UInt8} {Q : V → MS → Prop} (hs : x.length ≤ 1000000) (h : ∀ a, σ a = none → B.get? a = none → Q (.ref a) (upd σ a (.list ((splitB sep x).map V.byt)))) : CL w B os l A (.bi "bytes.split") [.byt x, .byt [sep]] Q E σ := fun vf vs hf hv s R => by
  obtain ⟨a, b, rfl, ha, hb⟩ := list2 hv
  obtain ⟨t, rfl⟩ := er_byt ha; obtain ⟨u, rfl⟩ := er_byt hb
  rw [er_bi hf]
  refine wpAny_call_entry slot_b_split (typeIs_bytes s _ t) entry_b_split (split_wp hs fun vs k ⟨ts, h1, h2⟩ => ⟨_, R.newList ?_ k, h _ R.fresh.1 R.fresh.2⟩) (args_b_split _ _)
  rw [h2]
  exact zip_er _ _ h1
theorem CM.inB {x y : List UInt8} {Q : V → MS → Prop} (hh : A.handled = none) (h : Q (.bool (hasB y x)) σ) : CM w B os l A .In (.byt y) (.byt x) Q E σ := fun va vb ha hb s R => by
  obtain ⟨t, rfl⟩ := er_byt ha; obtain ⟨u, rfl⟩ := er_byt hb
  exact in_bytes hh fun h' tk hk => ⟨σ, R.grow hk tk, h⟩
theorem CM.notInB {x y : List UInt8} {Q : V → MS → Prop} (hh : A.handled = none) (h : Q (.bool (!hasB y x)) σ) : CM w B os l A .NotIn (.byt y) (.byt x) Q E σ := fun va vb ha hb s R => by
  obtain ⟨t, rfl⟩ := er_byt ha; obtain ⟨u, rfl⟩ := er_byt hb
  exact notIn_bytes hh fun h' tk hk => ⟨σ, R.grow hk tk, h⟩
theorem CM.inBI {x : List UInt8} {i : Int} {Q : V → MS → Prop} (h0 : 0 ≤ i) (h1 : i < 256) (h : Q (.bool (x.contains i.toNat.toUInt8)) σ) : CM w B os l A .In (.int i) (.byt x) Q E σ := fun va vb ha hb s R => by
  obtain ⟨t, rfl⟩ := er_int ha; obtain ⟨u, rfl⟩ := er_byt hb
  exact in_bytes_int h0 h1 ⟨σ, R, h⟩
noncomputable def cutB (x : List UInt8) (lo hi : Option Int) : List UInt8 := (x.drop (lo.elim 0 (clipAt x.length))).take (hi.elim x.length (clipAt x.length) - lo.elim 0 (clipAt x.length))
noncomputable abbrev kCut2 (x : List UInt8) (Q : V → MS → Prop) (lo : Option Int) : Option Int → MS → Prop := fun hi σ => Q (.byt (cutB x lo hi)) σ
noncomputable abbrev kPt (Q : Option Int → MS → Prop) : V → MS → Prop := fun v σ₁ => ∃ i, v = .int i ∧ Q (some i) σ₁
noncomputable def PT (w : World) (B : Heap) (os : OsState) (l : List Env) (A : Around) (env : Env) (e : Option Expr) (Q : Option Int → MS → Prop) (E : Value → MS → Prop) (σ : MS) : Prop := match e with
  | none => Q none σ
  | some e => EV w B os l A env e (kPt Q) E σ
theorem PT.eval {e : Option Expr} {Q : Option Int → MS → Prop} (h : PT w B os l A env e Q E σ) : W w B os l A (evalPart e env) (fun v σ₁ => ∃ p, IsPart v p ∧ Q p σ₁) E σ := by
  cases e with
  | none => exact fun s R => wpAny_pure ⟨σ, R, none, .none, h⟩
  | some e => exact fun s R => wpAny_mono (h s R) (fun v s₁ ⟨σ₁, R₁, i, hv, hq⟩ => ⟨σ₁, R₁, some i, by obtain ⟨t, rfl⟩ := er_int hv; exact .int i t, hq⟩) fun _ _ x => x
end
section
variable (w : World) (B : Heap) (os : OsState) (l : List Env) (A : Around) (env : Env) (E : Value → MS → Prop)
noncomputable abbrev kCut1 (upper : Option Expr) (x : List UInt8) (Q : V → MS → Prop) : Option Int → MS → Prop := fun lo σ => PT w B os l A env upper (kCut2 x Q lo) E σ
noncomputable abbrev kCut (lower upper : Option Expr) (Q : V → MS → Prop) : V → MS → Prop := fun a σ₁ => ∃ x, a = .byt x ∧ x.length ≤ 1000000 ∧ PT w B os l A env lower (kCut1 w B os l A env E upper x Q) E σ₁
end
section
variable {w : World} {B : Heap} {os : OsState} {l : List Env} {A : Around} {σ : MS} {E : Value → MS → Prop} {env : Env} {s : Shared}
theorem EV.cut {value : Expr} {lower upper : Option Expr} {p pos : Pos} {Q : V → MS → Prop}
    (h : EV w B os l A env value (kCut w B os l A env E lower upper Q) E σ)
    (hs : ∀ o i, subscripted (.Slice lower upper Option.none p) false o i = operate [i, o] (getItem o i) := by intro _ _; with_unfolding_all rfl) : EV w B os l A env (.Subscript value (.Slice lower upper Option.none p) pos) Q E σ := fun s R => by
  refine Subscript_ (wpAny_mono (h s R) (fun a s₁ hq1 => ?_) fun _ _ x => x)
  obtain ⟨σ₁, R₁, x, ha, hx, h₁⟩ := hq1
  obtain ⟨t, rfl⟩ := er_byt ha
  refine wpAny_Slice (wpAny_mono (h₁.eval s₁ R₁) (fun lo s₂ ⟨σ₂, R₂, plo, hlo, h₂⟩ => wpAny_mono (h₂.eval s₂ R₂) (fun hi s₃ hq1 => ?_) fun _ _ x => x) fun _ _ x => x)
  obtain ⟨σ₃, R₃, phi, hhi, h₃⟩ := hq1
  refine wpAny_of_eq (t := evalPart Option.none env) (a := Value.none) rfl ?_
  refine tail_any (typeIs_bytes _ _ _) FB.slot_bytes_getitem.lookup (getItem_meets (typeIs_bytes _ _ _) (by decide) FB.slot_bytes_getitem FB.entry_bytes_getitem (FB.args_bytes_getitem_2 _ _) (KBc.meets_slice2 x.toArray t _ hlo hhi)
    ⟨Heap.IsSliceOf.new _ _ _ _, Nat.le_trans (KBc.size_picked_le _ _ _) (by rw [List.size_toArray, sizeLine_eq]; omega), fun t' k => ⟨σ₃, R₃.grow (fun b o e => Heap.get?_push_of_some _ e) k, ?_⟩⟩) (hs _ _)
  rw [KBc.picked_eq]
  simpa [er, cutB, kCut2] using h₃
theorem SI.byt {x y : Expr} {b : List UInt8} {i : Int} {Q : V → MS → Prop} (hfit : b.length ≤ 1000000) (h0 : 0 ≤ i) (h1 : i < b.length) (h : Q (.int (b.getD i.toNat 0).toNat) σ)
    (hs : ∀ t u, subscripted y false (.bytes b.toArray t) (.int i u) = operate [.bytes b.toArray t, .int i u] (getItem (.bytes b.toArray t) (.int i u)) := by intro _ _; with_unfolding_all rfl) : SI w B os l A x y (.byt b) (.int i) Q E σ := fun va vb ha hb s R => by
  obtain ⟨t, rfl⟩ := er_byt ha; obtain ⟨u, rfl⟩ := er_int hb
  exact tail_any (typeIs_bytes _ _ _) FB.slot_bytes_getitem.lookup (getItem_bytes (by omega) h0 h1 ⟨σ, R.toks _, h⟩) (hs _ _)
theorem BN.addB {x y : List UInt8} {Q : V → MS → Prop} (hz : x.length + y.length ≤ 1000000) (h : Q (.byt (x ++ y)) σ) : BN w B os l A .Add (.byt x) (.byt y) Q E σ := fun va vb ha hb s R => by
  obtain ⟨t, rfl⟩ := er_byt ha; obtain ⟨u, rfl⟩ := er_byt hb
  exact KBy.add_bytes (by simp; omega) fun t' k => ⟨σ, R.toks k, by simpa [er] using h⟩
theorem TU.byt {x : List UInt8} {Q : Bool → MS → Prop} (hz : x.length ≤ 1000000) (h : Q (!x.isEmpty) σ) : TU w B os l A (.byt x) Q E σ := fun va ha s R => by
  obtain ⟨t, rfl⟩ := er_byt ha
  refine truthy_bytes (by simp; omega) ⟨σ, R.toks _, ?_⟩
  have e : ((x.toArray.size : Int) != 0) = !x.isEmpty := by cases x <;> simp; omega
  rw [e]; exact h
end
end Mine
end
section
open PySem PySem.W PySem.Calls PyProof.Rows
namespace Mine
theorem setFlight_some {base h₀ : Heap} {l : List Env} {e L : Addr} {cls a0 fl : Value} {M : Model} {A : Around} {E : Value → Shared → Prop} {s : Shared} {Q : Unit → Shared → Prop}
    (hkb : base.StaysIn s.heap) (hl : s.heap.FunFrames base l) (ht : s.heap.TracedAtW base e cls a0 fl)
    (h : ∀ h', base.StaysIn h' → h'.FunFrames base l → h'.TracedAtW base e cls a0 (rawInt L) → s.heap.UpToSlots h' → Q () { s with heap := h' }) :
    wpAny M A (setFlight (.ref e) (some L)) Q E s := by
  obtain ⟨oe, vs, T, oT, ts, he, hcls, hd, h1, hnT, hTe, hT, hdT, h3⟩ := ht
  have hsz3 : 3 < ts.size := (Array.getElem?_eq_some_iff.mp h3).1
  have other : ∀ b, b ≠ T → (s.heap.update T (Obj.mapFields (·.setIfInBounds 3 (rawInt L)))).get? b = s.heap.get? b := fun b hb => Heap.get?_update_other _ _ (Ne.symm hb)
  have noRecord : ∀ b o, s.heap.get? b = some o → (∀ vs, o.data ≠ .fields vs) → b ≠ T := fun b o hb hnf q => by
    rw [q, hT] at hb; injection hb with hb; subst hb; exact hnf ts hdT
  unfold setFlight
  refine wpAny_bind (wpAny_field he hd h1 ?_)
  rw [if_pos (show (Value.ref T != Value.none) = true from by simp)]
  refine wpAny_setField hT hdT hsz3 (h _ (fun b o hbo => (other b fun q => by rw [q, hnT] at hbo; cases hbo).trans (hkb b o hbo))
    (hl.of_keeps fun b o hb hnf => ⟨o, (other b (noRecord b o hb hnf)).trans hb, rfl⟩) ?_ fun b o hb hnf => ⟨o.slots, (other b (noRecord b o hb hnf)).trans hb⟩)
  exact ⟨oe, vs, T, _, _, (other e (Ne.symm hTe)).trans he, hcls, hd, h1, hnT, hTe, Heap.get?_update_self _ hT (Obj.isFreed_of_fields (Obj.data_mapFields hdT _)), Obj.data_mapFields hdT _, by simp [hsz3]⟩
section
variable {w : World} {B : Heap} {os : OsState} {l : List Env} {A : Around} {σ : MS} {E : Value → MS → Prop} {env : Env} {s : Shared} {e : Addr} {cls : Value}
theorem XR.note {L : Addr} (hA : A.frames = some (env :: l)) (hf : env.frame = some L) (X : XR w B os (env :: l) e cls σ s) {Q : Unit → Shared → Prop} {E : Value → Shared → Prop} {M : Model}
    (h : ∀ s', XR w B os (env :: l) e cls σ s' → (∃ B₂ a0, s'.heap.TracedAtW B₂ e cls a0 (rawInt L)) → Q () s') : wpAny M A (noteFrame (.ref e) env) Q E s := by
  obtain ⟨g, o, B₂, a0, hB, hk, hn, hfr, hkn, hx⟩ := X
  have fin : ∀ h', B₂.StaysIn h' → h'.FunFrames B₂ (env :: l) → h'.TracedAtW B₂ e cls a0 (rawInt L) → s.heap.UpToSlots h' → Q () { s with heap := h' } := fun h' x1 x2 x3 x4 =>
    h _ ⟨g, o, B₂, a0, hB, x1, hn, x2, fun a ob q => ⟨(hkn a ob q).1, (hkn a ob q).2.imp id fun ⟨m, z, y⟩ => ⟨m, z, by subst z; exact isO_slots x4 y⟩⟩, .inr (.inr ⟨env, l, L, rfl, hf, x3⟩)⟩ ⟨B₂, a0, x3⟩
  rcases hx with ⟨oe, vs, he, hc, hd, h1, h0⟩ | ht | ⟨env', l', L', hl', hf', ht⟩
  · unfold noteFrame
    simp only [hf]
    refine wpAny_bind (wpAny_field he hd h1 ?_)
    rw [if_neg (by decide)]
    subst hc
    exact wpAny_entryW hA hfr hf he hk hn hd (Array.getElem?_eq_some_iff.mp h1).1 h0 fun h' ⟨y1, y2, y3, y4⟩ => fin h' y1 y2 y3 y4
  · exact wpAny_looks_onW hA hf ⟨hk, hn, hfr, ht⟩ fun h' hF u => fin h' hF.1 hF.2.2.1 hF.2.2.2 u
  · cases hl'
    rw [hf] at hf'; cases hf'
    exact wpAny_noteFrame_againW hf ht (fin s.heap hk hfr ht (Heap.UpToSlots.refl _))
theorem XR.passes {L : Addr} (hA : A.frames = some (env :: l)) (hf : env.frame = some L) (X : XR w B os (env :: l) e cls σ s) {E : Value → Shared → Prop} {M : Model}
    (h : ∀ s', XR w B os (env :: l) e cls σ s' → E (.ref e) s') : notedBy M A env (cameBackBy M A env E) (.ref e) s := by
  refine XR.note hA hf X fun s' X' ht => ?_
  obtain ⟨g, o, B₂, a0, hB, hk, hn, hfr, hkn, hx⟩ := X'
  have ht' : s'.heap.TracedAtW B₂ e cls a0 (rawInt L) ∨ s'.heap.TracedW B₂ e cls a0 := by
    rcases hx with ⟨oe, vs, he, hc, hd, h1, h0⟩ | ht' | ⟨env', l', L', hl', hf', ht'⟩
    · obtain ⟨_, _, oe', vs', T, oT, ts, he', _, hd', h1', _⟩ := ht
      rw [he] at he'; cases he'
      rw [hd] at hd'; cases hd'
      rw [h1] at h1'; cases h1'
    · exact .inr ht'
    · cases hl'; rw [hf] at hf'; cases hf'; exact .inl ht'
  have key : ∀ fl, s'.heap.TracedAtW B₂ e cls a0 fl → cameBackBy M A env E (.ref e) s' := fun fl ht => by
    unfold cameBackBy
    obtain ⟨oe, vs, T, oT, ts, he, hcls, hd, h1, r⟩ := id ht
    refine wpAny_bind (wpAny_field he hd h1 ?_)
    rw [if_neg (show ¬ ((Value.ref T == Value.none) = true) from by simp)]
    rw [hf]
    exact setFlight_some (h₀ := B₂) hk hfr ht fun h' y1 y2 y3 y4 => h _ ⟨g, o, B₂, a0, hB, y1, hn, y2, fun a ob q => ⟨(hkn a ob q).1, (hkn a ob q).2.imp id fun ⟨m, z, y⟩ => ⟨m, z, by subst z; exact isO_slots y4 y⟩⟩, .inr (.inr ⟨env, l, L, rfl, hf, y3⟩)⟩
  rcases ht' with ht | ht
  · exact key _ ht
  · exact key _ ht.at
theorem noted_of {L : Addr} (hA : A.frames = some (env :: l)) (hf : env.frame = some L) {v : Value} (h : ∃ e cls σ', v = .ref e ∧ XR w B os (env :: l) e cls σ' s ∧ E cls σ') :
    notedBy (model pw w) A env (cameBackBy (model pw w) A env (fun v s' => ∃ e cls σ', v = .ref e ∧ XR w B os (env :: l) e cls σ' s' ∧ E cls σ')) v s := by
  obtain ⟨e, cls, σ', rfl, X, q⟩ := h
  exact XR.passes hA hf X fun s' X' => ⟨e, cls, σ', rfl, X', q⟩
end
noncomputable abbrev lp (J K : MS → Prop) (Q : Fl → MS → Prop) : Fl → MS → Prop := fun f σ => match f with
  | .next | .cont => J σ
  | .brk => K σ
  | .ret v => Q (.ret v) σ
noncomputable abbrev kLess (I : Nat → MS → Prop) (n : Nat) : MS → Prop := fun σ => ∃ m, m < n ∧ I m σ
section
variable (w : World) (B : Heap) (os : OsState) (l : List Env) (A : Around) (env : Env) (E : Value → MS → Prop)
noncomputable abbrev kWh (body rest : List Stmt) (Q : Fl → MS → Prop) (I : Nat → MS → Prop) (n : Nat) : Bool → MS → Prop := fun c σ₁ => (c = true → SS w B os l A env body (lp (kLess I n) (SS w B os l A env rest Q E) Q) E σ₁) ∧ (c = false → SS w B os l A env rest Q E σ₁)
end
section
variable {w : World} {B : Heap} {os : OsState} {l : List Env} {A : Around} {σ : MS} {E : Value → MS → Prop} {env : Env} {s : Shared} {e : Addr} {cls : Value}
theorem SS.while {test : Expr} {body : List Stmt} {pos : Pos} {rest : List Stmt} {Q : Fl → MS → Prop} {L : Addr} (hA : A.frames = some (env :: l)) (hf : env.frame = some L) (I : Nat → MS → Prop) (n : Nat) (h0 : I n σ)
    (turn : ∀ n τ, I n τ → TR w B os (env :: l) A env test (kWh w B os (env :: l) A env E body rest Q I n) E τ) :
    SS w B os (env :: l) A env (.While test body [] pos :: rest) Q E σ := by
  refine SS.consNx fun s R => ?_
  refine wpAny_While (codeAny_whileLoop (fun n s => ∃ τ, Rel w B os (env :: l) τ s ∧ I n τ) ?_ n ⟨σ, R, h0⟩)
  rintro n s ⟨τ, R, hI⟩
  refine wpAny_mono (turn n τ hI s R) (fun c s₁ hq1 => ?_) fun v s' hx => noted_of hA hf hx
  obtain ⟨σ₁, R₁, h₁⟩ := hq1
  cases c with
  | true =>
    rw [if_pos rfl]
    refine wpAny_mono (h₁.1 rfl s₁ R₁) (fun f s₂ hq1 => ?_) fun v s' hx => noted_of hA hf hx
    obtain ⟨σ₂, R₂, h₂⟩ := hq1
    cases f with
    | next => obtain ⟨m, hm, hi⟩ := h₂; exact ⟨m, hm, σ₂, R₂, hi⟩
    | cont => obtain ⟨m, hm, hi⟩ := h₂; exact ⟨m, hm, σ₂, R₂, hi⟩
    | brk => exact ⟨σ₂, R₂, h₂⟩
    | ret v => exact ⟨σ₂, R₂, h₂⟩
  | false =>
    rw [if_neg (by decide)]
    exact wpAny_execs_nil ⟨σ₁, R₁, h₁.2 rfl⟩
noncomputable def AS (w : World) (B : Heap) (os : OsState) (l : List Env) (A : Around) (env : Env) (t : Expr) (v : V) (Q : MS → Prop) (E : Value → MS → Prop) (σ : MS) : Prop := ∀ va, er va = v → W w B os l A (assign t env va) (fun _ σ' => Q σ') E σ
theorem forW {target : Expr} {body : List Stmt} {rest : List Stmt} {Q : Fl → MS → Prop} {L : Addr} {it : Addr} {xs : List V} (hA : A.frames = some (env :: l)) (hf : env.frame = some L) (J : Nat → MS → Prop) (h0 : J 0 σ)
    (next : ∀ i v τ, J i τ → xs[i]? = some v → W w B os (env :: l) A (pyNext (.ref it)) (fun r σ₁ => ∃ va, r = some va ∧ er va = v ∧ W w B os (env :: l) A (letOwnedTupleGo target (.ref it) va) (fun _ σ₁ => AS w B os (env :: l) A env target v (SS w B os (env :: l) A env body (lp (J (i + 1)) (SS w B os (env :: l) A env rest Q E) Q) E) E σ₁) E σ₁) E τ)
    (fin : ∀ τ, J xs.length τ → W w B os (env :: l) A (pyNext (.ref it)) (fun r σ₁ => r = none ∧ SS w B os (env :: l) A env rest Q E σ₁) E τ) (s : Shared) (R : Rel w B os (env :: l) σ s) :
    codeAny (model pw w) A (.forLoop target (.ref it) body [] env) (fun r s' => match r with
      | .ok f => ∃ σ', Rel w B os (env :: l) σ' s' ∧ nx w B os (env :: l) A env rest Q E (erF f) σ'
      | .error e => cameBackBy (model pw w) A env (fun v s' => ∃ e cls σ', v = .ref e ∧ XR w B os (env :: l) e cls σ' s' ∧ E cls σ') e s') s := by
  refine codeAny_forLoop_any (fun n s => ∃ τ i, Rel w B os (env :: l) τ s ∧ J i τ ∧ i ≤ xs.length ∧ n = xs.length - i) ?_ (xs.length - 0) ⟨σ, 0, R, h0, Nat.zero_le _, rfl⟩
  rintro n s ⟨τ, i, R, hJ, hi, rfl⟩
  rcases Nat.lt_or_ge i xs.length with hlt | hge
  · have hx : xs[i]? = some xs[i] := List.getElem?_eq_getElem hlt
    refine wpAny_mono (next i _ τ hJ hx s R) (fun r s₁ hq1 => ?_) fun v s' hx => noted_of hA hf hx
    obtain ⟨σ₁, R₁, va, hr, hv, h₁⟩ := hq1
    subst hr
    refine wpAny_mono (h₁ s₁ R₁) (fun _ s₁ hq1 => ?_) fun v s' hx => noted_of hA hf hx
    obtain ⟨σ₁, R₁, h₁⟩ := hq1
    refine wpAny_mono (h₁ va hv s₁ R₁) (fun _ s₂ hq1 => ?_) fun v s' hx => noted_of hA hf hx
    obtain ⟨σ₂, R₂, h₂⟩ := hq1
    refine wpAny_mono (h₂ s₂ R₂) (fun f s₃ hq1 => ?_) fun v s' hx => noted_of hA hf hx
    obtain ⟨σ₃, R₃, h₃⟩ := hq1
    cases f with
    | next => exact ⟨xs.length - (i + 1), ix3 hlt, σ₃, i + 1, R₃, h₃, hlt, rfl⟩
    | cont => exact ⟨xs.length - (i + 1), ix3 hlt, σ₃, i + 1, R₃, h₃, hlt, rfl⟩
    | brk => exact ⟨σ₃, R₃, h₃⟩
    | ret v => exact ⟨σ₃, R₃, h₃⟩
  · obtain rfl : i = xs.length := Nat.le_antisymm hi hge
    refine wpAny_mono (fin τ hJ s R) (fun r s₁ hq1 => ?_) fun v s' hx => noted_of hA hf hx
    obtain ⟨σ₁, R₁, hr, h₁⟩ := hq1
    subst hr
    exact wpAny_execs_nil ⟨σ₁, R₁, h₁⟩
end
end Mine
end
section
open PySem PySem.W PySem.Calls PyProof.Rows
namespace Mine
noncomputable def LI (a : Addr) (i : Nat) : O := .pr fun o => o.cls = .type "list_iterator" ∧ o.data = .fields #[.ref a, .int i 0]
noncomputable def RI (x left step : Int) : O := .pr fun o => o = { cls := .type "range_iterator", dict := none, data := .fields #[rawInt x, rawInt left, rawInt step], slots := #[] }
noncomputable def RG (a b c : Int) : O := .pr fun o => ∃ t u v, o = { cls := .type "range", dict := none, data := .fields #[.int a t, .int b u, .int c v], slots := #[] }
section
variable {w : World} {B : Heap} {os : OsState} {l : List Env} {A : Around} {σ : MS} {E : Value → MS → Prop} {env : Env} {s : Shared}
theorem Rel.other (R : Rel w B os l σ s) {h' : Heap} {a : Addr} (hσ : σ a = none) (hB : B.get? a = none) (hf : a ∉ l.filterMap (·.frame)) (k : ∀ b o, b ≠ a → s.heap.get? b = some o → h'.get? b = some o) (t : Nat) : Rel w B os l σ { s with heap := h', toks := t } :=
  ⟨R.gens, R.os, fun b o e => k b o (fun z => by subst z; rw [hB] at e; cases e) (R.old b o e), fun b o e => ⟨(R.known b o e).1, (R.known b o e).2.of_get (k b · (fun z => by subst z; rw [hσ] at e; cases e))⟩,
    funFrames_alive (fun b hb ob e hd => ⟨ob, k b ob (fun z => hf (z ▸ hb)) e, hd⟩) R.frames, R.nsf⟩
noncomputable def del (σ : MS) (a : Addr) : MS := fun b => if b = a then none else σ b
theorem del_le (σ : MS) (a : Addr) : Le (del σ a) σ := fun b o e => by
  unfold del at e; split at e
  · cases e
  · exact e
theorem del_ne {σ : MS} {a b : Addr} (h : b ≠ a) : del σ a b = σ b := if_neg h
theorem del_self {σ : MS} {a : Addr} : del σ a a = none := if_pos rfl
theorem del_upd {σ : MS} {a : Addr} {o : O} (h : σ a = none) : del (upd σ a o) a = σ := by
  funext b
  by_cases q : b = a
  · subst q; rw [del_self, h]
  · rw [del_ne q, upd_ne _ _ q]
theorem Rel.drop (R : Rel w B os l σ s) {h' : Heap} {a : Addr} {o : O} (hσ : σ a = some o) (hns : ∀ m, o ≠ .ns m) (k : Heap.ExtBut a s.heap h') (t : Nat) : Rel w B os l (del σ a) { s with heap := h', toks := t } :=
  (R.less (del_le σ a)).other del_self (R.known a o hσ).1 (fun hm => by obtain ⟨m, e⟩ := R.nsf a o hσ hm; exact hns m e) (fun b o hb e => k b o hb e) t
theorem iterList {a : Addr} {xs : List V} {Q : Value → MS → Prop} (ha : σ a = some (.list xs)) (h : ∀ it, σ it = none → B.get? it = none → Q (.ref it) (upd σ it (LI a 0))) : W w B os l A (pyIter (.ref a)) Q E σ := fun s R => by
  obtain ⟨_, vs, n, hl, rfl⟩ := R.known _ _ ha
  exact wpAny_pyIter_list (IsL.isList hl) ⟨_, R.new (o := LI a 0) (fun b o e => Heap.get?_push_of_some _ e) (get_none s) ⟨_, Heap.get?_push_size _ rfl, rfl, rfl⟩ _, h _ R.fresh.1 R.fresh.2⟩
theorem nextList {a it : Addr} {xs : List V} {i : Nat} {v : V} {Q : Option Value → MS → Prop} (ha : σ a = some (.list xs)) (hi : σ it = some (LI a i)) (hx : xs[i]? = some v) (h : ∀ va, er va = v → Q (some va) (upd σ it (LI a (i + 1)))) : W w B os l A (pyNext (.ref it)) Q E σ := fun s R => by
  obtain ⟨_, vs, n, hl, rfl⟩ := R.known _ _ ha
  obtain ⟨_, o, ho, hc, hd⟩ := R.known _ _ hi
  rw [List.getElem?_map] at hx
  obtain ⟨x, hx', rfl⟩ := Option.map_eq_some_iff.mp hx
  refine wpAny_pyNext_list_item (l := a) (i := i) ⟨o, ho, hc, hd⟩ (IsL.isList hl) (by simpa using hx') fun h' ⟨o', ho', hc', hd'⟩ hs => ⟨_, R.turn (o' := LI a (i + 1)) hi hs ⟨o', ho', hc', hd'⟩ _ (fun m e => by cases e), h _ rfl⟩
theorem nextListEnd {a it : Addr} {xs : List V} {Q : Option Value → MS → Prop} (hh : A.handled = none) (ha : σ a = some (.list xs)) (hi : σ it = some (LI a xs.length)) (h : Q none (del σ it)) : W w B os l A (pyNext (.ref it)) Q E σ := fun s R => by
  obtain ⟨_, vs, n, hl, rfl⟩ := R.known _ _ ha
  obtain ⟨_, o, ho, hc, hd⟩ := R.known _ _ hi
  refine wpAny_pyNext_list_end (l := a) (i := (vs.toList.map er).length) hh ⟨o, ho, hc, hd⟩ (IsL.isList hl) (by simp) fun h' hs => ⟨_, R.drop hi (fun m e => by cases e) hs _, h⟩
theorem iterRange {r : Addr} {a b c : Int} {Q : Value → MS → Prop} (hr : σ r = some (RG a b c)) (hsm : Builtin.Range.small a b c = true) (h : ∀ it, σ it = none → B.get? it = none → Q (.ref it) (upd σ it (RI a (Builtin.Range.rangeSize a b c) c))) : W w B os l A (pyIter (.ref r)) Q E σ := fun s R => by
  obtain ⟨_, o, ho, t, u, v, rfl⟩ := R.known _ _ hr
  exact wpAny_pyIter_range ho hsm ⟨_, R.new (o := RI _ _ _) (fun b o e => Heap.get?_push_of_some _ e) (get_none s) ⟨_, Heap.get?_push_size _ rfl, rfl⟩ _, h _ R.fresh.1 R.fresh.2⟩
theorem nextRange {it : Addr} {x left step : Int} {Q : Option Value → MS → Prop} (hi : σ it = some (RI x left step)) (hp : 0 < left) (h : ∀ va, er va = .int x → Q (some va) (upd σ it (RI (x + step) (left - 1) step))) : W w B os l A (pyNext (.ref it)) Q E σ := fun s R => by
  obtain ⟨_, o, ho, rfl⟩ := R.known _ _ hi
  exact wpAny_pyNext_range_item ho hp fun h' hi' hs => ⟨_, R.turn (o' := RI _ _ _) hi hs ⟨_, hi', rfl⟩ _ (fun m e => by cases e), h _ rfl⟩
theorem nextRangeEnd {it : Addr} {x left step : Int} {Q : Option Value → MS → Prop} (hh : A.handled = none) (hi : σ it = some (RI x left step)) (hp : left ≤ 0) (h : Q none (del σ it)) : W w B os l A (pyNext (.ref it)) Q E σ := fun s R => by
  obtain ⟨_, o, ho, rfl⟩ := R.known _ _ hi
  exact wpAny_pyNext_range_end hh ho hp fun h' hs => ⟨_, R.drop hi (fun m e => by cases e) hs _, h⟩
theorem CL.range1 {b : Int} {Q : V → MS → Prop} (h : ∀ r, σ r = none → B.get? r = none → Q (.ref r) (upd σ r (RG 0 b 1))) : CL w B os l A (.ty "range") [.int b] Q E σ := fun vf vs hf hv s R => by
  obtain ⟨x, rfl, hx⟩ := list1 hv
  obtain ⟨t, rfl⟩ := er_int hx
  rw [er_ty hf]
  exact call_range_1 ⟨_, R.new (o := RG 0 b 1) (fun b o e => Heap.get?_push_of_some _ e) (get_none s) ⟨_, Heap.get?_push_size _ rfl, _, _, _, rfl⟩ _, h _ R.fresh.1 R.fresh.2⟩
theorem CL.range3 {a b c : Int} {Q : V → MS → Prop} (hc : c ≠ 0) (hc' : c.natAbs < 1073741824) (h : ∀ r, σ r = none → B.get? r = none → Q (.ref r) (upd σ r (RG a b c))) : CL w B os l A (.ty "range") [.int a, .int b, .int c] Q E σ := fun vf vs hf hv s R => by
  obtain ⟨x, y, z, rfl, hx, hy, hz⟩ := list3 hv
  obtain ⟨t, rfl⟩ := er_int hx; obtain ⟨u, rfl⟩ := er_int hy; obtain ⟨v, rfl⟩ := er_int hz
  rw [er_ty hf]
  exact call_range_3 hc ⟨_, R.new (o := RG a b c) (fun b o e => Heap.get?_push_of_some _ e) (get_none s) ⟨_, Heap.get?_push_size _ rfl, _, _, _, rfl⟩ _, h _ R.fresh.1 R.fresh.2⟩ (.inl (PyProof.noPylong_small hc'))
end
end Mine
end
section
open PySem PySem.W PySem.Calls PyProof.Rows
namespace Mine
structure Src (w : World) (B : Heap) (os : OsState) (l : List Env) (A : Around) (v : V) (xs : List V) (σ₁ : MS) (S : Nat → O) (Pin : MS → Prop) : Prop where
  iter : ∀ (Q : Value → MS → Prop) (E : Value → MS → Prop), (∀ it, σ₁ it = none → B.get? it = none → Q (.ref it) (upd σ₁ it (S 0))) → ∀ va, er va = v → W w B os l A (pyIter va) Q E σ₁
  next : ∀ it i x τ (Q : Option Value → MS → Prop) (E : Value → MS → Prop), Pin τ → τ it = some (S i) → xs[i]? = some x → (∀ va, er va = x → Q (some va) (upd τ it (S (i + 1)))) → W w B os l A (pyNext (.ref it)) Q E τ
  self : ∀ it i τ (Q : Value → MS → Prop) (E : Value → MS → Prop), τ it = some (S i) → Q (.ref it) τ → W w B os l A (pyIter (.ref it)) Q E τ
  fin : ∀ it τ (Q : Option Value → MS → Prop) (E : Value → MS → Prop), Pin τ → τ it = some (S xs.length) → Q none (del τ it) → W w B os l A (pyNext (.ref it)) Q E τ
section
variable {w : World} {B : Heap} {os : OsState} {l : List Env} {A : Around} {σ : MS} {E : Value → MS → Prop} {env : Env} {s : Shared}
theorem Src.list {a : Addr} {xs : List V} (hh : A.handled = none) (ha : σ a = some (.list xs)) : Src w B os l A (.ref a) xs σ (LI a) (fun τ => τ a = some (.list xs)) where
  iter Q E h va hv := by rw [er_ref hv]; exact iterList ha h
  next it i x τ Q E hp hi hx h := nextList hp hi hx h
  self it i τ Q E hi h := fun s R => by
    obtain ⟨_, o, ho, hc, hd⟩ := R.known _ _ hi
    exact wpAny_pyIter_listiter (l := a) (i := i) ⟨o, ho, hc, hd⟩ ⟨τ, R, h⟩
  fin it τ Q E hp hi h := nextListEnd hh hp hi h
noncomputable def rangeXs (a c : Int) (n : Nat) : List V := (List.range n).map fun i => V.int (a + (i : Nat) * c)
theorem Src.range {r : Addr} {a b c : Int} {n : Nat} (hh : A.handled = none) (hr : σ r = some (RG a b c)) (hsm : Builtin.Range.small a b c = true) (hn : Builtin.Range.rangeSize a b c = n) :
    Src w B os l A (.ref r) (rangeXs a c n) σ (fun i => RI (a + (i : Nat) * c) ((n : Int) - (i : Nat)) c) (fun _ => True) where
  iter Q E h va hv := by
    rw [er_ref hv]
    refine iterRange hr hsm fun it h1 h2 => ?_
    have := h it h1 h2
    simpa [hn] using this
  next it i x τ Q E hp hi hx h := by
    have hlt : i < n := by
      have := (List.getElem?_eq_some_iff.mp hx).1
      simpa [rangeXs] using this
    have hx' : x = .int (a + (i : Nat) * c) := by
      rw [rangeXs, List.getElem?_map, List.getElem?_range hlt] at hx
      simpa using hx.symm
    refine nextRange hi (by omega) fun va hva => ?_
    have := h va (by rw [hva, hx'])
    have e1 : a + (i : Nat) * c + c = a + ((i + 1 : Nat) : Int) * c := by push_cast; rw [Int.add_mul]; omega
    have e2 : (n : Int) - (i : Nat) - 1 = (n : Int) - ((i + 1 : Nat) : Int) := by push_cast; omega
    rw [e1, e2]
    exact this
  self it i τ Q E hi h := fun s R => by
    obtain ⟨_, o, ho, rfl⟩ := R.known _ _ hi
    exact wpAny_pyIter_rangeiter ho ⟨τ, R, h⟩
  fin it τ Q E hp hi h := by
    refine nextRangeEnd hh hi ?_ h
    simp [rangeXs]
theorem SS.forG {target iter : Expr} {body : List Stmt} {pos : Pos} {rest : List Stmt} {Q : Fl → MS → Prop} {L : Addr} (hA : A.frames = some (env :: l)) (hf : env.frame = some L)
    (h : EV w B os (env :: l) A env iter (fun v σ₁ => ∃ xs S Pin, Src w B os (env :: l) A v xs σ₁ S Pin ∧ ∀ it, σ₁ it = none → B.get? it = none → ∃ J : Nat → MS → Prop, J 0 (upd σ₁ it (S 0)) ∧
      (∀ i v τ, J i τ → xs[i]? = some v → Pin τ ∧ τ it = some (S i) ∧ AS w B os (env :: l) A env target v (SS w B os (env :: l) A env body (lp (J (i + 1)) (SS w B os (env :: l) A env rest Q E) Q) E) E (upd τ it (S (i + 1)))) ∧
      (∀ τ, J xs.length τ → Pin τ ∧ τ it = some (S xs.length) ∧ SS w B os (env :: l) A env rest Q E (del τ it))) E σ)
    (hs : ∀ x, foldedSetIterable iter env x = pure x := by intro _; rfl) (ht : ∀ it v, letOwnedTupleGo target it v = pure () := by intro _ _; rfl) :
    SS w B os (env :: l) A env (.For target iter body [] pos :: rest) Q E σ := by
  refine SS.consNx fun s R => wpAny_For (wpAny_mono (h s R) (fun xv s₁ hq1 => ?_) fun _ _ x => x) hs
  obtain ⟨σ₁, R₁, xs, S, Pin, hsrc, h₁⟩ := hq1
  refine wpAny_mono (hsrc.iter (fun itv σ₂ => ∃ it, itv = .ref it ∧ σ₁ it = none ∧ B.get? it = none ∧ σ₂ = upd σ₁ it (S 0)) E (fun it q1 q2 => ⟨it, rfl, q1, q2, rfl⟩) xv rfl s₁ R₁) (fun itv s₂ hq1 => ?_) fun _ _ x => x
  obtain ⟨σ₂, R₂, it, hit, q1, q2, hσ⟩ := hq1
  subst hit hσ
  obtain ⟨J, h0, hstep, hfin⟩ := h₁ it q1 q2
  refine forW hA hf (xs := xs) J h0 (fun i v τ hJ hx => ?_) (fun τ hJ => ?_) s₂ R₂
  · obtain ⟨z1, z2, z3⟩ := hstep i v τ hJ hx
    refine hsrc.next it i v τ _ _ z1 z2 hx fun va hva => ⟨va, rfl, hva, fun s R => ?_⟩
    rw [ht]
    exact wpAny_pure ⟨_, R, z3⟩
  · obtain ⟨z1, z2, z3⟩ := hfin τ hJ
    exact hsrc.fin it τ _ _ z1 z2 ⟨rfl, z3⟩
theorem AS.at {x : Str} {p : Pos} {v : V} {L : Addr} {m : Str → Option V} {Q : MS → Prop} (hσ : σ L = some (.ns m)) (h : Q (upd σ L (.ns (put m x v)))) (hL : env.locals = L := by rfl) (hl : env.kindOf x = some .local := by rfl)
    (hp : (env.scope.kind == .class || (env.scope.kind == .module && env.locals != env.globals)) = false := by rfl) : AS w B os l A env (.Name x p) v Q E σ := fun va hv s R => by
  subst hv hL
  exact wpAny_assign_Name (storeW (Q := fun _ σ' => Q σ') hσ h hl hp s R)
noncomputable def TS (w : World) (B : Heap) (os : OsState) (l : List Env) (A : Around) (env : Env) (ifs : List Expr) (Q : Bool → MS → Prop) (E : Value → MS → Prop) (σ : MS) : Prop :=
  W w B os l A (forIn ifs true fun c r => if r = true then do let ok ← isTrue c env (eval c env); pure (ForInStep.yield ok) else pure (ForInStep.yield r)) Q E σ
theorem TS.nil {Q : Bool → MS → Prop} (h : Q true σ) : TS w B os l A env [] Q E σ := fun s R => wpAny_tests_nil ⟨σ, R, h⟩
theorem TS.one {c : Expr} {Q : Bool → MS → Prop} (h : TR w B os l A env c Q E σ) : TS w B os l A env [c] Q E σ := fun s R => wpAny_tests_one (h s R)
end
section
variable (w : World) (B : Heap) (os : OsState) (l : List Env) (A : Around) (env : Env) (E : Value → MS → Prop)
noncomputable abbrev kPush (D : Addr) (ys : List V) (J : List V → MS → Prop) : V → MS → Prop := fun y σ => σ D = some (.list ys) ∧ ys.length ≤ 1000000 ∧ J (ys ++ [y]) (upd σ D (.list (ys ++ [y])))
noncomputable abbrev noE : Value → MS → Prop := fun _ _ => False
noncomputable abbrev kTest (elt : Expr) (D : Addr) (ys : List V) (J : List V → MS → Prop) : Bool → MS → Prop := fun ok σ => (ok = true → EV w B os l A env elt (kPush D ys J) noE σ) ∧ (ok = false → J ys σ)
end
section
variable {w : World} {B : Heap} {os : OsState} {l : List Env} {A : Around} {σ : MS} {E : Value → MS → Prop} {env : Env} {s : Shared}
end
section
variable (w : World) (B : Heap) (os : OsState) (l : List Env) (A : Around) (env : Env) (E : Value → MS → Prop)
noncomputable abbrev kComp (elt target : Expr) (ifs : List Expr) (scope : Scope) (cl : List (Str × Addr)) (FIN : Addr → Addr → Addr → MS → Prop) : V → MS → Prop := fun v σ₁ => ∃ xs S Pin, Src w B os l A v xs σ₁ S Pin ∧ ∀ it D C, σ₁ it = none → B.get? it = none → σ₁ D = none → σ₁ C = none → it ≠ D → it ≠ C → D ≠ C → ∃ J : Nat → List V → MS → Prop,
  J 0 [] (upd (upd (upd σ₁ it (S 0)) D (.list [])) C (.ns (fr []))) ∧
  (∀ i v τ ys, J i ys τ → xs[i]? = some v → Pin τ ∧ τ it = some (S i) ∧ AS w B os l A (compEnvC scope cl C env) target v (TS w B os l A (compEnvC scope cl C env) ifs (kTest w B os l A (compEnvC scope cl C env) elt D ys (J (i + 1))) noE) noE (upd τ it (S (i + 1)))) ∧
  (∀ τ ys, J xs.length ys τ → Pin τ ∧ τ it = some (S xs.length) ∧ FIN it D C τ)
noncomputable abbrev kFin (Q : V → MS → Prop) : Addr → Addr → Addr → MS → Prop := fun it D C τ => (∃ m, τ C = some (.ns m)) ∧ Q (.ref D) (del (del τ it) C)
end
section
variable {w : World} {B : Heap} {os : OsState} {l : List Env} {A : Around} {σ : MS} {E : Value → MS → Prop} {env : Env} {s : Shared}
theorem compCore {elt target iter : Expr} {ifs : List Expr} {scope : Scope} {cl : List (Str × Addr)} {pos pos' : Pos} {use : Option (Value → Sem Unit)} {QQ : Value → Shared → Prop} {FIN : Addr → Addr → Addr → MS → Prop}
    (hclos : closureFor scope env = pure cl) (hkind : scope.kind = .function) (hnames : ∀ y ∈ scope.names, y.2 = .local → scope.names.lookup y.1 = some .local) (hcell : ∀ y ∈ scope.names, y.2 ≠ .cell)
    (h : EV w B os l A env iter (kComp w B os l A env elt target ifs scope cl FIN) E σ)
    (hFIN : ∀ it D C τ s₁ v, FIN it D C τ → it ≠ D → it ≠ C → D ≠ C → C ∉ l.filterMap (·.frame) → Rel w B os l (del τ it) s₁ → compPost (model pw w) A (fun v s' => ∃ e cls σ', v = .ref e ∧ XR w B os l e cls σ' s' ∧ E cls σ') use QQ (.ref D) C (.ok v) s₁)
    (hs : ∀ x, foldedSetIterable iter env x = pure x) (ht : ∀ it v, letOwnedTupleGo target it v = pure ()) (R : Rel w B os l σ s) :
    wpAny (model pw w) A (comprehension (.ListComp elt [⟨target, iter, ifs, 0⟩] scope pos) scope env pos' (newList []) false (eval iter env) use) QQ (fun v s' => ∃ e cls σ', v = .ref e ∧ XR w B os l e cls σ' s' ∧ E cls σ') s := by
  refine wpAny_comprehension_free (g := ⟨target, iter, ifs, 0⟩) (gs := []) (use := use) rfl hs hclos hkind hnames (wpAny_mono (h s R) (fun xv s₁ hq1 => ?_) fun _ _ e => e)
  obtain ⟨σ₁, R₁, xs, S, Pin, hsrc, h₁⟩ := hq1
  refine wpAny_mono (hsrc.iter (fun itv σ₂ => ∃ it, itv = .ref it ∧ σ₁ it = none ∧ B.get? it = none ∧ σ₂ = upd σ₁ it (S 0)) E (fun it q1 q2 => ⟨it, rfl, q1, q2, rfl⟩) xv rfl s₁ R₁) (fun itv s₂ hq1 => ?_) fun _ _ x => x
  obtain ⟨σ₂, R₂, it, hit, q1, q2, hσ⟩ := hq1
  subst hit hσ
  refine wpAny_newObj_type ?_
  have R₃ := R₂.newList (vs := []) (xs := []) rfl s₂.toks
  have f₃ := R₂.fresh.1
  generalize hD : s₂.heap.objs.size = D at R₃ f₃
  have R₃' : Rel w B os l (upd (upd σ₁ it (S 0)) D (.list [])) { s₂ with heap := s₂.heap.push { cls := .type "list", dict := none, data := .seq ([] : List Value).toArray } } := R₃
  generalize hs₃ : ({ s₂ with heap := s₂.heap.push { cls := .type "list", dict := none, data := .seq ([] : List Value).toArray } } : Shared) = s₃ at R₃'
  show wpAny _ _ _ _ _ s₃
  refine wpAny_newFunctionEnv hcell (by intro y hy; simp at hy) (fun h₁' hns hsb => ?_) hkind
  have f₄ := R₃'.fresh
  have hC0 := get_none s₃
  generalize hC : s₃.heap.objs.size = C at hns hsb f₄ hC0
  have keep : ∀ b o, s₃.heap.get? b = some o → h₁'.get? b = some o := fun b o e => hsb.extBut b o (fun z => by subst z; rw [hC0] at e; cases e) (Heap.get?_push_of_some _ e)
  have hCf : C ∉ l.filterMap (·.frame) := fun hm => by
    obtain ⟨_, o, ho, _⟩ := R₃'.frames.mem hm
    rw [hC0] at ho; cases ho
  have R₄ : Rel w B os l (upd (upd (upd σ₁ it (S 0)) D (.list [])) C (.ns (fr []))) { s₃ with heap := h₁', toks := s₃.toks + ([] : List (Str × Value)).length } := R₃'.new (o := .ns (fr [])) keep hC0 ⟨_, hns, fun x => rfl⟩ _
  have d1 : it ≠ D := fun z => by subst z; rw [upd_self] at f₃; cases f₃
  have d2 : D ≠ C := fun z => by subst z; rw [upd_self] at f₄; cases f₄.1
  have d3 : it ≠ C := fun z => by subst z; rw [upd_ne _ _ d1, upd_self] at f₄; cases f₄.1
  have d4 : σ₁ D = none := by rw [upd_ne _ _ (Ne.symm d1)] at f₃; exact f₃
  have d5 : σ₁ C = none := by have := f₄.1; rw [upd_ne _ _ (Ne.symm d2), upd_ne _ _ (Ne.symm d3)] at this; exact this
  obtain ⟨J, h0, hstep, hfin⟩ := h₁ it D C q1 q2 d4 d5 d1 d3 d2
  have loop : ∀ s₅ : Shared, Rel w B os l (upd (upd (upd σ₁ it (S 0)) D (.list [])) C (.ns (fr []))) s₅ → codeAny (model pw w) A (.compLoop (.ListComp elt [⟨target, iter, ifs, 0⟩] scope pos) 0 (.ref it) (.ref D) (compEnvC scope cl C env))
      (compPost (model pw w) A (fun v s' => ∃ e cls σ', v = .ref e ∧ XR w B os l e cls σ' s' ∧ E cls σ') use QQ (.ref D) C) s₅ := by
    intro s₅ R₅
    refine codeAny_compLoop_tests (fun n s => ∃ τ i ys, Rel w B os l τ s ∧ J i ys τ ∧ i ≤ xs.length ∧ n = xs.length - i) ?_ (xs.length - 0) ⟨_, 0, [], R₅, h0, Nat.zero_le _, rfl⟩ (ht _)
    rintro n s ⟨τ, i, ys, R, hJ, hi, rfl⟩
    rcases Nat.lt_or_ge i xs.length with hlt | hge
    · have hx : xs[i]? = some xs[i] := List.getElem?_eq_getElem hlt
      obtain ⟨z1, z2, z3⟩ := hstep i _ τ ys hJ hx
      refine wpAny_mono (hsrc.next it i _ τ (fun r σ' => ∃ va, r = some va ∧ er va = xs[i] ∧ σ' = upd τ it (S (i + 1))) (fun _ _ => False) z1 z2 hx (fun va hva => ⟨va, rfl, hva, rfl⟩) s R) (fun r s₁ hq1 => ?_) fun v s' z => no5 z
      obtain ⟨σ₁, R₁, va, hr, hva, hσ⟩ := hq1
      subst hr hσ
      refine wpAny_mono (z3 va hva s₁ R₁) (fun _ s₂ hq1 => ?_) fun v s' z => no5 z
      obtain ⟨σ₂, R₂, h₂⟩ := hq1
      refine wpAny_mono (h₂ s₂ R₂) (fun ok s₃ hq1 => ?_) fun v s' z => no5 z
      obtain ⟨σ₃, R₃, h₃⟩ := hq1
      cases ok with
      | false =>
        rw [if_neg (by decide)]
        exact ⟨xs.length - (i + 1), ix3 hlt, σ₃, i + 1, ys, R₃, h₃.2 rfl, hlt, rfl⟩
      | true =>
        rw [if_pos rfl]
        refine wpAny_mono (h₃.1 rfl s₃ R₃) (fun y s₄ hq1 => ?_) fun v s' z => no5 z
        obtain ⟨σ₄, R₄, e1, e2, h₄⟩ := hq1
        refine wpAny_mono (CL.append (Q := fun _ σ' => J (i + 1) (ys ++ [er y]) σ') (E := fun _ _ => False) e1 e2 h₄ (.builtin "list.append") [.ref D, y] rfl rfl s₄ R₄) (fun _ s₅ hq1 => ?_) fun v s' z => no5 z
        obtain ⟨σ₅, R₅, h₅⟩ := hq1
        exact ⟨xs.length - (i + 1), ix3 hlt, σ₅, i + 1, ys ++ [er y], R₅, h₅, hlt, rfl⟩
    · obtain rfl : i = xs.length := Nat.le_antisymm hi hge
      obtain ⟨z1, z2, z4⟩ := hfin τ ys hJ
      refine wpAny_mono (hsrc.fin it τ (fun r σ' => r = none ∧ σ' = del τ it) (fun _ _ => False) z1 z2 ⟨rfl, rfl⟩ s R) (fun r s₁ hq1 => ?_) fun v s' z => no5 z
      obtain ⟨σ₁, R₁, hr, hσ⟩ := hq1
      subst hr hσ
      exact hFIN it D C τ s₁ _ z4 d1 d3 d2 hCf R₁
  refine codeAny_compStart_list (loop _ R₄) ?_
  refine wpAny_mono (hsrc.self it 0 (upd (upd (upd σ₁ it (S 0)) D (.list [])) C (.ns (fr []))) (fun itv σ' => itv = .ref it ∧ σ' = (upd (upd (upd σ₁ it (S 0)) D (.list [])) C (.ns (fr [])))) (fun _ _ => False) (by rw [upd_ne _ _ d3, upd_ne _ _ d1, upd_self]) ⟨rfl, rfl⟩ _ R₄) (fun itv s₅ hq1 => ?_) fun v s' z => no5 z
  obtain ⟨σ₅, R₅, h5, h6⟩ := hq1
  subst h5 h6
  exact loop s₅ R₅
theorem evComp {elt target iter : Expr} {ifs : List Expr} {scope : Scope} {cl : List (Str × Addr)} {pos : Pos} {Q : V → MS → Prop}
    (hclos : closureFor scope env = pure cl) (hkind : scope.kind = .function) (hnames : ∀ y ∈ scope.names, y.2 = .local → scope.names.lookup y.1 = some .local) (hcell : ∀ y ∈ scope.names, y.2 ≠ .cell)
    (h : EV w B os l A env iter (kComp w B os l A env elt target ifs scope cl (kFin Q)) E σ)
    (hs : ∀ x, foldedSetIterable iter env x = pure x := by intro _; rfl) (ht : ∀ it v, letOwnedTupleGo target it v = pure () := by intro _ _; rfl) :
    EV w B os l A env (.ListComp elt [⟨target, iter, ifs, 0⟩] scope pos) Q E σ := fun s R => by
  rw [eval_ListComp]
  refine compCore hclos hkind hnames hcell h (fun it D C τ s₁ v hz d1 d3 d2 hCf R₁ => ?_) hs ht R
  obtain ⟨⟨m, z3⟩, z4⟩ := hz
  have z3' : del τ it C = some (.ns m) := by rw [del_ne (Ne.symm d3)]; exact z3
  obtain ⟨hB, m', hm', _⟩ := R₁.known _ _ z3'
  exact ⟨m', hm', fun h' hs => ⟨_, (R₁.less (del_le _ C)).other del_self hB hCf (fun b o hb e => hs.extBut b o hb e) s₁.toks, z4⟩⟩
end
end Mine
end
section
open PySem PySem.W PySem.Calls PyProof.Rows
namespace Mine
noncomputable def CE (v : Option V) : O := .pr fun o => ∃ ov, o.data = .cell ov ∧ ov.map er = v
noncomputable def laid (σ : MS) : List (Str × Addr) → (Str → Option V) → MS
  | [], _ => σ
  | (n, c) :: r, cm => upd (laid σ r cm) c (CE (cm n))
section
variable {w : World} {B : Heap} {os : OsState} {l : List Env} {A : Around} {σ : MS} {E : Value → MS → Prop} {env : Env} {s : Shared}
theorem Rel.learn (R : Rel w B os l σ s) {a : Addr} {o : O} (hB : B.get? a = none) (i : IsO w s.heap a o) (hf : a ∈ l.filterMap (·.frame) → ∃ m, o = .ns m) : Rel w B os l (upd σ a o) s :=
  ⟨R.gens, R.os, R.old, fun b ob e => by
    by_cases q : b = a
    · subst q; rw [upd_self] at e; cases e; exact ⟨hB, i⟩
    · rw [upd_ne _ _ q] at e; exact R.known b ob e, R.frames, fun b ob e hm => by
    by_cases q : b = a
    · subst q; rw [upd_self] at e; cases e; exact hf hm
    · rw [upd_ne _ _ q] at e; exact R.nsf b ob e hm⟩
theorem cell_is {c : Addr} {v : V} (R : Rel w B os l σ s) (hσ : σ c = some (CE (some v))) : ∃ va, er va = v ∧ s.heap.IsCell c (some va) := by
  obtain ⟨_, o, ho, ov, hd, e⟩ := R.known _ _ hσ
  obtain ⟨va, rfl, hv⟩ := Option.map_eq_some_iff.mp e
  exact ⟨va, hv, o, ho, hd⟩
theorem EV.cell {x : Str} {pos : Pos} {c : Addr} {v : V} {Q : V → MS → Prop} (hc : env.cells.lookup x = some c) (hσ : σ c = some (CE (some v))) (h : Q v σ)
    (hk : env.scope.kind = .function := by rfl) (hl : env.kindOf x = some .cell := by rfl) (hd : (x == ("__debug__" : Str)) = false := by kernel_rfl!) : EV w B os l A env (.Name x pos) Q E σ := fun s R => by
  obtain ⟨va, rfl, hv⟩ := cell_is R hσ
  exact wpAny_Name (wpAny_loadName_cell hk hl hc hv ⟨σ, R, h⟩) hd
theorem EV.free {x : Str} {pos : Pos} {c : Addr} {v : V} {Q : V → MS → Prop} (hc : env.cells.lookup x = some c) (hσ : σ c = some (CE (some v))) (h : Q v σ)
    (hk : env.scope.kind = .function := by rfl) (hl : env.kindOf x = some .free := by rfl) (hd : (x == ("__debug__" : Str)) = false := by kernel_rfl!) (hn : (x == ("__classdict__" : Str)) = false := by kernel_rfl!) : EV w B os l A env (.Name x pos) Q E σ := fun s R => by
  obtain ⟨va, rfl, hv⟩ := cell_is R hσ
  exact wpAny_Name (wpAny_loadName_free hk hl hc hv ⟨σ, R, h⟩ hn) hd
theorem storeC {x : Str} {v : Value} {c : Addr} {ov : Option V} {Q : Unit → MS → Prop} (hc : env.cells.lookup x = some c) (hσ : σ c = some (CE ov)) (h : Q () (upd σ c (CE (some (er v)))))
    (hk : env.scope.kind = .function := by rfl) (hl : env.kindOf x = some .cell := by rfl) : W w B os l A (storeName env x v) Q E σ := fun s R => by
  obtain ⟨_, o, ho, ov', hd, e⟩ := R.known _ _ hσ
  exact wpAny_storeName_cell hk hl hc ⟨o, ho, hd⟩ fun h' ⟨o', ho', hd'⟩ hs => ⟨_, R.turn (o' := CE (some (er v))) hσ hs ⟨o', ho', _, hd', rfl⟩ _ (fun m e => by cases e), h⟩
end
section
variable (w : World) (B : Heap) (os : OsState) (l : List Env) (A : Around) (env : Env) (E : Value → MS → Prop)
noncomputable abbrev kAsgC (c : Addr) (rest : List Stmt) (Q : Fl → MS → Prop) : V → MS → Prop := fun v σ₁ => ∃ ov, σ₁ c = some (CE ov) ∧ SS w B os l A env rest Q E (upd σ₁ c (CE (some v)))
end
section
variable {w : World} {B : Heap} {os : OsState} {l : List Env} {A : Around} {σ : MS} {E : Value → MS → Prop} {env : Env} {s : Shared}
theorem SS.assignC {x : Str} {p pos : Pos} {e : Expr} {rest : List Stmt} {c : Addr} {Q : Fl → MS → Prop} (hc : env.cells.lookup x = some c)
    (h : EV w B os l A env e (kAsgC w B os l A env E c rest Q) E σ)
    (hs : swapsWith e (some (.Name x p)) pos.line env = pure false := by rfl) (hk : env.scope.kind = .function := by rfl) (hl : env.kindOf x = some .cell := by rfl) : SS w B os l A env (.Assign [.Name x p] e pos :: rest) Q E σ :=
  SS.consNx fun s R => wpAny_Assign_Name (wpAny_mono (h s R) (fun v s₁ ⟨σ₁, R₁, ov, hσ, h₁⟩ => wpAny_mono (storeC (Q := fun _ σ' => nx w B os l A env rest Q E .next σ') hc hσ h₁ hk hl s₁ R₁) (fun _ _ x => x) fun _ _ x => x) fun _ _ x => x) hs
theorem AS.cell {x : Str} {p : Pos} {v : V} {c : Addr} {ov : Option V} {Q : MS → Prop} (hc : env.cells.lookup x = some c) (hσ : σ c = some (CE ov)) (h : Q (upd σ c (CE (some v))))
    (hk : env.scope.kind = .function := by rfl) (hl : env.kindOf x = some .cell := by rfl) : AS w B os l A env (.Name x p) v Q E σ := fun va hv s R => by
  subst hv
  exact wpAny_assign_Name (storeC (Q := fun _ σ' => Q σ') hc hσ h hk hl s R)
theorem rel_laid {cm : Str → Option V} {cm' : Str → Option Value} : ∀ {cs : List (Str × Addr)}, Rel w B os l σ s → (∀ n c, (n, c) ∈ cs → s.heap.IsCell c (cm' n) ∧ (cm' n).map er = cm n ∧ B.get? c = none ∧ c ∉ l.filterMap (·.frame)) → Rel w B os l (laid σ cs cm) s
  | [], R, _ => R
  | (n, c) :: r, R, h => by
    obtain ⟨⟨o, ho, hd⟩, h2, h3, h4⟩ := h n c (.head _)
    exact (rel_laid R fun n c hm => h n c (.tail _ hm)).learn h3 ⟨o, ho, _, hd, h2⟩ fun hm => absurd hm h4
theorem CL.defC {f : Addr} {fd : FuncData} {body : List Stmt} {xs : List V} {n : Nat} {m cm : Str → Option V} {Q : V → MS → Prop} (hA : Ar A l (n + 1)) (G : BF w B) (hf : IsFn B f fd body) (hclo : fd.closure = [])
    (hb : ∀ vs, vs.map er = xs → ∃ rb, bindArgs fd ⟨vs, []⟩ = pure rb ∧ (∀ L, ∀ x ∈ rb, fd.scope.names.lookup x.1 = some .local ∨ (fd.scope.names.lookup x.1 = some .cell ∧ ((cellsFrom (L + 1) fd.scope.names []).lookup x.1).isSome = true)) ∧
      (∀ L x, (bindL (callEnvC fd L f).kindOf rb (fun _ => Option.none) x).map er = m x) ∧ (∀ L x, (bindC (callEnvC fd L f).kindOf rb (fun _ => Option.none) x).map er = cm x))
    (hlk : ∀ L n c, (n, c) ∈ cellsFrom (L + 1) fd.scope.names [] → (cellsFrom (L + 1) fd.scope.names []).lookup n = some c)
    (h : ∀ L A', σ L = Option.none → (∀ c, L ≤ c → σ c = Option.none) → Ar A' (callEnvC fd L f :: l) n → SS w B os (callEnvC fd L f :: l) A' (callEnvC fd L f) body (kBody Q) (kDn E)
      (laid (upd σ L (.ns m)) (cellsFrom (L + 1) fd.scope.names []) cm)) :
    CL w B os l A (.ref f) xs Q E σ := CL.forget fun vf vs hvf hvs s R => by
  rw [er_ref hvf]
  obtain ⟨o, ho, hd⟩ := hf.there
  obtain ⟨rb, hbind, hkind, hm, hcm⟩ := hb vs hvs
  refine wpAny_call (codeAny_call_cells (Nat.lt_of_le_of_lt (Nat.le_add_right _ _) hA.depth) (R.old _ _ ho) hd (G.lim.keeps R.old) (hf.code.keeps R.old) hf.body hbind hclo (hkind _) (fun s₁ x => ?_) hf.co hf.gen hf.kind)
  have hA' : Ar (A.deeper (callEnvC fd s.heap.objs.size f)) (callEnvC fd s.heap.objs.size f :: l) n := hA.deep
  have none_of : ∀ c, s.heap.objs.size ≤ c → s.heap.get? c = Option.none := fun c hc => by
    cases q : s.heap.get? c with
    | none => rfl
    | some o => exact absurd (Heap.lt_size q) (Nat.not_lt.mpr hc)
  have hσn : ∀ c, s.heap.objs.size ≤ c → σ c = Option.none := fun c hc => by
    cases q : σ c with
    | none => rfl
    | some o => obtain ⟨ob, ho⟩ := (R.known _ _ q).2.there; rw [none_of c hc] at ho; cases ho
  have hBn : ∀ c, s.heap.objs.size ≤ c → B.get? c = Option.none := fun c hc => by
    cases q : B.get? c with
    | none => rfl
    | some o => have := R.old _ _ q; rw [none_of c hc] at this; cases this
  have hfn : ∀ c, s.heap.objs.size ≤ c → c ∉ l.filterMap (·.frame) := fun c hc hm => by
    obtain ⟨_, o, ho, _⟩ := R.frames.mem hm
    rw [none_of c hc] at ho; cases ho
  obtain ⟨h', tk, hs₁, hkeep⟩ := x.done
  have hns := x.toInCall.ns
  have hcell := x.cell
  have habove := x.above
  subst hs₁
  have hLns : h'.Ns s.heap.objs.size (bindL (callEnvC fd s.heap.objs.size f).kindOf rb fun _ => Option.none) := hns
  have R₁ := R.new (a := s.heap.objs.size) (o := .ns m) hkeep (none_of _ (Nat.le_refl _)) ⟨_, hLns, hm _⟩ tk
  have R₂ : Rel w B os (callEnvC fd s.heap.objs.size f :: l) (upd σ s.heap.objs.size (.ns m)) { s with heap := h', toks := tk } := by
    obtain ⟨oL, es, ep, hL, hLd, _⟩ := hLns
    refine ⟨R₁.gens, R₁.os, R₁.old, R₁.known, ⟨by rw [show (callEnvC fd s.heap.objs.size f).scope = fd.scope from rfl, hf.kind]; decide, ⟨_, oL, rfl, hBn _ (Nat.le_refl _), hL, fun vs e => by rw [hLd] at e; cases e⟩, R₁.frames⟩, fun a o e hm => ?_⟩
    rcases List.mem_cons.mp hm with rfl | hm
    · rw [upd_self] at e; cases e; exact ⟨_, rfl⟩
    · exact R₁.nsf a o e hm
  have R₃ : Rel w B os (callEnvC fd s.heap.objs.size f :: l) (laid (upd σ s.heap.objs.size (.ns m)) (cellsFrom (s.heap.objs.size + 1) fd.scope.names []) cm) { s with heap := h', toks := tk } :=
    rel_laid R₂ fun n c hnc => by
      have hlt : s.heap.objs.size < c := habove n c hnc
      refine ⟨hcell n c (hlk _ n c hnc), hcm _ n, hBn c (Nat.le_of_lt hlt), fun hm => ?_⟩
      rcases List.mem_cons.mp hm with rfl | hm
      · exact Nat.lt_irrefl _ hlt
      · exact hfn c (Nat.le_of_lt hlt) hm
  refine wpAny_mono (h _ _ (hσn _ (Nat.le_refl _)) hσn hA' _ R₃) (fun fl s' ⟨σ', R', q⟩ => ⟨σ', R'.pop, ?_⟩) fun v s' ⟨e, c, σ', hv, X, q⟩ => ?_
  · cases fl <;> exact q
  · subst hv
    exact XR.leave (A := A.deeper (callEnvC fd s.heap.objs.size f)) hA'.frames rfl X fun s'' X' => ⟨e, c, σ', rfl, X', q⟩
end
end Mine
end
section
open PySem PySem.W PySem.Calls PyProof.Rows PySem.Builtin
namespace Mine
theorem eqBytes (x y : Array UInt8) (t u : Tok) : MeetsSeq.EqGives (.bytes x t) (.bytes y u) (x.toList == y.toList) := by
  intro prog w A E s Q h
  unfold eqBool
  refine wpAny_holding ?_
  refine wpAny_ite_split (fun hab => ?_) (fun hab => ?_)
  · have e : x = y := by have := eq_of_beq hab; injection this
    subst e
    exact wpAny_bind (wpAny_rule (wpAny_pure (by simpa using h)))
  · exact wpAny_bind (richCompare_gives (typeIs_bytes s x t) (typeIs_bytes s y u) FB.slot_bytes_eq FB.entry_bytes_eq (FB.args_bytes_eq_2 _ _) (gives_bytes_eq x y t u) (by simp [Made.takes]) (wpAny_truthy_bool h))
noncomputable abbrev kTup (B : Heap) (Q : V → MS → Prop) : List V → MS → Prop := fun xs σ₁ => xs.length ≤ 1000000 ∧ ∀ t, σ₁ t = none → B.get? t = none → Q (.ref t) (upd σ₁ t (.tup xs))
noncomputable abbrev kLst (B : Heap) (Q : V → MS → Prop) : List V → MS → Prop := fun xs σ₁ => xs.length ≤ 1000000 ∧ ∀ t, σ₁ t = none → B.get? t = none → Q (.ref t) (upd σ₁ t (.list xs))
section
variable (w : World) (B : Heap) (os : OsState) (l : List Env) (A : Around) (env : Env) (E : Value → MS → Prop)
noncomputable abbrev kEA2 (y : Expr) (rest : List Expr) (pos : Pos) (Q : V → MS → Prop) (a : V) : Bool → MS → Prop := fun c σ => (c = true → EV w B os l A env (.BoolOp .And (y :: rest) pos) Q E σ) ∧ (c = false → Q a σ)
noncomputable abbrev kEA (y : Expr) (rest : List Expr) (pos : Pos) (Q : V → MS → Prop) : V → MS → Prop := fun a σ => TU w B os l A a (kEA2 w B os l A env E y rest pos Q a) E σ
noncomputable abbrev kEO2 (y : Expr) (rest : List Expr) (pos : Pos) (Q : V → MS → Prop) (a : V) : Bool → MS → Prop := fun c σ => (c = true → Q a σ) ∧ (c = false → EV w B os l A env (.BoolOp .Or (y :: rest) pos) Q E σ)
noncomputable abbrev kEO (y : Expr) (rest : List Expr) (pos : Pos) (Q : V → MS → Prop) : V → MS → Prop := fun a σ => TU w B os l A a (kEO2 w B os l A env E y rest pos Q a) E σ
end
section
variable {w : World} {B : Heap} {os : OsState} {l : List Env} {A : Around} {σ : MS} {E : Value → MS → Prop} {env : Env} {s : Shared}
theorem evTup {es : List Expr} {k : Nat} {pos : Pos} {Q : V → MS → Prop} (h : SQ w B os l A env es (kTup B Q) E σ)
    (hs : backTo pos (starEach es env) = es.map (fun e => (false, eval e env)) := by rfl) : EV w B os l A env (.Tuple es k pos) Q E σ := fun s R => by
  refine wpAny_Tuple ?_
  rw [hs]
  refine wpAny_mono (h.spliced s R) (fun vs s₁ ⟨σ₁, R₁, hz, h₁⟩ => ⟨?_, _, R₁.newTup rfl _, h₁ _ R₁.fresh.1 R₁.fresh.2⟩) fun _ _ x => x
  rw [List.length_map] at hz
  rw [sizeLine_eq]; omega
theorem evList {es : List Expr} {pos : Pos} {Q : V → MS → Prop} (h : SQ w B os l A env es (kLst B Q) E σ)
    (hs : backTo pos (starEach es env) = es.map (fun e => (false, eval e env)) := by rfl) : EV w B os l A env (.List es pos) Q E σ := fun s R => by
  refine wpAny_List ?_
  rw [hs]
  refine wpAny_mono (h.spliced s R) (fun vs s₁ ⟨σ₁, R₁, hz, h₁⟩ => ⟨?_, _, R₁.newList rfl _, h₁ _ R₁.fresh.1 R₁.fresh.2⟩) fun _ _ x => x
  rw [List.length_map] at hz
  rw [sizeLine_eq]; omega
theorem evAnd {x y : Expr} {rest : List Expr} {pos : Pos} {Q : V → MS → Prop} (h : EV w B os l A env x (kEA w B os l A env E y rest pos Q) E σ) : EV w B os l A env (.BoolOp .And (x :: y :: rest) pos) Q E σ :=
  fun s R => BoolOp_and (wpAny_mono (h s R) (fun v s₁ ⟨σ₁, R₁, h₁⟩ => wpAny_mono (h₁ v rfl s₁ R₁) (fun c s₂ ⟨σ₂, R₂, h₂⟩ => by
    cases c with
    | true => rw [if_pos rfl]; exact h₂.1 rfl s₂ R₂
    | false => rw [if_neg (by decide)]; exact ⟨σ₂, R₂, h₂.2 rfl⟩) fun _ _ x => x) fun _ _ x => x)
theorem evOr {x y : Expr} {rest : List Expr} {pos : Pos} {Q : V → MS → Prop} (h : EV w B os l A env x (kEO w B os l A env E y rest pos Q) E σ) : EV w B os l A env (.BoolOp .Or (x :: y :: rest) pos) Q E σ :=
  fun s R => BoolOp_or (wpAny_mono (h s R) (fun v s₁ ⟨σ₁, R₁, h₁⟩ => wpAny_mono (h₁ v rfl s₁ R₁) (fun c s₂ ⟨σ₂, R₂, h₂⟩ => by
    cases c with
    | true => rw [if_pos rfl]; exact ⟨σ₂, R₂, h₂.1 rfl⟩
    | false => rw [if_neg (by decide)]; exact h₂.2 rfl s₂ R₂) fun _ _ x => x) fun _ _ x => x)
theorem evBool1 {x : Expr} {op : BoolOp} {pos : Pos} {Q : V → MS → Prop} (h : EV w B os l A env x Q E σ) : EV w B os l A env (.BoolOp op [x] pos) Q E σ := fun s R => BoolOp_one (h s R)
theorem ints_are {vs : List Value} : ∀ {ns : List Int}, vs.map er = ns.map V.int → IntsAre vs ns := by
  induction vs with
  | nil => intro ns h; cases ns with
    | nil => exact .nil
    | cons _ _ => cases h
  | cons v vs ih => intro ns h; cases ns with
    | nil => cases h
    | cons n ns =>
      rw [List.map_cons, List.map_cons] at h
      injection h with h1 h2
      obtain ⟨t, rfl⟩ := er_int h1
      exact .cons n t (ih h2)
theorem CM.inTupI {t : Addr} {i : Int} {ns : List Int} {Q : V → MS → Prop} (ht : σ t = some (.tup (ns.map V.int))) (h : Q (.bool (ns.any (· == i))) σ) : CM w B os l A .In (.int i) (.ref t) Q E σ := fun va vb ha hb s R => by
  obtain ⟨u, rfl⟩ := er_int ha
  rw [er_ref hb]
  obtain ⟨_, vs, n, ho, e⟩ := R.known _ _ ht
  exact in_tuple_ints ⟨_, ho, rfl, n, rfl⟩ (ints_are e) ⟨σ, R, h⟩
theorem CM.notInTupI {t : Addr} {i : Int} {ns : List Int} {Q : V → MS → Prop} (ht : σ t = some (.tup (ns.map V.int))) (h : Q (.bool (!ns.any (· == i))) σ) : CM w B os l A .NotIn (.int i) (.ref t) Q E σ := fun va vb ha hb s R => by
  obtain ⟨u, rfl⟩ := er_int ha
  rw [er_ref hb]
  obtain ⟨_, vs, n, ho, e⟩ := R.known _ _ ht
  exact notin_tuple_ints ⟨_, ho, rfl, n, rfl⟩ (ints_are e) ⟨σ, R, h⟩
noncomputable def isB (x : List UInt8) : Value → Bool
  | .bytes b _ => b.toList == x
  | _ => false
theorem any_isB {x : List UInt8} : ∀ {vs : List Value} {ys : List (List UInt8)}, vs.map er = ys.map V.byt → vs.any (isB x) = ys.any (· == x) ∧ ∀ v ∈ vs, ∃ b t, v = .bytes b t
  | [], [], _ => ⟨rfl, fun v h => by cases h⟩
  | v :: vs, y :: ys, h => by
    rw [List.map_cons, List.map_cons] at h
    injection h with h1 h2
    obtain ⟨t, rfl⟩ := er_byt h1
    have ih := any_isB (x := x) h2
    refine ⟨by rw [List.any_cons, List.any_cons, ih.1]; rfl, fun v hv => ?_⟩
    rcases List.mem_cons.mp hv with rfl | hv
    · exact ⟨_, _, rfl⟩
    · exact ih.2 v hv
theorem CM.inTupB {t : Addr} {x : List UInt8} {ys : List (List UInt8)} {Q : V → MS → Prop} (ht : σ t = some (.tup (ys.map V.byt))) (h : Q (.bool (ys.any (· == x))) σ) : CM w B os l A .In (.byt x) (.ref t) Q E σ := fun va vb ha hb s R => by
  obtain ⟨u, rfl⟩ := er_byt ha
  rw [er_ref hb]
  obtain ⟨_, vs, n, ho, e⟩ := R.known _ _ ht
  have hi := any_isB (x := x) e
  refine SeqRoads2.in_tuple (isB x) (fun y hy => ?_) ho ⟨σ, R, ?_⟩
  · obtain ⟨b, t', rfl⟩ := hi.2 y (Array.mem_def.mp hy)
    exact eqBytes b x.toArray t' u
  · rw [← Array.any_toList, hi.1]; exact h
theorem CM.isNone {v : V} {Q : V → MS → Prop} (h : Q (.bool (decide (v = .none))) σ) : CM w B os l A .Is v .none Q E σ := fun va vb ha hb s R => by
  rw [er_none hb]
  refine is_none ⟨σ, R, ?_⟩
  have : (va == Value.none) = decide (v = .none) := by
    subst ha
    cases va <;> simp [er]
  rw [this]; exact h
theorem CM.isNotNone {v : V} {Q : V → MS → Prop} (h : Q (.bool (!decide (v = .none))) σ) : CM w B os l A .IsNot v .none Q E σ := fun va vb ha hb s R => by
  rw [er_none hb]
  refine isNot_none ⟨σ, R, ?_⟩
  have : (va == Value.none) = decide (v = .none) := by
    subst ha
    cases va <;> simp [er]
  show Q (.bool (!(va == Value.none))) σ
  rw [this]; exact h
end
end Mine
end
section
open PySem PySem.W PySem.Calls PyProof.Rows PySem.Builtin
set_option maxHeartbeats 1000000
namespace Mine
theorem enum_new_bytes (b : Array UInt8) (t : Tok) :
    Meets (Builtin.«enumerate.__new__» ⟨[.type "enumerate", .bytes b t], []⟩) (fun _ R s =>
      R (.ok (.ret (.ref (s.heap.push { cls := .type "bytes_iterator", data := .fields #[.bytes b t, .int 0 0] }).objs.size)))
        { s with heap := (s.heap.push { cls := .type "bytes_iterator", data := .fields #[.bytes b t, .int 0 0] }).push { cls := .type "enumerate", data := .fields #[.none, .bool false, .ref s.heap.objs.size, rawInt 0, .none, .none] } }) :=
  .of_wp fun prog w A R s h => by
    obtain ⟨hp, g, d, tk, os⟩ := s
    have hsub := sub_enumerate
    wp_walk
    refine wpAny_stack_any fun st => wpAny_pure ?_
    split
    · rename_i c _ _ _ _ _
      cases (c == Value.type "enumerate")
      · wp_walk using KBw.pyIter_bytes
        exact ⟨_, rfl, h⟩
      · wp_walk using KBw.pyIter_bytes
        exact ⟨_, rfl, h⟩
    · wp_walk using KBw.pyIter_bytes
      exact ⟨_, rfl, h⟩
section
variable {prog : Program} {w : World} {A : Around} {E : Value → Shared → Prop} {s : Shared} {b : Array UInt8} {t : Tok}
theorem call_enum_bytes {Q : Value → Shared → Prop}
    (h : ∀ h', IsEnum h' (s.heap.objs.size + 1) s.heap.objs.size 0 .none → KBw.IsBytesIter h' s.heap.objs.size b t 0 →
      (∀ b o, s.heap.get? b = some o → h'.get? b = some o) → Q (.ref (s.heap.objs.size + 1)) { s with heap := h' }) :
    wpAny (model prog w) A (call (.type "enumerate") [.bytes b t]) Q E s := by
  refine callType_new F.called_enumerate (by decide) (F.typeCall_enumerate_1 _) (F.newCall_enumerate_1 _) (fun obj => F.args_object_init_2 obj _) F.entry_enumerate_new (enum_new_bytes b t) ?_
  have hz : (s.heap.push { cls := .type "bytes_iterator", data := .fields #[.bytes b t, .int 0 0] }).objs.size = s.heap.objs.size + 1 := Heap.size_push ..
  show _ ∧ _
  rw [hz]
  have he : IsEnum ((s.heap.push { cls := .type "bytes_iterator", data := .fields #[.bytes b t, .int 0 0] }).push
      { cls := .type "enumerate", data := .fields #[.none, .bool false, .ref s.heap.objs.size, rawInt 0, .none, .none] }) (s.heap.objs.size + 1) s.heap.objs.size 0 .none := by
    have := Heap.get?_push_size (s.heap.push { cls := .type "bytes_iterator", data := .fields #[.bytes b t, .int 0 0] })
      (o := { cls := .type "enumerate", data := .fields #[.none, .bool false, .ref s.heap.objs.size, rawInt 0, .none, .none] }) rfl
    rw [hz] at this; exact this
  exact ⟨⟨_, he, rfl⟩, h _ he ⟨_, Heap.get?_push_of_some _ (Heap.get?_push_size _ rfl), rfl, rfl⟩ fun b o y => Heap.get?_push_of_some _ (Heap.get?_push_of_some _ y)⟩
theorem nextOf_bytes {it : Addr} {i : Nat} {c : UInt8} {Q : Value → Shared → Prop} (hit : KBw.IsBytesIter s.heap it b t i) (hx : b[i]? = some c)
    (hQ : ∀ h', KBw.IsBytesIter h' it b t (i + 1) → Heap.SameBut it s.heap h' → Q (.int (c.toNat : Int) s.toks) { s with heap := h', toks := s.toks + 1 }) : wpAny (model prog w) A (Builtin.SmallTypes.nextOf (.ref it)) Q E s := by
  obtain ⟨o, ho, hc, hd⟩ := id hit
  unfold Builtin.SmallTypes.nextOf
  refine wpAny_bind (wpAny_callSpecial?_slot (name := PySem.Str.ofString "__next__") (KBw.iter_typeIs hit) KBw.slot_next
    (wpAny_call_entry KBw.slot_next (KBw.iter_typeIs hit) KBw.entry_next ?_ (KBw.args_next _)))
  show wpAny _ _ (field (.ref it) 0 >>= _) _ _ s
  refine wpAny_bind (wpAny_field ho hd (x := .bytes b t) rfl ?_)
  show wpAny _ _ (if (Value.bytes b t == Value.none) = true then _ else _) _ _ s
  rw [if_neg (show ¬ ((Value.bytes b t == Value.none) = true) from Bool.false_ne_true)]
  show wpAny _ _ (field (.ref it) 1 >>= _) _ _ s
  refine wpAny_bind (wpAny_field ho hd (x := .int i 0) rfl ?_)
  refine wpAny_bind (wpAny_of_eq (a := b) rfl ?_)
  simp only [Int.toNat_natCast, hx]
  refine wpAny_bind (wpAny_setField ho hd (by simp) (wpAny_bind (wpAny_mkInt (wpAny_pure ⟨_, rfl, wpAny_pure (hQ _ ?_ (Heap.SameBut.update ..))⟩))))
  exact ⟨_, Heap.get?_update_self _ ho (Obj.isFreed_of_fields (Obj.data_mapFields hd _)), (Obj.cls_mapFields ..).trans hc, by
    rw [Obj.data_mapFields hd]; simp [rawInt]⟩
theorem nextOf_bytes_end {it : Addr} {i : Nat} {Q : Value → Shared → Prop} (hh : A.handled = none) (hit : KBw.IsBytesIter s.heap it b t i) (hx : b[i]? = none)
    (hE : ∀ h' e, Heap.ExtBut it s.heap h' → (∃ o, h'.get? e = some o ∧ o.cls = .type "StopIteration") → E (.ref e) { s with heap := h' }) : wpAny (model prog w) A (Builtin.SmallTypes.nextOf (.ref it)) Q E s := by
  obtain ⟨o, ho, hc, hd⟩ := id hit
  unfold Builtin.SmallTypes.nextOf
  refine wpAny_bind (wpAny_callSpecial?_slot (name := PySem.Str.ofString "__next__") (KBw.iter_typeIs hit) KBw.slot_next
    (wpAny_call_entry KBw.slot_next (KBw.iter_typeIs hit) KBw.entry_next ?_ (KBw.args_next _)))
  show wpAny _ _ (field (.ref it) 0 >>= _) _ _ s
  refine wpAny_bind (wpAny_field ho hd (x := .bytes b t) rfl ?_)
  show wpAny _ _ (if (Value.bytes b t == Value.none) = true then _ else _) _ _ s
  rw [if_neg (show ¬ ((Value.bytes b t == Value.none) = true) from Bool.false_ne_true)]
  show wpAny _ _ (field (.ref it) 1 >>= _) _ _ s
  refine wpAny_bind (wpAny_field ho hd (x := .int i 0) rfl ?_)
  refine wpAny_bind (wpAny_of_eq (a := b) rfl ?_)
  simp only [Int.toNat_natCast, hx]
  refine wpAny_bind (wpAny_rule (wpAny_bind (wpAny_setField ho hd (by simp) ?_)))
  show wpAny _ _ (newExc (.type "StopIteration") [] >>= _) _ _ _
  refine wpAny_bind ?_
  simp only [newExc, newTuple]
  refine wpAny_bind (wpAny_newObj_type ?_ (by size_fits))
  refine wpAny_bind (m := firstArgMember _ _) (wpAny_of_eq (a := Value.none) (by first | rfl | (simp only [firstArgMember]; rfl)) ?_)
  refine wpAny_newObj_type ?_ (by size_fits)
  simp only [raiseNew]
  refine wpAny_bind (wpAny_handled ?_)
  first | rw [show A.in1.handled = none from hh] | rw [hh]
  refine wpAny_bind (wpAny_pure (wpAny_throw ?_))
  exact hE _ _ (((Heap.SameBut.update ..).extBut.push _).push _) ⟨_, Heap.get?_push_size _ rfl, rfl⟩
theorem enum_next_bytes {e it : Addr} {i : Nat} {c : UInt8} {old : Value} {Q : Option Value → Shared → Prop}
    (he : IsEnum s.heap e it i old) (hit : KBw.IsBytesIter s.heap it b t i) (hx : b[i]? = some c) (hne : e ≠ it)
    (hQ : ∀ h' tk t₁ t₂, IsEnumOut h' e it ((i : Int) + 1) (.int c.toNat t₂) s.heap.objs.size → KBw.IsBytesIter h' it b t (i + 1) →
      h'.get? s.heap.objs.size = some { cls := .type "tuple", data := .seq #[.int i t₁, .int c.toNat t₂] } →
      (∀ b o, b ≠ e → b ≠ it → s.heap.get? b = some o → h'.get? b = some o) → Q (some (.ref s.heap.objs.size)) { s with heap := h', toks := tk }) :
    wpAny (model prog w) A (pyNext (.ref e)) Q E s := by
  have hT : s.TypeIs (.ref e) "enumerate" := ⟨_, he, rfl⟩
  unfold pyNext
  refine wpAny_bind (wpAny_attempt (wpAny_callSpecial?_slot (name := PySem.Str.ofString "__next__") hT F.slot_enumerate_next
    (wpAny_call_entry F.slot_enumerate_next hT F.entry_enumerate_next ?_ (F.args_enumerate_next_1 _))))
  obtain ⟨hp, g, d, tk, os⟩ := s
  show wpAny _ _ (field (.ref e) 2 >>= _) _ _ _
  refine wpAny_bind (wpAny_field he rfl (x := .ref it) rfl ?_)
  refine wpAny_bind (nextOf_bytes hit hx fun h₁ hit₁ hs₁ => ?_)
  replace hs₁ : Heap.SameBut it hp h₁ := hs₁
  have he₁ : IsEnum h₁ e it i old := (hs₁.2 e hne).trans he
  show wpAny _ _ (field (.ref e) 3 >>= _) _ _ ⟨h₁, g, d, tk + 1, os⟩
  refine wpAny_bind (wpAny_field he₁ rfl (x := rawInt i) rfl ?_)
  show wpAny _ _ (field (.ref e) 4 >>= _) _ _ ⟨h₁, g, d, tk + 1, os⟩
  refine wpAny_bind (wpAny_field he₁ rfl (x := .none) rfl ?_)
  show wpAny _ _ (mkInt i >>= _) _ _ ⟨h₁, g, d, tk + 1, os⟩
  refine wpAny_bind (wpAny_mkInt ?_)
  show wpAny _ _ (setField (.ref e) 3 (rawInt ((i : Int) + 1)) >>= _) _ _ ⟨h₁, g, d, tk + 1 + 1, os⟩
  refine wpAny_bind (wpAny_setField_rec he₁ (by simp) fun h₂ he₂ hs₂ => ?_)
  replace hs₂ : Heap.SameBut e h₁ h₂ := hs₂
  replace he₂ : IsEnum h₂ e it ((i : Int) + 1) old := he₂
  show wpAny _ _ (setField (.ref e) 4 .none >>= _) _ _ ⟨h₂, g, d, tk + 1 + 1, os⟩
  refine wpAny_bind (wpAny_setField_rec he₂ (by simp) fun h₃ he₃ hs₃ => ?_)
  replace hs₃ : Heap.SameBut e h₂ h₃ := hs₃
  replace he₃ : IsEnum h₃ e it ((i : Int) + 1) old := he₃
  show wpAny _ _ (newTuple [.int i (tk + 1), .int c.toNat tk] >>= _) _ _ ⟨h₃, g, d, tk + 1 + 1, os⟩
  refine wpAny_bind (wpAny_newTuple ?_)
  have he₄ : IsEnum (h₃.push { cls := .type "tuple", data := .seq #[.int i (tk + 1), .int c.toNat tk] }) e it ((i : Int) + 1) old := Heap.get?_push_of_some _ he₃
  generalize hh₄ : h₃.push { cls := .type "tuple", data := .seq #[.int i (tk + 1), .int c.toNat tk] } = h₄ at he₄
  have hsz : h₃.objs.size = hp.objs.size := by rw [hs₃.1, hs₂.1, hs₁.1]
  have hel : e < hp.objs.size := Heap.lt_size he
  have ht₄ : h₄.get? hp.objs.size = some { cls := .type "tuple", data := .seq #[.int i (tk + 1), .int c.toNat tk] } := by rw [← hh₄, ← hsz]; exact Heap.get?_push_size _ rfl
  have hk₄ : ∀ b o, b ≠ e → b ≠ it → hp.get? b = some o → h₄.get? b = some o := fun b o hbe hbi hb => by
    rw [← hh₄]; exact Heap.get?_push_of_some _ (hs₃.extBut b o hbe (hs₂.extBut b o hbe (hs₁.extBut b o hbi hb)))
  have hit₄ : KBw.IsBytesIter h₄ it b t (i + 1) := by
    rw [← hh₄]; obtain ⟨o, ho, r⟩ := hit₁
    exact ⟨o, Heap.get?_push_of_some _ (hs₃.extBut _ _ (Ne.symm hne) (hs₂.extBut _ _ (Ne.symm hne) ho)), r⟩
  show wpAny _ _ (Builtin.SmallTypes.ownedTupleIsFree (.ref e) >>= _) _ _ ⟨h₄, g, d, tk + 1 + 1, os⟩
  rw [hsz]
  refine wpAny_bind ?_
  unfold Builtin.SmallTypes.ownedTupleIsFree
  refine wpAny_bind (wpAny_field he₄ rfl (x := .none) rfl (wpAny_pure ?_))
  simp only [if_true]
  refine wpAny_bind (wpAny_rule ?_)
  refine wpAny_bind (wpAny_field he₄ rfl (x := old) rfl ?_)
  refine wpAny_bind (wpAny_setField_rec he₄ (by simp) fun h₅ he₅ hs₅ => ?_)
  replace hs₅ : Heap.SameBut e h₄ h₅ := hs₅
  replace he₅ : IsEnum h₅ e it ((i : Int) + 1) (.int c.toNat tk) := he₅
  show wpAny _ _ (Builtin.SmallTypes.ownedTupleHandOut (.ref e) (.ref hp.objs.size) >>= _) _ _ ⟨h₅, g, d, tk + 1 + 1, os⟩
  refine wpAny_bind ?_
  unfold Builtin.SmallTypes.ownedTupleHandOut
  refine wpAny_bind (wpAny_setField_rec he₅ (by simp) fun h₆ he₆ hs₆ => ?_)
  replace hs₆ : Heap.SameBut e h₅ h₆ := hs₆
  replace he₆ : IsEnumOut h₆ e it ((i : Int) + 1) (.int c.toNat tk) hp.objs.size := he₆
  refine wpAny_setField_rec he₆ (by simp) fun h₇ he₇ hs₇ => ?_
  replace hs₇ : Heap.SameBut e h₆ h₇ := hs₇
  replace he₇ : IsEnumOut h₇ e it ((i : Int) + 1) (.int c.toNat tk) hp.objs.size := he₇
  have k7 : ∀ b o, b ≠ e → h₄.get? b = some o → h₇.get? b = some o := fun b o hbe hb => hs₇.extBut b o hbe (hs₆.extBut b o hbe (hs₅.extBut b o hbe hb))
  refine wpAny_bind (wpAny_letGo (wpAny_pure ⟨_, rfl, wpAny_pure (hQ h₇ _ _ _ he₇ ?_ (k7 _ _ (Nat.ne_of_gt hel) ht₄) fun b o hbe hbi hb => k7 b o hbe (hk₄ b o hbe hbi hb))⟩))
  obtain ⟨o, ho, r⟩ := hit₄
  exact ⟨o, k7 _ _ (Ne.symm hne) ho, r⟩
theorem enum_end_bytes {e it : Addr} {i : Nat} {old : Value} {Q : Option Value → Shared → Prop} (hh : A.handled = none)
    (he : IsEnum s.heap e it i old) (hit : KBw.IsBytesIter s.heap it b t i) (hx : b[i]? = none)
    (hQ : ∀ h', Heap.ExtBut it s.heap h' → Q none { s with heap := h' }) : wpAny (model prog w) A (pyNext (.ref e)) Q E s := by
  have hT : s.TypeIs (.ref e) "enumerate" := ⟨_, he, rfl⟩
  unfold pyNext
  refine wpAny_bind (wpAny_attempt (wpAny_callSpecial?_slot (name := PySem.Str.ofString "__next__") hT F.slot_enumerate_next
    (wpAny_call_entry F.slot_enumerate_next hT F.entry_enumerate_next ?_ (F.args_enumerate_next_1 _))))
  show wpAny _ _ (field (.ref e) 2 >>= _) _ _ _
  refine wpAny_bind (wpAny_field he rfl (x := .ref it) rfl ?_)
  refine wpAny_bind (nextOf_bytes_end hh hit hx fun h' x he' hx' => ?_)
  obtain ⟨o, ho, hc⟩ := hx'
  refine wpAny_bind (wpAny_isInstance (T := "StopIteration") (b := true) ⟨o, ho, hc⟩ isSubtype_stop ?_)
  exact wpAny_pure (hQ _ he')
end
end Mine
end
section
open PySem PySem.W PySem.Calls PyProof.Rows PySem.Builtin
namespace Mine
noncomputable def BI (x : List UInt8) (i : Nat) : O := .pr fun o => ∃ t, o.cls = .type "bytes_iterator" ∧ o.data = .fields #[.bytes x.toArray t, .int i 0]
noncomputable def EI (it : Addr) (i : Nat) : O := .pr fun o => ∃ old, o = { cls := .type "enumerate", dict := none, data := .fields #[.none, .bool false, .ref it, rawInt i, .none, old], slots := #[] }
noncomputable def EO (it : Addr) (i : Nat) (T : Addr) : O := .pr fun o => ∃ old, o = { cls := .type "enumerate", dict := none, data := .fields #[rawInt T, .bool false, .ref it, rawInt i, .none, old], slots := #[] }
theorem gives_ord_b (c : UInt8) (t : Tok) : Gives (Builtin.«ord» ⟨[.bytes #[c] t], []⟩) (.int c.toNat) := .of_eq rfl
section
variable {w : World} {B : Heap} {os : OsState} {l : List Env} {A : Around} {σ : MS} {E : Value → MS → Prop} {env : Env} {s : Shared}
theorem CL.ord {c : UInt8} {Q : V → MS → Prop} (h : Q (.int c.toNat) σ) : CL w B os l A (.bi "ord") [.byt [c]] Q E σ := fun vf vs hf hv s R => by
  obtain ⟨x, rfl, hx⟩ := list1 hv
  obtain ⟨t, rfl⟩ := er_byt hx
  rw [er_bi hf]
  exact call_function_meets F.kind_ord F.plain_ord F.entry_ord (F.args_ord1 _) (gives_ord_b c t).meets ⟨σ, R.toks _, h⟩
theorem AS.tup2 {a b : Expr} {k : Nat} {pos : Pos} {T : Addr} {x y : V} {Q : MS → Prop} (hh : A.handled = Option.none) (hT : σ T = some (.tup [x, y])) (h : AS w B os l A env a x (AS w B os l A env b y Q E) E σ)
    (hstar : (assignEach [a, b] env).findIdx? (·.1) = Option.none := by rfl) (he : assignEach [a, b] env = [(false, assign a env), (false, assign b env)] := by rfl) : AS w B os l A env (.Tuple [a, b] k pos) (.ref T) Q E σ := fun va hv s R => by
  rw [er_ref hv]
  obtain ⟨_, vs, n, ho, e⟩ := R.known _ _ hT
  obtain ⟨v1, v2, hvs, h1, h2⟩ := list2 e
  have hsz : vs.size = 2 := by rw [← Array.length_toList, hvs]; rfl
  refine wpAny_assign_Tuple hh ⟨_, ho, rfl, n, rfl⟩ (by rw [he, hsz]; rfl) hstar fun h' hk => ?_
  rw [he, hvs]
  have R' := R.other (a := s.heap.objs.size) (h' := h') R.fresh.1 R.fresh.2 (fun hm => by obtain ⟨_, o, q, _⟩ := R.frames.mem hm; rw [get_none s] at q; cases q) (fun b o hb q => hk b o hb q) s.toks
  show wpAny _ _ (do holding [v2] (assign a env v1); assignInOrder [assign b env] [v2]) _ _ _
  refine wpAny_bind (wpAny_holding (wpAny_mono (h v1 h1 _ R') (fun _ s₁ hq1 => ?_) fun _ _ x => x))
  obtain ⟨σ₁, R₁, q⟩ := hq1
  show wpAny _ _ (do holding [] (assign b env v2); assignInOrder [] []) _ _ _
  exact wpAny_bind (wpAny_holding (wpAny_mono (q v2 h2 s₁ R₁) (fun _ s₂ ⟨σ₂, R₂, q₂⟩ => wpAny_pure ⟨σ₂, R₂, q₂⟩) fun _ _ x => x))
theorem forW2 {target : Expr} {body : List Stmt} {rest : List Stmt} {Q : Fl → MS → Prop} {L : Addr} {it : Addr} {n : Nat} (hA : A.frames = some (env :: l)) (hf : env.frame = some L) (J : Nat → MS → Prop) (h0 : J 0 σ)
    (next : ∀ i τ, J i τ → i < n → W w B os (env :: l) A (pyNext (.ref it)) (fun r σ₁ => ∃ va, r = some va ∧ W w B os (env :: l) A (letOwnedTupleGo target (.ref it) va) (fun _ σ₁ => W w B os (env :: l) A (assign target env va) (fun _ σ₂ => SS w B os (env :: l) A env body (fun f σ₃ => match f with
      | .next | .cont => J (i + 1) σ₃
      | .brk => SS w B os (env :: l) A env rest Q E σ₃
      | .ret v => Q (.ret v) σ₃) E σ₂) E σ₁) E σ₁) E τ)
    (fin : ∀ τ, J n τ → W w B os (env :: l) A (pyNext (.ref it)) (fun r σ₁ => r = none ∧ SS w B os (env :: l) A env rest Q E σ₁) E τ) (s : Shared) (R : Rel w B os (env :: l) σ s) :
    codeAny (model pw w) A (.forLoop target (.ref it) body [] env) (fun r s' => match r with
      | .ok f => ∃ σ', Rel w B os (env :: l) σ' s' ∧ nx w B os (env :: l) A env rest Q E (erF f) σ'
      | .error e => cameBackBy (model pw w) A env (fun v s' => ∃ e cls σ', v = .ref e ∧ XR w B os (env :: l) e cls σ' s' ∧ E cls σ') e s') s := by
  refine codeAny_forLoop_any (fun k s => ∃ τ i, Rel w B os (env :: l) τ s ∧ J i τ ∧ i ≤ n ∧ k = n - i) ?_ (n - 0) ⟨σ, 0, R, h0, Nat.zero_le _, rfl⟩
  rintro k s ⟨τ, i, R, hJ, hi, rfl⟩
  rcases Nat.lt_or_ge i n with hlt | hge
  · refine wpAny_mono (next i τ hJ hlt s R) (fun r s₁ hq1 => ?_) fun v s' hx => noted_of hA hf hx
    obtain ⟨σ₁, R₁, va, hr, h₁⟩ := hq1
    subst hr
    refine wpAny_mono (h₁ s₁ R₁) (fun _ s₁ hq1 => ?_) fun v s' hx => noted_of hA hf hx
    obtain ⟨σ₁, R₁, h₁⟩ := hq1
    refine wpAny_mono (h₁ s₁ R₁) (fun _ s₂ hq1 => ?_) fun v s' hx => noted_of hA hf hx
    obtain ⟨σ₂, R₂, h₂⟩ := hq1
    refine wpAny_mono (h₂ s₂ R₂) (fun f s₃ hq1 => ?_) fun v s' hx => noted_of hA hf hx
    obtain ⟨σ₃, R₃, h₃⟩ := hq1
    cases f with
    | next => exact ⟨n - (i + 1), ix3 hlt, σ₃, i + 1, R₃, h₃, hlt, rfl⟩
    | cont => exact ⟨n - (i + 1), ix3 hlt, σ₃, i + 1, R₃, h₃, hlt, rfl⟩
    | brk => exact ⟨σ₃, R₃, h₃⟩
    | ret v => exact ⟨σ₃, R₃, h₃⟩
  · obtain rfl : i = n := Nat.le_antisymm hi hge
    refine wpAny_mono (fin τ hJ s R) (fun r s₁ hq1 => ?_) fun v s' hx => noted_of hA hf hx
    obtain ⟨σ₁, R₁, hr, h₁⟩ := hq1
    subst hr
    exact wpAny_execs_nil ⟨σ₁, R₁, h₁⟩
theorem CL.enumB {x : List UInt8} {Q : V → MS → Prop} (h : ∀ e it, σ e = Option.none → B.get? e = Option.none → σ it = Option.none → B.get? it = Option.none → e ≠ it → Q (.ref e) (upd (upd σ it (BI x 0)) e (EI it 0))) : CL w B os l A (.ty "enumerate") [.byt x] Q E σ := fun vf vs hf hv s R => by
  obtain ⟨y, rfl, hx⟩ := list1 hv
  obtain ⟨t, rfl⟩ := er_byt hx
  rw [er_ty hf]
  refine call_enum_bytes fun h' he hit hk => ?_
  have hs1 : s.heap.get? (s.heap.objs.size + 1) = Option.none := by
    cases q : s.heap.get? (s.heap.objs.size + 1) with
    | none => rfl
    | some o => exact absurd (Heap.lt_size q) (fun z => Nat.lt_irrefl _ (Nat.lt_of_succ_lt z))
  have hσ1 : σ (s.heap.objs.size + 1) = Option.none := by
    cases q : σ (s.heap.objs.size + 1) with
    | none => rfl
    | some o => obtain ⟨ob, ho⟩ := (R.known _ _ q).2.there; rw [hs1] at ho; cases ho
  have hB1 : B.get? (s.heap.objs.size + 1) = Option.none := by
    cases q : B.get? (s.heap.objs.size + 1) with
    | none => rfl
    | some o => have := R.old _ _ q; rw [hs1] at this; cases this
  obtain ⟨o, ho, hc, hd⟩ := hit
  have R₁ := R.new (o := BI x 0) hk (get_none s) ⟨o, ho, t, hc, hd⟩ s.toks
  have R₂ := R₁.learn (a := s.heap.objs.size + 1) (o := EI s.heap.objs.size 0) hB1 ⟨_, he, .none, rfl⟩ (fun hm => by
    obtain ⟨_, o, q, _⟩ := R.frames.mem hm
    rw [hs1] at q; cases q)
  exact ⟨_, R₂, h _ _ hσ1 hB1 R.fresh.1 R.fresh.2 (Nat.succ_ne_self _)⟩
theorem forEnum_ {a b iter : Expr} {k : Nat} {tp : Pos} {body : List Stmt} {pos : Pos} {rest : List Stmt} {Q : Fl → MS → Prop} {L : Addr} (hA : A.frames = some (env :: l)) (hh : A.handled = Option.none) (hf : env.frame = some L)
    (h : EV w B os (env :: l) A env iter (fun v σ₁ => ∃ e it x, v = .ref e ∧ e ≠ it ∧ σ₁ e = some (EI it 0) ∧ σ₁ it = some (BI x 0) ∧ ∃ J : Nat → MS → Prop, J 0 σ₁ ∧
      (∀ i c τ, J i τ → x[i]? = some c → τ e = some (EI it i) ∧ τ it = some (BI x i) ∧ ∀ T, τ T = Option.none → B.get? T = Option.none → T ≠ e → T ≠ it →
        AS w B os (env :: l) A env a (.int i) (AS w B os (env :: l) A env b (.int c.toNat) (SS w B os (env :: l) A env body (lp (J (i + 1)) (SS w B os (env :: l) A env rest Q E) Q) E) E) E (upd (upd (upd τ it (BI x (i + 1))) e (EI it (i + 1))) T (.tup [.int i, .int c.toNat]))) ∧
      (∀ τ, J x.length τ → τ e = some (EI it x.length) ∧ τ it = some (BI x x.length) ∧ SS w B os (env :: l) A env rest Q E (del τ it))) E σ)
    (hs : ∀ x, foldedSetIterable iter env x = pure x := by intro _; rfl) (hstar : (assignEach [a, b] env).findIdx? (·.1) = Option.none := by rfl) (hee : assignEach [a, b] env = [(false, assign a env), (false, assign b env)] := by rfl) :
    SS w B os (env :: l) A env (.For (.Tuple [a, b] k tp) iter body [] pos :: rest) Q E σ := by
  refine SS.consNx fun s R => wpAny_For (wpAny_mono (h s R) (fun xv s₁ hq1 => ?_) fun _ _ x => x) hs
  obtain ⟨σ₁, R₁, e, it, x, hv, hne, he, hit, J, h0, hstep, hfin⟩ := hq1
  rw [er_ref hv]
  obtain ⟨_, oe, hoe, old, rfl⟩ := R₁.known _ _ he
  refine wpAny_pyIter_enum (it := it) (i := (0 : Nat)) (old := old) hoe ?_
  refine forW2 hA hf (n := x.length) J h0 (fun i τ hJ hlt => ?_) (fun τ hJ => ?_) s₁ R₁
  · have hx : x[i]? = some x[i] := List.getElem?_eq_getElem hlt
    obtain ⟨z1, z2, z3⟩ := hstep i _ τ hJ hx
    intro s R
    obtain ⟨hBe, oe, hoe, old, rfl⟩ := R.known _ _ z1
    obtain ⟨hBi, ob, hob, t, hc, hd⟩ := R.known _ _ z2
    refine enum_next_bytes (b := x.toArray) (t := t) (i := i) (c := x[i]) hoe ⟨ob, hob, hc, hd⟩ (by simp [hlt]) hne fun h' tk t₁ t₂ ho' hit' hT' hk => ?_
    obtain ⟨ob', hob', hc', hd'⟩ := hit'
    have fT := R.fresh
    have nT := get_none s
    have d1 : s.heap.objs.size ≠ e := fun q => by rw [← q, nT] at hoe; cases hoe
    have d2 : s.heap.objs.size ≠ it := fun q => by rw [← q, nT] at hob; cases hob
    have fr1 : e ∉ (env :: l).filterMap (·.frame) := fun hm => by obtain ⟨m, q⟩ := R.nsf e _ z1 hm; cases q
    have fr2 : it ∉ (env :: l).filterMap (·.frame) := fun hm => by obtain ⟨m, q⟩ := R.nsf it _ z2 hm; cases q
    have R1 : Rel w B os (env :: l) (del (del τ it) e) { s with heap := h', toks := tk } := by
      have Rl := R.less (τ := del (del τ it) e) ((del_le _ _).trans (del_le _ _))
      refine ⟨Rl.gens, Rl.os, fun b o q => hk b o (fun z => by subst z; rw [hBe] at q; cases q) (fun z => by subst z; rw [hBi] at q; cases q) (Rl.old b o q), fun b o q => ⟨(Rl.known b o q).1, (Rl.known b o q).2.of_get (hk b · (fun z => by subst z; rw [del_self] at q; cases q) (fun z => by
        subst z; rw [del_ne (Ne.symm hne), del_self] at q; cases q))⟩,
        funFrames_alive (fun b hb ob q hd => ⟨ob, hk b ob (fun z => fr1 (z ▸ hb)) (fun z => fr2 (z ▸ hb)) q, hd⟩) Rl.frames, Rl.nsf⟩
    have R2 := R1.learn (a := it) (o := BI x (i + 1)) hBi ⟨ob', hob', t, hc', hd'⟩ (fun hm => absurd hm fr2)
    have R3 := R2.learn (a := e) (o := EO it (i + 1) s.heap.objs.size) hBe ⟨_, ho', _, by push_cast; rfl⟩ (fun hm => absurd hm fr1)
    have R4 := R3.learn (a := s.heap.objs.size) (o := .tup [.int i, .int x[i].toNat]) fT.2 ⟨_, _, hT', rfl⟩ (fun hm => by obtain ⟨_, o, q, _⟩ := R.frames.mem hm; rw [nT] at q; cases q)
    refine ⟨_, R4, .ref s.heap.objs.size, rfl, fun s₂ R₂ => ?_⟩
    have ze : upd (upd (upd (del (del τ it) e) it (BI x (i + 1))) e (EO it (i + 1) s.heap.objs.size)) s.heap.objs.size (.tup [.int i, .int x[i].toNat]) e = some (EO it (i + 1) s.heap.objs.size) := by
      rw [upd_ne _ _ (Ne.symm d1), upd_self]
    obtain ⟨_, oe2, hoe2, old2, rfl⟩ := R₂.known _ _ ze
    refine wpAny_letOwnedTupleGo_enum (it := it) (i := ((i + 1 : Nat) : Int)) (item := old2) hoe2 fun h'' he'' hs'' => ⟨_, R₂.turn (o' := EI it (i + 1)) ze hs'' ⟨_, he'', _, rfl⟩ s₂.toks (fun m q => by cases q), ?_⟩
    have eq : upd (upd (upd (upd (del (del τ it) e) it (BI x (i + 1))) e (EO it (i + 1) s.heap.objs.size)) s.heap.objs.size (.tup [.int i, .int x[i].toNat])) e (EI it (i + 1)) = upd (upd (upd τ it (BI x (i + 1))) e (EI it (i + 1))) s.heap.objs.size (.tup [.int i, .int x[i].toNat]) := by
      funext c
      unfold upd del
      by_cases c1 : c = e
      · subst c1; simp [Ne.symm d1]
      · by_cases c2 : c = s.heap.objs.size
        · subst c2; simp [c1]
        · by_cases c3 : c = it
          · subst c3; simp [c1, c2]
          · simp [c1, c2, c3]
    rw [eq]
    exact AS.tup2 hh (upd_self _ _ _) (z3 _ fT.1 fT.2 d1 d2) hstar hee _ rfl
  · obtain ⟨z1, z2, z3⟩ := hfin τ hJ
    intro s R
    obtain ⟨hBe, oe, hoe, old, rfl⟩ := R.known _ _ z1
    obtain ⟨hBi, ob, hob, t, hc, hd⟩ := R.known _ _ z2
    refine enum_end_bytes (b := x.toArray) (t := t) (i := x.length) hh hoe ⟨ob, hob, hc, hd⟩ (by simp) fun h' hk => ?_
    exact ⟨_, R.drop z2 (fun m q => by cases q) hk s.toks, rfl, z3⟩
end
end Mine
end
section
open PySem PySem.W PySem.Calls PyProof.Rows PySem.Builtin
namespace Mine
noncomputable abbrev kNeg (Q : V → MS → Prop) : V → MS → Prop := fun a σ₁ => ∃ i, a = .int i ∧ Q (.int (-i)) σ₁
section
variable {w : World} {B : Heap} {os : OsState} {l : List Env} {A : Around} {σ : MS} {E : Value → MS → Prop} {env : Env} {s : Shared}
theorem evNeg {x : Expr} {pos : Pos} {Q : V → MS → Prop} (h : EV w B os l A env x (kNeg Q) E σ) : EV w B os l A env (.UnaryOp .USub x pos) Q E σ :=
  fun s R => UnaryOp_ (wpAny_mono (h s R) (fun v s₁ ⟨σ₁, R₁, i, hv, h₁⟩ => by
    obtain ⟨t, rfl⟩ := er_int hv
    exact PyProof.Rows.neg_int ⟨σ₁, R₁.toks _, h₁⟩) fun _ _ x => x)
theorem SI.bytBack {x y : Expr} {b : List UInt8} {i : Int} {Q : V → MS → Prop} (hfit : b.length ≤ 1000000) (h0 : -(b.length : Int) ≤ i) (h1 : i < 0) (h : Q (.int (b.getD (i + b.length).toNat 0).toNat) σ)
    (hs : ∀ t u, subscripted y false (.bytes b.toArray t) (.int i u) = operate [.bytes b.toArray t, .int i u] (getItem (.bytes b.toArray t) (.int i u)) := by intro _ _; with_unfolding_all rfl) 
    (ht : ∀ t r, letTemporaryGo x (.bytes b.toArray t) r = pure () := by intro _ _; with_unfolding_all rfl) : SI w B os l A x y (.byt b) (.int i) Q E σ := fun va vb ha hb s R => by
  obtain ⟨t, rfl⟩ := er_byt ha; obtain ⟨u, rfl⟩ := er_int hb
  have e : KBw.bInts b.toArray = b.map fun c => (c.toNat : Int) := KBw.ints_list b
  refine KBc.itemR_K e (by simp; omega) (by simpa using h0) h1 (fun t' k _ _ => ⟨σ, R.toks k, ?_⟩) (hs t u) (ht t)
  rw [← KBw.getD_ints, List.length_map]
  exact h
theorem BN.mulB {x : List UInt8} {n : Int} {Q : V → MS → Prop} (hb : x ≠ []) (h2 : 2 ≤ n) (hn : n ≤ 1000) (hs : x.length ≤ 1000) (h : Q (.byt (List.replicate n.toNat x).flatten) σ) : BN w B os l A .Mult (.byt x) (.int n) Q E σ := fun va vb ha hb' s R => by
  obtain ⟨t, rfl⟩ := er_byt ha; obtain ⟨u, rfl⟩ := er_int hb'
  refine PySem.W.bytes_mul_K (d := (List.replicate n.toNat x).flatten) hb h2 (by omega) ?_ rfl fun t' k => ⟨σ, R.toks k, by simpa [er] using h⟩
  have : n.toNat ≤ 1000 := by omega
  calc x.length * n.toNat ≤ 1000 * 1000 := Nat.mul_le_mul hs this
    _ ≤ 16777216 := by decide
end
end Mine
end
section
open PySem PySem.W PySem.Calls PyProof.Rows PySem.Builtin
namespace Mine
section
variable {w : World} {B : Heap} {os : OsState} {l : List Env} {A : Around} {σ : MS} {E : Value → MS → Prop} {env : Env} {s : Shared} {e : Addr} {cls : Value}
theorem XR.rel (X : XR w B os l e cls σ s) : Rel w B os l σ s := by
  obtain ⟨g, o, B₂, a0, hB, hk, hn, hfr, hkn, hx⟩ := X
  refine ⟨g, o, fun b ob q => hk b ob (hB b ob q), fun a ob q => ⟨(hkn a ob q).1, ?_⟩, funFrames_base' hB hfr, fun a ob q hm => ?_⟩
  · rcases (hkn a ob q).2 with h | ⟨m, rfl, h⟩
    · exact h.of_get (hk a)
    · exact h
  · rcases (hkn a ob q).2 with h | ⟨m, rfl, h⟩
    · obtain ⟨z, ho⟩ := h.there
      have := (hfr.mem hm).1
      rw [ho] at this; cases this
    · exact ⟨m, rfl⟩
theorem XR.there (X : XR w B os l e cls σ s) : ∃ ob, s.heap.get? e = some ob ∧ ob.cls = cls := by
  obtain ⟨g, o, B₂, a0, hB, hk, hn, hfr, hkn, hx⟩ := X
  rcases hx with ⟨oe, vs, he, hc, _⟩ | ht | ⟨_, _, _, _, _, ht⟩
  · exact ⟨oe, he, hc⟩
  · exact ht.at.there
  · exact ht.there
theorem XR.land {L : Addr} (hA : A.frames = some (env :: l)) (hf : env.frame = some L) (X : XR w B os (env :: l) e cls σ s) {Q : Unit → Shared → Prop} {E : Value → Shared → Prop} {M : Model}
    (h : ∀ s', XR w B os (env :: l) e cls σ s' → Q () s') : wpAny M A (noteFrame (.ref e) env) (fun _ s₂ => wpAny M A (setFlight (.ref e) none) Q E s₂) E s := by
  refine XR.note hA hf X fun s' X' ht => ?_
  obtain ⟨g, o, B₂, a0, hB, hk, hn, hfr, hkn, hx⟩ := X'
  have fin : ∀ fl, s'.heap.TracedAtW B₂ e cls a0 fl → wpAny M A (setFlight (.ref e) none) Q E s' := fun fl ht => wpAny_setFlight_noneW hk hfr ht fun h' k1 k2 k3 k4 =>
    h _ ⟨g, o, B₂, a0, hB, k1, hn, k2, fun a ob q => ⟨(hkn a ob q).1, (hkn a ob q).2.imp id fun ⟨m, z, y⟩ => ⟨m, z, by subst z; exact isO_slots (fun b o hb hn => ⟨o.slots, k4 b o hb hn⟩) y⟩⟩, .inr (.inl k3)⟩
  rcases hx with ⟨oe, vs, he, hc, hd, h1, h0⟩ | ht' | ⟨env', l', L', hl', hf', ht'⟩
  · obtain ⟨_, _, oe', vs', T, oT, ts, he', _, hd', h1', _⟩ := ht
    rw [he] at he'; cases he'
    rw [hd] at hd'; cases hd'
    rw [h1] at h1'; cases h1'
  · exact fin _ ht'.at
  · exact fin _ ht'
noncomputable def HB (w : World) (B : Heap) (os : OsState) (l : List Env) (A : Around) (env : Env) (e : Addr) (cls : Value) (hs : List ExceptHandler) (Q : Fl → MS → Prop) (E : Value → MS → Prop) (σ : MS) : Prop :=
  ∀ s, XR w B os l e cls σ s → wpAny (model pw w) A (handleBy (.ref e) env hs) (fun f s' => ∃ σ', Rel w B os l σ' s' ∧ Q (erF f) σ') (fun v s' => ∃ e cls σ', v = .ref e ∧ XR w B os l e cls σ' s' ∧ E cls σ') s
end
section
variable (w : World) (B : Heap) (os : OsState) (l : List Env) (A : Around) (env : Env) (E : Value → MS → Prop)
noncomputable abbrev kTry (orelse rest : List Stmt) (Q : Fl → MS → Prop) : Fl → MS → Prop := fun f σ₁ => match f with | .next => SS w B os l A env orelse (nx w B os l A env rest Q E) E σ₁ | f => Q f σ₁
noncomputable abbrev kExc (hs : List ExceptHandler) (Q : Fl → MS → Prop) : Value → MS → Prop := fun cls σ₁ => ∀ e, HB w B os l A env e cls hs Q E σ₁
end
section
variable {w : World} {B : Heap} {os : OsState} {l : List Env} {A : Around} {σ : MS} {E : Value → MS → Prop} {env : Env} {s : Shared} {e : Addr} {cls : Value}
theorem try_ {body orelse : List Stmt} {h₀ : ExceptHandler} {hs : List ExceptHandler} {pos : Pos} {rest : List Stmt} {Q : Fl → MS → Prop} {L : Addr} (hA : A.frames = some (env :: l)) (hf : env.frame = some L)
    (h : SS w B os (env :: l) A env body (kTry w B os (env :: l) A env E orelse rest Q)
      (kExc w B os (env :: l) A env E (h₀ :: hs) (nx w B os (env :: l) A env rest Q E)) σ) :
    SS w B os (env :: l) A env (.Try body (h₀ :: hs) orelse [] pos :: rest) Q E σ := by
  refine SS.consNx fun s R => wpAny_Try_except (wpAny_mono (h s R) (fun f s₁ ⟨σ₁, R₁, h₁⟩ => ?_) fun v s₁ ⟨e, cls, σ₁, hv, X, h₁⟩ => ?_)
  · cases f with
    | next => exact h₁ s₁ R₁
    | brk => exact ⟨σ₁, R₁, h₁⟩
    | cont => exact ⟨σ₁, R₁, h₁⟩
    | ret v => exact ⟨σ₁, R₁, h₁⟩
  · subst hv
    exact XR.land hA hf X fun s' X' => h₁ e s' X'
end
end Mine
end
section
open PySem PySem.W PySem.Calls PyProof.Rows PySem.Builtin
namespace Mine
noncomputable def Kd (P : Params) : Frag := (K P).filter fun p => p.1 != 359 && p.1 != 366
theorem lookup_filter {f : Addr → Bool} {a : Addr} : ∀ {l : Frag}, (l.filter fun p => f p.1).lookup a = if f a then l.lookup a else none
  | [] => by simp
  | (b, o) :: r => by
    rw [List.filter_cons]
    by_cases hf : f b = true
    · rw [if_pos hf, List.lookup_cons, List.lookup_cons, lookup_filter]
      by_cases h : a = b
      · subst h; simp [hf]
      · simp [h, beq_eq_false_iff_ne.mpr h]
    · rw [if_neg hf, lookup_filter, List.lookup_cons]
      by_cases h : a = b
      · subst h; simp [hf]
      · simp [beq_eq_false_iff_ne.mpr h]
theorem BF.kd {w : World} {B : Heap} (G : BF w B) : (Kd w.params).In B := fun a o e => by
  unfold Kd at e
  rw [lookup_filter (f := fun b => b != 359 && b != 366)] at e
  split at e
  · rename_i h
    simp at h
    exact G.ob a o e h.1 h.2
  · cases e
section
variable {w : World} {B : Heap} {os : OsState} {l : List Env} {A : Around} {σ : MS} {E : Value → MS → Prop} {env : Env} {s : Shared} {e : Addr} {cls : Value}
theorem XR.flight (X : XR w B os l e cls σ s) {Q : Unit → Shared → Prop} {E : Value → Shared → Prop} {M : Model} (h : ∀ s', XR w B os l e cls σ s' → Q () s') : wpAny M A (setFlight (.ref e) none) Q E s := by
  obtain ⟨g, o, B₂, a0, hB, hk, hn, hfr, hkn, hx⟩ := id X
  have fin : ∀ fl, s.heap.TracedAtW B₂ e cls a0 fl → wpAny M A (setFlight (.ref e) none) Q E s := fun fl ht => wpAny_setFlight_noneW hk hfr ht fun h' k1 k2 k3 k4 =>
    h _ ⟨g, o, B₂, a0, hB, k1, hn, k2, fun a ob q => ⟨(hkn a ob q).1, (hkn a ob q).2.imp id fun ⟨m, z, y⟩ => ⟨m, z, by subst z; exact isO_slots (fun b o hb hn => ⟨o.slots, k4 b o hb hn⟩) y⟩⟩, .inr (.inl k3)⟩
  rcases hx with ⟨oe, vs, he, hc, hd, h1, h0⟩ | ht' | ⟨env', l', L', hl', hf', ht'⟩
  · unfold setFlight
    refine wpAny_bind (wpAny_field he hd h1 ?_)
    rw [if_neg (by decide)]
    exact wpAny_pure (h s X)
  · exact fin _ ht'.at
  · exact fin _ ht'
noncomputable def NameIs (w : World) (B : Heap) (env : Env) (t : Expr) (c : Value) : Prop := ∀ (A : Around) (s : Shared) (Q : Value → Shared → Prop) (E : Value → Shared → Prop), (∀ b o, B.get? b = some o → s.heap.get? b = some o) → Q c s → wpAny (model pw w) A (eval t env) Q E s
theorem nameIs_built {x : Str} {pos : Pos} {T : String} (G : BF w B) (hn : gtab.lookup x = none) (hn' : gmore.contains x = false) (hb : (bootBuiltins x).map er = some (.ty T))
    (hg : env.globals = mainGlobals := by rfl) (hbs : env.builtins = builtinsNs := by rfl) (hk : env.scope.kind = .function := by rfl) (hl : env.kindOf x = some .globalImplicit := by kernel_rfl!) (hd : (x == ("__debug__" : Str)) = false := by kernel_rfl!) :
    NameIs w B env (.Name x pos) (.type T) := fun A s Q E old h => by
  obtain ⟨mg, mb, hm, hmb, _, h2, h3⟩ := G.names
  obtain ⟨v', hv', hv⟩ := Option.map_eq_some_iff.mp hb
  rw [er_ty hv] at hv'
  have hx : x ≠ Str.ofString "__name__" := by
    rintro rfl
    have : gmore.contains (Str.ofString "__name__") = true := by decide +kernel
    rw [this] at hn'; cases hn'
  exact Calls.Name_function_global hk hl (Calls.loadGlobal_builtin (by rw [hg]; exact hm.keeps old) (h2 x hn hn') (by rw [hbs]; exact hmb.keeps old) ((h3 x hx).trans hv') h) hd
theorem nameIs_glob {x : Str} {pos : Pos} {a : Addr} (G : BF w B) (hv : gtab.lookup x = some (.ref a))
    (hg : env.globals = mainGlobals := by rfl) (hk : env.scope.kind = .function := by rfl) (hl : env.kindOf x = some .globalImplicit := by kernel_rfl!) (hd : (x == ("__debug__" : Str)) = false := by kernel_rfl!) :
    NameIs w B env (.Name x pos) (.ref a) := fun A s Q E old h => by
  obtain ⟨mg, mb, hm, _, h1, _⟩ := G.names
  obtain ⟨v', hv', hv⟩ := h1 x _ hv
  rw [er_ref hv] at hv'
  exact Calls.Name_function_global hk hl (Calls.loadGlobal_global (by rw [hg]; exact hm.keeps old) hv' h) hd
theorem HB.one {t : Expr} {c : Value} {b : Bool} {b₀ : Stmt} {suite : List Stmt} {pos : Pos} {rest : List ExceptHandler} {Q : Fl → MS → Prop} (G : BF w B) (ht : NameIs w B env t c) (hx : exmOne (Kd w.params) cls c = some b)
    (h : match b with | true => SS w B os l (A.mark (some (.ref e))) env (b₀ :: suite) Q (fun _ _ => False) σ | false => HB w B os l A env e cls rest Q E σ) :
    HB w B os l A env e cls (.ExceptHandler (some t) none (b₀ :: suite) pos :: rest) Q E σ := fun s X => by
  have R := X.rel
  obtain ⟨ob, ho, hc⟩ := X.there
  have KI : (Kd w.params).In s.heap := G.kd.keeps R.old
  refine wpAny_handleBy_cons (codeAny_handlers_test (ht _ s _ _ R.old ?_)) (by intro q; cases q)
  have LT : Looks (model pw w) s.heap (typeOf (.ref e)) cls := by
    subst hc
    exact (Looks.ld ho).andThen .now
  refine (exm_one KI LT hx).here ?_
  cases b with
  | true =>
    rw [if_pos rfl]
    refine codeAny_handlers_suite (X.flight fun s' X' => ?_)
    exact wpAny_mono (h s' X'.rel) (fun f s₂ ⟨σ₂, R₂, h₂⟩ => ⟨σ₂, R₂, h₂⟩) fun v s' z => no5 z
  | false =>
    rw [if_neg (by decide)]
    exact h s X
end
end Mine
end
section
open PySem PySem.W PySem.Calls PyProof.Rows PySem.Builtin
namespace Mine
section
variable {w : World} {B : Heap} {os : OsState} {l : List Env} {A : Around} {σ : MS} {E : Value → MS → Prop} {env : Env} {s : Shared}
end
end Mine
end
section
open PySem PySem.W PySem.Calls PyProof.Rows PySem.Builtin
namespace Mine
section
variable {w : World} {B : Heap} {os : OsState} {l : List Env} {A : Around} {σ : MS} {E : Value → MS → Prop} {env : Env} {s : Shared}
theorem ns_of {h : Heap} {a : Addr} {o : Obj} {es : Array DictEntry} {ep : Nat} (ho : h.get? a = some o) (hd : o.data = .dict es ep) (hk : StrKeys es) : h.Ns a (fun x => nsFind es x) := ⟨o, es, ep, ho, hd, hk, fun _ => rfl⟩
theorem raise31 {x : Str} {np cpos pos : Pos} {es : List Expr} {rest : List Stmt} {Q : Fl → MS → Prop} (G : BF w B) (hh : A.handled = none) (hn : NameIs w B env (.Name x np) (.ref 31))
    (h : SQ w B os l A env es (fun xs σ₁ => xs.length ≤ 1000000 ∧ E (.ref 31) σ₁) E σ)
    (hs : backTo cpos (starEach es env) = es.map (fun e => (false, eval e env)) := by rfl) : SS w B os l A env (.Raise (some (.Call (.Name x np) es [] cpos)) none pos :: rest) Q E σ := by
  have h31 : B.get? 31 = some (o31 w.params) := G.ob 31 (o31 w.params) (by kernel_rfl!) (by decide) (by decide)
  have h30 : B.get? 30 = some (o30 w.params) := G.ob 30 (o30 w.params) (by kernel_rfl!) (by decide) (by decide)
  have hN : B.Ns 30 (fun x => nsFind (match (o30 w.params).data with | .dict es _ => es | _ => #[]) x) := ns_of h30 rfl (by
    intro e he
    have he' : e ∈ (#[ent w.params (Str.ofString "__module__") 203 (.str (Str.ofString "dulwich.errors") 194), ent w.params (Str.ofString "__firstlineno__") 207 (.int 5 206), ent w.params (Str.ofString "__static_attributes__") 208 (.ref 29), ent w.params (Str.ofString "__weakref__") 210 (.ref 32), ent w.params (Str.ofString "__doc__") 211 .none] : Array DictEntry) := he
    simp only [List.mem_toArray, List.mem_cons, List.not_mem_nil, or_false] at he'
    rcases he' with rfl | rfl | rfl | rfl | rfl <;> exact ⟨_, _, rfl⟩)
  refine SS.consNx fun s R => wpAny_Raise_call_sub (nm := Str.ofString "RefFormatError") (q := Str.ofString "RefFormatError") (C := 31) (N := 30) (bs := [.type "Exception"]) (hdct := true) (sn := []) (sub := []) (ab := false) (col := none) (dd := none) (k0 := some (.ref 22)) (k1 := none) (k2 := some (.str (Str.ofString "RefFormatError") 196)) (k3 := some (.str (Str.ofString "RefFormatError") 204)) (k5 := some (.bool true)) F.excBase_Exception hh (by rw [hs]; exact plain_any env es) (mN := fun x => nsFind (match (o30 w.params).data with | .dict es _ => es | _ => #[]) x) (by kernel_rfl!) (hn A s _ _ R.old ⟨rfl, ?_⟩)
  rw [hs]
  refine wpAny_mono (h.args s R) (fun a s₂ hq1 => ?_) fun _ _ x => x
  obtain ⟨σ₂, R₂, vs, ha, hz, h₂⟩ := hq1
  subst ha
  rw [List.length_map] at hz
  refine ⟨rfl, by rw [sizeLine_eq]; show vs.length ≤ _; omega, R₂.old _ _ h31, hN.keeps R₂.old, fun h' e hm => ?_⟩
  obtain ⟨t, ht, _, _⟩ := hm.there
  exact ⟨e, .ref 31, σ₂, rfl, XR.new (vs := #[.ref t, .none, .none, .none, .bool false, .none]) (a0 := .ref t) R₂ hm.keeps hm.new ht rfl rfl rfl rfl s₂.toks, h₂⟩
end
end Mine
end
section
open PySem PySem.W PySem.Calls PyProof.Rows PySem.Builtin
namespace Mine
section
variable {w : World} {B : Heap} {os : OsState} {l : List Env} {A : Around} {σ : MS} {E : Value → MS → Prop} {env : Env} {s : Shared}
theorem raiseX {X N I : String} {x : Str} {np cpos pos : Pos} {es : List Expr} {rest : List Stmt} {Q : Fl → MS → Prop} (hc : ExcClass X N I) (hh : A.handled = none) (hn : NameIs w B env (.Name x np) (.type X))
    (h : SQ w B os l A env es (fun xs σ₁ => xs.length ≤ 1000000 ∧ E (.type X) σ₁) E σ)
    (hs : backTo cpos (starEach es env) = es.map (fun e => (false, eval e env)) := by rfl) : SS w B os l A env (.Raise (some (.Call (.Name x np) es [] cpos)) none pos :: rest) Q E σ := by
  refine SS.consNx fun s R => Raise_new hh (wpAny_Call_NameR (hn A s _ _ R.old ?_))
  rw [hs]
  refine PyProof.Rows.callWith_type (plain_any env es) (wpAny_mono (h.args s R) (fun a s₂ hq1 => ?_) fun _ _ x => x)
  obtain ⟨σ₂, R₂, vs, ha, hz, h₂⟩ := hq1
  subst ha
  rw [List.length_map] at hz
  refine call_exc_raise hc (fun h' e hm => ?_) (by rw [sizeLine_eq]; show vs.length ≤ _; omega)
  obtain ⟨ob, t, he, hcls, hd⟩ := hm.there
  exact ⟨e, .type X, σ₂, rfl, XR.new (a0 := t) R₂ hm.keeps hm.new he hcls hd rfl rfl s₂.toks, h₂⟩
end
end Mine
end
section
open PySem PySem.W PySem.Calls PyProof.Rows PySem.Builtin
namespace Mine
noncomputable def getE (es : List (List UInt8 × V)) (k : List UInt8) : Option V := (es.find? fun p => p.1 = k).map (·.2)
noncomputable def setE (es : List (List UInt8 × V)) (k : List UInt8) (v : V) : List (List UInt8 × V) := if es.any (fun p => p.1 = k) then es.map (fun p => if p.1 = k then (p.1, v) else p) else es ++ [(k, v)]
theorem getE_eq (kvs : List (List UInt8 × Value)) (k : List UInt8) : (valueAt kvs k).map er = getE (kvs.map fun p => (p.1, er p.2)) k := by
  unfold valueAt getE
  rw [List.find?_map]
  simp [Function.comp_def]
theorem setE_eq (kvs : List (List UInt8 × Value)) (k : List UInt8) (v : Value) : (stored kvs k v).map (fun p => (p.1, er p.2)) = setE (kvs.map fun p => (p.1, er p.2)) k (er v) := by
  unfold stored setE
  simp only [List.any_map, Function.comp_def]
  split
  · simp only [List.map_map, Function.comp_def]
    congr 1
    funext p
    split <;> rfl
  · simp
section
variable {w : World} {B : Heap} {os : OsState} {l : List Env} {A : Around} {σ : MS} {E : Value → MS → Prop} {env : Env} {s : Shared}
theorem mf_get : MF "dict" "get" "dict.get" := ⟨F.plainAttrs_dict, F.slot_dict_get, F.type_dict_get⟩
theorem not_sys {d : Addr} (G : BF w B) (h : B.get? d = none) : (d == sysModules) = false := by
  rw [beq_eq_false_iff_ne]
  rintro rfl
  have := G.ob sysModules (o1 w.params) (by kernel_rfl!) (by decide) (by decide)
  rw [h] at this; cases this
theorem CL.dictGet2 {d : Addr} {es : List (List UInt8 × V)} {ep : Nat} {k : List UInt8} {v : V} {Q : V → MS → Prop} (G : BF w B) (hd : σ d = some (.dict es ep)) (h : Q ((getE es k).getD v) σ) : CL w B os l A (.bi "dict.get") [.ref d, .byt k, v] Q E σ := fun vf vs hf hv s R => by
  obtain ⟨x, y, z, rfl, hx, hy, hz⟩ := list3 hv
  obtain ⟨t, rfl⟩ := er_byt hy
  rw [er_bi hf, er_ref hx]
  obtain ⟨hB, kvs, hD, rfl⟩ := R.known _ _ hd
  refine call_meetsIn F.slot_dict_get hD.dictOf.mapOf.typeIs F.entry_dict_get (F.args_dict_get_3 _ _ _) (meets_dict_get_default (bytesKind pw w) d (bytesKind_is pw w k t) (not_sys G hB) z) ⟨_, hD.dictOf.mapOf, σ, R.toks _, ?_⟩
  rw [← getE_eq] at h
  cases q : valueAt kvs k with
  | none => rw [q] at h; simpa [hz] using h
  | some u => rw [q] at h; simpa using h
theorem CL.dictGet1 {d : Addr} {es : List (List UInt8 × V)} {ep : Nat} {k : List UInt8} {Q : V → MS → Prop} (G : BF w B) (hd : σ d = some (.dict es ep)) (h : Q ((getE es k).getD .none) σ) : CL w B os l A (.bi "dict.get") [.ref d, .byt k] Q E σ := fun vf vs hf hv s R => by
  obtain ⟨x, y, rfl, hx, hy⟩ := list2 hv
  obtain ⟨t, rfl⟩ := er_byt hy
  rw [er_bi hf, er_ref hx]
  obtain ⟨hB, kvs, hD, rfl⟩ := R.known _ _ hd
  refine call_meetsIn F.slot_dict_get hD.dictOf.mapOf.typeIs F.entry_dict_get (F.args_dict_get_2 _ _) (meets_dict_get (bytesKind pw w) d (bytesKind_is pw w k t) (not_sys G hB)) ⟨_, hD.dictOf.mapOf, σ, R.toks _, ?_⟩
  rw [← getE_eq] at h
  cases q : valueAt kvs k with
  | none => rw [q] at h; exact h
  | some u => rw [q] at h; simpa using h
theorem setDict {d : Addr} {es : List (List UInt8 × V)} {ep : Nat} {k : List UInt8} {va vb vc : Value} {v : V} {Q : Unit → MS → Prop} (hva : er va = .ref d) (hvb : er vb = .byt k) (hvc : er vc = v) (hz : es.length ≤ 1000000) (hd : σ d = some (.dict es ep)) (h : ∀ ep', Q () (upd σ d (.dict (setE es k v) ep'))) : W w B os l A (setItem va vb vc) Q E σ := fun s R => by
  obtain ⟨t, rfl⟩ := er_byt hvb
  rw [er_ref hva]
  obtain ⟨hB, kvs, hD, rfl⟩ := R.known _ _ hd
  refine wpAny_setItem_pairs (bytesKind_is pw w k t) hD.dictOf (fun h' hD' hs => (let ⟨ep', hA'⟩ := hD'.dictAt; ⟨_, R.turn (o' := .dict _ ep') hd hs ⟨_, hA', rfl⟩ _ (fun m e => by cases e), ?_⟩)) (by rw [List.length_map] at hz; rw [sizeLine_eq]; omega)
  rw [setE_eq, hvc]
  exact h _
end
end Mine
end
section
open PySem PySem.W PySem.Calls PyProof.Rows PySem.Builtin
namespace Mine
section
variable {w : World} {B : Heap} {os : OsState} {l : List Env} {A : Around} {σ : MS} {E : Value → MS → Prop} {env : Env} {s : Shared}
theorem CM.inD {d : Addr} {es : List (List UInt8 × V)} {ep : Nat} {k : List UInt8} {Q : V → MS → Prop} (G : BF w B) (hd : σ d = some (.dict es ep)) (h : Q (.bool (getE es k).isSome) σ) : CM w B os l A .In (.byt k) (.ref d) Q E σ := fun va vb ha hb s R => by
  obtain ⟨t, rfl⟩ := er_byt ha
  rw [er_ref hb]
  obtain ⟨hB, kvs, hD, rfl⟩ := R.known _ _ hd
  refine wpAny_in_of (bytesKind_is pw w k t) (not_sys G hB) hD.dictOf.mapOf ⟨σ, R.toks _, ?_⟩
  rw [← getE_eq, Option.isSome_map] at h
  exact h
theorem SI.dict {x y : Expr} {d : Addr} {es : List (List UInt8 × V)} {ep : Nat} {k : List UInt8} {v : V} {Q : V → MS → Prop} (hd : σ d = some (.dict es ep)) (hv : getE es k = some v) (h : Q v σ)
    (hs : ∀ u, subscripted y false (.ref d) (.bytes k.toArray u) = operate [.ref d, .bytes k.toArray u] (getItem (.ref d) (.bytes k.toArray u)) := by intro _; with_unfolding_all rfl) : SI w B os l A x y (.ref d) (.byt k) Q E σ := fun va vb ha hb s R => by
  obtain ⟨t, rfl⟩ := er_byt hb
  rw [er_ref ha]
  obtain ⟨hB, kvs, hD, rfl⟩ := R.known _ _ hd
  rw [← getE_eq] at hv
  obtain ⟨u, hu, rfl⟩ := Option.map_eq_some_iff.mp hv
  exact tail_any hD.dictOf.typeIs slot_dict_getitem.lookup (wpAny_getItem_of (bytesKind_is pw w k t) hD.dictOf.mapOf hu ⟨σ, R.toks _, h⟩) (hs t)
end
end Mine
end
section
open PySem PySem.W PySem.Calls PyProof.Rows PySem.Builtin
namespace Mine
noncomputable def keyV (e : DictEntry) : Option (Str × V) := match e.key with | .str x _ => some (x, er e.val) | _ => none
noncomputable def ID (es : List (Str × V)) : O := .pr fun o => ∃ arr n, o = { cls := .type "dict", dict := none, data := .dict arr n } ∧ arr.toList.map keyV = es.map some
noncomputable def IN (C dx : Addr) : O := .pr fun o => o = instObj C dx
theorem find_keyV (name : Str) : ∀ (l : List DictEntry) (es : List (Str × V)), l.map keyV = es.map some → (l.find? (·.key.isStr name)).map (fun e => er e.val) = es.lookup name ∧ l.any (·.refKey) = false
  | [], [], _ => ⟨rfl, rfl⟩
  | [], _ :: _, h => by cases h
  | _ :: _, [], h => by cases h
  | e :: l, (x, v) :: es, h => by
    rw [List.map_cons, List.map_cons] at h
    injection h with h1 h2
    have ih := find_keyV name l es h2
    obtain ⟨hs, key, val⟩ := e
    unfold keyV at h1
    simp only at h1
    split at h1
    · rename_i y t
      injection h1 with h1
      injection h1 with h1 h3
      subst h1 h3
      refine ⟨?_, ?_⟩
      · rw [List.find?_cons, List.lookup_cons]
        show (match (Value.str y t).isStr name with | true => _ | false => _ : Option DictEntry).map _ = _
        have : (Value.str y t).isStr name = (name == y) := by
          show (y == name) = (name == y)
          rw [Bool.eq_iff_iff, beq_iff_eq, beq_iff_eq]; exact eq_comm
        rw [this]
        cases name == y with
        | true => rfl
        | false => exact ih.1
      · rw [List.any_cons, ih.2]; rfl
    · cases h1
theorem lookIn_ID {es : List (Str × V)} {arr : Array DictEntry} {n : Nat} (h : arr.toList.map keyV = es.map some) (name : Str) : ∃ r, lookIn name { cls := .type "dict", dict := none, data := .dict arr n } = some r ∧ r.map er = es.lookup name := by
  obtain ⟨h1, h2⟩ := find_keyV name _ _ h
  unfold lookIn
  simp only
  cases q : arr.toList.find? (·.key.isStr name) with
  | some e => exact ⟨some e.val, rfl, by rw [q] at h1; exact h1⟩
  | none => rw [if_neg (by rw [h2]; decide)]; exact ⟨none, rfl, by rw [q] at h1; exact h1⟩
section
variable {w : World} {B : Heap} {os : OsState} {l : List Env} {A : Around} {σ : MS} {E : Value → MS → Prop} {env : Env} {s : Shared}
theorem inst_at (R : Rel w B os l σ s) {x C dx : Addr} {es : List (Str × V)} (h1 : σ x = some (IN C dx)) (h2 : σ dx = some (ID es)) :
    ∃ od arr n, od = ({ cls := .type "dict", dict := none, data := .dict arr n } : Obj) ∧ s.heap.get? dx = some od ∧ arr.toList.map keyV = es.map some ∧ InstAt s.heap x (instObj C dx) C (some od) := by
  obtain ⟨_, o, ho, rfl⟩ := R.known _ _ h1
  obtain ⟨_, od, hod, arr, n, rfl, hes⟩ := R.known _ _ h2
  exact ⟨_, arr, n, rfl, hod, hes, ho, rfl, rfl, hod⟩
theorem findObj_own {K : Frag} {C : Addr} {od : Obj} {name : Str} {v : Value} (hc : (clsIn K C).any (·.hasDict) = true) (hf : findIn K (.ref C) name = some none) (h : lookIn name od = some (some v)) : findObj K C (some od) name = some (.value v) := by
  obtain ⟨cd, hcd, hd⟩ := any_some hc
  unfold findObj
  rw [hcd, hf]
  simp [PySem.W.ownOf, hd, h]
theorem getAt {x C dx : Addr} {es : List (Str × V)} {name : Str} {v : V} {expr : Bool} {Q : Value → MS → Prop} (G : BF w B) (h1 : σ x = some (IN C dx)) (h2 : σ dx = some (ID es)) (hv : es.lookup name = some v) (hb : ∀ n, v ≠ .bi n) (hQ : ∀ va, er va = v → Q va σ)
    (hc : (clsIn (Kd w.params) C).any (·.hasDict) = true) (hga : findIn (Kd w.params) (.ref C) "__getattribute__" = some (some (.builtin "object.__getattribute__"))) (hf : findIn (Kd w.params) (.ref C) name = some none) :
    W w B os l A (getAttr (.ref x) name expr) Q E σ := fun s R => by
  obtain ⟨od, arr, n, rfl, hod, hes, I⟩ := inst_at R h1 h2
  obtain ⟨r, hr, hre⟩ := lookIn_ID (n := n) hes name
  rw [hv] at hre
  obtain ⟨va, rfl, hva⟩ := Option.map_eq_some_iff.mp hre
  refine get_value (G.kd.keeps R.old) I hga (findObj_own hc hf hr) ?_ ⟨σ, R.toks _, hQ va hva⟩
  cases va <;> first | rfl | exact absurd hva.symm (hb _)
theorem EV.attr {n attr : Str} {np pos : Pos} {Q : V → MS → Prop} (G : BF w B)
    (h : EV w B os l A env (.Name n np) (fun ov σ₁ => ∃ x C dx es v, ov = .ref x ∧ σ₁ x = some (IN C dx) ∧ σ₁ dx = some (ID es) ∧ es.lookup attr = some v ∧ (∀ n, v ≠ .bi n) ∧ Q v σ₁ ∧
      (clsIn (Kd w.params) C).any (·.hasDict) = true ∧ findIn (Kd w.params) (.ref C) "__getattribute__" = some (some (.builtin "object.__getattribute__")) ∧ findIn (Kd w.params) (.ref C) attr = some Option.none) E σ) :
    EV w B os l A env (.Attribute (.Name n np) attr pos) Q E σ := fun s R =>
  Attribute_name (wpAny_mono (h s R) (fun ov s₁ hq => by
    obtain ⟨σ₁, R₁, x, C, dx, es, v, hov, h1, h2, hv, hb, hQ, k1, k2, k3⟩ := hq
    rw [er_ref hov]
    exact getAt (Q := fun v σ => Q (er v) σ) G h1 h2 hv hb (fun va e => e ▸ hQ) k1 k2 k3 s₁ R₁) fun _ _ x => x)
theorem EV.methOwn {o : Expr} {name : Str} {apos pos : Pos} {es : List Expr} {Q : V → MS → Prop} (G : BF w B)
    (h : EV w B os l A env o (fun ov σ₁ => ∃ x C dx ns f fd, ov = .ref x ∧ σ₁ x = some (IN C dx) ∧ σ₁ dx = some (ID ns) ∧ ns.lookup name = Option.none ∧
      (∃ o, B.get? f = some o ∧ o.data = .func fd) ∧ SQ w B os l A env es (kCLm w B os l A E (.ref f) ov Q) E σ₁ ∧
      findIn (Kd w.params) (.ref C) "__getattribute__" = some (some (.builtin "object.__getattribute__")) ∧ findIn (Kd w.params) (.ref C) "__getattr__" = some Option.none ∧ findIn (Kd w.params) (.ref C) name = some (some (.ref f)) ∧ typeIn (Kd w.params) (.ref f) = some (.type "function")) E σ)
    (hs : backTo pos (starEach es env) = es.map (fun e => (false, eval e env)) := by rfl)
    (he : ∃ pl : Sem Bool, eval (.Call (.Attribute o name apos) es [] pos) env = (do
      let ov ← eval o env
      standAt apos.atName
      let (f, first) ← holding [ov] (getMethod ov name pl)
      callWith pos f first (backTo pos (starEach es env)) (backToKw pos (keywordEach [] env))) := by exact ⟨_, rfl⟩) : EV w B os l A env (.Call (.Attribute o name apos) es [] pos) Q E σ := fun s R => by
  obtain ⟨pl, he⟩ := he
  refine methodCall_KW (pl := pl) (wpAny_mono (h s R) (fun ov s₁ hq1 => ?_) fun _ _ x => x) he
  obtain ⟨σ₁, R₁, x, C, dx, ns, f, fd, hov, h1, h2, hn, ⟨ob, hob, hd⟩, hq, k1, k2, k3, k4⟩ := hq1
  have hov' := er_ref hov
  subst hov'
  obtain ⟨od, arr, n, rfl, hod, hes, I⟩ := inst_at R₁ h1 h2
  obtain ⟨r, hr, hre⟩ := lookIn_ID (n := n) hes name
  rw [hn] at hre
  have hr0 : r = Option.none := by cases r with | none => rfl | some _ => cases hre
  subst hr0
  refine method_fn (G.kd.keeps R₁.old) I k1 k2 k3 k4 (by show (lookIn _ _).map _ = _; rw [hr]; rfl) ?_
  show wpAny _ _ (callWith pos (.ref f) [.ref x] (backTo pos (starEach es env)) []) _ _ _
  rw [hs]
  refine Calls.callWith_function (wpAny_mono (hq.args s₁ R₁) (fun a s₂ ⟨σ₂, R₂, vs, ha, h₂⟩ => ⟨⟨R₂.old _ _ hob, hd⟩, ?_⟩) fun _ _ x => x)
  subst ha
  exact h₂ (.ref f) (.ref x :: vs) rfl (by rw [List.map_cons]) s₂ R₂
theorem CM.inOwn {x C dx f : Addr} {ns : List (Str × V)} {v : V} {Q : V → MS → Prop} (G : BF w B) (h1 : σ x = some (IN C dx)) (h2 : σ dx = some (ID ns))
    (h : CL w B os l A (.ref f) [.ref x, v] (fun r σ₁ => TU w B os l A r (fun b σ₂ => Q (.bool b) σ₂) E σ₁) E σ)
    (hs : findIn (Kd w.params) (.ref C) "__contains__" = some (some (.ref f)) := by kernel_rfl!) (hf : isFn (Kd w.params) (.ref f) = true := by kernel_rfl!) : CM w B os l A .In v (.ref x) Q E σ := fun va vb ha hb s R => by
  rw [er_ref hb]
  obtain ⟨od, arr, n, rfl, hod, hes, I⟩ := inst_at R h1 h2
  have X := G.kd.keeps R.old
  refine wpAny_bind (m := contains (.ref x) va) ?_
  unfold contains
  refine wpAny_holding (wpAny_bind (wpAny_bind (I.type.here ((looks_findIn X hs).here ?_))))
  rw [if_neg (by simp)]
  refine wpAny_bind (unlessNone_K X I hs hf (wpAny_mono (h _ [.ref x, va] rfl (by rw [List.map_cons, List.map_cons, ha]; rfl) s R) (fun r s₁ hq1 => ?_) fun _ _ z => z))
  obtain ⟨σ₁, R₁, h₁⟩ := hq1
  exact wpAny_mono (h₁ r rfl s₁ R₁) (fun b s₂ ⟨σ₂, R₂, q⟩ => wpAny_pure ⟨σ₂, R₂, q⟩) fun _ _ z => z
theorem setOwn {x C dx f : Addr} {ns : List (Str × V)} {va vb vc : Value} {k v : V} {Q : Unit → MS → Prop} (G : BF w B) (hva : er va = .ref x) (hvb : er vb = k) (hvc : er vc = v) (h1 : σ x = some (IN C dx)) (h2 : σ dx = some (ID ns))
    (h : CL w B os l A (.ref f) [.ref x, k, v] (fun _ σ₁ => Q () σ₁) E σ)
    (hq : noSeq (Kd w.params) C = true := by kernel_rfl!) (hs : findIn (Kd w.params) (.ref C) "__setitem__" = some (some (.ref f)) := by kernel_rfl!) (hf : isFn (Kd w.params) (.ref f) = true := by kernel_rfl!) : W w B os l A (setItem va vb vc) Q E σ := fun s R => by
  rw [er_ref hva]
  obtain ⟨od, arr, n, rfl, hod, hes, I⟩ := inst_at R h1 h2
  have X := G.kd.keeps R.old
  unfold setItem sequenceKey
  refine wpAny_holding (wpAny_bind (wpAny_bind (I.type.here ?_)))
  refine wpAny_bind ((anyM_none X hq).here ?_)
  rw [if_pos (show (!false) = true from rfl)]
  exact wpAny_pure (wpAny_bind (special_fn X I hs (beq_iff_eq.mp hf) (wpAny_mono (h _ [.ref x, vb, vc] rfl (by rw [List.map_cons, List.map_cons, List.map_cons, hvb, hvc]; rfl) s R) (fun _ _ z => wpAny_pure z) fun _ _ z => z)))
theorem delOwn {x C dx f : Addr} {ns : List (Str × V)} {va vb : Value} {k : V} {Q : Unit → MS → Prop} (G : BF w B) (hva : er va = .ref x) (hvb : er vb = k) (h1 : σ x = some (IN C dx)) (h2 : σ dx = some (ID ns))
    (h : CL w B os l A (.ref f) [.ref x, k] (fun _ σ₁ => Q () σ₁) E σ)
    (hq : noSeq (Kd w.params) C = true := by kernel_rfl!) (hs : findIn (Kd w.params) (.ref C) "__delitem__" = some (some (.ref f)) := by kernel_rfl!) (hf : isFn (Kd w.params) (.ref f) = true := by kernel_rfl!) : W w B os l A (delItem va vb) Q E σ := fun s R => by
  rw [er_ref hva]
  obtain ⟨od, arr, n, rfl, hod, hes, I⟩ := inst_at R h1 h2
  have X := G.kd.keeps R.old
  unfold delItem sequenceKey
  refine wpAny_holding (wpAny_bind (wpAny_bind (I.type.here ?_)))
  refine wpAny_bind ((anyM_none X hq).here ?_)
  rw [if_pos (show (!false) = true from rfl)]
  exact wpAny_pure (wpAny_bind (special_fn X I hs (beq_iff_eq.mp hf) (wpAny_mono (h _ [.ref x, vb] rfl (by rw [List.map_cons, List.map_cons, hvb]; rfl) s R) (fun _ _ z => wpAny_pure z) fun _ _ z => z)))
theorem Ar.in1 {n : Nat} (h : Ar A l (n + 1)) : Ar A.in1 l n := ⟨h.frames, h.handled, by have := h.depth; show A.depth + n < _; omega, by have := h.units; show A.units + 1 + 40 * n + 100 < _; omega⟩
theorem SI.own {value slice : Expr} {x C dx f : Addr} {ns : List (Str × V)} {k : V} {Q : V → MS → Prop} (G : BF w B) (h1 : σ x = some (IN C dx)) (h2 : σ dx = some (ID ns))
    (h : CL w B os l A.in1 (.ref f) [.ref x, k] Q E σ)
    (hs : findIn (Kd w.params) (.ref C) "__getitem__" = some (some (.ref f)) := by kernel_rfl!) (hf : fnIn (Kd w.params) f = true := by kernel_rfl!) (hfn : isFn (Kd w.params) (.ref f) = true := by kernel_rfl!)
    (hsl : ∀ o i, subscripted slice true o i = runValue (.builtin "lifetime.subscript" ⟨[o, i], []⟩) := by intro _ _; with_unfolding_all rfl) : SI w B os l A value slice (.ref x) k Q E σ := fun va vb ha hb s R => by
  rw [er_ref ha]
  obtain ⟨od, arr, n, rfl, hod, hes, I⟩ := inst_at R h1 h2
  have X := G.kd.keeps R.old
  unfold fnIn at hf
  split at hf
  · rename_i e
    unfold subscriptTail getitemInPython
    refine wpAny_bind (wpAny_bind (wpAny_bind (I.type.here ((looks_findIn X hs).here ?_))))
    dsimp only
    refine wpAny_bind (wpAny_load (X _ _ e) (wpAny_pure ?_))
    dsimp only
    rw [hsl]
    refine wpAny_bind (wpAny_runValue (codeAny_builtin entry_sub ?_))
    unfold Builtin.«lifetime.subscript»
    refine wpAny_bind (special_fn X I hs (beq_iff_eq.mp hfn) (wpAny_mono (h _ [.ref x, vb] rfl (by rw [List.map_cons, List.map_cons, hb]; rfl) s R) (fun v s' z => ?_) fun _ _ z => z))
    refine wpAny_pure ?_
    show wpAny (model pw w) A (letTemporaryGo value (.ref x) v >>= fun _ => pure v) _ _ s'
    exact wpAny_bind (wpAny_letTemporaryGo (wpAny_pure z))
  · cases hf
end
end Mine
end
section
open PySem PySem.W PySem.Calls PyProof.Rows PySem.Builtin
namespace Mine
noncomputable def IX (C dx : Addr) (D : Data) : O := .pr fun o => o = { cls := .ref C, dict := some dx, data := D }
noncomputable def XO (C : Addr) (D : Data) : O := .pr fun o => o = { cls := .ref C, dict := none, data := D }
section
variable {w : World} {B : Heap} {os : OsState} {l : List Env} {A : Around} {σ : MS} {E : Value → MS → Prop} {env : Env} {s : Shared}
theorem inst_atX (R : Rel w B os l σ s) {x C dx : Addr} {D : Data} {es : List (Str × V)} (hD : notCls { cls := .ref C, dict := some dx, data := D } = true) (h1 : σ x = some (IX C dx D)) (h2 : σ dx = some (ID es)) :
    ∃ od, s.heap.get? dx = some od ∧ InstAt s.heap x { cls := .ref C, dict := some dx, data := D } C (some od) := by
  obtain ⟨_, o, ho, rfl⟩ := R.known _ _ h1
  obtain ⟨_, od, hod, arr, n, rfl, hes⟩ := R.known _ _ h2
  exact ⟨_, hod, ho, rfl, hD, hod⟩
theorem storeId {dx : Addr} {es : List (Str × V)} {attr : Str} {tk : Tok} {v : Value} (h2 : σ dx = some (ID es)) (hn : es.lookup attr = none) (hz : es.length ≤ 100) :
    W w B os l A (ObjectAttr.storeInDict dx (.str attr tk) attr v) (fun f σ' => f = .done (.ret .none) ∧ σ' = upd σ dx (ID (es ++ [(attr, er v)]))) E σ := fun s R => by
  obtain ⟨_, od, hod, arr, n, rfl, hes⟩ := R.known _ _ h2
  refine wpAny_bind (wpAny_pure (wpAny_bind ?_))
  unfold nsSet
  refine wpAny_bind (wpAny_bind (wpAny_askSetting (wpAny_pure (wpAny_bind (wpAny_mkText (wpAny_bind (wpAny_loadPart hod ?_)))))))
  obtain ⟨f1, f2⟩ := find_keyV attr _ _ hes
  rw [hn] at f1
  have f1' : arr.toList.find? (·.key.isStr attr) = none := by cases q : arr.toList.find? (·.key.isStr attr) with | none => rfl | some e => rw [q] at f1; cases f1
  have c : (!arr.any (·.key.isStr attr) && arr.any (·.refKey)) = false := by rw [← Array.any_toList, ← Array.any_toList, f2, Bool.and_false]
  dsimp only
  rw [aRefKeyMayBeTheName_at, c]
  refine wpAny_updatePart hod ?_
  have hput : Obj.putName attr (PyData.keyHash w.params attr) (.str attr s.toks) v { cls := .type "dict", dict := none, data := .dict arr n } = { cls := .type "dict", dict := none, data := .dict (arr.push ⟨PyData.keyHash w.params attr, .str attr s.toks, v⟩) (n + 1) } := by
    rw [Obj.putName_eq]
    unfold Obj.putNameByArray
    simp only
    have : arr.findIdx? (·.key.isStr attr) = none := by
      rw [Array.findIdx?_eq_none_iff]
      intro e he
      have := List.find?_eq_none.mp f1' e (Array.mem_def.mp he)
      simpa using this
    rw [this]
  have hg : (s.heap.update dx (Obj.putName attr (PyData.keyHash w.params attr) (.str attr s.toks) v)).get? dx = some { cls := .type "dict", dict := none, data := .dict (arr.push ⟨PyData.keyHash w.params attr, .str attr s.toks, v⟩) (n + 1) } := by
    rw [Heap.get?_update_self _ hod (by rw [hput]; rfl), hput]
  refine wpAny_bind (wpAny_lookBehind hg (pastItsLine_dict (by
    have := congrArg List.length hes
    simp only [List.length_map, Array.length_toList] at this
    rw [Array.size_push, sizeLine_eq]; omega)) ?_)
  refine wpAny_pure ?_
  refine ⟨_, R.turn (o' := ID (es ++ [(attr, er v)])) h2 (Heap.SameBut.update _ _ _) ⟨_, hg, _, _, rfl, ?_⟩ _ (fun m e => by cases e), rfl, rfl⟩
  rw [Array.toList_push, List.map_append, hes, List.map_append]
  rfl
structure StoresIn (K : Frag) (C : Addr) (attr : Str) : Prop where
  sets : findIn K (.ref C) "__setattr__" = some (some (.builtin "object.__setattr__"))
  cls : ∃ cd, clsIn K C = some cd ∧ cd.hasDict = true ∧ cd.mro.isEmpty = false ∧ cd.mro.contains (.type "object") = true ∧ ∀ self, refuseLoop self "__setattr__" cd.mro = pure ()
  taker : takerIn K C attr = some none
theorem StoresIn.of {K : Frag} {C : Addr} {attr : Str} {bm : List Value} (cs : List Addr) (h1 : findIn K (.ref C) "__setattr__" = some (some (.builtin "object.__setattr__"))) (h2 : (clsIn K C).map (fun cd => (cd.mro, cd.hasDict)) = some (cs.map Value.ref ++ bm, true)) (h5 : bm.contains (.type "object") = true)
    (h6 : ∀ self, refuseLoop self "__setattr__" bm = pure ()) (h7 : takerIn K C attr = some none) : StoresIn K C attr := by
  obtain ⟨cd, h2', h4⟩ := Option.map_eq_some_iff.mp h2
  injection h4 with h4 h3
  refine ⟨h1, ⟨cd, h2', h3, ?_, ?_, fun self => ?_⟩, h7⟩
  · rw [h4]; cases cs with
    | nil => cases bm with
      | nil => cases h5
      | cons _ _ => rfl
    | cons _ _ => rfl
  · rw [h4]
    simp only [List.contains_eq_mem, List.mem_append, decide_eq_true_eq] at h5 ⊢
    exact .inr h5
  · rw [h4]
    clear h4 h2
    induction cs with
    | nil => exact h6 self
    | cons c cs ih => rw [List.map_cons, List.cons_append, refuseLoop_ref]; exact ih
theorem osaX {K : Frag} {x C : Addr} {ox : Obj} {od : Option Obj} {name : Str} {tk : Tok} {v : Value} {R : Result → Shared → Prop} (X : K.In s.heap) (I : W.InstAt s.heap x ox C od) (hS : StoresIn K C name)
    (h : ∀ b, wpAny (model pw w) A.in1 (ObjectAttr.storeInOwnDict (.ref x) (.ref C) (.str name tk) name v b)
      (fun fin s' => match fin with | .done f => R (.ok f) s' | .again c' => c'.quiet = true ∧ codeAny (model pw w) A c' R s') (fun e s' => R (.error e) s') s) :
    codeAny (model pw w) A (.call (.builtin "object.__setattr__") ⟨[.ref x, .str name tk, v], []⟩) R s := by
  have SF := PySem.F.store_object
  obtain ⟨k1, ⟨cd, hc, hd, ne, ho, hr⟩, ht⟩ := hS
  have sub : Looks (model pw w) s.heap (isInstance (.ref x) (.type "object")) true := I.type.andThen (looks_mroIn X (by unfold mroIn; rw [hc, Option.bind_some, if_neg (by rw [ne]; decide), ho]))
  refine codeAny_call_builtin SF.slot.plain SF.entry (@check_slot (model pw w) _ _ s "object.__setattr__" "object" "__setattr__" (.ref x) [.str name tk, v] [] _ SF.kind SF.split sub (SF.args (.ref x) (.str name tk) v) ?_)
  obtain ⟨attr, ha, hr'⟩ := Option.bind_eq_some_iff.mp ht
  have hm : Looks (model pw w) s.heap (mroOf (.ref C)) cd.mro := (looks_clsIn X hc).andThen .now
  have L3 : Looks (model pw w) s.heap (ObjectAttr.storeTaker? attr) none := by
    cases attr with
    | none => exact .now
    | some a =>
      obtain ⟨b, hb, hb'⟩ := Option.map_eq_some_iff.mp hr'
      refine (looks_takesIn X hb).andThen ?_
      cases b with
      | true => cases hb'
      | false => exact .now
  rw [osa_eq, refuse_eq]
  refine wpAny_bind (wpAny_bind (I.type.here (wpAny_bind (hm.here ?_))))
  rw [hr]
  refine wpAny_pure (wpAny_bind (I.type.here (wpAny_bind ((looks_findIn X ha).here (wpAny_bind (L3.here ?_))))))
  exact h _
theorem SS.assignAttrX {o : Expr} {attr : Str} {pos' pos : Pos} {value : Expr} {rest : List Stmt} {Q : Fl → MS → Prop} (G : BF w B)
    (h : EV w B os l A env value (fun v σ₁ => EV w B os l A env o (fun ov σ₂ => ∃ x C dx D es, ov = .ref x ∧ notCls { cls := .ref C, dict := some dx, data := D } = true ∧ σ₂ x = some (IX C dx D) ∧ σ₂ dx = some (ID es) ∧ es.lookup attr = none ∧ es.length ≤ 100 ∧
      StoresIn (Kd w.params) C attr ∧ SS w B os l A env rest Q E (upd σ₂ dx (ID (es ++ [(attr, v)])))) E σ₁) E σ)
    (hs : swapsWith value (some (.Attribute o attr pos')) pos.line env = pure false := by rfl) : SS w B os l A env (.Assign [.Attribute o attr pos'] value pos :: rest) Q E σ := by
  refine SS.consNx fun s R => plainObj_wpAny_Assign_Attribute (wpAny_mono (h s R) (fun v s₁ ⟨σ₁, R₁, h₁⟩ => wpAny_mono (h₁ s₁ R₁) (fun ov s₂ hq1 => ?_) fun _ _ x => x) fun _ _ x => x) hs
  obtain ⟨σ₂, R₂, x, C, dx, D, es, hov, hD, h1, h2, hn, hz, hS, hq⟩ := hq1
  rw [er_ref hov]
  obtain ⟨od, hod, I⟩ := inst_atX R₂ hD h1 h2
  have X := G.kd.keeps R₂.old
  refine set_plain X I hS.sets (osaX (s := { s₂ with toks := s₂.toks + 1 }) X I hS fun b => ?_)
  have R₃ := R₂.toks (s₂.toks + 1)
  obtain ⟨cd, hc, hd', -⟩ := hS.cls
  obtain ⟨hx, hcl, hn', -⟩ := I
  refine wpAny_bind (wpAny_pure (wpAny_bind (wpAny_bind (wpAny_loadPart hx (wpAny_bind (looks_clsIn X hc _ _ _ _ (fun _ _ e => e) ?_))))))
  rw [hd']
  refine wpAny_pure (a := some dx) ?_
  refine wpAny_mono (storeId (E := E) h2 hn hz _ R₃) (fun f s₄ hq1 => ?_) fun _ _ x => x
  obtain ⟨σ₄, R₄, hf, hσ⟩ := hq1
  subst hf hσ
  exact ⟨_, R₄, hq⟩
theorem SS.assignAttr0 {o : Expr} {attr : Str} {pos' pos : Pos} {value : Expr} {rest : List Stmt} {Q : Fl → MS → Prop} (G : BF w B)
    (h : EV w B os l A env value (fun v σ₁ => EV w B os l A env o (fun ov σ₂ => ∃ x C D, ov = .ref x ∧ (∀ c, D ≠ .cls c) ∧ (∀ o : Obj, o.data = D → o.isFreed = false) ∧ σ₂ x = some (XO C D) ∧
      StoresIn (Kd w.params) C attr ∧ ∀ dx, σ₂ dx = none → B.get? dx = none → SS w B os l A env rest Q E (upd (upd σ₂ x (IX C dx D)) dx (ID [(attr, v)]))) E σ₁) E σ)
    (hs : swapsWith value (some (.Attribute o attr pos')) pos.line env = pure false := by rfl) : SS w B os l A env (.Assign [.Attribute o attr pos'] value pos :: rest) Q E σ := by
  refine SS.consNx fun s R => plainObj_wpAny_Assign_Attribute (wpAny_mono (h s R) (fun v s₁ ⟨σ₁, R₁, h₁⟩ => wpAny_mono (h₁ s₁ R₁) (fun ov s₂ hq1 => ?_) fun _ _ x => x) fun _ _ x => x) hs
  obtain ⟨σ₂, R₂, x, C, D, hov, hD, hfr, h1, hS, hq⟩ := hq1
  rw [er_ref hov]
  obtain ⟨_, ox, hox, rfl⟩ := R₂.known _ _ h1
  have hnc : notCls { cls := .ref C, dict := none, data := D } = true := by
    cases D <;> first | exact absurd rfl (hD _) | rfl
  have I : W.InstAt s₂.heap x { cls := .ref C, dict := none, data := D } C none := ⟨hox, rfl, hnc, trivial⟩
  have X := G.kd.keeps R₂.old
  refine set_plain X I hS.sets (osaX (s := { s₂ with toks := s₂.toks + 1 }) X I hS fun b => ?_)
  have R₃ := R₂.toks (s₂.toks + 1)
  obtain ⟨cd, hc, hd', -⟩ := hS.cls
  have Rn := R₃.new (a := s₂.heap.objs.size) (o := ID []) (h' := s₂.heap.push { cls := .type "dict", data := .dict #[] }) (fun b o h => Heap.get?_push_of_some _ h) (get_none s₂) ⟨_, Heap.get?_push_size _ rfl, _, _, rfl, rfl⟩ (s₂.toks + 1)
  have hne : x ≠ s₂.heap.objs.size := fun z => by rw [z, get_none s₂] at hox; cases hox
  have hox' := Heap.get?_push_of_some { cls := .type "dict", data := .dict #[] } hox
  have hg : ((s₂.heap.push { cls := .type "dict", data := .dict #[] }).update x fun o => { cls := o.cls, dict := some s₂.heap.objs.size, data := o.data, slots := o.slots }).get? x = some { cls := .ref C, dict := some s₂.heap.objs.size, data := D } :=
    Heap.get?_update_self _ hox' (hfr _ rfl)
  have h1n : upd σ₂ s₂.heap.objs.size (ID []) x = some (XO C D) := by rw [upd_ne _ _ hne]; exact h1
  have Rt := Rn.turn (o' := IX C s₂.heap.objs.size D) h1n (Heap.SameBut.update _ _ _) ⟨_, hg, rfl⟩ (s₂.toks + 1) (fun m e => by cases e)
  have fr := R₂.fresh
  rw [upd_comm hne.symm] at Rt
  have tail : wpAny (model pw w) A.in1 (do
      let d ← alloc { cls := .type "dict", data := .dict #[] }
      update x fun o => { cls := o.cls, dict := some d, data := o.data, slots := o.slots }
      dictMade (.ref C) x d) (fun r s' => r = some s₂.heap.objs.size ∧ Rel w B os l (upd (upd σ₂ x (IX C s₂.heap.objs.size D)) s₂.heap.objs.size (ID [])) s') (fun _ _ => False) { s₂ with toks := s₂.toks + 1 } := by
    refine wpAny_bind (wpAny_alloc (wpAny_bind (wpAny_update hox' ?_)))
    exact wpAny_pure ⟨rfl, Rt⟩
  have go : wpAny (model pw w) A.in1 (instanceDict x true) (fun r s' => r = some s₂.heap.objs.size ∧ Rel w B os l (upd (upd σ₂ x (IX C s₂.heap.objs.size D)) s₂.heap.objs.size (ID [])) s') (fun _ _ => False) { s₂ with toks := s₂.toks + 1 } := by
    unfold instanceDict
    refine wpAny_bind (wpAny_loadPart hox ?_)
    dsimp only
    refine wpAny_bind (looks_clsIn X hc _ _ _ _ (fun _ _ e => e) ?_)
    rw [hd']
    cases D <;> first | exact absurd rfl (hD _) | exact tail
  refine wpAny_bind (wpAny_pure (wpAny_bind (wpAny_mono go (fun r s₃ hq1 => ?_) fun _ _ z => z.elim)))
  obtain ⟨hr, R₄⟩ := hq1
  subst hr
  refine wpAny_mono (storeId (E := E) (upd_self _ _ _) rfl (by decide) _ R₄) (fun f s₄ hq1 => ?_) fun _ _ x => x
  obtain ⟨σ₄, R₅, hf, hσ⟩ := hq1
  subst hf hσ
  refine ⟨_, R₅, ?_⟩
  rw [upd_upd]
  exact hq _ fr.1 fr.2
noncomputable def CC (w : World) (B : Heap) (os : OsState) (l : List Env) (A : Around) (f : V) (xs : List V) (Q : V → MS → Prop) (E : Value → MS → Prop) (σ : MS) : Prop :=
  ∀ vf vs, er vf = f → vs.map er = xs → ∀ s, Rel w B os l σ s → codeAny (model pw w) A (.call vf ⟨vs, []⟩) (fun r s' => match r with
    | .ok (.ret v) => ∃ σ', Rel w B os l σ' s' ∧ Q (er v) σ'
    | .ok _ => False
    | .error v => ∃ e cls σ', v = .ref e ∧ XR w B os l e cls σ' s' ∧ E cls σ') s
theorem CC.def {f : Addr} {fd : FuncData} {body : List Stmt} {xs : List V} {bs rbs : List (Str × V)} {n : Nat} {Q : V → MS → Prop} (hA : Ar A l (n + 1)) (G : BF w B) (hf : IsFn B f fd body)
    (hb : ∀ vs s, vs.map er = xs → Rel w B os l σ s → ∃ rb, BindsTo s fd ⟨vs, []⟩ rb ∧ rb.map (fun x => (x.1, er x.2)) = bs)
    (hcell : ∀ x ∈ fd.scope.names, x.2 ≠ .cell) (hloc : ∀ x ∈ bs, fd.scope.names.lookup x.1 = some .local) (hr : bs.reverse = rbs)
    (h : ∀ L A', σ L = none → Ar A' (callEnv fd L f :: l) n → SS w B os (callEnv fd L f :: l) A' (callEnv fd L f) body (fun fl σ' => Q (retV fl) σ') E (upd σ L (.ns (fr rbs)))) :
    CC w B os l A (.ref f) xs Q E σ := fun vf vs hvf hvs s R => by
  subst hr
  rw [er_ref hvf]
  obtain ⟨o, ho, hd⟩ := hf.there
  obtain ⟨rb, hbind, hrb⟩ := hb vs s hvs R
  refine codeAny_call_def (Nat.lt_of_le_of_lt (Nat.le_add_right _ _) hA.depth) (R.old _ _ ho) hd (G.lim.keeps R.old) (hf.code.keeps R.old) hf.body hbind hcell (fun x hx => ?_) (fun h₀ hns hk => ?_) hf.co hf.gen hf.kind
  · exact hloc (x.1, er x.2) (hrb ▸ List.mem_map.mpr ⟨x, hx, rfl⟩)
  have hfr := R.fresh
  have hA' : Ar (A.deeper (callEnv fd s.heap.objs.size f)) (callEnv fd s.heap.objs.size f :: l) n := hA.deep
  have hi : IsO w h₀ s.heap.objs.size (.ns fun x => bs.reverse.lookup x) := ⟨_, hns, fun x => by
    rw [← hrb, ← List.map_reverse]; exact lookup_er x _⟩
  have R₁ := R.new (a := s.heap.objs.size) hk (get_none s) hi (s.toks + rb.length)
  have R₂ : Rel w B os (callEnv fd s.heap.objs.size f :: l) (upd σ s.heap.objs.size (.ns fun x => bs.reverse.lookup x)) { s with heap := h₀, toks := s.toks + rb.length } := by
    obtain ⟨oL, es, ep, hL, hLd, _⟩ := hns
    refine ⟨R₁.gens, R₁.os, R₁.old, R₁.known, ⟨by rw [show (callEnv fd s.heap.objs.size f).scope = fd.scope from rfl, hf.kind]; decide, ⟨_, oL, rfl, hfr.2, hL, fun vs e => by rw [hLd] at e; cases e⟩, R₁.frames⟩, fun a o e hm => ?_⟩
    rcases List.mem_cons.mp hm with rfl | hm
    · rw [upd_self] at e; cases e; exact ⟨_, rfl⟩
    · exact R₁.nsf a o e hm
  refine wpAny_mono (h _ _ hfr.1 hA' _ R₂) (fun fl s' ⟨σ', R', q⟩ => ⟨σ', R'.pop, ?_⟩) fun v s' ⟨e, c, σ', hv, X, q⟩ => ?_
  · cases fl <;> exact q
  · subst hv
    exact XR.leave (A := A.deeper (callEnv fd s.heap.objs.size f)) hA'.frames rfl X fun s'' X' => ⟨e, c, σ', rfl, X', q⟩
theorem CL.make {C fI : Addr} {xs : List V} {n : Nat} {Q : V → MS → Prop} (G : BF w B) (hA : Ar A l (n + 1)) (h : ∀ x dx A', σ x = none → B.get? x = none → σ dx = none → B.get? dx = none → x ≠ dx → Ar A' l n →
      CC w B os l A' (.ref fI) (.ref x :: xs) (fun v σ' => v = .none ∧ Q (.ref x) σ') E (upd (upd σ dx (ID [])) x (IX C dx .plain)))
    (hm : makesIn (Kd w.params) C = true := by kernel_rfl!) (hi : findIn (Kd w.params) (.ref C) "__init__" = some (some (.ref fI)) := by kernel_rfl!) (hf : typeIn (Kd w.params) (.ref fI) = some (.type "function") := by kernel_rfl!) :
    CL w B os l A (.ref C) xs Q E σ := fun vf vs hvf hvs s R => by
  rw [er_ref hvf]
  have X := G.kd.keeps R.old
  obtain ⟨hh, g, d, t, os'⟩ := s
  have R₁ := R.new (a := hh.objs.size) (o := ID []) (h' := hh.push emptyDict) (fun b o h => Heap.get?_push_of_some _ h) (get_none _) ⟨_, Heap.get?_push_size _ rfl, _, _, rfl, rfl⟩ t
  have R₂ := R₁.new (a := (hh.push emptyDict).objs.size) (o := IX C hh.objs.size .plain) (h' := (hh.push emptyDict).push (instObj C hh.objs.size)) (fun b o h => Heap.get?_push_of_some _ h) (get_none ⟨hh.push emptyDict, g, d, t, os'⟩) ⟨_, Heap.get?_push_size _ rfl, rfl⟩ t
  have f1 := R.fresh
  have f2 := R₁.fresh
  have hne : hh.objs.size + 1 ≠ hh.objs.size := by omega
  rw [Heap.size_push] at R₂ f2
  have f2' : σ (hh.objs.size + 1) = none := by have := f2.1; rw [upd_ne _ _ hne] at this; exact this
  have hA' : Ar (A.under (.builtin "type.__call__" ⟨.ref C :: vs, []⟩)) l n := by
    refine ⟨(show (A.under (.builtin "type.__call__" ⟨.ref C :: vs, []⟩)).frames = A.frames from rfl).trans hA.frames, hA.handled, ?_, ?_⟩
    · show A.depth + 1 + n < _; have := hA.depth; omega
    · show A.units + 1 + 40 * n + 100 < _
      have := hA.units
      omega
  refine wpAny_call (make_core (makes_of X hm) (looks_findIn X hi) (fun self => bind_fn X self hf) (.inl rfl) ?_)
  refine codeAny_mono (h _ _ _ f2' f2.2 f1.1 f1.2 hne hA' (.ref fI) (.ref (hh.objs.size + 1) :: vs) rfl (by rw [List.map_cons, hvs]; rfl) _ R₂) fun r s' z => ?_
  rcases r with e | (v | _ | _ | _) <;> first | exact z.elim | exact z | skip
  · obtain ⟨σ', R', hv, hq⟩ := z
    exact ⟨er_none hv, σ', R', hq⟩
end
end Mine
end
section
open PySem PySem.W PySem.Calls PyProof.Rows PySem.Builtin
namespace Mine
section
variable {prog : Program} {w : World} {A : Around} {R : Result → Shared → Prop} {h : Heap} {g : Array GenState} {d : Drawn} {t : Nat} {os : OsState}
variable {nm q : Str} {C N : Addr} {bs bm : List Value} {hdct : Bool} {sn : List Str} {sub : List Value} {ab : Bool} {col : Option Bool} {dd : Option Addr} {k0 k1 k2 k3 k5 : Option Value} {B newId initId : String}
theorem exc_make (F : ExcBaseFacts B newId initId bm) {mN : Str → Option Value} {rest : List Value} {fI : Addr} {oI : Obj}
    (hC : h.get? C = some (excClassObj nm q C N bs bm hdct sn sub ab col dd k0 k1 k2 k3 k5 newId)) (hn : h.Ns N mN) (hni : mN "__init__" = some (.ref fI)) (hfo : h.get? fI = some oI) (hfc : oI.cls = .type "function")
    (hq : codeAny (model prog w) (A.under (.builtin "type.__call__" ⟨.ref C :: rest, []⟩)) (.call (.ref fI) ⟨.ref (h.objs.size + 1) :: rest, []⟩) (InitBack (h.objs.size + 1) R)
      ⟨(h.push { cls := .type "tuple", data := .seq rest.toArray }).push { cls := .ref C, data := .fields #[.ref h.objs.size, .none, .none, .none, .bool false, .none] }, g, d, t, os⟩) (hrest : rest.length ≤ sizeLine) :
    codeAny (model prog w) A (.call (.ref C) ⟨rest, []⟩) R ⟨h, g, d, t, os⟩ := by
  have f1 := tc_lookup
  have f2 := tc_bind (.ref C)
  have hT : (⟨h, g, d, t, os⟩ : Shared).TypeIs (.ref C) "type" := ⟨_, hC, rfl⟩
  refine codeAny_of_tree ?_
  show wpAny _ _ (callAny (.ref C) _) _ _ _
  repeat (any_goals (first | assumption | with_reducible refine wpAny_loadPart_at hC ?_ | wp_step))
  refine ⟨rfl, ?_⟩
  refine codeAny_call_builtin_at (Code.quiet_builtin _ (by decide +kernel)) entry_typeCall (wpAny_check_type_call_sub hC ?_)
  unfold Builtin.«type.__call__»
  repeat (first | with_reducible refine wpAny_loadPart_at hC ?_ | with_reducible refine wpAny_madeBy_exc hC ?_ | wp_step)
  refine codeAny_call_builtin_code (Code.quiet_builtin _ F.quiet) (wpAny_check_new_sub F hC ?_)
  refine codeAny_exc_new_sub F hC ?_ hrest
  show wpAny _ _ _ _ _ ⟨(h.push { cls := .type "tuple", data := .seq rest.toArray }).push { cls := .ref C, data := .fields #[.ref h.objs.size, .none, .none, .none, .bool false, .none] }, g, d, t, os⟩
  have hC₁ := Heap.get?_push_of_some { cls := .ref C, data := .fields #[.ref h.objs.size, .none, .none, .none, .bool false, .none] }
    (Heap.get?_push_of_some { cls := .type "tuple", data := .seq rest.toArray } hC)
  have hn₁ : ((h.push { cls := .type "tuple", data := .seq rest.toArray }).push { cls := .ref C, data := .fields #[.ref h.objs.size, .none, .none, .none, .bool false, .none] }).Ns N mN :=
    let ⟨o, es, ep, e, r⟩ := hn; ⟨o, es, ep, Heap.get?_push_of_some _ (Heap.get?_push_of_some _ e), r⟩
  have hget : ((h.push { cls := .type "tuple", data := .seq rest.toArray }).push
      { cls := .ref C, data := .fields #[.ref h.objs.size, .none, .none, .none, .bool false, .none] }).get? (h.objs.size + 1) = some
      { cls := .ref C, data := .fields #[.ref h.objs.size, .none, .none, .none, .bool false, .none] } := by heap_get
  have hcC : (Value.ref C :: bm).contains (.ref C) = true := by simp
  unfold isInstance
  repeat (first | with_reducible refine wpAny_loadPart_at hget ?_ | (with_reducible refine wpAny_isSubtype_exc hC₁ ?_; rw [hcC]) | wp_step)
  show wpAny _ _ (typeLookup (.ref C) _) _ _ _
  refine wpAny_typeLookup_exc hC₁ hn₁ F.mroIs F.init.lookup ?_
  rw [hni]
  have hfo' := Heap.get?_push_of_some { cls := .ref C, data := .fields #[.ref h.objs.size, .none, .none, .none, .bool false, .none] }
    (Heap.get?_push_of_some { cls := .type "tuple", data := .seq rest.toArray } hfo)
  refine wpAny_holding (wpAny_bind (wpAny_bindSpecial_def hfo' hfc ?_))
  refine wpAny_bind (wpAny_call (codeAny_mono hq fun r s' z => ?_))
  rcases r with e | (v | _ | _ | _) <;> first | exact z.elim | exact z | skip
  obtain ⟨rfl, z⟩ := z
  exact wpAny_pure (wpAny_pure z)
end
section
variable {M : Model} {A : Around} {E : Value → Shared → Prop} {s : Shared} {env : Env} {K : Frag} {C : Addr}
theorem Raise_own {e : Expr} {pos : Pos} {Q : Flow → Shared → Prop} (hh : A.handled = none) (hi : subIn K (.ref C) (.type "BaseException") = some true) (ht : typeIn K (.ref C) = some (.type "type"))
    (h : wpAny M A (eval e env) (fun v s₁ => ∃ a ob vs, v = .ref a ∧ s₁.heap.get? a = some ob ∧ ob.cls = .ref C ∧ ob.data = .fields vs ∧ vs[1]? = some .none ∧ K.In s₁.heap ∧ E (.ref a) s₁) E s) : wpAny M A (exec (.Raise (some e) none pos) env) Q E s := by
  show wpAny M A (do standAt pos; raiseStmt env (some (do let v ← eval e env; standAt pos; pure v)) none) Q E s
  refine wpAny_bind (wpAny_standAt ?_)
  unfold raiseStmt
  dsimp only
  refine wpAny_bind (wpAny_bind (wpAny_mono h (fun v s₁ h₁ => wpAny_bind (wpAny_standAt (wpAny_pure ?_))) fun _ _ x => x))
  obtain ⟨a, ob, vs, rfl, ha, hcls, hd, h1, X, hE⟩ := h₁
  have hnt : ∀ {Q' : Bool → Shared → Prop}, Q' false s₁ → wpAny M A (isType (.ref a)) Q' E s₁ := by
    intro Q' hq
    simp only [isType, loadHead]
    refine wpAny_bind (wpAny_loadPart ha ?_)
    rw [hd]; exact wpAny_pure hq
  have LT : Looks M s₁.heap (typeOf (.ref a)) (.ref C) := hcls ▸ (Looks.ld ha).andThen .now
  refine wpAny_bind (wpAny_pure ?_)
  dsimp only
  refine wpAny_bind (wpAny_holding ?_)
  unfold excFromValue isExcClass
  refine wpAny_bind (wpAny_bind (hnt ?_))
  simp only [Bool.false_eq_true, if_false]
  refine wpAny_pure ?_
  simp only [Bool.false_eq_true, if_false]
  refine wpAny_bind ((show Looks M s₁.heap (isInstance (.ref a) (.type "BaseException")) true from LT.andThen (looks_subIn X hi)).here ?_)
  simp only [if_true]
  refine wpAny_pure ?_
  refine wpAny_bind (hnt ?_)
  simp only [Bool.false_eq_true, if_false]
  unfold raisedInstance
  refine wpAny_bind (wpAny_bind (LT.here (wpAny_bind ((looks_typeIn X ht).here ?_))))
  rw [if_pos (by decide)]
  refine wpAny_pure ?_
  unfold setFlight raiseNew
  refine wpAny_bind (wpAny_bind (wpAny_field ha hd h1 ?_))
  rw [if_neg (by decide)]
  refine wpAny_pure (wpAny_bind (wpAny_handled ?_))
  rw [hh]
  first
    | exact wpAny_throw hE
    | exact wpAny_bind (wpAny_pure (wpAny_throw hE))
end
end Mine
end
section
open PySem PySem.W PySem.Calls PyProof.Rows
namespace Mine
noncomputable def nextV (ns : List Int) (q : Int) (p : Nat) (size : Int) : Int :=
  match ns[p]? with
  | some i => (if i < 0 then -i else i).fmod size
  | none => ((q + p * 13).fdiv (1 + (p : Int).fmod 3)).fmod size
section
variable {w : World} {B : Heap} {os : OsState} {l : List Env} {A : Around} {σ : MS} {E : Value → MS → Prop}
theorem next_ {n : Nat} {st scr : Addr} {ns : List Int} {p : Nat} {q size : Int} {Q : V → MS → Prop} (hA : Ar A l (n + 1)) (G : BF w B) (h1 : σ st = some (.list [.ref scr, .int p, .int q])) (h2 : σ scr = some (.list (ns.map V.int)))
    (hp : p < 1000000) (hns : ns.length ≤ 60) (hz : 0 < size) (h : Q (.int (nextV ns q p size)) (upd σ st (.list [.ref scr, .int (p + 1), .int q]))) : CL w B os l A (.ref 298) [.ref st, .int size] Q E σ := by
  refine call298 hA G fun L A' hL hA' => ?_
  have e1 := ne_of_none hL h1
  have e2 := ne_of_none hL h2
  have hne : scr ≠ st := by
    rintro rfl; rw [h1] at h2
    have := congrArg (fun o => match o with | some (O.list (x :: _)) => x | _ => V.none) h2
    cases ns <;> simp at this
  refine SS.assign <| EV.sub <| EV.name uu rfl <| EV.int <| SI.list (un hL h1) (by decide) (by decide) rfl ⟨_, _, _, rfl, rfl, ?_⟩
  refine SS.assignSub <| EV.binop <| EV.name uu rfl <| EV.int <| BN.addI <| EV.name uu rfl <| EV.int fun a b c ha hb hc => setList ha hb hc (un hL h1) (by decide) (by decide) (by simp) ?_
  show SS _ _ _ _ _ _ _ _ _ (upd (upd σ L _) st (.list [.ref scr, .int (p + 1), .int q]))
  rw [upd_comm e1.symm]
  generalize hτ : upd σ st (.list [.ref scr, .int (p + 1), .int q]) = τ at h ⊢
  have hL' : τ L = none := by rw [← hτ, upd_ne _ _ e1.symm]; exact hL
  have h1' : τ st = some (.list [.ref scr, .int (p + 1), .int q]) := by rw [← hτ, upd_self]
  have h2' : τ scr = some (.list (ns.map V.int)) := by rw [← hτ, upd_ne _ _ hne]; exact h2
  refine SS.if <| TR.cmp <| EV.name uu rfl <| EV.callBi G (by rfl) (by rfl) (by rfl) <| SQ.cons <| EV.sub <| EV.name uu rfl <| EV.int <| SI.list (un hL' h1') (by decide) (by decide) rfl <|
    SQ.nil <| CL.lenList (un hL' h2') (by simp; omega) <| CM.ltI <| TU.bool ⟨fun hlt => ?_, fun hlt => ?_⟩
  · replace hlt : p < ns.length := by simpa using hlt
    refine SS.ret <| EV.binop <| EV.callBi G (by rfl) (by rfl) (by rfl) <| SQ.cons <| EV.sub <| EV.sub <| EV.name uu rfl <| EV.int <| SI.list (un hL' h1') (by decide) (by decide) rfl <|
      EV.name uu rfl <| SI.list (un hL' h2') (by omega) (by omega) (v := .int ns[p]) (by simp [hlt]) <| SQ.nil <| CL.abs <| EV.name uu rfl <| BN.modI hA'.handled (by omega) ?_
    refine ⟨τ, Le.fresh hL', ?_⟩
    simpa [nextV, hlt, retV] using h
  · replace hlt : ¬ p < ns.length := by simpa using hlt
    refine SS.nxt ?_
    have hm0 : 0 ≤ (p : Int).fmod 3 := Int.fmod_nonneg (by omega) (by omega)
    have hm1 : (p : Int).fmod 3 < 3 := Int.fmod_lt_of_pos _ (by omega)
    refine SS.ret <| EV.binop <| EV.binop <| EV.binop <| EV.sub <| EV.name uu rfl <| EV.int <| SI.list (un hL' h1') (by decide) (by decide) rfl <|
      EV.binop <| EV.name uu rfl <| EV.int <| BN.mulI (.of_right (by decide)) <| BN.addI <| EV.binop <| EV.int <| EV.binop <| EV.name uu rfl <| EV.int <| BN.modI hA'.handled (by decide) <| BN.addI <| BN.divI hA'.handled (by omega) (by omega) <|
       EV.name uu rfl <| BN.modI hA'.handled (by omega) ?_
    refine ⟨τ, Le.fresh hL', ?_⟩
    rw [nextV, List.getElem?_eq_none (by omega)] at h
    exact h
end
end Mine
end
section
open PySem PySem.W PySem.Calls PyProof.Rows
namespace Mine
theorem boot_len : (bootBuiltins (Str.ofString "len")).map er = some (.bi "len") := by kernel_rfl!
theorem gl_len : gtab.lookup (Str.ofString "len") = none ∧ gmore.contains (Str.ofString "len") = false := ⟨by kernel_rfl!, by kernel_rfl!⟩
noncomputable def namesB : List (List UInt8) := [[114, 101, 102, 115, 47, 104, 101, 97, 100, 115, 47, 97], [114, 101, 102, 115, 47, 104, 101, 97, 100, 115, 47, 98], [72, 69, 65, 68], [114, 101, 102, 115, 47, 116, 97, 103, 115, 47, 97], [114, 101, 102, 115, 47, 115, 116, 97, 115, 104], [114, 101, 102, 115, 47, 104, 101, 97, 100, 115, 47, 97, 46, 108, 111, 99, 107], [114, 101, 102, 115, 47, 97], [114, 101, 102, 115, 47, 104, 101, 97, 100, 115, 47, 46, 120], [104, 101, 97, 100, 115, 47, 97], [114, 101, 102, 115, 47, 104, 101, 97, 100, 115, 47, 97, 46, 46, 98], [114, 101, 102, 115, 47, 104, 101, 97, 100, 115, 47, 64, 123, 120], [114, 101, 102, 115, 47, 104, 101, 97, 100, 115, 47, 97, 32, 98], [114, 101, 102, 115, 47, 120, 47, 97, 126]]
section
variable {w : World} {B : Heap} {os : OsState} {l : List Env} {A : Around} {σ : MS} {E : Value → MS → Prop}
theorem cutTo {x y : List UInt8} {lo hi : Option Int} {Q : V → MS → Prop} (e : cutB x lo hi = y) (h : Q (.byt y) σ) : kCut2 x Q lo hi σ := by
  subst e
  exact h
theorem ptN {env : Env} {Q : Option Int → MS → Prop} (h : Q Option.none σ) : PT w B os l A env Option.none Q E σ := h
theorem ptS {env : Env} {e : Expr} {Q : Option Int → MS → Prop} (h : EV w B os l A env e (kPt Q) E σ) : PT w B os l A env (some e) Q E σ := h
theorem ref_ {n : Nat} {v : V} {Q : V → MS → Prop} (hA : Ar A l (n + 1)) (G : BF w B) (h : Q v σ) : CL w B os l A (.ref 67) [v] Q E σ :=
  call67 hA G fun L A' hL hA' => by
    refine SS.ret <| EV.name uu rfl ?_
    exact ⟨σ, Le.fresh hL, h⟩
theorem objectID_ {n : Nat} {v : V} {Q : V → MS → Prop} (hA : Ar A l (n + 1)) (G : BF w B) (h : Q v σ) : CL w B os l A (.ref 53) [v] Q E σ :=
  call53 hA G fun L A' hL hA' => SS.ret <| EV.name uu rfl ⟨σ, Le.fresh hL, h⟩
theorem names_ {n : Nat} {Q : V → MS → Prop} (hA : Ar A l (n + 1)) (G : BF w B) (h : ∀ a, σ a = none → B.get? a = none → Q (.ref a) (upd σ a (.list (namesB.map V.byt)))) : CL w B os l A (.ref 290) [] Q E σ :=
  call290 hA G fun L A' hL hA' => by
    refine SS.ret ?_
    refine evList ?_
    iterate 13 (refine SQ.cons ?_; refine EV.byt ?_)
    refine SQ.nil ⟨by decide, fun a ha hB => ⟨upd σ a (.list (namesB.map V.byt)), Le.upd (Le.fresh hL), ?_⟩⟩
    exact h a (by
      by_cases q : a = L
      · subst q; exact hL
      · rw [upd_ne _ _ q] at ha; exact ha) hB
noncomputable def valuedB (x : List UInt8) : Bool := (x.take 5 == [114, 101, 102, 58, 32]) || ((x.length == 40 || x.length == 64) && x != [97, 98, 99])
theorem cut_to (x : List UInt8) (k : Nat) : cutB x none (some (k : Int)) = x.take k := by
  show (x.drop 0).take (clipAt x.length k - 0) = _
  rw [clipAt_nat]
  exact List.take_eq_take_min.symm
theorem cut_from (x : List UInt8) (k : Nat) : cutB x (some (k : Int)) none = x.drop k := by
  unfold cutB
  simp only [Option.elim]
  rw [clipAt_nat]
  rw [List.take_of_length_le (by simp)]
  by_cases h : k ≤ x.length
  · rw [Nat.min_eq_left h]
  · rw [Nat.min_eq_right (by omega), List.drop_of_length_le (by omega), List.drop_of_length_le (by omega)]
theorem valued_ {n : Nat} {x : List UInt8} {Q : V → MS → Prop} (hA : Ar A l (n + 1)) (G : BF w B) (hx : x.length ≤ 1000000) (h : Q (.bool (valuedB x)) σ) : CL w B os l A (.ref 329) [.byt x] Q E σ := by
  refine call329 hA G fun L A' hL hA' => ?_
  refine SS.ret <| evOr <| EV.cmp <| EV.cut <| EV.name uu rfl ⟨x, rfl, hx, ptN <| ptS <| EV.int ⟨5, rfl, EV.byt <| CM.eqB <| TU.bool ⟨fun h1 => ⟨σ, Le.fresh hL, ?_⟩, fun h1 => evBool1 <| evAnd <| EV.cmp <| EV.callBi G gl_len.1 gl_len.2 boot_len <| SQ.cons <| EV.name uu rfl <| SQ.nil <|
    CL.lenB (by omega) <| evTup <| SQ.cons <| EV.int <| SQ.cons <| EV.int <| SQ.nil ⟨by decide, fun t ht hB => CM.inTupI (ns := [40, 64]) uu <| TU.bool ⟨fun h2 => evBool1 <| EV.cmp <| EV.name (un ht uu) rfl <| EV.byt <| CM.neB ⟨σ, (Le.fresh hL).trans (Le.fresh ht), ?_⟩, fun h2 => ⟨σ, (Le.fresh hL).trans (Le.fresh ht), ?_⟩⟩⟩⟩⟩⟩
  all_goals have e5 : cutB x none (some 5) = x.take 5 := cut_to x 5
  all_goals rw [e5] at h1
  · rw [e5]
    have : valuedB x = true := by unfold valuedB; rw [h1]; rfl
    rw [this] at h
    rw [h1]; exact h
  · have h3 : (x.length == 40 || x.length == 64) = true := by simp at h2; simp; omega
    have : valuedB x = (x != [97, 98, 99]) := by unfold valuedB; rw [h1, h3]; rfl
    rw [this] at h
    exact h
  · have h3 : (x.length == 40 || x.length == 64) = false := by simp at h2; simp; omega
    have : valuedB x = false := by unfold valuedB; rw [h1, h3]; rfl
    rw [this] at h
    rw [h2]
    exact h
end
end Mine
end
section
open PySem PySem.W PySem.Calls PyProof.Rows PySem.Builtin
namespace Mine
section
variable {w : World} {B : Heap} {os : OsState} {l : List Env} {A : Around} {σ : MS} {E : Value → MS → Prop} {env : Env} {s : Shared} {e : Addr} {cls : Value}
theorem XR.newAt (R : Rel w B os l σ s) {oe : Obj} {vs : Array Value} {a0 : Value} (hσ : σ e = none) (hB : B.get? e = none) (hf : e ∉ l.filterMap (·.frame))
    (he : s.heap.get? e = some oe) (hc : oe.cls = cls) (hd : oe.data = .fields vs) (h1 : vs[1]? = some .none) (h0 : vs[0]? = some a0) : XR w B os l e cls σ s := by
  refine ⟨R.gens, R.os, hideAll s.heap (e :: l.filterMap (·.frame)), a0, fun b o q => ?_, fun b o q => of_hideAll _ q, hideAll_none _ (.head _), ?_, fun a o q => ⟨(R.known a o q).1, ?_⟩, .inl ⟨oe, vs, he, hc, hd, h1, h0⟩⟩
  · refine hideAll_get _ (R.old b o q) fun hm => ?_
    rcases List.mem_cons.mp hm with rfl | hm
    · rw [hB] at q; cases q
    · have := (R.frames.mem hm).1
      rw [q] at this; cases this
  · have hsub : ∀ {l' : List Env}, (∀ env ∈ l', env ∈ l) → Heap.FunFrames s.heap B l' → Heap.FunFrames s.heap (hideAll s.heap (e :: l.filterMap (·.frame))) l' := by
      intro l' hl' x
      induction l' with
      | nil => trivial
      | cons env r ih =>
        obtain ⟨a1, ⟨L, o, a2, a3, a4, a5⟩, a6⟩ := x
        exact ⟨a1, ⟨L, o, a2, hideAll_none _ (.tail _ (List.mem_filterMap.mpr ⟨env, hl' env (.head _), a2⟩)), a4, a5⟩, ih (fun e' he' => hl' e' (.tail _ he')) a6⟩
    exact hsub (fun _ h => h) R.frames
  · by_cases hm : a ∈ l.filterMap (·.frame)
    · obtain ⟨m, rfl⟩ := R.nsf a o q hm
      exact .inr ⟨m, rfl, (R.known a _ q).2⟩
    · refine .inl ((R.known a o q).2.of_get fun ob z => hideAll_get _ z fun hm' => ?_)
      rcases List.mem_cons.mp hm' with rfl | hm'
      · rw [hσ] at q; cases q
      · exact hm hm'
theorem CC.forget {f : V} {xs : List V} {Q : V → MS → Prop} (h : CC w B os l A f xs (fun a => Dn (Q a)) (fun c => Dn (E c)) σ) : CC w B os l A f xs Q E σ := fun vf vs h1 h2 s R =>
  codeAny_mono (h vf vs h1 h2 s R) fun r s' z => by
    rcases r with e | (_ | _ | _ | v) <;> first | exact z.elim | skip
    · obtain ⟨e, c, σ', hv, X, τ, hl, q⟩ := z; exact ⟨e, c, τ, hv, X.less hl, q⟩
    · obtain ⟨σ', R', τ, hl, q⟩ := z; exact ⟨τ, R'.less hl, q⟩
noncomputable abbrev excD (t : Addr) : Data := .fields #[.ref t, .none, .none, .none, .bool false, .none]
theorem stores84 (P : Params) : StoresIn (Kd P) 84 "ref" ∧ StoresIn (Kd P) 84 "depth" :=
  ⟨.of (bm := [.type "Exception", .type "BaseException", .type "object"]) [84] (by kernel_rfl!) (by kernel_rfl!) (by decide +kernel) PySem.F.store_Exception.passes (by kernel_rfl!), .of (bm := [.type "Exception", .type "BaseException", .type "object"]) [84] (by kernel_rfl!) (by kernel_rfl!) (by decide +kernel) PySem.F.store_Exception.passes (by kernel_rfl!)⟩
theorem stores281 (P : Params) : StoresIn (Kd P) 281 "_refs" ∧ StoresIn (Kd P) 281 "_peeled" :=
  ⟨.of (bm := [.type "object"]) [281, 204] (by kernel_rfl!) (by kernel_rfl!) (by decide +kernel) PySem.F.store_object.passes (by kernel_rfl!), .of (bm := [.type "object"]) [281, 204] (by kernel_rfl!) (by kernel_rfl!) (by decide +kernel) PySem.F.store_object.passes (by kernel_rfl!)⟩
theorem init81 {n : Nat} {x t : Addr} {a b : V} {Q : V → MS → Prop} (hA : Ar A l (n + 1)) (G : BF w B) (hx : σ x = some (XO 84 (excD t)))
    (h : ∀ dx, Q .none (upd σ x (IX 84 dx (excD t)))) : CC w B os l A (.ref 81) [.ref x, a, b] Q E σ := by
  refine CC.forget (CC.def (bs := [("self", .ref x), ("ref", a), ("depth", b)]) (rbs := [("depth", b), ("ref", a), ("self", .ref x)]) hA G (is81 G) (fun vs s hv _ => by
    obtain ⟨v0, v1, v2, rfl, h0, rfl, rfl⟩ := list3 hv
    exact ⟨[("self", v0), ("ref", v1), ("depth", v2)], BindsTo.of_eq (by kernel_rfl!), by rw [← h0]; rfl⟩) (by decide +kernel) (locs ["self", "ref", "depth"] (by rfl) (by decide +kernel)) rfl fun L A' hL hA' => ?_)
  have e1 := ne_of_none hL hx
  refine SS.assignAttr0 G <| EV.name uu rfl <| EV.name uu rfl ⟨x, 84, excD t, rfl, (fun c z => by cases z), fun o z => Obj.isFreed_of_fields z, un hL hx, (stores84 _).1, fun dx hdx hB => ?_⟩
  have ndx : dx ≠ L := fun z => by subst z; rw [upd_self] at hdx; cases hdx
  rw [upd_comm (Ne.symm e1), upd_comm (Ne.symm ndx)]
  refine SS.assignAttrX G <| EV.name uu rfl <| EV.name uu rfl ⟨x, 84, dx, excD t, [("ref", a)], rfl, rfl, ?_, ?_, rfl, Nat.le_of_ble_eq_true rfl, (stores84 _).2, ?_⟩
  · have ndx' : x ≠ dx := fun z => by subst z; rw [un hL hx] at hdx; cases hdx
    rw [upd_ne _ _ e1, upd_ne _ _ ndx', upd_self]
  · rw [upd_ne _ _ ndx, upd_self]
  · refine SS.nil ⟨upd σ x (IX 84 dx (excD t)), ?_, h dx⟩
    have hdx' : σ dx = none := by rw [upd_ne _ _ ndx] at hdx; exact hdx
    have ndx' : x ≠ dx := fun z => by subst z; rw [hx] at hdx'; cases hdx'
    rw [upd_comm (Ne.symm ndx), upd_upd]
    refine Le.over (Le.fresh ?_) ?_
    · rw [upd_ne _ _ ndx'.symm]; exact hdx'
    · rw [upd_ne _ _ (Ne.symm e1)]; exact hL
theorem raise84 {n : Nat} {x : Str} {np cpos pos : Pos} {es : List Expr} {rest : List Stmt} {Q : Fl → MS → Prop} (hA : Ar A l (n + 2)) (G : BF w B) (hn : NameIs w B env (.Name x np) (.ref 84))
    (h : SQ w B os l A env es (fun xs σ₁ => (∃ a b, xs = [a, b]) ∧ E (.ref 84) σ₁) E σ)
    (hs : backTo cpos (starEach es env) = es.map (fun e => (false, eval e env)) := by rfl) : SS w B os l A env (.Raise (some (.Call (.Name x np) es [] cpos)) none pos :: rest) Q E σ := by
  have h84 : B.get? 84 = some (o84 w.params) := G.ob 84 (o84 w.params) (by kernel_rfl!) (by decide) (by decide)
  have h83 : B.get? 83 = some (o83 w.params) := G.ob 83 (o83 w.params) (by kernel_rfl!) (by decide) (by decide)
  have h81 : B.get? 81 = some (o81 w.params) := G.ob 81 (o81 w.params) (by kernel_rfl!) (by decide) (by decide)
  have hN : B.Ns 83 (fun x => nsFind (match (o83 w.params).data with | .dict es _ => es | _ => #[]) x) := ns_of h83 rfl (by
    intro e he
    have he' : e ∈ (#[ent w.params (Str.ofString "__module__") 269 (.str (Str.ofString "dulwich.refs") 247), ent w.params (Str.ofString "__firstlineno__") 273 (.int 38 272), ent w.params (Str.ofString "__init__") 282 (.ref 81), ent w.params (Str.ofString "__static_attributes__") 285 (.ref 82), ent w.params (Str.ofString "__weakref__") 287 (.ref 85), ent w.params (Str.ofString "__doc__") 288 .none] : Array DictEntry) := he
    simp only [List.mem_toArray, List.mem_cons, List.not_mem_nil, or_false] at he'
    rcases he' with rfl | rfl | rfl | rfl | rfl | rfl <;> exact ⟨_, _, rfl⟩)
  refine SS.consNx fun s R => Raise_own (K := Kd w.params) (C := 84) hA.handled (by kernel_rfl!) (by kernel_rfl!) (wpAny_Call_NameR (hn A s _ _ R.old ?_))
  rw [hs]
  refine callWith_of (P := fun hp => (Kd w.params).In hp) (by rw [plain_any]; rfl) (fun hp X => keeps_K (K := Kd w.params) (by kernel_rfl!) hp X) (wpAny_mono (h.args s R) (fun a s₂ ⟨σ₂, R₂, vs, ha, ⟨⟨a1, b1, hvs⟩, h₂⟩⟩ => ⟨G.kd.keeps R₂.old, ?_⟩) fun _ _ x => x)
  subst ha
  show wpAny _ _ (call (.ref 84) vs) _ _ _
  obtain ⟨hh, g, d, t, os'⟩ := s₂
  have hlen : vs.length = 2 := by have := congrArg List.length hvs; simpa using this
  have R₃ := R₂.new (a := hh.objs.size) (o := .pr fun _ => True) (h' := hh.push { cls := .type "tuple", data := .seq vs.toArray }) (fun b o h => Heap.get?_push_of_some _ h) (get_none _) ⟨_, Heap.get?_push_size _ rfl, trivial⟩ t
  have R₄ := R₃.new (a := (hh.push { cls := .type "tuple", data := .seq vs.toArray }).objs.size) (o := XO 84 (excD hh.objs.size)) (h' := (hh.push { cls := .type "tuple", data := .seq vs.toArray }).push { cls := .ref 84, data := excD hh.objs.size }) (fun b o h => Heap.get?_push_of_some _ h) (get_none ⟨hh.push { cls := .type "tuple", data := .seq vs.toArray }, g, d, t, os'⟩) ⟨_, Heap.get?_push_size _ rfl, rfl⟩ t
  have f3 := R₂.fresh
  have f4 := R₃.fresh
  rw [Heap.size_push] at R₄ f4
  have hne : hh.objs.size + 1 ≠ hh.objs.size := by omega
  have f4' : σ₂ (hh.objs.size + 1) = none := by have := f4.1; rw [upd_ne _ _ hne] at this; exact this
  have hfr4 : hh.objs.size + 1 ∉ l.filterMap (·.frame) := fun hm => by
    obtain ⟨_, o, q, _⟩ := R₃.frames.mem hm
    have := get_none ⟨hh.push { cls := .type "tuple", data := .seq vs.toArray }, g, d, t, os'⟩
    simp only [Heap.size_push] at this
    rw [this] at q; cases q
  have hA' : Ar (A.under (.builtin "type.__call__" ⟨.ref 84 :: vs, []⟩)) l (n + 1) := by
    refine ⟨(show (A.under (.builtin "type.__call__" ⟨.ref 84 :: vs, []⟩)).frames = A.frames from rfl).trans hA.frames, hA.handled, ?_, ?_⟩
    · show A.depth + 1 + (n + 1) < _; have := hA.depth; omega
    · show A.units + 1 + 40 * (n + 1) + 100 < _
      have := hA.units
      omega
  refine wpAny_call (exc_make PySem.F.excBase_Exception (nm := Str.ofString "SymrefLoop") (q := Str.ofString "SymrefLoop") (C := 84) (N := 83) (bs := [.type "Exception"]) (hdct := true) (sn := []) (sub := []) (ab := false) (col := none) (dd := none) (k0 := some (.ref 68)) (k1 := none) (k2 := some (.str (Str.ofString "SymrefLoop") 262)) (k3 := some (.str (Str.ofString "SymrefLoop") 270)) (k5 := some (.bool true))
    (R₂.old _ _ h84) (hN.keeps R₂.old) (by kernel_rfl!) (R₂.old _ _ h81) rfl ?_ (by rw [hlen, sizeLine_eq]; decide))
  refine codeAny_mono (init81 (σ := upd (upd σ₂ hh.objs.size (.pr fun _ => True)) (hh.objs.size + 1) (XO 84 (excD hh.objs.size))) (E := E) (a := a1) (b := b1) (Q := fun v σ' => v = .none ∧ ∃ dx, σ' = upd (upd (upd σ₂ hh.objs.size (.pr fun _ => True)) (hh.objs.size + 1) (XO 84 (excD hh.objs.size))) (hh.objs.size + 1) (IX 84 dx (excD hh.objs.size))) hA' G (upd_self _ _ _) (fun dx => ⟨rfl, dx, rfl⟩) (.ref 81) (.ref (hh.objs.size + 1) :: vs) rfl (by rw [List.map_cons, hvs]; rfl) _ R₄) fun r s' z => ?_
  rcases r with e | (_ | _ | _ | v) <;> first | exact z.elim | skip
  · exact z
  · obtain ⟨σ', R', hv, dx, hσ⟩ := z
    subst hσ
    refine ⟨er_none hv, ?_⟩
    rw [upd_upd] at R'
    obtain ⟨hB5, oe, hoe, hoe'⟩ := R'.known _ _ (upd_self _ _ _)
    have R5 : Rel w B os l σ₂ s' := R'.less fun a o e => by
      have n1 : a ≠ hh.objs.size + 1 := fun z => by subst z; rw [f4'] at e; cases e
      have n2 : a ≠ hh.objs.size := fun z => by subst z; rw [f3.1] at e; cases e
      rw [upd_ne _ _ n1, upd_ne _ _ n2]; exact e
    refine ⟨hh.objs.size + 1, oe, #[.ref hh.objs.size, .none, .none, .none, .bool false, .none], rfl, hoe, by rw [hoe'], by rw [hoe'], rfl, G.kd.keeps R5.old, ?_⟩
    exact ⟨_, .ref 84, σ₂, rfl, XR.newAt (vs := #[.ref hh.objs.size, .none, .none, .none, .bool false, .none]) (a0 := .ref hh.objs.size) R5 f4' hB5 hfr4 hoe (by rw [hoe']) (by rw [hoe']) rfl rfl, h₂⟩
end
end Mine
end
section
open PySem PySem.W PySem.Calls PyProof.Rows PySem.Builtin
namespace Mine
section
variable (w : World) (B : Heap) (os : OsState) (l : List Env) (A : Around) (env : Env) (E : Value → MS → Prop)
noncomputable abbrev kAst (rest : List Stmt) (Q : Fl → MS → Prop) : Bool → MS → Prop := fun c σ => c = true ∧ SS w B os l A env rest Q E σ
noncomputable abbrev kExp (rest : List Stmt) (Q : Fl → MS → Prop) : V → MS → Prop := fun v σ => (∀ a, v ≠ .ref a) ∧ SS w B os l A env rest Q E σ
noncomputable abbrev kAsT (a b : Expr) (rest : List Stmt) (Q : Fl → MS → Prop) : V → MS → Prop := fun v σ => ∃ T x y, v = .ref T ∧ σ T = some (.tup [x, y]) ∧ AS w B os l A env a x (AS w B os l A env b y (SS w B os l A env rest Q E) E) E σ
noncomputable abbrev kDel2 (rest : List Stmt) (Q : Fl → MS → Prop) (ov : V) : V → MS → Prop := fun iv σ => ∀ a b, er a = ov → er b = iv → W w B os l A (delItem a b) (kThen w B os l A env E rest Q) E σ
noncomputable abbrev kDel (i : Expr) (rest : List Stmt) (Q : Fl → MS → Prop) : V → MS → Prop := fun ov σ => EV w B os l A env i (kDel2 w B os l A env E rest Q ov) E σ
end
section
variable {w : World} {B : Heap} {os : OsState} {l : List Env} {A : Around} {σ : MS} {E : Value → MS → Prop} {env : Env} {s : Shared}
theorem SS.brk {pos : Pos} {rest : List Stmt} {Q : Fl → MS → Prop} (h : Q .brk σ) : SS w B os l A env (.Break pos :: rest) Q E σ := SS.cons fun s R => wpAny_Break ⟨σ, R, h⟩
theorem SS.cont {pos : Pos} {rest : List Stmt} {Q : Fl → MS → Prop} (h : Q .cont σ) : SS w B os l A env (.Continue pos :: rest) Q E σ := SS.cons fun s R => wpAny_Continue ⟨σ, R, h⟩
theorem SS.ann {x : Str} {p : Pos} {an : Expr} {simple : Int} {pos : Pos} {rest : List Stmt} {Q : Fl → MS → Prop} (h : SS w B os l A env rest Q E σ) (hk : env.scope.kind = .function := by rfl) : SS w B os l A env (.AnnAssign (.Name x p) an none simple pos :: rest) Q E σ :=
  SS.consNx fun s R => wpAny_AnnAssign_bare ⟨σ, R, h⟩ hk
theorem SS.assert {t : Expr} {msg : Option Expr} {pos : Pos} {rest : List Stmt} {Q : Fl → MS → Prop} (h : TR w B os l A env t (kAst w B os l A env E rest Q) E σ) : SS w B os l A env (.Assert t msg pos :: rest) Q E σ :=
  SS.consNx fun s R => wpAny_Assert_holds (wpAny_mono (h s R) (fun b s₁ ⟨σ₁, R₁, hb, h₁⟩ => ⟨hb, σ₁, R₁, h₁⟩) fun _ _ x => x)
theorem SS.expr {e : Expr} {pos : Pos} {rest : List Stmt} {Q : Fl → MS → Prop} (h : EV w B os l A env e (kExp w B os l A env E rest Q) E σ)
    (hi : interactive env = false := by rfl) (hs : swapsWith e none pos.line env = pure false := by rfl) : SS w B os l A env (.Expr e pos :: rest) Q E σ :=
  SS.consNx fun s R => wpAny_Expr (wpAny_mono (h s R) (fun v s₁ ⟨σ₁, R₁, hv, h₁⟩ => by
    cases v <;> first | exact absurd rfl (hv _) | exact ⟨σ₁, R₁, h₁⟩) fun _ _ x => x) hi hs
theorem SS.assignTup {a b : Expr} {k : Nat} {tpos pos : Pos} {value : Expr} {rest : List Stmt} {Q : Fl → MS → Prop} (hh : A.handled = Option.none)
    (h : EV w B os l A env value (kAsT w B os l A env E a b rest Q) E σ)
    (hs : swapsWithSole [.Tuple [a, b] k tpos] value pos.line env = pure false := by rfl) (hw : swappedStores [.Tuple [a, b] k tpos] value env = pure Option.none := by rfl)
    (hstar : (assignEach [a, b] env).findIdx? (·.1) = Option.none := by rfl) (he : assignEach [a, b] env = [(false, PySem.assign a env), (false, PySem.assign b env)] := by rfl) : SS w B os l A env (.Assign [.Tuple [a, b] k tpos] value pos :: rest) Q E σ :=
  SS.consNx fun s R => Assign_Tuple (wpAny_mono (h s R) (fun v s₁ ⟨σ₁, R₁, T, x, y, hv, hT, h₁⟩ => AS.tup2 (k := k) (pos := tpos) (Q := fun σ' => SS w B os l A env rest Q E σ') hh hT h₁ hstar he v hv s₁ R₁) fun _ _ x => x) hs hw
theorem SS.del {o i : Expr} {p pos : Pos} {rest : List Stmt} {Q : Fl → MS → Prop}
    (h : EV w B os l A env o (kDel w B os l A env E i rest Q) E σ) : SS w B os l A env (.Delete [.Subscript o i p] pos :: rest) Q E σ :=
  SS.consNx fun s R => wpAny_Delete (wpAny_deleteEach_cons (wpAny_delete_Subscript (wpAny_mono (h s R) (fun ov s₁ ⟨σ₁, R₁, h₁⟩ => wpAny_mono (h₁ s₁ R₁) (fun iv s₂ ⟨σ₂, R₂, h₂⟩ => wpAny_mono (h₂ ov iv rfl rfl s₂ R₂) (fun _ s₃ ⟨σ₃, R₃, h₃⟩ => wpAny_deleteEach_nil ⟨σ₃, R₃, h₃⟩) fun _ _ x => x) fun _ _ x => x) fun _ _ x => x)))
theorem loadLocal {x : Str} {m : Str → Option V} {v : V} {Q : V → MS → Prop} (hσ : σ env.locals = some (.ns m)) (hv : m x = some v) (h : Q v σ)
    (hk : env.scope.kind = .function := by rfl) (hl : env.kindOf x = some .local := by rfl) : W w B os l A (loadName env x) (fun v σ' => Q (er v) σ') E σ := fun s R => by
  obtain ⟨_, m', hm, e⟩ := R.known _ _ hσ
  have e' := e x
  rw [hv] at e'
  obtain ⟨v', hv', rfl⟩ := Option.map_eq_some_iff.mp e'
  exact wpAny_loadName_local hk hl hm hv' ⟨σ, R, h⟩
theorem SS.augAdd {x : Str} {p pos : Pos} {e : Expr} {rest : List Stmt} {Q : Fl → MS → Prop} {i : Int} {τ : MS} {L : Addr} {m : Str → Option V} (hσ : σ = upd τ L (.ns m)) (hL : env.locals = L) (hv : m x = some (.int i))
    (h : EV w B os l A env e (fun v σ₁ => σ₁ = σ ∧ ∃ j, v = .int j ∧ SS w B os l A env rest Q E (upd τ L (.ns (put m x (.int (i + j)))))) E σ)
    (hk : env.scope.kind = .function := by rfl) (hl : env.kindOf x = some .local := by rfl)
    (hp : (env.scope.kind == .class || (env.scope.kind == .module && env.locals != env.globals)) = false := by rfl) : SS w B os l A env (.AugAssign (.Name x p) .Add e pos :: rest) Q E σ := by
  subst hσ hL
  refine SS.consNx fun s R => wpAny_AugAssign_Name (wpAny_mono (loadLocal (Q := fun v σ' => v = .int i ∧ σ' = upd τ env.locals (.ns m)) (E := E) (upd_self _ _ _) hv ⟨rfl, rfl⟩ hk hl s R) (fun old s₁ ⟨σ₁, R₁, ho, hσ₁⟩ => wpAny_mono (h s₁ (hσ₁ ▸ R₁)) (fun v s₂ hq1 => ?_) fun _ _ x => x) fun _ _ x => x)
  obtain ⟨σ₂, R₂, hσ₂, j, hj, h₂⟩ := hq1
  subst hσ₁ hσ₂
  obtain ⟨t, rfl⟩ := er_int ho; obtain ⟨u, rfl⟩ := er_int hj
  refine iadd_int ?_
  refine wpAny_mono (storeW (v := .int (i + j) s₂.toks) (Q := fun _ σ' => SS w B os l A env rest Q E σ') (upd_self _ _ _) (by rw [upd_upd]; exact h₂) hl hp _ (R₂.toks _)) (fun _ _ z => z) fun _ _ x => x
end
end Mine
end
section
open PySem PySem.W PySem.Calls PyProof.Rows PySem.Builtin
namespace Mine
theorem orStandIn_led (t : SetTable) (n : Nat) : (t.orStandIn n).led = t.led ∧ ((t.orStandIn n).plain = true → t.plain = true) := by
  unfold SetTable.orStandIn
  split
  · exact ⟨rfl, id⟩
  · exact ⟨rfl, fun h => by cases h⟩
theorem layNew_led (t : SetTable) (es : Array (Int × Value)) (h : Int) (x : Value) : (layNew t es h x).2.1.led = t.led ∧ ((layNew t es h x).2.1.plain = true → t.plain = true) := by
  unfold layNew
  split
  · rename_i slot wasDummy _
    have := orStandIn_led (t.put slot).1 (SetTable.insertAt es (t.put slot).2 (h, x)).size
    exact this
  · exact ⟨rfl, fun h => by cases h⟩
theorem laid_led {m f v : Nat} {led plain : Bool} {hs : Array Int} {t' : SetTable} {o : Array Nat} (h : SetTable.laid m f v led plain hs = some (t', o)) : t'.led = led ∧ t'.plain = plain := by
  unfold SetTable.laid at h
  cases q : SetTable.layClean m hs with
  | none => rw [q] at h; cases h
  | some ow => rw [q] at h; cases h; exact ⟨rfl, rfl⟩
theorem relayAll_led (t : SetTable) (es : Array (Int × Value)) (n : Nat) : (relayAll t es n).2.1.led = t.led ∧ ((relayAll t es n).2.1.plain = true → t.plain = true) := by
  unfold relayAll
  split
  · rename_i t' order h
    obtain ⟨h1, h2⟩ := laid_led h
    dsimp only
    split
    · exact ⟨h1, fun q => by rw [← h2]; exact q⟩
    · exact ⟨rfl, fun h => by cases h⟩
  · exact ⟨rfl, fun h => by cases h⟩
noncomputable def SetOk (w : World) (ks : List (List UInt8)) (es : Array (Int × Value)) (t : SetTable) : Prop :=
  ElemsOf (bytesKind pw w) es.toList ∧ t.fits es.size = true ∧ (es.toList.map fun e => er e.2).Perm (ks.map V.byt) ∧ ks.Nodup ∧ t.led = !(w.params.followText "set-order") ∧ (t.plain = true → es = #[])
theorem SetOk.size {w : World} {ks : List (List UInt8)} {es : Array (Int × Value)} {t : SetTable} (h : SetOk w ks es t) : es.size = ks.length := by
  have := h.2.2.1.length_eq
  simpa using this
theorem is_byt {w : World} {k : List UInt8} {v : Value} : (bytesKind pw w).is k v = true ↔ er v = .byt k := by
  constructor
  · intro h
    cases v <;> simp [bytesKind, isBytes] at h
    simp [er, ← h]
  · intro h
    obtain ⟨t, rfl⟩ := er_byt h
    exact bytesKind_is _ _ _ _
theorem SetOk.has {w : World} {ks : List (List UInt8)} {es : Array (Int × Value)} {t : SetTable} (h : SetOk w ks es t) (k : List UInt8) : (∃ e ∈ es.toList, (bytesKind pw w).is k e.2 = true) ↔ k ∈ ks := by
  constructor
  · rintro ⟨e, he, hk⟩
    have : V.byt k ∈ es.toList.map fun e => er e.2 := List.mem_map.mpr ⟨e, he, is_byt.mp hk⟩
    obtain ⟨k', hk', hh⟩ := List.mem_map.mp (h.2.2.1.mem_iff.mp this)
    cases hh; exact hk'
  · intro hk
    have : V.byt k ∈ ks.map V.byt := List.mem_map.mpr ⟨k, hk, rfl⟩
    obtain ⟨e, he, hh⟩ := List.mem_map.mp (h.2.2.1.mem_iff.mpr this)
    exact ⟨e, he, is_byt.mpr hh⟩
theorem scan_len {w : World} {ks : List (List UInt8)} {es : Array (Int × Value)} {t : SetTable} (h : SetOk w ks es t) (hz : ks.length ≤ 1000) : es.size < scanBound := by
  rw [h.size]; exact Nat.lt_of_le_of_lt hz (by decide)
noncomputable def addK (ks : List (List UInt8)) (k : List UInt8) : List (List UInt8) := if ks.contains k then ks else ks ++ [k]
section
variable {w : World} {B : Heap} {os : OsState} {l : List Env} {A : Around} {σ : MS} {E : Value → MS → Prop} {env : Env} {s : Shared}
theorem store_get {h : Heap} {a : Addr} {o : Obj} {es es' : Array (Int × Value)} {ep : Nat} {t t' : SetTable} (ho : h.get? a = some o) (hd : o.data = .set es ep t) : (h.update a (Obj.putSet es' t')).get? a = some { o with data := .set es' (ep + 1) t' } := by
  have := Heap.get?_update_self (Obj.putSet es' t') ho (by rw [putSet_of es' t' hd]; rfl)
  rw [putSet_of es' t' hd] at this; exact this
theorem addHashed {Q : Bool → Shared → Prop} {E : Value → Shared → Prop} {a : Addr} {o : Obj} {es : Array (Int × Value)} {ep : Nat} {t : SetTable} {ks : List (List UInt8)} {k : List UInt8} {u : Tok}
    (ho : s.heap.get? a = some o) (hex : o.ExactSet) (hd : o.data = .set es ep t) (hok : SetOk w ks es t) (hz : ks.length ≤ 1000)
    (h : ∀ b h' o' es' ep' t', Heap.SameBut a s.heap h' → h'.get? a = some o' → o'.ExactSet → o'.data = .set es' ep' t' → SetOk w (addK ks k) es' t' → Q b { s with heap := h' }) :
    wpAny (model pw w) A (setAddHashed a (.bytes k.toArray u) ((bytesKind pw w).hash k)) Q E s := by
  have hkey := bytesKind_is pw w k u
  have hsc : Value.scannable (.bytes k.toArray u) = true := rfl
  have hb := scan_len hok hz
  obtain ⟨hel, hf, hp, hnd, hled, hpl⟩ := id hok
  unfold setAddHashed setAddHashedIn
  refine wpAny_holding (wpAny_bind (wpAny_setState_of ho hd hf ?_))
  dsimp only
  rw [byScan_of hsc hb hel]
  simp only [↓reduceIte]
  unfold setAddByScan
  refine wpAny_bind ?_
  refine wpAny_bind (wpAny_rule ?_)
  refine wpAny_bind (wpAny_setScan_of hkey ho hd hf hel ?_)
  cases hr : List.findIdx? (fun e => (bytesKind pw w).is k e.2) es.toList with
  | some j =>
    dsimp only
    obtain ⟨hj, hpj, _⟩ := List.findIdx?_eq_some_iff_getElem.mp hr
    have hk : k ∈ ks := (hok.has k).mp ⟨_, List.getElem_mem hj, hpj⟩
    refine wpAny_pure (wpAny_pure ?_)
    have e : addK ks k = ks := if_pos (by simpa using hk)
    exact h false s.heap o es ep t (Heap.SameBut.refl a s.heap) ho hex hd (by rw [e]; exact hok)
  | none =>
    dsimp only
    have hk : k ∉ ks := fun hk => by
      obtain ⟨e, he, hpe⟩ := (hok.has k).mpr hk
      have := List.findIdx?_eq_none_iff.mp hr e he
      rw [hpe] at this; cases this
    have eK : addK ks k = ks ++ [k] := if_neg (by simpa using hk)
    rw [eK] at h
    have hgw : ∀ (b : Bool) (s₁ : Shared) (Q' : Unit → Shared → Prop), Q' () s₁ → wpAny (model pw w) A (match b with | true => rule "set.scan.the-table-gave-way" | false => pure ()) Q' E s₁ :=
      fun b s₁ Q' hq => by cases b <;> first | exact wpAny_pure hq | exact wpAny_rule hq
    have hperm := layNew_perm t es ((bytesKind pw w).hash k) (.bytes k.toArray u)
    have hfits := layNew_fits t es ((bytesKind pw w).hash k) (.bytes k.toArray u)
    have hlp := layNew_led t es ((bytesKind pw w).hash k) (.bytes k.toArray u)
    generalize hL : layNew t es ((bytesKind pw w).hash k) (.bytes k.toArray u) = L at hperm hfits hlp ⊢
    obtain ⟨es1, t1, wasDummy, gave⟩ := L
    dsimp only at hperm hfits hlp ⊢
    rw [Array.toList_push] at hperm
    have hel1 : ElemsOf (bytesKind pw w) es1.toList := (hel.push hkey hsc).perm hperm
    have hp1 : (es1.toList.map fun e => er e.2).Perm ((ks ++ [k]).map V.byt) := by
      refine (hperm.map _).trans ?_
      rw [List.map_append, List.map_append]
      exact hp.append (by simp [er])
    have hnd1 : (ks ++ [k]).Nodup := by
      rw [List.nodup_append]
      exact ⟨hnd, by simp, fun x hx y hy e => by rw [List.mem_singleton.mp hy] at e; exact hk (e ▸ hx)⟩
    have hb1 : es1.size ≤ sizeLine := by
      have := hp1.length_eq
      simp at this
      rw [this, sizeLine_eq]; omega
    refine wpAny_bind (hgw _ _ _ ?_)
    have fin : ∀ t2 : SetTable, t2.fits es1.size = true → t2.led = t.led → t2.plain = false → wpAny (model pw w) A (do
        storeSet a es1 t2
        if (!wasDummy && t2.tooFull) = true then do
            (match (relayAll t2 es1 (SetTable.grown es1.size)).2.2 with | true => rule "set.scan.the-table-gave-way" | false => pure ())
            storeSet a (relayAll t2 es1 (SetTable.grown es1.size)).1 (relayAll t2 es1 (SetTable.grown es1.size)).2.1
            pure (some true)
          else pure (some true)) (fun r s' => ∃ h' o' es' ep' t', r = some true ∧ s' = { s with heap := h' } ∧ Heap.SameBut a s.heap h' ∧ h'.get? a = some o' ∧ o'.ExactSet ∧ o'.data = .set es' ep' t' ∧ SetOk w (ks ++ [k]) es' t') E s := by
      intro t2 h1 h2 h3
      refine wpAny_bind (wpAny_storeSet_of ho hd ?_ hb1)
      have g1 := store_get (es' := es1) (t' := t2) ho hd
      have hsb1 := Heap.SameBut.update s.heap a (Obj.putSet es1 t2)
      have ok1 : SetOk w (ks ++ [k]) es1 t2 := ⟨hel1, h1, hp1, hnd1, h2.trans hled, fun q => by rw [h3] at q; cases q⟩
      split
      · have hpr := relayAll_perm t2 es1 (SetTable.grown es1.size)
        have hfr := relayAll_fits t2 es1 (SetTable.grown es1.size)
        have hlr := relayAll_led t2 es1 (SetTable.grown es1.size)
        generalize hRl : relayAll t2 es1 (SetTable.grown es1.size) = Rl at hpr hfr hlr ⊢
        obtain ⟨es2, t3, gave2⟩ := Rl
        dsimp only at hpr hfr hlr ⊢
        have hsz : es2.size = es1.size := by rw [← Array.length_toList, hpr.length_eq, Array.length_toList]
        refine wpAny_bind (hgw _ _ _ ?_)
        refine wpAny_bind (wpAny_storeSet_of g1 rfl ?_ (by rw [hsz]; exact hb1))
        have g2 := store_get (es' := es2) (t' := t3) g1 rfl
        exact wpAny_pure ⟨_, _, _, _, _, rfl, rfl, hsb1.trans (Heap.SameBut.update _ a _), g2, hex, rfl, hel1.perm hpr, hfr, (hpr.map _).trans hp1, hnd1, hlr.1.trans (h2.trans hled), fun q => by have := hlr.2 q; rw [h3] at this; cases this⟩
      · exact wpAny_pure ⟨_, _, _, _, _, rfl, rfl, hsb1, g1, hex, rfl, ok1⟩
    have out : ∀ r s', (∃ h' o' es' ep' t', r = some true ∧ s' = { s with heap := h' } ∧ Heap.SameBut a s.heap h' ∧ h'.get? a = some o' ∧ o'.ExactSet ∧ o'.data = .set es' ep' t' ∧ SetOk w (ks ++ [k]) es' t') → wpAny (model pw w) A (match r with | some added => pure added | none => setAddHashedIn a (.bytes k.toArray u) ((bytesKind pw w).hash k) 99999) Q E s' := by
      rintro r s' ⟨h', o', es', ep', t', rfl, rfl, q1, q2, q3, q4, q5⟩
      exact wpAny_pure (h true h' o' es' ep' t' q1 q2 q3 q4 q5)
    split
    · refine wpAny_bind ?_
      rw [hashByValue_scannable 8 hsc]
      refine wpAny_pure ?_
      exact wpAny_mono (fin { t1 with plain := false } (SetTable.fits_plain_off hfits) hlp.1 rfl) (fun r s' z => out r s' z) fun _ _ z => z
    · rename_i hnp
      refine wpAny_bind (wpAny_pure ?_)
      simp only [↓reduceIte]
      exact wpAny_mono (fin t1 hfits hlp.1 (by simpa using hnp)) (fun r s' z => out r s' z) fun _ _ z => z
end
end Mine
end
section
open PySem PySem.W PySem.Calls PyProof.Rows PySem.Builtin
namespace Mine
section
variable {prog : Program} {w : World} {A : Around} {E : Value → Shared → Prop} {s : Shared}
noncomputable abbrev newSetObj (w : World) : Obj := { cls := .type "set", dict := none, data := .set #[] 0 (.fresh 0 0 (!(w.params.followText "set-order"))) }
theorem code_set_new_led {rest : List Value} {Q₁ : Value → Shared → Prop} (hnew : checkBuiltinCall "set.__new__" ⟨.type "set" :: rest, []⟩ = pure ())
    (h : Q₁ (.ref s.heap.objs.size) { s with heap := s.heap.push (newSetObj w) }) :
    codeAny (model prog w) A (.call (.builtin "set.__new__") ⟨.type "set" :: rest, []⟩) (wants Q₁ E) s := by
  refine codeAny_of_tree ?_
  show wpAny _ A.in1 (do checkBuiltinCall "set.__new__" ⟨.type "set" :: rest, []⟩; again (.builtin "set.__new__" ⟨.type "set" :: rest, []⟩)) _ _ s
  refine wpAny_bind (wpAny_of_eq hnew (wpAny_pure ⟨plainId_quiet F.plain_set_new _, codeAny_builtin F.entry_set_new ?_⟩))
  rw [Around.under_plainId F.plain_set_new _]
  unfold Builtin.«set.__new__» Builtin.Frozenset.newClass
  have hsub := PySem.sub_set_self
  obtain ⟨hp, g, d, tk, os⟩ := s
  dsimp only
  wp_walk
  refine wpAny_askSetting (wpAny_pure ?_)
  dsimp only
  simp only [newObj]
  refine wpAny_bind (wpAny_alloc (wpAny_pure ?_))
  exact wpAny_pure h
set_option maxHeartbeats 1000000 in
theorem call_set_led {rest : List Value} {Q : Value → Shared → Prop} (hct : checkTypeCall "set" ⟨rest, []⟩ = pure ()) (hnew : checkBuiltinCall "set.__new__" ⟨.type "set" :: rest, []⟩ = pure ())
    (hin : ∀ (A' : Around) (s' : Shared) (self : Value) (Q' : Unit → Shared → Prop) (E' : Value → Shared → Prop), s'.TypeIs self "set" → Q' () s' → wpAny (model prog w) A' (checkBuiltinCall "set.__init__" ⟨self :: rest, []⟩) Q' E' s')
    (h : wpAny (model prog w) A.in1.in1 (Builtin.«set.__init__» ⟨.ref s.heap.objs.size :: rest, []⟩) (fun fin s' => fin = .done (.ret .none) ∧ Q (.ref s.heap.objs.size) s') E { s with heap := s.heap.push (newSetObj w) }) :
    wpAny (model prog w) A (call (.type "set") rest) Q E s := by
  obtain ⟨c, tl, hmro⟩ := F.called_set.mro
  have hmade := F.called_set.made
  have hsub := F.called_set.sub
  refine wpAny_call (codeAny_of_tree ?_)
  show wpAny _ _ (callAny (.type "set") _) _ _ _
  refine wpAny_pure ⟨Code.quiet_builtin _ (by decide +kernel), codeAny_builtin F.entry_type_call ?_⟩
  rw [Around.under_plain (weight_type_call_type "set" rest []) rfl]
  have h1 := F.called_set.notType
  have h2 := F.called_set.canCreate
  repeat (any_goals (first | assumption | wp_step))
  refine codeAny_mono (code_set_new_led (E := E) (Q₁ := fun obj s₁ => obj = .ref s.heap.objs.size ∧ s₁ = { s with heap := s.heap.push (newSetObj w) }) hnew ⟨rfl, rfl⟩) fun r s₁ hr => ?_
  cases r with
  | error e => exact hr
  | ok fl =>
    cases fl with
    | ret obj =>
      obtain ⟨rfl, rfl⟩ := hr
      have hS : (s.heap.push (newSetObj w)).get? s.heap.objs.size = some (newSetObj w) := Heap.get?_push_size _ rfl
      have hT : Shared.TypeIs { s with heap := s.heap.push (newSetObj w) } (.ref s.heap.objs.size) "set" := ⟨_, hS, rfl⟩
      have hli := F.called_set.init.lookup
      have hbi := F.called_set.init.bind (.ref s.heap.objs.size)
      repeat (any_goals (first | assumption | wp_step))
      refine codeAny_mono (codeAny_call_builtin (R := wants (fun r s₂ => r = .none ∧ Q (.ref s.heap.objs.size) s₂) E) F.called_set.init.plain F.entry_set_init (hin _ _ _ _ _ hT ?_)) fun r₂ s₂ hr₂ => ?_
      · refine wpAny_mono h (fun fin s' hq1 => ?_) fun _ _ z => z
        obtain ⟨z1, z2⟩ := hq1
        subst z1
        exact ⟨rfl, z2⟩
      · cases r₂ with
        | error e => exact hr₂
        | ok fl₂ =>
          cases fl₂ with
          | ret v =>
            obtain ⟨rfl, q⟩ := hr₂
            repeat (any_goals (first | assumption | wp_step))
          | _ => exact hr₂.elim
    | _ => exact hr.elim
theorem init_head {a : Addr} {rest : List Value} (hr : rest.length ≤ 1) (hS : s.heap.get? a = some (newSetObj w)) {Q : Fin → Shared → Prop}
    (h : wpAny (model prog w) A (do if let [iterable] := rest then Builtin.Frozenset.updateFrom "set.__init__" a iterable
                                    ret .none) Q E s) : wpAny (model prog w) A (Builtin.«set.__init__» ⟨.ref a :: rest, []⟩) Q E s := by
  have hT : s.TypeIs (.ref a) "set" := ⟨_, hS, rfl⟩
  obtain ⟨hh, g, d, tk, os⟩ := s
  unfold Builtin.«set.__init__» noKeywords
  cases rest with
  | nil =>
    repeat (any_goals (first | assumption | with_reducible refine wpAny_loadPart_at hS ?_ | wp_step))
  | cons x rest =>
    have hl : rest.length = 0 := by rw [List.length_cons] at hr; omega
    cases List.eq_nil_of_length_eq_zero hl
    generalize hU : Builtin.Frozenset.updateFrom "set.__init__" a x = U at h
    repeat (any_goals (first | assumption | with_reducible refine wpAny_loadPart_at hS ?_ | rw [hU] | wp_step))
end
section
variable {w : World} {B : Heap} {os : OsState} {l : List Env} {A : Around} {σ : MS} {E : Value → MS → Prop} {env : Env} {s : Shared}
theorem setOk_new (w : World) : SetOk w [] #[] (.fresh 0 0 (!(w.params.followText "set-order"))) := ⟨fun e he => by simp at he, rfl, by simp, List.nodup_nil, rfl, fun _ => rfl⟩
theorem Rel.newSet (R : Rel w B os l σ s) : Rel w B os l (upd σ s.heap.objs.size (.set [])) { s with heap := s.heap.push (newSetObj w) } :=
  R.new (o := .set []) (fun b o h => Heap.get?_push_of_some _ h) (get_none s) ⟨newSetObj w, #[], 0, _, Heap.get?_push_size _ rfl, ⟨rfl, rfl, rfl⟩, rfl, setOk_new w⟩ s.toks
theorem CL.setNew {Q : V → MS → Prop} (h : ∀ a, σ a = none → B.get? a = none → Q (.ref a) (upd σ a (.set []))) : CL w B os l A (.ty "set") [] Q E σ := fun vf vs hf hv s R => by
  rw [list0 hv, er_ty hf]
  refine call_set_led F.typeCall_set_0 F.newCall_set_0 (fun A' s' self Q' E' hT q => check_set_init hT q) (init_head (w := w) (Nat.zero_le _) (Heap.get?_push_size _ rfl) ?_)
  exact wpAny_pure ⟨rfl, _, R.newSet, h _ R.fresh.1 R.fresh.2⟩
theorem mf_set_add : MF "set" "add" "set.add" := ⟨F.plainAttrs_set, F.slot_set_add, F.type_set_add⟩
theorem isSet (R : Rel w B os l σ s) {a : Addr} {ks : List (List UInt8)} (h : σ a = some (.set ks)) : ∃ o es ep t, s.heap.get? a = some o ∧ o.ExactSet ∧ o.data = .set es ep t ∧ SetOk w ks es t := by
  obtain ⟨_, o, es, ep, t, h1, h2, h3, h4⟩ := R.known _ _ h
  exact ⟨o, es, ep, t, h1, h2, h3, h4⟩
theorem setAddW {a : Addr} {ks : List (List UInt8)} {k : List UInt8} {u : Tok} {Q : Bool → MS → Prop} (ha : σ a = some (.set ks)) (hz : ks.length ≤ 1000) (h : ∀ b, Q b (upd σ a (.set (addK ks k)))) : W w B os l A (setAdd a (.bytes k.toArray u)) Q E σ := fun s R => by
  obtain ⟨o, es, ep, t, h1, h2, h3, h4⟩ := isSet R ha
  unfold setAdd
  refine wpAny_holding (wpAny_bind ((bytesKind pw w).pyHash (bytesKind_is pw w k u) ?_))
  exact addHashed (s := { s with toks := s.toks + 1 }) h1 h2 h3 h4 hz fun b h' o' es' ep' t' q1 q2 q3 q4 q5 => ⟨_, R.turn (o' := .set (addK ks k)) ha q1 ⟨o', es', ep', t', q2, q3, q4, q5⟩ _ (fun m e => by cases e), h b⟩
theorem CL.setAdd {a : Addr} {ks : List (List UInt8)} {k : List UInt8} {Q : V → MS → Prop} (ha : σ a = some (.set ks)) (hz : ks.length ≤ 1000) (h : Q .none (upd σ a (.set (addK ks k)))) : CL w B os l A (.bi "set.add") [.ref a, .byt k] Q E σ := fun vf vs hf hv s R => by
  obtain ⟨x, y, rfl, hx, hy⟩ := list2 hv
  obtain ⟨u, rfl⟩ := er_byt hy
  rw [er_bi hf, er_ref hx]
  obtain ⟨o, es, ep, t, h1, h2, h3, h4⟩ := isSet R ha
  refine wpAny_call_entry F.slot_set_add ⟨o, h1, h2.1⟩ F.entry_set_add ?_ (F.args_set_add_2 _ _)
  unfold Builtin.«set.add» Builtin.Frozenset.oneOther
  simp only [List.isEmpty_nil, bind_assoc]
  unfold Builtin.Frozenset.addrOf
  refine wpAny_bind (wpAny_pure ?_)
  try dsimp only
  refine wpAny_bind (wpAny_pure ?_)
  try dsimp only
  refine wpAny_bind (wpAny_mono (setAddW (Q := fun _ σ' => σ' = upd σ a (.set (addK ks k))) (E := E) ha hz (fun _ => rfl) s R) (fun b s' hq1 => ?_) fun _ _ z => z)
  obtain ⟨σ', R', e⟩ := hq1
  subst e
  exact wpAny_pure ⟨_, rfl, _, R', h⟩
theorem fillLoop {a it : Addr} {xs : List (List UInt8)} {S : Nat → O} {Pin : MS → Prop} {v : V} {σ₁ : MS} (hsrc : Src w B os l A.in1 v (xs.map V.byt) σ₁ S Pin) (hne : a ≠ it) (hpin : ∀ τ o, Pin τ → Pin (upd τ a o)) (hpit : ∀ τ o, Pin τ → Pin (upd τ it o)) (hz : xs.length ≤ 500) :
    ∀ (n i : Nat) (ks : List (List UInt8)) (τ : MS), n = xs.length - i → i ≤ xs.length → ks.length ≤ i → Pin τ → τ it = some (S i) → τ a = some (.set ks) → ∀ s, Rel w B os l τ s →
      ∀ R : Result → Shared → Prop, (∀ s', Rel w B os l (del (upd τ a (.set ((xs.drop i).foldl addK ks))) it) s' → R (.ok (.ret .none)) s') → codeAny (model pw w) A (.builtin "set.update.loop" ⟨[.ref a, .ref it], []⟩) R s := by
  intro n
  induction n with
  | zero =>
    intro i ks τ hn hi hk hp hit ha s R P hP
    obtain rfl : i = xs.length := ix0 hn hi
    refine codeAny_builtin F.entry_set_update_loop ?_
    rw [Around.under_plainId F.plain_set_update_loop _]
    show wpAny _ A.in1 (pyNext (.ref it) >>= _) _ _ s
    refine wpAny_bind (wpAny_mono (hsrc.fin it τ (fun r σ' => r = none ∧ σ' = del τ it) (fun _ _ => False) hp (by rw [List.length_map]; exact hit) ⟨rfl, rfl⟩ s R) (fun r s' hq1 => ?_) fun v s' z => no5 z)
    obtain ⟨σ', R', hr, hσ⟩ := hq1
    subst hr hσ
    refine wpAny_pure (hP s' ?_)
    rw [List.drop_length, List.foldl_nil]
    have e : upd τ a (.set ks) = τ := by funext b; by_cases q : b = a <;> simp [upd, q, ha]
    rw [e]; exact R'
  | succ n ih =>
    intro i ks τ hn hi hk hp hit ha s R P hP
    have hlt : i < xs.length := ix1 hn
    refine codeAny_builtin F.entry_set_update_loop ?_
    rw [Around.under_plainId F.plain_set_update_loop _]
    show wpAny _ A.in1 (pyNext (.ref it) >>= _) _ _ s
    refine wpAny_bind (wpAny_mono (hsrc.next it i (.byt xs[i]) τ (fun r σ' => ∃ va, r = some va ∧ er va = .byt xs[i] ∧ σ' = upd τ it (S (i + 1))) (fun _ _ => False) hp hit (by simp [hlt]) (fun va e => ⟨va, rfl, e, rfl⟩) s R) (fun r s' hq1 => ?_) fun v s' z => no5 z)
    obtain ⟨σ', R', va, hr, hva, hσ⟩ := hq1
    subst hr hσ
    obtain ⟨u, rfl⟩ := er_byt hva
    show wpAny _ A.in1 (holding [Value.bytes xs[i].toArray u] (setAdd a (.bytes xs[i].toArray u)) >>= _) _ _ s'
    refine wpAny_bind (wpAny_holding (wpAny_mono (setAddW (Q := fun _ σ' => σ' = upd (upd τ it (S (i + 1))) a (.set (addK ks xs[i]))) (E := fun _ _ => False) (by rw [upd_ne _ _ hne]; exact ha) (by omega) (fun _ => rfl) s' R') (fun b s₂ hq1 => ?_) fun v s' z => no5 z))
    obtain ⟨σ₂, R₂, e⟩ := hq1
    subst e
    have hk' : (addK ks xs[i]).length ≤ i + 1 := by
      unfold addK; split
      · omega
      · rw [List.length_append]; simpa using hk
    refine wpAny_pure ⟨plainId_quiet F.plain_set_update_loop _, ih (i + 1) _ _ (ix2 hn) hlt hk' (hpin _ _ (hpit _ _ hp)) (by rw [upd_ne _ _ hne.symm, upd_self]) (upd_self _ _ _) s₂ R₂ P fun s'' R'' => hP s'' ?_⟩
    rw [List.drop_eq_getElem_cons hlt, List.foldl_cons]
    have e : del (upd (upd (upd τ it (S (i + 1))) a (.set (addK ks xs[i]))) a (.set (List.foldl addK (addK ks xs[i]) (List.drop (i + 1) xs)))) it = del (upd τ a (.set (List.foldl addK (addK ks xs[i]) (List.drop (i + 1) xs)))) it := by
      funext b
      unfold del upd
      by_cases q : b = it
      · simp [q]
      · by_cases q2 : b = a <;> simp [q, q2]
    rw [e] at R''
    exact R''
theorem CL.setOf {v : V} {xs : List (List UInt8)} {S : Nat → O} {Pin : MS → Prop} {Q : V → MS → Prop} (hh : A.handled = none) (hsrc : ∀ a A', A'.handled = none → σ a = none → Src w B os l A' v (xs.map V.byt) (upd σ a (.set [])) S Pin) (hz : xs.length ≤ 500)
    (hpin : ∀ a τ o, σ a = none → Pin τ → Pin (upd τ a o)) (h0 : Pin σ)
    (hty : ∀ va s, er va = v → Rel w B os l σ s → ∃ T, s.TypeIs va T ∧ isSubtype (.type T) (.type "set") = pure false ∧ isSubtype (.type T) (.type "frozenset") = pure false ∧ (Value.type T == Value.type "dict") = false)
    (h : ∀ a, σ a = none → B.get? a = none → Q (.ref a) (upd σ a (.set (xs.foldl addK [])))) : CL w B os l A (.ty "set") [v] Q E σ := fun vf vs hf hv s R => by
  obtain ⟨x, rfl, hx⟩ := list1 hv
  rw [er_ty hf]
  obtain ⟨T, hT, t1, t2, t3⟩ := hty x s hx R
  have fr := R.fresh
  refine call_set_led (F.typeCall_set_1 x) (F.newCall_set_1 x) (fun A' s' self Q' E' hT q => check_set_init_1 hT q) (init_head (w := w) (Nat.le_refl _) (Heap.get?_push_size _ rfl) ?_)
  have R₁ := R.newSet
  have hT₁ : Shared.TypeIs { s with heap := s.heap.push (newSetObj w) } x T := by
    cases x with
    | ref b => obtain ⟨o, ho, hc⟩ := hT; exact ⟨o, Heap.get?_push_of_some _ ho, hc⟩
    | _ => exact hT
  generalize s.heap.objs.size = a at *
  generalize hs₁ : ({ s with heap := s.heap.push (newSetObj w) } : Shared) = s₁ at *
  have src := hsrc a A.in1.in1.in1 hh fr.1
  have src2 := hsrc a A.in1.in1 hh fr.1
  show wpAny _ _ (Builtin.Frozenset.updateFrom "set.__init__" a x >>= fun _ => ret .none) _ _ _
  refine wpAny_bind ?_
  unfold Builtin.Frozenset.updateFrom Builtin.Frozenset.isAnySet
  refine wpAny_bind (wpAny_bind (wpAny_isInstance hT₁ t1 ?_))
  show wpAny _ _ (isInstance x (.type "frozenset")) _ _ _
  refine wpAny_isInstance hT₁ t2 ?_
  simp only [Bool.false_eq_true, if_false]
  refine wpAny_bind (wpAny_typeOf hT₁ ?_)
  rw [t3]
  simp only [Bool.false_eq_true, if_false]
  refine wpAny_bind (wpAny_mono (src2.iter (fun itv σ' => ∃ it, itv = .ref it ∧ (upd σ a (.set [])) it = none ∧ σ' = upd (upd σ a (.set [])) it (S 0)) (fun _ _ => False) (fun it q1 q2 => ⟨it, rfl, q1, rfl⟩) x hx s₁ R₁) (fun itv s₂ hq1 => ?_) fun v s' z => no5 z)
  obtain ⟨σ₂, R₂, it, hit, q1, hσ⟩ := hq1
  subst hit hσ
  have hne : a ≠ it := fun z => by subst z; rw [upd_self] at q1; cases q1
  have q1' : σ it = none := by rw [upd_ne _ _ hne.symm] at q1; exact q1
  refine wpAny_bind (wpAny_runValue (fillLoop src hne (fun τ o p => ?_) (fun τ o p => ?_) hz (xs.length - 0) 0 [] _ rfl (Nat.zero_le _) (Nat.zero_le _) ?_ (upd_self _ _ _) (by rw [upd_ne _ _ hne, upd_self]) s₂ R₂ _ fun s₃ R₃ => ?_))
  · exact hpin a τ o fr.1 p
  · exact hpin it τ o q1' p
  · exact hpin it _ _ q1' (hpin a _ _ fr.1 h0)
  · refine wpAny_pure (wpAny_pure ⟨rfl, _, R₃.less ?_, h a fr.1 fr.2⟩)
    intro b o e
    rw [List.drop_zero]
    have hb : b ≠ it := fun z => by subst z; rw [upd_ne _ _ hne.symm, q1'] at e; cases e
    rw [del_ne hb]
    by_cases q : b = a
    · subst q; rw [upd_self] at e ⊢; exact e
    · rw [upd_ne _ _ q] at e; rw [upd_ne _ _ q, upd_ne _ _ hb, upd_ne _ _ q]; exact e
end
end Mine
end
section
open PySem PySem.W PySem.Calls PyProof.Rows PySem.Builtin
namespace Mine
noncomputable def delE (es : List (List UInt8 × V)) (k : List UInt8) : List (List UInt8 × V) := es.filter fun p => decide (p.1 ≠ k)
theorem delE_eq (kvs : List (List UInt8 × Value)) (k : List UInt8) : (PySem.without kvs k).map (fun p => (p.1, er p.2)) = delE (kvs.map fun p => (p.1, er p.2)) k := by
  unfold PySem.without delE
  rw [List.filter_map]
  rfl
noncomputable def KV (d : Addr) : O := .pr fun o => o.cls = .type "dict_keys" ∧ o.data = .fields #[.ref d]
noncomputable def KI (d : Addr) (n ep i : Nat) : O := .pr fun o => o.cls = .type "dict_keyiterator" ∧ o.data = .fields #[.ref d, .int i 0, .int n 0, .int ep 0]
section
variable {w : World} {B : Heap} {os : OsState} {l : List Env} {A : Around} {σ : MS} {E : Value → MS → Prop} {env : Env} {s : Shared}
theorem mf_pop : MF "dict" "pop" "dict.pop" := ⟨F.plainAttrs_dict, F.slot_dict_pop, F.type_dict_pop⟩
theorem mf_keys : MF "dict" "keys" "dict.keys" := ⟨F.plainAttrs_dict, F.slot_dict_keys, F.type_dict_keys⟩
theorem popThere {d : Addr} {es : List (List UInt8 × V)} {ep : Nat} {k : List UInt8} {v : V} {rest : List Value} {u : Tok} {Q : Value → MS → Prop} (hd : σ d = some (.dict es ep)) (hz : es.length ≤ 1000000) (hv : getE es k = some v) (hr : rest = [] ∨ ∃ x, rest = [x])
    (hargs : argsOk "dict.pop" ⟨.ref d :: .bytes k.toArray u :: rest, []⟩) (h : ∀ va ep', er va = v → Q va (upd σ d (.dict (delE es k) ep'))) : W w B os l A (call (.builtin "dict.pop") (.ref d :: .bytes k.toArray u :: rest)) Q E σ := fun s R => by
  obtain ⟨hB, kvs, hD, rfl⟩ := R.known _ _ hd
  rw [← getE_eq] at hv
  obtain ⟨va, hva, rfl⟩ := Option.map_eq_some_iff.mp hv
  refine call_meetsIn F.slot_dict_pop hD.dictOf.typeIs F.entry_dict_pop hargs (meets_dict_pop_there (bytesKind pw w) d (bytesKind_is pw w k u) rest hr rfl) ⟨kvs, va, hD.dictOf, by rw [List.length_map] at hz; rw [sizeLine_eq]; omega, hva, fun h' hD' hs => ?_⟩
  obtain ⟨ep', hA'⟩ := hD'.dictAt
  exact ⟨_, R.turn (o' := .dict _ ep') hd hs ⟨_, hA', delE_eq _ _⟩ _ (fun m e => by cases e), h va ep' rfl⟩
theorem CL.pop2 {d : Addr} {es : List (List UInt8 × V)} {ep : Nat} {k : List UInt8} {v : V} {Q : V → MS → Prop} (G : BF w B) (hd : σ d = some (.dict es ep)) (hz : es.length ≤ 1000000)
    (h1 : ∀ x ep', getE es k = some x → Q x (upd σ d (.dict (delE es k) ep'))) (h2 : getE es k = none → Q v σ) : CL w B os l A (.bi "dict.pop") [.ref d, .byt k, v] Q E σ := fun vf vs hf hv s R => by
  obtain ⟨x, y, z, rfl, hx, hy, rfl⟩ := list3 hv
  obtain ⟨u, rfl⟩ := er_byt hy
  rw [er_bi hf, er_ref hx]
  cases q : getE es k with
  | some x => exact popThere (Q := fun v σ => Q (er v) σ) hd hz q (.inr ⟨_, rfl⟩) (F.args_dict_pop_3 _ _ _) (fun va ep' e => e ▸ h1 x ep' q) s R
  | none =>
    obtain ⟨hB, kvs, hD, rfl⟩ := R.known _ _ hd
    have q' := q
    rw [← getE_eq, Option.map_eq_none_iff] at q'
    exact call_meetsIn F.slot_dict_pop hD.dictOf.typeIs F.entry_dict_pop (F.args_dict_pop_3 _ _ _) (meets_dict_pop_default (bytesKind pw w) d (bytesKind_is pw w k u) (not_sys G hB) rfl z) ⟨kvs, hD.dictOf, q', σ, R.toks _, h2 q⟩
theorem CL.pop1 {d : Addr} {es : List (List UInt8 × V)} {ep : Nat} {k : List UInt8} {Q : V → MS → Prop} (G : BF w B) (hh : A.handled = none) (hd : σ d = some (.dict es ep)) (hz : es.length ≤ 1000000)
    (h1 : ∀ x ep', getE es k = some x → Q x (upd σ d (.dict (delE es k) ep'))) (h2 : getE es k = none → E (.type "KeyError") σ) : CL w B os l A (.bi "dict.pop") [.ref d, .byt k] Q E σ := fun vf vs hf hv s R => by
  obtain ⟨x, y, rfl, hx, hy⟩ := list2 hv
  obtain ⟨u, rfl⟩ := er_byt hy
  rw [er_bi hf, er_ref hx]
  cases q : getE es k with
  | some x => exact popThere (Q := fun v σ => Q (er v) σ) hd hz q (.inl rfl) (F.args_dict_pop_2 _ _) (fun va ep' e => e ▸ h1 x ep' q) s R
  | none =>
    obtain ⟨hB, kvs, hD, rfl⟩ := R.known _ _ hd
    have q' := q
    rw [← getE_eq, Option.map_eq_none_iff] at q'
    refine call_meetsIn F.slot_dict_pop hD.dictOf.typeIs F.entry_dict_pop (F.args_dict_pop_2 _ _) (meets_dict_pop_missing (bytesKind pw w) d (bytesKind_is pw w k u) (not_sys G hB) rfl) ⟨hh, kvs, hD.dictOf, q', fun h' e hx => ?_⟩
    obtain ⟨ob, t, he, hcls, hdt⟩ := hx.there
    exact ⟨e, .type "KeyError", σ, rfl, XR.new (a0 := t) R hx.keeps hx.new he hcls hdt rfl rfl _, h2 q⟩
theorem evDict0 {pos : Pos} {Q : V → MS → Prop} (h : ∀ d ep, σ d = none → B.get? d = none → Q (.ref d) (upd σ d (.dict [] ep))) : EV w B os l A env (.Dict [] [] pos) Q E σ := fun s R => by
  rw [eval_Dict_empty]
  refine wpAny_bind (wpAny_standAt ?_)
  unfold newDict
  have hD : (s.heap.push { cls := .type "dict", data := .dict #[] }).DictOf (bytesKind pw w) s.heap.objs.size [] := Heap.DictOf.new s.heap
  obtain ⟨ep, hA⟩ := hD.dictAt
  have R' := R.new (a := s.heap.objs.size) (o := .dict [] ep) (h' := s.heap.push { cls := .type "dict", data := .dict #[] }) (fun b o h => Heap.get?_push_of_some _ h) (get_none s) ⟨[], hA, rfl⟩ s.toks
  exact wpAny_newObj_type ⟨_, R', h _ ep R.fresh.1 R.fresh.2⟩ (by size_fits)
theorem CL.keys {d : Addr} {es : List (List UInt8 × V)} {ep : Nat} {Q : V → MS → Prop} (G : BF w B) (hd : σ d = some (.dict es ep)) (h : ∀ v, σ v = none → B.get? v = none → Q (.ref v) (upd σ v (KV d))) : CL w B os l A (.bi "dict.keys") [.ref d] Q E σ := fun vf vs hf hv s R => by
  obtain ⟨x, rfl, hx⟩ := list1 hv
  rw [er_bi hf, er_ref hx]
  obtain ⟨hB, kvs, hD, rfl⟩ := R.known _ _ hd
  exact call_meetsIn F.slot_dict_keys hD.dictOf.typeIs F.entry_dict_keys (F.args_dict_keys_1 _) (kdl_meets_keys (bytesKind pw w) d (not_sys G hB)) ⟨⟨kvs, hD.dictOf⟩, _, R.new (o := KV d) (fun b o h => Heap.get?_push_of_some _ h) (get_none s) ⟨_, Heap.get?_push_size _ rfl, rfl, rfl⟩ s.toks, h _ R.fresh.1 R.fresh.2⟩
theorem key_er {kvs : List (List UInt8 × Value)} {es : List (List UInt8 × V)} (h : kvs.map (fun p => (p.1, er p.2)) = es) : kvs.map (fun p => V.byt p.1) = es.map (fun p => V.byt p.1) := by
  rw [← h, List.map_map]; rfl
theorem Nxt.keys {d : Addr} {es : List (List UInt8 × V)} {ep : Nat} (hh : A.handled = none) :
    (∀ it i x τ (Q : Option Value → MS → Prop) (E : Value → MS → Prop), τ d = some (.dict es ep) → τ it = some (KI d es.length ep i) → (es.map fun p => V.byt p.1)[i]? = some x → (∀ va, er va = x → Q (some va) (upd τ it (KI d es.length ep (i + 1)))) → W w B os l A (pyNext (.ref it)) Q E τ) ∧
    (∀ it i τ (Q : Value → MS → Prop) (E : Value → MS → Prop), τ it = some (KI d es.length ep i) → Q (.ref it) τ → W w B os l A (pyIter (.ref it)) Q E τ) ∧
    (∀ it τ (Q : Option Value → MS → Prop) (E : Value → MS → Prop), τ d = some (.dict es ep) → τ it = some (KI d es.length ep es.length) → Q none (del τ it) → W w B os l A (pyNext (.ref it)) Q E τ) := by
  refine ⟨fun it i x τ Q E hp hi hx h s R => ?_, fun it i τ Q E hi h s R => ?_, fun it τ Q E hp hi h s R => ?_⟩
  · obtain ⟨hB, kvs, hD, hes⟩ := R.known _ _ hp
    obtain ⟨_, o, ho, hc, hd⟩ := R.known _ _ hi
    have hl : kvs.length = es.length := by rw [← hes, List.length_map]
    rw [← key_er hes, List.getElem?_map] at hx
    obtain ⟨⟨k, v⟩, hkv, rfl⟩ := Option.map_eq_some_iff.mp hx
    refine wpAny_pyNext_dict_item (d := d) (i := i) (ep := ep) (kvs := kvs) ⟨o, ho, hc, by rw [hl]; exact hd⟩ hD hkv fun key h' hk ⟨o', ho', hc', hd'⟩ hs => ⟨_, R.turn (o' := KI d es.length ep (i + 1)) hi hs ⟨o', ho', hc', by rw [hl] at hd'; exact hd'⟩ s.toks (fun m e => by cases e), h key (is_byt.mp hk)⟩
  · obtain ⟨_, o, ho, hc, hd⟩ := R.known _ _ hi
    exact wpAny_pyIter_keyiter (d := d) (i := i) (n := es.length) (ep := ep) ⟨o, ho, hc, hd⟩ ⟨τ, R, h⟩
  · obtain ⟨hB, kvs, hD, hes⟩ := R.known _ _ hp
    obtain ⟨_, o, ho, hc, hd⟩ := R.known _ _ hi
    have hl : kvs.length = es.length := by rw [← hes, List.length_map]
    exact wpAny_pyNext_dict_end (d := d) (i := es.length) (ep := ep) (kvs := kvs) hh ⟨o, ho, hc, by rw [hl]; exact hd⟩ hD (by rw [← hl]; simp) fun h' hs => ⟨_, R.drop hi (fun m e => by cases e) hs s.toks, h⟩
theorem Src.dict {d : Addr} {es : List (List UInt8 × V)} {ep : Nat} (G : BF w B) (hh : A.handled = none) (hd : σ d = some (.dict es ep)) : Src w B os l A (.ref d) (es.map fun p => V.byt p.1) σ (KI d es.length ep) (fun τ => τ d = some (.dict es ep)) where
  iter Q E h va hv := fun s R => by
    rw [er_ref hv]
    obtain ⟨hB, kvs, hD, hes⟩ := R.known _ _ hd
    have hl : kvs.length = es.length := by rw [← hes, List.length_map]
    refine wpAny_pyIter_dict (not_sys G hB) hD ?_
    exact ⟨_, R.new (o := KI d es.length ep 0) (fun b o e => Heap.get?_push_of_some _ e) (get_none s) ⟨_, Heap.get?_push_size _ rfl, rfl, by rw [← hl]; rfl⟩ _, h _ R.fresh.1 R.fresh.2⟩
  next := (Nxt.keys hh).1
  self := (Nxt.keys hh).2.1
  fin it τ Q E hp hi h := (Nxt.keys hh).2.2 it τ Q E hp (by rw [List.length_map] at hi; exact hi) h
theorem Src.view {d v : Addr} {es : List (List UInt8 × V)} {ep : Nat} (hh : A.handled = none) (hd : σ d = some (.dict es ep)) (hv : σ v = some (KV d)) : Src w B os l A (.ref v) (es.map fun p => V.byt p.1) σ (KI d es.length ep) (fun τ => τ d = some (.dict es ep)) where
  iter Q E h va hva := fun s R => by
    rw [er_ref hva]
    obtain ⟨hB, kvs, hD, hes⟩ := R.known _ _ hd
    obtain ⟨_, o, ho, hc, hd'⟩ := R.known _ _ hv
    have hl : kvs.length = es.length := by rw [← hes, List.length_map]
    refine kdl_pyIter_keys ⟨o, ho, hc, hd'⟩ hD ?_
    exact ⟨_, R.new (o := KI d es.length ep 0) (fun b o e => Heap.get?_push_of_some _ e) (get_none s) ⟨_, Heap.get?_push_size _ rfl, rfl, by rw [← hl]; rfl⟩ _, h _ R.fresh.1 R.fresh.2⟩
  next := (Nxt.keys hh).1
  self := (Nxt.keys hh).2.1
  fin it τ Q E hp hi h := (Nxt.keys hh).2.2 it τ Q E hp (by rw [List.length_map] at hi; exact hi) h
end
end Mine
end
section
open PySem PySem.W PySem.Calls PyProof.Rows PySem.Builtin
namespace Mine
theorem slot_si_next : Slot "set_iterator" "__next__" "set_iterator.__next__" := .of (owner := "set_iterator") (n := "__next__") (by rw [typeLookup_type, builtinLookup_eq_fast]; kernel_rfl) (by decide +kernel) (by decide +kernel) (by decide +kernel)
    (by first | exact .inl (by decide +kernel) | exact .inr (by decide +kernel)) (by rw [isSubtype_type]; kernel_rfl)
theorem entry_si_next : entryFor table "set_iterator.__next__" = some Builtin.«set_iterator.__next__» := entryFor_of_tree (by kernel_rfl)
theorem args_si_next (a : Value) : argsOk "set_iterator.__next__" ⟨[a], []⟩ := by unfold argsOk; kernel_rfl
theorem entry_set_iter' : entryFor table "set.__iter__" = some Builtin.«frozenset.__iter__» := entryFor_alias (id' := "frozenset.__iter__") (by kernel_rfl) rfl (by decide +kernel) (by kernel_rfl)
theorem args_set_iter' (a : Value) : argsOk "set.__iter__" ⟨[a], []⟩ := by unfold argsOk; kernel_rfl
theorem erase_perm {α : Type} : ∀ (l : List α) (i : Nat) (h : i < l.length), (l[i] :: l.eraseIdx i).Perm l
  | x :: l, 0, h => .refl _
  | x :: l, i + 1, h => by
    have h' : i < l.length := by simpa using h
    exact (List.Perm.swap _ _ _).trans (List.Perm.cons _ (erase_perm l i h'))
theorem pick_go {α : Type} (next : Nat → Nat) : ∀ (fuel k : Nat) (left : List α) (out : Array α), fuel = left.length → (pickOrder.go next fuel k left out).toList.Perm (out.toList ++ left)
  | 0, k, left, out, h => by
    have : left = [] := List.eq_nil_of_length_eq_zero h.symm
    subst this
    simp [pickOrder.go]
  | fuel + 1, k, left, out, h => by
    have hl : 0 < left.length := by omega
    have hi : next k % left.length < left.length := Nat.mod_lt _ hl
    unfold pickOrder.go
    rw [List.getElem?_eq_getElem hi]
    dsimp only
    refine (pick_go next fuel (k + 1) _ _ (by rw [List.length_eraseIdx, if_pos hi]; omega)).trans ?_
    rw [Array.toList_push, List.append_assoc]
    refine List.Perm.append_left _ ?_
    exact erase_perm _ _ hi
theorem pick_perm {α : Type} (next : Nat → Nat) (xs : Array α) : (pickOrder next xs).toList.Perm xs.toList := by
  have := pick_go next xs.size 0 xs.toList #[] (by simp)
  simpa [pickOrder] using this
section
variable {M : Model} {A : Around} {E : Value → Shared → Prop} {s : Shared}
theorem choose_any {src : Source} {n : Nat} {Q : Nat → Shared → Prop} (hn : n ≠ 0) (h : ∀ i d, i < n → Q i { s with drawn := d }) : wpAny M A (choose src n) Q E s := fun Γ p hΓ =>
  (Sem.wp_choose M Γ _ _ _ _ _ _ _).mpr ⟨hn, h _ _ (Nat.mod_lt _ (Nat.pos_of_ne_zero hn))⟩
theorem draw_any {α : Type} (n : Nat) : ∀ (xs : List α) (s : Shared) (Q : List α → Shared → Prop), n = xs.length → (∀ ys d, ys.Perm xs → Q ys { s with drawn := d }) → wpAny M A (drawOrder n xs) Q E s := by
  induction n with
  | zero =>
    intro xs s Q hn h
    cases List.eq_nil_of_length_eq_zero hn.symm
    exact wpAny_pure (h [] s.drawn .nil)
  | succ n ih =>
    intro xs s Q hn h
    cases xs with
    | nil => cases hn
    | cons x xs =>
    refine wpAny_bind (choose_any (by simp) fun i d hi => ?_)
    rw [List.getElem?_eq_getElem hi]
    dsimp only
    refine wpAny_bind (ih _ _ _ (by rw [List.length_eraseIdx, if_pos hi]; simp at hn ⊢; omega) fun ys d' hp => wpAny_pure (h _ d' ?_))
    exact (List.Perm.cons _ hp).trans (erase_perm _ _ hi)
end
section
variable {w : World} {A : Around} {E : Value → Shared → Prop} {s : Shared} {it a T : Addr} {io oa oT : Obj} {es : Array (Int × Value)} {t : SetTable} {i ep : Nat} {first : Value}
noncomputable def siObj (first : Value) (a : Addr) (i n ep : Nat) (o : Obj) : Prop := o.cls = .type "set_iterator" ∧ o.data = .fields #[first, .int i 0, .ref a, .int n 0, .int ep 0]
theorem si_upd1 (ho : s.heap.get? it = some io) (hd : siObj first a i es.size ep io) : ∃ io', (s.heap.update it (Obj.mapFields (·.setIfInBounds 1 (rawInt ((i : Int) + 1))))).get? it = some io' ∧ siObj first a (i + 1) es.size ep io' :=
  ⟨_, Heap.get?_update_self _ ho (Obj.isFreed_of_fields (Obj.data_mapFields hd.2 _)), (Obj.cls_mapFields ..).trans hd.1, by rw [Obj.data_mapFields hd.2]; simp [rawInt]⟩
theorem si_enter {Q : Option Value → Shared → Prop} (hio : s.heap.get? it = some io) (hs : siObj first a i es.size ep io) (ha : s.heap.get? a = some oa) (hd : oa.data = .set es ep t) (hf : t.fits es.size = true)
    (h : wpAny (model pw w) A.in1 (if let .int slot _ := first then do
        match ← setNext a slot.toNat ((i : Int)).toNat ((ep : Int)).toNat with
        | some (x, nxt) =>
          setField (.ref it) 0 (rawInt nxt)
          setField (.ref it) 1 (rawInt ((i : Int) + 1))
          ret x
        | none => setField (.ref it) 2 .none; raiseNew (← newExc (.type "StopIteration") [])
      else do
        let some places ← seqItems? first | unsupported "internal:set_iterator"
        match places[((i : Int)).toNat]? with
        | some (.int place _) =>
          let x ← setNextDrawn a place.toNat ((ep : Int)).toNat
          setField (.ref it) 1 (rawInt ((i : Int) + 1))
          ret x
        | some _ => unsupported "internal:set_iterator"
        | none => setField (.ref it) 0 (rawInt 0); setField (.ref it) 2 .none; raiseNew (← newExc (.type "StopIteration") []))
      (fun fin s' => ∃ v, fin = .done (.ret v) ∧ Q (some v) s') (fun v s' => ∃ e ob, v = .ref e ∧ s'.heap.get? e = some ob ∧ ob.cls = .type "StopIteration" ∧ Q none s') s) : wpAny (model pw w) A (pyNext (.ref it)) Q E s := by
  have hT : s.TypeIs (.ref it) "set_iterator" := ⟨io, hio, hs.1⟩
  unfold pyNext
  refine wpAny_bind (wpAny_attempt (wpAny_callSpecial?_slot (name := PySem.Str.ofString "__next__") hT slot_si_next
    (wpAny_call_entry slot_si_next hT entry_si_next ?_ (args_si_next _))))
  unfold Builtin.«set_iterator.__next__»
  refine wpAny_bind (wpAny_pure ?_)
  refine wpAny_bind (wpAny_fieldsOf hio hs.2 ?_)
  dsimp only
  refine wpAny_bind (wpAny_setEntries_of ha hd hf ?_)
  rw [if_neg (by simp)]
  refine wpAny_mono h (fun fin s' ⟨v, hv, q⟩ => ⟨v, hv, wpAny_pure q⟩) fun v s' hq1 => ?_
  obtain ⟨e, ob, hv, ho, hc, q⟩ := hq1
  subst hv
  exact wpAny_bind (wpAny_isInstance (T := "StopIteration") (b := true) ⟨ob, ho, hc⟩ isSubtype_stop (wpAny_pure q))
theorem si_stop {Q : Option Value → Shared → Prop} {a : Addr} (hh : A.handled = none) (h : ∀ h', Heap.ExtBut a s.heap h' → Q none { s with heap := h' }) :
    wpAny (model pw w) A.in1 (do raiseNew (← newExc (.type "StopIteration") []) : Sem Fin) (fun fin s' => ∃ v, fin = .done (.ret v) ∧ Q (some v) s') (fun v s' => ∃ e ob, v = .ref e ∧ s'.heap.get? e = some ob ∧ ob.cls = .type "StopIteration" ∧ Q none s') s := by
  show wpAny _ _ (newExc (.type "StopIteration") [] >>= _) _ _ _
  refine wpAny_bind ?_
  simp only [newExc, newTuple]
  refine wpAny_bind (wpAny_newObj_type ?_ (by size_fits))
  refine wpAny_bind (m := firstArgMember _ _) (wpAny_of_eq (a := Value.none) (by first | rfl | (simp only [firstArgMember]; rfl)) ?_)
  refine wpAny_newObj_type ?_ (by size_fits)
  simp only [raiseNew]
  refine wpAny_bind (wpAny_handled ?_)
  rw [show A.in1.handled = none from hh]
  refine wpAny_bind (wpAny_pure (wpAny_throw ?_))
  exact ⟨_, _, rfl, Heap.get?_push_size _ rfl, rfl, h _ fun b o hb e => Heap.get?_push_of_some _ (Heap.get?_push_of_some _ e)⟩
theorem si_next_D {Q : Option Value → Shared → Prop} {places : Array Value} {m p : Nat} {hx : Int} {x : Value} (hio : s.heap.get? it = some io) (hs : siObj (.ref T) a i es.size ep io) (ha : s.heap.get? a = some oa) (hd : oa.data = .set es ep t) (hf : t.fits es.size = true)
    (hT : s.heap.get? T = some oT) (hdT : oT.data = .seq places m) (hp : places[i]? = some (.int p 0)) (he : es[p]? = some (hx, x))
    (h : ∀ h' io', Heap.SameBut it s.heap h' → h'.get? it = some io' → siObj (.ref T) a (i + 1) es.size ep io' → Q (some x) { s with heap := h' }) : wpAny (model pw w) A (pyNext (.ref it)) Q E s := by
  refine si_enter hio hs ha hd hf ?_
  dsimp only
  refine wpAny_bind (wpAny_seqItems hT hdT ?_)
  dsimp only
  rw [Int.toNat_natCast, hp]
  dsimp only
  refine wpAny_bind ?_
  unfold setNextDrawn
  refine wpAny_bind (wpAny_setState_of ha hd hf ?_)
  dsimp only
  rw [if_neg (by simp), Int.toNat_natCast, he]
  refine wpAny_pure ?_
  refine wpAny_bind (wpAny_setField hio hs.2 (by simp) ?_)
  obtain ⟨io', h1, h2⟩ := si_upd1 hio hs
  exact wpAny_pure ⟨x, rfl, h _ io' (Heap.SameBut.update ..) h1 h2⟩
theorem si_fin_D {Q : Option Value → Shared → Prop} {places : Array Value} {m : Nat} (hh : A.handled = none) (hio : s.heap.get? it = some io) (hs : siObj (.ref T) a i es.size ep io) (ha : s.heap.get? a = some oa) (hd : oa.data = .set es ep t) (hf : t.fits es.size = true)
    (hT : s.heap.get? T = some oT) (hdT : oT.data = .seq places m) (hp : places[i]? = none)
    (h : ∀ h', Heap.ExtBut it s.heap h' → Q none { s with heap := h' }) : wpAny (model pw w) A (pyNext (.ref it)) Q E s := by
  refine si_enter hio hs ha hd hf ?_
  dsimp only
  refine wpAny_bind (wpAny_seqItems hT hdT ?_)
  dsimp only
  rw [Int.toNat_natCast, hp]
  dsimp only
  refine wpAny_bind (wpAny_setField hio hs.2 (by simp) ?_)
  have g1 := Heap.get?_update_self (Obj.mapFields (·.setIfInBounds 0 (rawInt 0))) hio (Obj.isFreed_of_fields (Obj.data_mapFields hs.2 _))
  refine wpAny_bind (wpAny_setField g1 (Obj.data_mapFields hs.2 _) (by simp) ?_)
  refine si_stop (a := it) hh fun h' hx => h h' ?_
  exact fun b o hb e => hx b o hb ((Heap.get?_update_other _ _ (Ne.symm hb)).trans ((Heap.get?_update_other _ _ (Ne.symm hb)).trans e))
theorem si_next_N {Q : Option Value → Shared → Prop} {slot slot' : Nat} {x : Value} (hio : s.heap.get? it = some io) (hs : siObj (.int slot 0) a i es.size ep io) (ha : s.heap.get? a = some oa) (hd : oa.data = .set es ep t) (hf : t.fits es.size = true)
    (hn : wpAny (model pw w) A.in1 (setNext a slot i ep) (fun r s' => r = some (x, slot') ∧ s' = s) (fun _ _ => False) s)
    (h : ∀ h' io', Heap.SameBut it s.heap h' → h'.get? it = some io' → siObj (.int slot' 0) a (i + 1) es.size ep io' → Q (some x) { s with heap := h' }) : wpAny (model pw w) A (pyNext (.ref it)) Q E s := by
  refine si_enter hio hs ha hd hf ?_
  dsimp only
  rw [Int.toNat_natCast, Int.toNat_natCast, Int.toNat_natCast]
  refine wpAny_bind (wpAny_mono hn (fun r s' hq1 => ?_) fun _ _ z => z.elim)
  obtain ⟨hr, hs'⟩ := hq1
  subst hr hs'
  dsimp only
  refine wpAny_bind (wpAny_setField hio hs.2 (by simp) ?_)
  have g1 := Heap.get?_update_self (Obj.mapFields (·.setIfInBounds 0 (rawInt slot'))) hio (Obj.isFreed_of_fields (Obj.data_mapFields hs.2 _))
  have hs1 : siObj (.int slot' 0) a i es.size ep (Obj.mapFields (·.setIfInBounds 0 (rawInt slot')) io) := ⟨(Obj.cls_mapFields ..).trans hs.1, by rw [Obj.data_mapFields hs.2]; simp [rawInt]⟩
  refine wpAny_bind (wpAny_setField g1 hs1.2 (by simp) ?_)
  obtain ⟨io', h1, h2⟩ := si_upd1 (s := { s' with heap := s'.heap.update it (Obj.mapFields (·.setIfInBounds 0 (rawInt slot'))) }) g1 hs1
  exact wpAny_pure ⟨x, rfl, h _ io' ((Heap.SameBut.update ..).trans (Heap.SameBut.update ..)) h1 h2⟩
theorem si_fin_N {Q : Option Value → Shared → Prop} {slot : Nat} (hh : A.handled = none) (hio : s.heap.get? it = some io) (hs : siObj (.int slot 0) a i es.size ep io) (ha : s.heap.get? a = some oa) (hd : oa.data = .set es ep t) (hf : t.fits es.size = true)
    (hn : wpAny (model pw w) A.in1 (setNext a slot i ep) (fun r s' => r = none ∧ s' = s) (fun _ _ => False) s)
    (h : ∀ h', Heap.ExtBut it s.heap h' → Q none { s with heap := h' }) : wpAny (model pw w) A (pyNext (.ref it)) Q E s := by
  refine si_enter hio hs ha hd hf ?_
  dsimp only
  rw [Int.toNat_natCast, Int.toNat_natCast, Int.toNat_natCast]
  refine wpAny_bind (wpAny_mono hn (fun r s' hq1 => ?_) fun _ _ z => z.elim)
  obtain ⟨hr, hs'⟩ := hq1
  subst hr hs'
  dsimp only
  refine wpAny_bind (wpAny_setField hio hs.2 (by simp) ?_)
  refine si_stop (a := it) hh fun h' hx => h h' ?_
  exact fun b o hb e => hx b o hb ((Heap.get?_update_other _ _ (Ne.symm hb)).trans e)
end
end Mine
end
section
open PySem PySem.W PySem.Calls PyProof.Rows PySem.Builtin
namespace Mine
section
variable {w : World} {A : Around} {E : Value → Shared → Prop} {s : Shared} {it a T : Addr} {io oa oT : Obj} {es : Array (Int × Value)} {t : SetTable} {i ep : Nat} {first : Value}
theorem byText_any {Q : Bool → Shared → Prop} (h : Q (w.params.followText "set-order") s) : wpAny (model pw w) A setsByText Q E s := by
  unfold setsByText
  exact wpAny_bind (wpAny_askSetting (wpAny_pure h))
theorem setNext_text {slot given : Nat} {Q : Option (Value × Nat) → Shared → Prop} (hb : w.params.followText "set-order" = true) (ha : s.heap.get? a = some oa) (hd : oa.data = .set es ep t) (hf : t.fits es.size = true)
    (h : Q (((pickOrder (w.params.setOrder a ep) es)[given]?).map fun e => (e.2, slot)) s) : wpAny (model pw w) A (setNext a slot given ep) Q E s := by
  unfold setNext
  refine wpAny_bind (wpAny_setState_of ha hd hf ?_)
  dsimp only
  refine wpAny_bind (byText_any ?_)
  rw [hb, if_pos rfl, if_neg (by simp)]
  unfold setWalk
  refine wpAny_bind (wpAny_bind (wpAny_setState_of ha hd hf ?_))
  dsimp only
  refine wpAny_bind (byText_any ?_)
  rw [hb, if_pos rfl]
  exact wpAny_bind (wpAny_askSetting (wpAny_pure (wpAny_pure h)))
theorem setNext_small {slot given : Nat} {Q : Option (Value × Nat) → Shared → Prop} (hb : w.params.followText "set-order" = false) (hl : t.led = true) (hz : es.size ≤ 1) (ha : s.heap.get? a = some oa) (hd : oa.data = .set es ep t) (hf : t.fits es.size = true)
    (h : Q (match es[SetTable.below t.place slot]?, t.place[SetTable.below t.place slot]? with | some (_, x), some j => some (x, j + 1) | _, _ => none) s) : wpAny (model pw w) A (setNext a slot given ep) Q E s := by
  unfold setNext
  refine wpAny_bind (wpAny_setState_of ha hd hf ?_)
  dsimp only
  refine wpAny_bind (byText_any ?_)
  rw [hb, if_neg (by decide)]
  have e1 : ((!t.plain) && decide (es.size > 1)) = false := by rw [decide_eq_false (Nat.not_lt.mpr hz), Bool.and_false]
  show wpAny _ _ (if ((!t.plain) && decide (es.size > 1)) = true then _ else _) _ _ _
  rw [e1, if_neg (by decide)]
  refine wpAny_bind ?_
  show wpAny _ _ (if (!t.led && !es.isEmpty) = true then _ else _) _ _ _
  rw [hl, if_neg (by simp)]
  exact wpAny_pure (wpAny_pure h)
theorem setDrawn_any {Q : Bool → Shared → Prop} (ha : s.heap.get? a = some oa) (hd : oa.data = .set es ep t) (hf : t.fits es.size = true) (h : Q (!(w.params.followText "set-order") && ((!t.plain) && decide (es.size > 1))) s) : wpAny (model pw w) A (setDrawn a) Q E s := by
  unfold setDrawn
  refine wpAny_bind (wpAny_setState_of ha hd hf ?_)
  exact wpAny_bind (byText_any (wpAny_pure h))
theorem below0 (p : Nat) : SetTable.below #[p] 0 = 0 := by simp [SetTable.below, SetTable.below.go]
theorem below1 (p : Nat) : SetTable.below #[p] (p + 1) = 1 := by simp [SetTable.below, SetTable.below.go]
end
noncomputable def ovl (σ P : MS) : MS := fun b => (P b).or (σ b)
structure NX (w : World) (B : Heap) (os : OsState) (l : List Env) (xs : List V) (S : Nat → O) (P : MS) (it : Addr) : Prop where
  next : ∀ (A : Around), A.handled = none → ∀ i x τ (Q : Option Value → MS → Prop) (E : Value → MS → Prop), Le P τ → τ it = some (S i) → xs[i]? = some x → (∀ va, er va = x → Q (some va) (upd τ it (S (i + 1)))) → W w B os l A (pyNext (.ref it)) Q E τ
  fin : ∀ (A : Around), A.handled = none → ∀ τ (Q : Option Value → MS → Prop) (E : Value → MS → Prop), Le P τ → τ it = some (S xs.length) → Q none (del τ it) → W w B os l A (pyNext (.ref it)) Q E τ
section
variable {w : World} {B : Heap} {os : OsState} {l : List Env} {A : Around} {σ : MS} {E : Value → MS → Prop} {env : Env} {s : Shared}
noncomputable def PIN (ob : Obj) : O := .pr fun o => o = ob
noncomputable def SIt (first : Value) (a : Addr) (n ep i : Nat) : O := .pr fun o => siObj first a i n ep o
noncomputable def one (a : Addr) (o : O) : MS := fun b => if b = a then some o else none
noncomputable def two (a : Addr) (o : O) (b : Addr) (o' : O) : MS := fun c => if c = a then some o else if c = b then some o' else none
theorem pinned (R : Rel w B os l σ s) {a : Addr} {ob : Obj} (h : σ a = some (PIN ob)) : s.heap.get? a = some ob := by
  obtain ⟨_, o, ho, rfl⟩ := R.known _ _ h
  exact ho
theorem Rel.pin (R : Rel w B os l σ s) {a : Addr} {o : O} {ob : Obj} (h : σ a = some o) (hn : ∀ m, o ≠ .ns m) (hob : s.heap.get? a = some ob) : Rel w B os l (upd σ a (PIN ob)) s :=
  R.learn (R.known _ _ h).1 ⟨_, hob, rfl⟩ fun hm => by obtain ⟨m, e⟩ := R.nsf _ _ h hm; exact absurd e (hn m)
theorem NX.drawn {a T it : Addr} {ob oT : Obj} {es : Array (Int × Value)} {ep m : Nat} {t : SetTable} {places : List Nat} (haT : a ≠ T) (hd : ob.data = .set es ep t) (hf : t.fits es.size = true) (hdT : oT.data = .seq (places.map fun (p : Nat) => Value.int p 0).toArray m) (hp : ∀ p ∈ places, p < es.size) :
    NX w B os l (places.map fun p => er (es[p]?.elim Value.none (·.2))) (SIt (.ref T) a es.size ep) (two a (PIN ob) T (PIN oT)) it where
  next A hh i x τ Q E hP hit hx h s R := by
    have h1 := pinned R (hP a _ (if_pos rfl))
    have h2 := pinned R (hP T (PIN oT) (by unfold two; rw [if_neg haT.symm, if_pos rfl]))
    obtain ⟨_, io, hio, hs⟩ := R.known _ _ hit
    rw [List.getElem?_map] at hx
    obtain ⟨p, hpp, rfl⟩ := Option.map_eq_some_iff.mp hx
    have hlt := hp p (List.mem_of_getElem? hpp)
    have he : es[p]? = some es[p] := Array.getElem?_eq_getElem hlt
    refine si_next_D (p := p) (hx := es[p].1) (x := es[p].2) hio hs h1 hd hf h2 hdT (by simp [hpp]) (by rw [he]) fun h' io' k1 k2 k3 => ⟨_, R.turn (o' := SIt (.ref T) a es.size ep (i + 1)) hit k1 ⟨io', k2, k3⟩ s.toks (fun m e => by cases e), h _ (by rw [he]; rfl)⟩
  fin A hh τ Q E hP hit h s R := by
    have h1 := pinned R (hP a _ (if_pos rfl))
    have h2 := pinned R (hP T (PIN oT) (by unfold two; rw [if_neg haT.symm, if_pos rfl]))
    obtain ⟨_, io, hio, hs⟩ := R.known _ _ hit
    exact si_fin_D hh hio hs h1 hd hf h2 hdT (by simp) fun h' hx => ⟨_, R.drop hit (fun m e => by cases e) hx s.toks, h⟩
theorem NX.text {a it : Addr} {ob : Obj} {es : Array (Int × Value)} {ep : Nat} {t : SetTable} (hb : w.params.followText "set-order" = true) (hd : ob.data = .set es ep t) (hf : t.fits es.size = true) :
    NX w B os l ((pickOrder (w.params.setOrder a ep) es).toList.map fun e => er e.2) (SIt (.int (0 : Nat) 0) a es.size ep) (one a (PIN ob)) it where
  next A hh i x τ Q E hP hit hx h s R := by
    have h1 := pinned R (hP a _ (if_pos rfl))
    obtain ⟨_, io, hio, hs⟩ := R.known _ _ hit
    rw [List.getElem?_map] at hx
    obtain ⟨e, he, rfl⟩ := Option.map_eq_some_iff.mp hx
    refine si_next_N (slot' := 0) (x := e.2) hio hs h1 hd hf (setNext_text hb h1 hd hf ⟨by rw [← Array.getElem?_toList, he]; rfl, rfl⟩) fun h' io' k1 k2 k3 => ⟨_, R.turn (o' := SIt (.int (0 : Nat) 0) a es.size ep (i + 1)) hit k1 ⟨io', k2, k3⟩ s.toks (fun m e => by cases e), h _ rfl⟩
  fin A hh τ Q E hP hit h s R := by
    have h1 := pinned R (hP a _ (if_pos rfl))
    obtain ⟨_, io, hio, hs⟩ := R.known _ _ hit
    refine si_fin_N hh hio hs h1 hd hf (setNext_text hb h1 hd hf ⟨by rw [List.length_map, ← Array.getElem?_toList, List.getElem?_eq_none (Nat.le_refl _)]; rfl, rfl⟩) fun h' hx => ⟨_, R.drop hit (fun m e => by cases e) hx s.toks, h⟩
theorem NX.small {a it : Addr} {ob : Obj} {es : Array (Int × Value)} {ep : Nat} {t : SetTable} (hb : w.params.followText "set-order" = false) (hl : t.led = true) (hz : es.size ≤ 1) (hd : ob.data = .set es ep t) (hf : t.fits es.size = true) :
    NX w B os l (es.toList.map fun e => er e.2) (fun i => SIt (.int ((if i = 0 then 0 else t.place.getD 0 0 + 1 : Nat) : Int) 0) a es.size ep i) (one a (PIN ob)) it := by
  have hpl : t.place.size = es.size := by
    have := hf
    unfold SetTable.fits at this
    simp only [Bool.and_eq_true, beq_iff_eq] at this
    exact this.1
  match hes : es.toList, hz with
  | [], _ => 
    have hes' : es = #[] := by rw [← Array.toList_inj]; exact hes
    subst hes'
    have hp0 : t.place = #[] := by rw [← Array.size_eq_zero_iff, hpl]; rfl
    refine ⟨fun A hh i x τ Q E hP hit hx h s R => by simp at hx, fun A hh τ Q E hP hit h s R => ?_⟩
    have h1 := pinned R (hP a _ (if_pos rfl))
    obtain ⟨_, io, hio, hs⟩ := R.known _ _ hit
    exact si_fin_N hh hio hs h1 hd hf (setNext_small hb hl hz h1 hd hf ⟨by simp, rfl⟩) fun h' hx => ⟨_, R.drop hit (fun m e => by cases e) hx s.toks, h⟩
  | [e], _ =>
    have hes' : es = #[e] := by rw [← Array.toList_inj]; exact hes
    subst hes'
    obtain ⟨p, hp0⟩ : ∃ p, t.place = #[p] := by
      have : t.place.toList.length = 1 := by rw [Array.length_toList, hpl]; rfl
      match hh : t.place.toList, this with
      | [p], _ => exact ⟨p, by rw [← Array.toList_inj]; exact hh⟩
    refine ⟨fun A hh i x τ Q E hP hit hx h s R => ?_, fun A hh τ Q E hP hit h s R => ?_⟩
    · obtain rfl : i = 0 := by
        cases i with
        | zero => rfl
        | succ n => simp at hx
      have h1 := pinned R (hP a _ (if_pos rfl))
      obtain ⟨_, io, hio, hs⟩ := R.known _ _ hit
      refine si_next_N (slot' := p + 1) (x := e.2) hio hs h1 hd hf (setNext_small hb hl hz h1 hd hf ⟨by rw [if_pos rfl, hp0, below0]; rfl, rfl⟩) fun h' io' k1 k2 k3 => ⟨_, R.turn (o' := SIt (.int ((if 0 + 1 = 0 then 0 else t.place.getD 0 0 + 1 : Nat) : Int) 0) a (#[e] : Array (Int × Value)).size ep 1) hit k1 ⟨io', k2, by rw [if_neg (by omega), hp0]; exact k3⟩ s.toks (fun m e => by cases e), h _ (by simpa using hx)⟩
    · have h1 := pinned R (hP a _ (if_pos rfl))
      obtain ⟨_, io, hio, hs⟩ := R.known _ _ hit
      exact si_fin_N hh hio hs h1 hd hf (setNext_small hb hl hz h1 hd hf ⟨by rw [if_neg (by simp), hp0]; rw [show SetTable.below #[p] ((#[p] : Array Nat).getD 0 0 + 1) = 1 from below1 p]; rfl, rfl⟩) fun h' hx => ⟨_, R.drop hit (fun m e => by cases e) hx s.toks, h⟩
  | _ :: _ :: _, hz' => rw [← Array.length_toList, hes] at hz'; simp at hz'
theorem ovl_one {σ : MS} {a : Addr} {o : O} : ovl σ (one a o) = upd σ a o := by
  funext b; unfold ovl one upd; by_cases h : b = a <;> simp [h]
theorem ovl_two {σ : MS} {a b : Addr} {o o' : O} (h : a ≠ b) : ovl σ (two a o b o') = upd (upd σ a o) b o' := by
  funext c; unfold ovl two upd
  by_cases h1 : c = a
  · subst h1; simp [h]
  · by_cases h2 : c = b
    · subst h2; simp [h1]
    · simp [h1, h2]
structure PinOf (B : Heap) (σ P : MS) (a : Addr) : Prop where
  at_ : ∀ b o, P b = some o → (b = a ∨ σ b = none) ∧ B.get? b = none ∧ ∀ m, o ≠ .ns m
  has : ∃ ob, P a = some (PIN ob) ∧ ob.cls = .type "set"
theorem iterSet {a : Addr} {ks : List (List UInt8)} {Q : Value → MS → Prop} (ha : σ a = some (.set ks)) (hz : ks.length ≤ 1000)
    (h : ∀ it xs S P, xs.Perm (ks.map V.byt) → NX w B os l xs S P it → PinOf B σ P a → ovl σ P it = none → B.get? it = none → Q (.ref it) (upd (ovl σ P) it (S 0))) : W w B os l A (pyIter (.ref a)) Q E σ := fun s R => by
  obtain ⟨ob, es, ep, t, hob, hex, hd, hok⟩ := isSet R ha
  have hBa := (R.known _ _ ha).1
  obtain ⟨hel, hf, hp, hnd, hled, hpl⟩ := id hok
  have hT : s.TypeIs (.ref a) "set" := ⟨ob, hob, hex.1⟩
  have Rp := R.pin ha (fun m e => by cases e) hob
  refine wpAny_pyIter_slot hT F.slot_set_iter (wpAny_call_entry F.slot_set_iter hT entry_set_iter' ?_ (args_set_iter' _))
  unfold Builtin.«frozenset.__iter__»
  refine wpAny_bind (wpAny_pure ?_)
  refine wpAny_bind (wpAny_bind (wpAny_setEntries_of hob hd hf (wpAny_pure ?_)))
  refine wpAny_bind (setDrawn_any hob hd hf ?_)
  have fin : ∀ (first : Value) (s₁ : Shared) (xs : List V) (S : Nat → O) (P : MS), s₁.heap.get? a = some ob → Rel w B os l (ovl σ P) s₁ → (∀ it, NX w B os l xs S P it) → xs.Perm (ks.map V.byt) → PinOf B σ P a → (∀ o, siObj first a 0 es.size ep o → ∀ h it, h.get? it = some o → IsO w h it (S 0)) →
      wpAny (model pw w) A.in1 (do ret (← newFields "set_iterator" [first, rawInt 0, .ref a, rawInt es.size, rawInt (← setEpoch a)]))
        (fun fin s' => ∃ r, fin = .done (.ret r) ∧ ∃ T' r_1, s'.TypeIs r T' ∧ typeLookup (.type T') "__next__" = pure (some r_1) ∧ ∃ σ', Rel w B os l σ' s' ∧ Q r σ') (fun v s' => ∃ e cls σ', v = .ref e ∧ XR w B os l e cls σ' s' ∧ E cls σ') s₁ := by
    intro first s₁ xs S P q1 q2 q3 q4 q5 q6
    refine wpAny_bind (wpAny_setEpoch_of q1 hd hf ?_)
    refine wpAny_bind (wpAny_newObj_type ?_)
    have hg : (s₁.heap.push { cls := .type "set_iterator", dict := none, data := .fields #[first, rawInt 0, .ref a, rawInt es.size, rawInt ep] }).get? s₁.heap.objs.size = some { cls := .type "set_iterator", dict := none, data := .fields #[first, rawInt 0, .ref a, rawInt es.size, rawInt ep] } := Heap.get?_push_size _ rfl
    refine wpAny_pure ⟨_, rfl, "set_iterator", _, ⟨_, hg, rfl⟩, slot_si_next.lookup, _, q2.new (o := S 0) (fun b o e => Heap.get?_push_of_some _ e) (get_none s₁) (q6 _ ⟨rfl, rfl⟩ _ _ hg) s₁.toks, ?_⟩
    exact h s₁.heap.objs.size xs S P q4 (q3 _) q5 q2.fresh.1 q2.fresh.2
  have pin1 : PinOf B σ (one a (PIN ob)) a := ⟨(fun b o e => by
    unfold one at e
    split at e
    · rename_i hb; cases e; exact ⟨.inl hb, hb ▸ hBa, fun m z => by cases z⟩
    · cases e), ob, if_pos rfl, hex.1⟩
  cases hb : w.params.followText "set-order" with
  | true =>
    rw [Bool.not_true, Bool.false_and, if_neg (by decide)]
    refine wpAny_bind (wpAny_pure ?_)
    refine fin (rawInt 0) s _ _ (one a (PIN ob)) hob (by rw [ovl_one]; exact Rp) (fun it => NX.text hb hd hf) ?_ pin1 (fun o ho h' it hg => ⟨o, hg, ho⟩)
    exact ((pick_perm _ _).map _).trans hp
  | false =>
    rw [hb] at hled
    rw [Bool.not_false, Bool.true_and]
    by_cases hz1 : es.size ≤ 1
    · rw [decide_eq_false (Nat.not_lt.mpr hz1), Bool.and_false, if_neg (by decide)]
      refine wpAny_bind (wpAny_pure ?_)
      exact fin (rawInt 0) s _ _ (one a (PIN ob)) hob (by rw [ovl_one]; exact Rp) (fun it => NX.small hb hled hz1 hd hf) hp pin1 (fun o ho h' it hg => ⟨o, hg, ho⟩)
    · have hpf : t.plain = false := by
        cases q : t.plain with
        | false => rfl
        | true => have := hpl q; subst this; exact absurd (Nat.zero_le _) hz1
      rw [hpf, decide_eq_true (by omega), Bool.not_false, Bool.and_self, if_pos rfl]
      refine wpAny_bind (draw_any es.size (List.range es.size) s _ (by simp) fun ys d hys => wpAny_bind ?_)
      have R₁ : Rel w B os l (upd σ a (PIN ob)) { s with drawn := d } := ⟨Rp.gens, Rp.os, Rp.old, Rp.known, Rp.frames, Rp.nsf⟩
      refine wpAny_newTuple ?_ (by rw [List.length_map, hys.length_eq, List.length_range, hok.size, sizeLine_eq]; omega)
      have hne : a ≠ s.heap.objs.size := fun z => by rw [z, get_none s] at hob; cases hob
      have R₂ := R₁.new (a := s.heap.objs.size) (o := PIN { cls := .type "tuple", data := .seq (ys.map fun (i : Nat) => rawInt i).toArray }) (h' := s.heap.push { cls := .type "tuple", data := .seq (ys.map fun (i : Nat) => rawInt i).toArray }) (fun b o e => Heap.get?_push_of_some _ e) (get_none s) ⟨_, Heap.get?_push_size _ rfl, rfl⟩ s.toks
      have fr := R.fresh
      refine fin (.ref s.heap.objs.size) _ (ys.map fun p => er (es[p]?.elim Value.none (·.2))) (SIt (.ref s.heap.objs.size) a es.size ep) (two a (PIN ob) s.heap.objs.size (PIN { cls := .type "tuple", data := .seq (ys.map fun (i : Nat) => rawInt i).toArray })) (Heap.get?_push_of_some _ hob) (by rw [ovl_two hne]; exact R₂)
        (fun it => NX.drawn (m := 0) hne hd hf rfl (fun p hp' => by have := hys.mem_iff.mp hp'; simpa using this)) ?_ ⟨fun b o e => ?_, ob, if_pos rfl, hex.1⟩ (fun o ho h' it hg => ⟨o, hg, ho⟩)
      · have e1 : ((List.range es.size).map fun p => er (es[p]?.elim Value.none (·.2))) = es.toList.map fun e => er e.2 := by
          refine List.ext_getElem (by simp) fun i h1 h2 => ?_
          simp at h1 h2
          simp [h1]
        refine (hys.map _).trans ?_
        rw [e1]; exact hp
      · unfold two at e
        split at e
        · rename_i hb'; cases e; exact ⟨.inl hb', hb' ▸ hBa, fun m z => by cases z⟩
        · split at e
          · rename_i hb'; cases e; exact ⟨.inr (hb' ▸ fr.1), hb' ▸ fr.2, fun m z => by cases z⟩
          · cases e
end
end Mine
end
section
open PySem PySem.W PySem.Calls PyProof.Rows PySem.Builtin
namespace Mine
noncomputable def nats (x : List UInt8) : List Nat := x.map UInt8.toNat
theorem nats_inj : ∀ {x y : List UInt8}, nats x = nats y → x = y
  | [], [], _ => rfl
  | [], _ :: _, h => by cases h
  | _ :: _, [], h => by cases h
  | a :: x, b :: y, h => by
    unfold nats at h
    rw [List.map_cons, List.map_cons] at h
    injection h with h1 h2
    rw [UInt8.toNat_inj.mp h1, nats_inj h2]
theorem order_lt : ∀ a b : List UInt8, (Bytes.order a b == .lt) = decide (nats a < nats b)
  | [], [] => by simp [Bytes.order, nats]
  | [], _ :: _ => by simp [Bytes.order, nats]
  | _ :: _, [] => by simp [Bytes.order, nats]
  | x :: a, y :: b => by
    have ih := order_lt a b
    have e : (nats (x :: a) < nats (y :: b)) ↔ (x.toNat < y.toNat ∨ x.toNat = y.toNat ∧ nats a < nats b) := by
      unfold nats; rw [List.map_cons, List.map_cons, List.cons_lt_cons_iff]
    rw [Bool.eq_iff_iff, decide_eq_true_eq, e]
    simp only [Bytes.order]
    by_cases h1 : x < y
    · rw [if_pos h1]
      exact ⟨fun _ => .inl (UInt8.lt_iff_toNat_lt.mp h1), fun _ => rfl⟩
    · rw [if_neg h1]
      have h1' : ¬ x.toNat < y.toNat := fun h => h1 (UInt8.lt_iff_toNat_lt.mpr h)
      by_cases h2 : x > y
      · rw [if_pos h2]
        have : y.toNat < x.toNat := UInt8.lt_iff_toNat_lt.mp h2
        exact ⟨fun h => (by cases h), fun h => by omega⟩
      · rw [if_neg h2]
        have h2' : ¬ y.toNat < x.toNat := fun h => h2 (UInt8.lt_iff_toNat_lt.mpr h)
        have h3 : x.toNat = y.toNat := by omega
        rw [ih, decide_eq_true_eq]
        exact ⟨fun h => .inr ⟨h3, h⟩, fun h => h.elim (fun h => by omega) (·.2)⟩
noncomputable def SortedB (ys : List (List UInt8)) : Prop := ys.Pairwise fun a b => ¬ nats b < nats a
theorem sortedB_unique : ∀ {xs ys : List (List UInt8)}, SortedB xs → SortedB ys → xs.Perm ys → xs = ys
  | [], ys, _, _, h => (List.nil_perm.mp h).symm
  | x :: xs, [], _, _, h => absurd h.length_eq (by simp)
  | x :: xs, y :: ys, h1, h2, h => by
    have e : x = y := by
      have hx : x ∈ y :: ys := h.mem_iff.mp (.head _)
      have hy : y ∈ x :: xs := h.mem_iff.mpr (.head _)
      have a1 : ¬ nats x < nats y := by
        rcases List.mem_cons.mp hx with rfl | hx
        · exact List.lt_irrefl _
        · exact (List.pairwise_cons.mp h2).1 x hx
      have a2 : ¬ nats y < nats x := by
        rcases List.mem_cons.mp hy with rfl | hy
        · exact List.lt_irrefl _
        · exact (List.pairwise_cons.mp h1).1 y hy
      exact nats_inj (List.le_antisymm (List.not_lt.mp a2) (List.not_lt.mp a1))
    subst e
    rw [sortedB_unique (List.pairwise_cons.mp h1).2 (List.pairwise_cons.mp h2).2 (List.perm_cons x |>.mp h)]
@[reducible] noncomputable def bytK : PyProof.Rows.KeyKind := { strKind.toKeyOrd with keyOf := fun v => match v with | .bytes b _ => some (nats b.toList) | _ => none, dflt := [] }
theorem slot_blt : Slot "bytes" "__lt__" "bytes.__lt__" := .of (owner := "bytes") (n := "__lt__") (by rw [typeLookup_type, builtinLookup_eq_fast]; kernel_rfl) (by decide +kernel) (by decide +kernel) (by decide +kernel)
    (by first | exact .inl (by decide +kernel) | exact .inr (by decide +kernel)) (by rw [isSubtype_type]; kernel_rfl)
theorem entry_blt : entryFor table "bytes.__lt__" = some Builtin.«bytes.__lt__» := entryFor_of_tree (by kernel_rfl)
theorem args_blt (a b : Value) : argsOk "bytes.__lt__" ⟨[a, b], []⟩ := by unfold argsOk; kernel_rfl
theorem bytK_lt : bytK.OneLt := by
  intro prog w A E s x y a b Q ha hb h
  cases x <;> simp only [bytK, reduceCtorEq, Option.some.injEq] at ha
  cases y <;> simp only [bytK, reduceCtorEq, Option.some.injEq] at hb
  rename_i x t y u
  subst ha hb
  rw [oneLt'_eq]
  simp only [if_true]
  refine wpAny_bind (wpAny_cRoomFor_byValue rfl ?_)
  refine wpAny_bind (wpAny_callSpecialIfBound?_slot (typeIs_bytes s x t) slot_blt (wpAny_call_entry slot_blt (typeIs_bytes s x t) entry_blt ?_ (args_blt _ _)))
  show wpAny _ _ (isInstance (.bytes y u) (.type "bytes") >>= fun r => _) _ _ s
  refine wpAny_bind (wpAny_isInstance (typeIs_bytes s y u) F.sub_bytes_bytes ?_)
  refine wpAny_pure ⟨_, rfl, wpAny_truthy_bool ?_⟩
  show Q (Bytes.order x.toList y.toList == .lt) s
  rw [order_lt]
  exact h
noncomputable def ub : V → List UInt8
  | .byt b => b
  | _ => []
theorem ub_map (ks : List (List UInt8)) : (ks.map V.byt).map ub = ks := by rw [List.map_map]; exact List.map_id' _
theorem perm_byt {xs : List V} {ks : List (List UInt8)} (h : xs.Perm (ks.map V.byt)) : xs = (xs.map ub).map V.byt ∧ (xs.map ub).Perm ks := by
  refine ⟨?_, by have := h.map ub; rwa [ub_map] at this⟩
  rw [List.map_map]
  refine (List.map_id' xs).symm.trans (List.map_congr_left fun x hx => ?_)
  obtain ⟨k, _, rfl⟩ := List.mem_map.mp (h.mem_iff.mp hx)
  rfl
theorem all_byt {vs : List Value} {ks : List (List UInt8)} (h : vs.map er = ks.map V.byt) : ∀ v ∈ vs, ∃ b t, v = .bytes b t := fun v hv => by
  have : er v ∈ ks.map V.byt := h ▸ List.mem_map.mpr ⟨v, hv, rfl⟩
  obtain ⟨k, _, hk⟩ := List.mem_map.mp this
  obtain ⟨t, rfl⟩ := er_byt hk.symm
  exact ⟨_, _, rfl⟩
theorem firstOf_byt {vs : List Value} (h : ∀ v ∈ vs, ∃ b t, v = .bytes b t) : vs.mapM firstOfTuple' = pure (vs.map fun _ => none) ∧ vs.mapM typeOf = pure (vs.map fun _ => Value.type "bytes") := by
  induction vs with
  | nil => simp
  | cons v vs ih =>
    obtain ⟨b, t, rfl⟩ := h v (.head _)
    obtain ⟨i1, i2⟩ := ih fun v hv => h v (.tail _ hv)
    constructor
    · rw [List.mapM_cons, show firstOfTuple' (.bytes b t) = pure none from rfl, i1]; simp
    · rw [List.mapM_cons, i2]
      show (pure (Value.type "bytes") >>= fun b => pure _ >>= fun bs => pure (b :: bs)) = _
      simp
theorem keyKind_byt {v₁ v₂ : Value} {vs : List Value} (h : ∀ v ∈ v₁ :: v₂ :: vs, ∃ b t, v = .bytes b t) : keyKind' (v₁ :: v₂ :: vs).toArray = pure oneType' := by
  rw [keyKind'_eq, List.mapM_toArray, (firstOf_byt h).1]
  simp only [map_pure, pure_bind]
  rw [if_neg (by simp), if_neg (by simp)]
  rw [oneTypeOnly'_eq, List.mapM_toArray, (firstOf_byt h).2]
  simp only [map_pure, pure_bind]
  have hall : ((List.map (fun _ => Value.type "bytes") (v₁ :: v₂ :: vs)).toArray.all fun x => x == Value.type "bytes") = true := by
    simp only [List.all_toArray, List.all_map, List.all_eq_true]
    intro _ _
    rfl
  have h0 : (List.map (fun _ => Value.type "bytes") (v₁ :: v₂ :: vs)).toArray[0]? = some (Value.type "bytes") := by simp
  rw [h0]
  simp only [hall, if_true, pure_bind, Option.isSome_some]
theorem sorted_out_b {vs : List Value} {ks : List (List UInt8)} (hS : vs.map er = ks.map V.byt) {xs : Array Keyed} (hp : xs.Perm (pairsOf vs)) (hs : SortedToK bytK xs (pairsOf vs).size) :
    ∃ ys : List (List UInt8), (xs.map (·.2)).toList.map er = ys.map V.byt ∧ ys.Perm ks ∧ SortedB ys := by
  have hl : xs.toList.Perm (vs.zip vs) := by rw [← pairsOf_toList]; exact Array.perm_iff_toList_perm.mp hp
  have hmem : ∀ p, p ∈ xs.toList → p.1 = p.2 ∧ p.1 ∈ vs := fun p hp' => mem_zip_self (hl.mem_iff.mp hp')
  have hall := all_byt hS
  have e2 : ((vs.zip vs).map fun p => er p.1) = vs.map er := by
    have : (vs.zip vs).map (fun p => er p.1) = ((vs.zip vs).map Prod.fst).map er := by rw [List.map_map]; rfl
    rw [this, List.map_fst_zip (Nat.le_refl _)]
  have hpe : (xs.toList.map fun p => er p.1).Perm (ks.map V.byt) := by
    have := hl.map (fun p => er p.1)
    rw [e2, hS] at this; exact this
  obtain ⟨h1, h2⟩ := perm_byt hpe
  refine ⟨_, ?_, h2, ?_⟩
  · rw [← h1, Array.toList_map, List.map_map]
    exact List.map_congr_left fun p hp' => by show er p.2 = er p.1; rw [(hmem p hp').1]
  · unfold SortedB
    rw [List.pairwise_iff_getElem]
    intro i j hi hj hij
    have hi' : i < xs.size := by simpa using hi
    have hj' : j < xs.size := by simpa using hj
    have h1 := hs i j (Nat.le_of_lt hij) (by rw [← hp.size_eq]; exact hj')
    obtain ⟨x, t, ex⟩ := hall _ (hmem xs[i] (by simp)).2
    obtain ⟨y, u, ey⟩ := hall _ (hmem xs[j] (by simp)).2
    have k1 : KK bytK xs i = nats x.toList := by unfold KK; rw [getElem?_pos xs i hi']; show ((bytK.keyOf xs[i].1).getD _) = _; rw [ex]; rfl
    have k2 : KK bytK xs j = nats y.toList := by unfold KK; rw [getElem?_pos xs j hj']; show ((bytK.keyOf xs[j].1).getD _) = _; rw [ey]; rfl
    rw [k1, k2] at h1
    change decide (nats y.toList < nats x.toList) = false at h1
    simp only [List.getElem_map, Array.getElem_toList]
    rw [ex, ey]
    simpa [er, ub] using h1
section
variable {w : World} {B : Heap} {os : OsState} {l : List Env} {A : Around} {σ : MS} {E : Value → MS → Prop} {env : Env} {s : Shared}
theorem Rel.turnX (R : Rel w B os l σ s) {h' : Heap} {a : Addr} {o o' : O} (hσ : σ a = some o) (hn : ∀ m, o ≠ .ns m) (k : ∀ b ob, b ≠ a → s.heap.get? b = some ob → h'.get? b = some ob) (i : IsO w h' a o') (t : Nat) : Rel w B os l (upd σ a o') { s with heap := h', toks := t } := by
  have hf : a ∉ l.filterMap (·.frame) := fun hm => by obtain ⟨m, e⟩ := R.nsf _ _ hσ hm; exact hn m e
  have R₁ := (R.less (del_le σ a)).other del_self (R.known _ _ hσ).1 hf k t
  have R₂ := R₁.learn (R.known _ _ hσ).1 i fun hm => absurd hm hf
  have e : upd (del σ a) a o' = upd σ a o' := by funext b; unfold upd del; by_cases q : b = a <;> simp [q]
  rw [e] at R₂; exact R₂
theorem sortW {a : Addr} {ks : List (List UInt8)} {Q : Value → MS → Prop} (ha : σ a = some (.list (ks.map V.byt))) (hz : ks.length < 64) (h : ∀ va ys, ys.Perm ks → SortedB ys → Q va (upd σ a (.list (ys.map V.byt)))) : W w B os l A (call (.builtin "list.sort") [.ref a]) Q E σ := fun s R => by
  obtain ⟨_, vs, n, ho, hvs⟩ := R.known _ _ ha
  have hvl : vs.toList.length = ks.length := by have := congrArg List.length hvs; simpa using this
  have ho' : s.heap.get? a = some (seqObj "list" vs.toList.toArray n) := ho
  refine wpAny_call_entry slot_list_sort ⟨_, ho, rfl⟩ entry_list_sort (list_sort_treeK bytK_lt ho' (fun p hp => ?_) (fun v₁ v₂ rest e => keyKind_byt (e ▸ all_byt hvs)) (by omega) fun st' p1 p2 => ⟨_, rfl, ?_⟩) (args_list_sort _)
  · rw [pairsOf_toList] at hp
    obtain ⟨x, t, e⟩ := all_byt hvs _ (mem_zip_self hp).2
    exact ⟨nats x.toList, by rw [e]⟩
  · obtain ⟨ys, e1, e2, e3⟩ := sorted_out_b hvs p1 p2
    obtain ⟨e, he⟩ := sortedHeap_at (out := (arrOf st').map (·.2)) ho'
    exact ⟨_, R.turnX (o' := .list (ys.map V.byt)) ha (fun m z => by cases z) (fun b ob hb hob => by rw [sortedHeap_old hb (Heap.lt_size hob)]; exact hob) ⟨_, e, he, e1⟩ s.toks, h _ ys e2 e3⟩
end
end Mine
end
section
open PySem PySem.W PySem.Calls PyProof.Rows PySem.Builtin
namespace Mine
theorem hint_set {w : World} {A : Around} {E : Value → Shared → Prop} {s : Shared} {r : Addr} {Q : Bool → Shared → Prop} (hT : s.TypeIs (.ref r) "set") (h : Q false s) : wpAny (model pw w) A (Builtin.List.listLengthHint (.ref r)) Q E s := by
  unfold Builtin.List.listLengthHint
  refine wpAny_bind (wpAny_specialOf hT PySem.F.slot_set_len.lookup ?_)
  generalize hid : ("set.__len__" : String) = id0
  wp_delta
  rw [show splitId id0 = some ("set", "__len__") from by subst hid; decide +kernel]
  subst hid
  refine wpAny_bind (wpAny_isInstance (T := "set") (b := true) hT (by rw [isSubtype_type]; kernel_rfl) ?_)
  refine wpAny_ite_split (fun hab => absurd hab (by decide)) (fun _ => ?_)
  refine wpAny_ite_split (fun _ => ?_) (fun hab => absurd (by decide +kernel) hab)
  refine wpAny_bind (wpAny_typeOf hT ?_)
  exact wpAny_pure h
section
variable {w : World} {B : Heap} {os : OsState} {l : List Env} {A : Around} {σ : MS} {E : Value → MS → Prop} {env : Env} {s : Shared}
theorem pushW {D : Addr} {xs : List V} {v : Value} {Q : Unit → MS → Prop} (hD : σ D = some (.list xs)) (hz : xs.length ≤ 1000000) (h : Q () (upd σ D (.list (xs ++ [er v])))) : W w B os l A (updateSeq D (·.push v)) Q E σ := fun s R => by
  obtain ⟨_, vs, n, ho, hvs⟩ := R.known _ _ hD
  have hl : vs.size = xs.length := by have := congrArg List.length hvs; simpa using this
  refine wpAny_updateSeq ho rfl ?_ (by rw [hl, sizeLine_eq]; omega) (by show (vs.push v).size ≤ _; rw [Array.size_push, hl, sizeLine_eq]; omega)
  exact ⟨_, R.turn (o' := .list _) hD (Heap.SameBut.update _ _ _) ⟨_, _, Heap.get?_update_self _ ho rfl, by show (vs.push v).toList.map er = _; rw [Array.toList_push, List.map_append, hvs]; rfl⟩ s.toks (fun m e => by cases e), h⟩
theorem popW {D : Addr} {xs : List V} {x : V} {Q : Unit → MS → Prop} (hD : σ D = some (.list (xs ++ [x]))) (hz : xs.length ≤ 1000000) (h : Q () (upd σ D (.list xs))) : W w B os l A (updateSeq D (·.pop)) Q E σ := fun s R => by
  obtain ⟨_, vs, n, ho, hvs⟩ := R.known _ _ hD
  have hl : vs.size = xs.length + 1 := by have := congrArg List.length hvs; simpa using this
  refine wpAny_updateSeq ho rfl ?_ (by rw [hl, sizeLine_eq]; omega) (by show vs.pop.size ≤ _; rw [Array.size_pop, hl, sizeLine_eq]; omega)
  exact ⟨_, R.turn (o' := .list _) hD (Heap.SameBut.update _ _ _) ⟨_, _, Heap.get?_update_self _ ho rfl, by show vs.pop.toList.map er = _; rw [Array.toList_pop, List.map_dropLast, hvs]; simp⟩ s.toks (fun m e => by cases e), h⟩
theorem extendLoop {D it : Addr} {xs : List V} {S : Nat → O} {P : MS} {res : Value} (hh : A.handled = none) (hN : NX w B os l xs S P it) (hPi : P it = none) (hPD : P D = none) (hne : D ≠ it) (hz : xs.length ≤ 500000) :
    ∀ (n i : Nat) (ys : List V) (τ : MS), n = xs.length - i → i ≤ xs.length → ys.length = i → Le P τ → τ it = some (S i) → τ D = some (.list ys) → ∀ s, Rel w B os l τ s →
      ∀ R : Result → Shared → Prop, (∀ s', Rel w B os l (del (upd τ D (.list (ys ++ xs.drop i))) it) s' → R (.ok (.ret res)) s') → codeAny (model pw w) A (.builtin "list.extend.loop" ⟨[.ref D, .ref it, res], []⟩) R s := by
  intro n
  induction n with
  | zero =>
    intro i ys τ hn hi hk hp hit hD s R P' hP
    obtain rfl : i = xs.length := ix0 hn hi
    refine codeAny_builtin F.entry_extend_loop ?_
    rw [Around.under_plainId F.plain_extend_loop _]
    show wpAny _ A.in1 (pyNext (.ref it) >>= _) _ _ s
    refine wpAny_bind (wpAny_mono (hN.fin A.in1 hh τ (fun r σ' => r = none ∧ σ' = del τ it) (fun _ _ => False) hp hit ⟨rfl, rfl⟩ s R) (fun r s' hq1 => ?_) fun v s' z => no5 z)
    obtain ⟨σ', R', hr, hσ⟩ := hq1
    subst hr hσ
    refine wpAny_pure (hP s' ?_)
    rw [List.drop_length, List.append_nil]
    have e : upd τ D (.list ys) = τ := by funext b; by_cases q : b = D <;> simp [upd, q, hD]
    rw [e]; exact R'
  | succ n ih =>
    intro i ys τ hn hi hk hp hit hD s R P' hP
    have hlt : i < xs.length := ix1 hn
    refine codeAny_builtin F.entry_extend_loop ?_
    rw [Around.under_plainId F.plain_extend_loop _]
    show wpAny _ A.in1 (pyNext (.ref it) >>= _) _ _ s
    refine wpAny_bind (wpAny_mono (hN.next A.in1 hh i xs[i] τ (fun r σ' => ∃ va, r = some va ∧ er va = xs[i] ∧ σ' = upd τ it (S (i + 1))) (fun _ _ => False) hp hit (by simp [hlt]) (fun va e => ⟨va, rfl, e, rfl⟩) s R) (fun r s' hq1 => ?_) fun v s' z => no5 z)
    obtain ⟨σ', R', va, hr, hva, hσ⟩ := hq1
    subst hr hσ
    show wpAny _ A.in1 (updateSeq D (·.push va) >>= _) _ _ s'
    refine wpAny_bind (wpAny_mono (pushW (Q := fun _ σ' => σ' = upd (upd τ it (S (i + 1))) D (.list (ys ++ [er va]))) (E := fun _ _ => False) (by rw [upd_ne _ _ hne]; exact hD) (by omega) rfl s' R') (fun b s₂ hq1 => ?_) fun v s' z => no5 z)
    obtain ⟨σ₂, R₂, e⟩ := hq1
    subst e
    refine wpAny_pure ⟨plainId_quiet F.plain_extend_loop _, ih (i + 1) _ _ (ix2 hn) hlt (by rw [List.length_append, hk]; rfl) ((hp.over hPi).over hPD) (by rw [upd_ne _ _ hne.symm, upd_self]) (upd_self _ _ _) s₂ R₂ P' fun s'' R'' => hP s'' ?_⟩
    rw [hva, List.append_assoc, List.singleton_append, ← List.drop_eq_getElem_cons hlt] at R''
    have e : del (upd (upd (upd τ it (S (i + 1))) D (.list (ys ++ [xs[i]]))) D (.list (ys ++ List.drop i xs))) it = del (upd τ D (.list (ys ++ List.drop i xs))) it := by
      funext b
      unfold del upd
      by_cases q : b = it
      · simp [q]
      · by_cases q2 : b = D <;> simp [q, q2]
    rw [e] at R''
    exact R''
theorem extSet {D a : Addr} {ks : List (List UInt8)} {res : Value} (hh : A.handled = none) (hD : σ D = some (.list [])) (ha : σ a = some (.set ks)) (hz : ks.length ≤ 1000) (s : Shared) (R : Rel w B os l σ s) (P' : Result → Shared → Prop)
    (hP : ∀ (ys : List (List UInt8)) (s' : Shared), ys.Perm ks → Rel w B os l (upd (del σ a) D (.list (ys.map V.byt))) s' → P' (.ok (.ret res)) s') : wpAny (model pw w) A.in1 (Builtin.List.listExtendWith (.ref D) (.ref a) res)
      (fun fin s' => match fin with | .done f => P' (.ok f) s' | .again c' => c'.quiet = true ∧ codeAny (model pw w) A c' P' s') (fun e s' => P' (.error e) s') s := by
  have hDa : D ≠ a := fun z => by subst z; rw [hD] at ha; cases ha
  obtain ⟨o, es, ep, t, ho, hex, hd, hok⟩ := isSet R ha
  have hT : s.TypeIs (.ref a) "set" := ⟨o, ho, hex.1⟩
  unfold Builtin.List.listExtendWith
  refine wpAny_bind (wpAny_typeOf hT ?_)
  have h1 : Builtin.List.listSameRef (.ref D) (.ref a) = false := by simp [Builtin.List.listSameRef, hDa]
  simp only [h1, show (Value.type "set" == Value.type "list") = false by decide, show (Value.type "set" == Value.type "tuple") = false by decide, Bool.or_false, Bool.false_eq_true, if_false]
  refine wpAny_bind (wpAny_mono (iterSet (E := fun _ _ => False) (Q := fun itv σ' => ∃ it xs S P, itv = .ref it ∧ xs.Perm (ks.map V.byt) ∧ NX w B os l xs S P it ∧ PinOf B σ P a ∧ ovl σ P it = none ∧ σ' = upd (ovl σ P) it (S 0)) ha hz (fun it xs S P q1 q2 q3 q4 q5 => ⟨it, xs, S, P, rfl, q1, q2, q3, q4, rfl⟩) s R) (fun itv s₁ hq1 => ?_) fun v s' z => no5 z)
  obtain ⟨σ₁, R₁, it, xs, S, P, hit, q1, q2, q3, q4, hσ⟩ := hq1
  subst hit hσ
  obtain ⟨ob, hPa, hob⟩ := q3.has
  have hPi : P it = none := by unfold ovl at q4; cases q : P it with | none => rfl | some o => rw [q] at q4; cases q4
  have hσi : σ it = none := by unfold ovl at q4; rw [hPi] at q4; exact q4
  have hPD : P D = none := by
    cases q : P D with
    | none => rfl
    | some o => rcases (q3.at_ D o q).1 with z | z
                · exact absurd z hDa
                · rw [hD] at z; cases z
  have hne : D ≠ it := fun z => by subst z; rw [hD] at hσi; cases hσi
  have hLe : Le P (upd (ovl σ P) it (S 0)) := fun b o e => by
    rw [upd_ne _ _ (fun z => by subst z; rw [hPi] at e; cases e)]
    unfold ovl; rw [e]; rfl
  have hDs : upd (ovl σ P) it (S 0) D = some (.list []) := by rw [upd_ne _ _ hne]; unfold ovl; rw [hPD]; exact hD
  have hTa : s₁.TypeIs (.ref a) "set" := ⟨ob, pinned R₁ (hLe a _ hPa), hob⟩
  refine wpAny_bind (wpAny_holding (hint_set hTa ?_))
  rw [Bool.false_or, if_pos (by decide)]
  refine wpAny_bind (wpAny_rule (wpAny_bind ?_))
  show wpAny _ _ (updateSeq D (·.push .none) >>= fun _ => updateSeq D (·.pop)) _ _ _
  refine wpAny_bind (wpAny_mono (pushW (Q := fun _ σ' => σ' = upd (upd (ovl σ P) it (S 0)) D (.list ([] ++ [er .none]))) (E := fun _ _ => False) hDs (by decide) rfl s₁ R₁) (fun _ s₂ hq1 => ?_) fun v s' z => no5 z)
  obtain ⟨σ₂, R₂, e⟩ := hq1
  subst e
  refine wpAny_mono (popW (xs := []) (Q := fun _ σ' => σ' = upd (upd (upd (ovl σ P) it (S 0)) D (.list ([] ++ [er .none]))) D (.list [])) (E := fun _ _ => False) (upd_self _ _ _) (by decide) rfl s₂ R₂) (fun _ s₃ hq1 => ?_) fun v s' z => no5 z
  obtain ⟨σ₃, R₃, e⟩ := hq1
  subst e
  rw [upd_upd] at R₃
  refine wpAny_pure ⟨plainId_quiet F.plain_extend_loop _, ?_⟩
  obtain ⟨hx1, hx2⟩ := perm_byt q1
  have hxl : xs.length = ks.length := by rw [← q1.length_eq.symm, List.length_map]
  refine extendLoop hh q2 hPi hPD hne (by omega) (xs.length - 0) 0 [] _ rfl (Nat.zero_le _) rfl (hLe.over hPD) (by rw [upd_ne _ _ hne.symm, upd_self]) (upd_self _ _ _) s₃ R₃ P' fun s₄ R₄ => hP (xs.map ub) s₄ hx2 (R₄.less ?_)
  intro b o e
  rw [upd_upd, List.drop_zero, List.nil_append]
  have hbi : b ≠ it := fun z => by
    subst z; rw [upd_ne _ _ hne.symm] at e
    have := del_le σ a _ _ e
    rw [hσi] at this; cases this
  rw [del_ne hbi]
  by_cases q : b = D
  · subst q; rw [upd_self] at e ⊢; rw [← hx1] at e; exact e
  · rw [upd_ne _ _ q] at e
    have hba : b ≠ a := fun z => by subst z; rw [del_self] at e; cases e
    rw [del_ne hba] at e
    rw [upd_ne _ _ q, upd_ne _ _ hbi]
    unfold ovl
    have : P b = none := by
      cases q' : P b with
      | none => rfl
      | some o' => rcases (q3.at_ b o' q').1 with z | z
                   · exact absurd z hba
                   · rw [z] at e; cases e
    rw [this]; exact e
theorem collectSet {a : Addr} {ks : List (List UInt8)} {Q : List Value → MS → Prop} (hh : A.handled = none) (ha : σ a = some (.set ks)) (hz : ks.length ≤ 1000) (h : ∀ (vs : List Value) (ys : List (List UInt8)), ys.Perm ks → vs.map er = ys.map V.byt → Q vs (del σ a)) : W w B os l A (collect (.ref a)) Q E σ := fun s R => by
  unfold collect
  refine wpAny_bind (wpAny_runValue (codeAny_builtin entry_proto_collect' ?_))
  rw [Around.under_plainId PySem.F.plain_proto_collect _]
  show wpAny _ A.in1 (newList [] >>= fun l => again (.builtin "list.__iadd__" ⟨[l, .ref a], []⟩)) _ _ s
  refine wpAny_bind (wpAny_newObj_type ?_)
  refine wpAny_pure ⟨plainId_quiet PySem.F.plain_list_iadd _, codeAny_builtin entry_list_iadd' ?_⟩
  rw [Around.under_plainId PySem.F.plain_list_iadd _]
  show wpAny _ A.in1 (Builtin.List.listExtendWith (.ref s.heap.objs.size) (.ref a) (.ref s.heap.objs.size)) _ _ _
  have R₁ := R.newList (vs := []) (xs := []) rfl s.toks
  have fr := R.fresh
  generalize s.heap.objs.size = D at R₁ fr ⊢
  have hne : a ≠ D := fun z => by subst z; rw [ha] at fr; cases fr.1
  have key := extSet (A := A) (D := D) (res := .ref D) hh (upd_self _ _ _) (by rw [upd_ne _ _ hne]; exact ha) hz _ R₁
    (fun q s' => ∃ ys, q = .ok (.ret (.ref D)) ∧ ys.Perm ks ∧ Rel w B os l (upd (del (upd σ D (.list [])) a) D (.list (ys.map V.byt))) s') (fun ys s' q1 q2 => ⟨ys, rfl, q1, q2⟩)
  have fin : ∀ (ys : List (List UInt8)) (s' : Shared), ys.Perm ks → Rel w B os l (upd (del (upd σ D (.list [])) a) D (.list (ys.map V.byt))) s' → wpAny (model pw w) A (load D >>= fun o => match o.data with | .seq xs _ => pure xs.toList | _ => unsupported "internal:collect") (fun a s' => ∃ σ', Rel w B os l σ' s' ∧ Q a σ') (fun v s' => ∃ e cls σ', v = .ref e ∧ XR w B os l e cls σ' s' ∧ E cls σ') s' := by
    intro ys s' q1 q2
    obtain ⟨_, vs, n, ho, hvs⟩ := q2.known _ _ (upd_self _ _ _)
    refine wpAny_bind (wpAny_load ho (wpAny_pure ⟨del σ a, q2.less ?_, h _ ys q1 hvs⟩))
    intro b o e
    have hbD : b ≠ D := fun z => by subst z; have := del_le σ a _ _ e; rw [fr.1] at this; cases this
    rw [upd_ne _ _ hbD]
    have hba : b ≠ a := fun z => by subst z; rw [del_self] at e; cases e
    rw [del_ne hba] at e ⊢
    rw [upd_ne _ _ hbD]; exact e
  refine wpAny_mono key (fun fin' s' x => ?_) fun e s' x => ?_
  · cases fin' with
    | done f =>
      obtain ⟨ys, e, q1, q2⟩ := x
      cases e
      exact fin ys s' q1 q2
    | again c₁ =>
      refine ⟨x.1, codeAny_mono x.2 fun q s₂ y => ?_⟩
      obtain ⟨ys, e, q1, q2⟩ := y
      subst e
      exact fin ys s₂ q1 q2
  · obtain ⟨_, e', _⟩ := x
    cases e'
theorem CL.sortedBy {r : V} {Q : V → MS → Prop} (hc : ∀ va, er va = r → W w B os l A.in1 (collect va) (fun vs σ' => ∃ ks, vs.map er = ks.map V.byt ∧ ks.length < 64 ∧ ∀ (D : Addr) (ys : List (List UInt8)), ys.Perm ks → SortedB ys → σ' D = none → B.get? D = none → Q (.ref D) (upd σ' D (.list (ys.map V.byt)))) E σ) : CL w B os l A (.bi "sorted") [r] Q E σ := fun vf vs hf hv s R => by
  obtain ⟨x, rfl, hx⟩ := list1 hv
  rw [er_bi hf]
  refine call_function_entry kind_sorted plain_sorted entry_sorted (args_sorted1 _) ?_
  unfold Builtin.«sorted»
  refine wpAny_bind (m := checkCount "sorted" 1 1 _) (wpAny_pure ?_)
  refine wpAny_bind (wpAny_mono (hc x hx s R) (fun vs s₁ hq1 => ?_) fun _ _ z => z)
  obtain ⟨σ₁, R₁, ks, e1, e2, h⟩ := hq1
  have hvl : vs.length = ks.length := by have := congrArg List.length e1; simpa using this
  refine wpAny_bind (wpAny_newList ?_ (by rw [hvl, sizeLine_eq]; omega))
  have R₂ := R₁.newList e1 s₁.toks
  refine wpAny_bind (wpAny_holding (wpAny_mono (sortW (Q := fun _ σ' => ∃ ys, ys.Perm ks ∧ SortedB ys ∧ σ' = upd (upd σ₁ s₁.heap.objs.size (.list (ks.map V.byt))) s₁.heap.objs.size (.list (ys.map V.byt))) (E := E) (upd_self _ _ _) e2 (fun va ys q1 q2 => ⟨ys, q1, q2, rfl⟩) _ R₂) (fun _ s₃ hq1 => ?_) fun _ _ z => z))
  obtain ⟨σ₃, R₃, ys, q1, q2, hσ⟩ := hq1
  subst hσ
  rw [upd_upd] at R₃
  exact wpAny_pure ⟨_, rfl, _, R₃, h _ ys q1 q2 R₁.fresh.1 R₁.fresh.2⟩
theorem CL.sortedSet {a : Addr} {ks : List (List UInt8)} {Q : V → MS → Prop} (hh : A.handled = none) (ha : σ a = some (.set ks)) (hz : ks.length < 64) (h : ∀ (D : Addr) (ys : List (List UInt8)), ys.Perm ks → SortedB ys → del σ a D = none → B.get? D = none → Q (.ref D) (upd (del σ a) D (.list (ys.map V.byt)))) : CL w B os l A (.bi "sorted") [.ref a] Q E σ :=
  CL.sortedBy fun va hva => by
    rw [er_ref hva]
    exact collectSet hh ha (by omega) fun vs ys q1 q2 => ⟨ys, q2, by rw [q1.length_eq]; exact hz, fun D zs q3 q4 => h D zs (q3.trans q1) q4⟩
theorem CL.sortedDict {d : Addr} {es : List (List UInt8 × V)} {ep : Nat} {Q : V → MS → Prop} (G : BF w B) (hh : A.handled = none) (hd : σ d = some (.dict es ep)) (hz : es.length < 64) (h : ∀ (D : Addr) (ys : List (List UInt8)), ys.Perm (es.map (·.1)) → SortedB ys → σ D = none → B.get? D = none → Q (.ref D) (upd σ D (.list (ys.map V.byt)))) : CL w B os l A (.bi "sorted") [.ref d] Q E σ :=
  CL.sortedBy fun va hva s R => by
    rw [er_ref hva]
    obtain ⟨hB, kvs, hD, hes⟩ := R.known _ _ hd
    have hl : kvs.length = es.length := by rw [← hes, List.length_map]
    refine kdu_collect (kdl_dict (kvs := kvs) (ep := ep) (not_sys G hB)) hh hD (by rw [hl, sizeLine_eq]; omega) fun h' tk acc hk hacc => ⟨σ, R.grow hk tk, es.map (·.1), ?_, by rw [List.length_map]; exact hz, fun D ys q1 q2 q3 q4 => h D ys q1 q2 q3 q4⟩
    have e1 : (es.map (·.1)).map V.byt = kvs.map (fun p => V.byt p.1) := by rw [key_er hes, List.map_map]; rfl
    rw [e1]
    refine List.ext_getElem (by rw [List.length_map, List.length_map, Array.length_toList, hacc.1]) fun i h1 h2 => ?_
    have hi : i < acc.size := by simpa using h1
    obtain ⟨k, x, h3, h4⟩ := hacc.2 i acc[i] (Array.getElem?_eq_getElem hi)
    have hik : i < kvs.length := by simpa using h2
    rw [List.getElem?_eq_getElem hik] at h3
    simp only [List.getElem_map, Array.getElem_toList]
    rw [is_byt.mp h4, Option.some.inj h3]
end
end Mine
end
section
open PySem PySem.W PySem.Calls PyProof.Rows PySem.Builtin
namespace Mine
theorem take_eq {id : String} {b : Array UInt8} {t : Tok} {M : Model} {A : Around} {E : Value → Shared → Prop} {s : Shared} {Q : Option (Array UInt8 × Option Value) → Shared → Prop} (h : Q (some (b, none)) s) : wpAny M A (Bytes.takeBufferQuiet? id (.bytes b t) 0) Q E s := by
  unfold Bytes.takeBufferQuiet? Bytes.takeBuffer?
  rw [KBy.special_eq KBy.look_buffer, KBy.own_buffer]
  simp only [pure_bind]
  refine wpAny_bind (wpAny_attempt ?_)
  simp only [Bool.not_true, Bool.false_eq_true, if_false]
  have e : Bytes.buffer? id (.bytes b t) (full := (0 : Int) == Bytes.fullReadOnly) = pure (some b) := by
    rw [show ((0 : Int) == Bytes.fullReadOnly) = false from by decide +kernel]
    exact KBy.buffer_eq
  rw [e]
  refine wpAny_bind (wpAny_pure (wpAny_pure ?_))
  exact wpAny_pure h
theorem joined_nil : ∀ (ps : List (Array UInt8)) (n : Nat) (out : Array UInt8), ((ps.zipIdx n).foldl (fun out (p, i) => (if i > 0 then out ++ (#[] : Array UInt8) else out) ++ p) out).toList = out.toList ++ (ps.map Array.toList).flatten
  | [], n, out => by simp
  | p :: ps, n, out => by
    rw [List.zipIdx_cons, List.foldl_cons, joined_nil ps (n + 1)]
    have e : (match (p, n) with | (p, i) => (if i > 0 then out ++ (#[] : Array UInt8) else out) ++ p) = out ++ p := by
      show (if n > 0 then out ++ (#[] : Array UInt8) else out) ++ p = out ++ p
      split <;> simp
    rw [e]; simp
noncomputable def bOf : Value → Array UInt8
  | .bytes b _ => b
  | _ => #[]
section
variable {w : World} {A : Around} {E : Value → Shared → Prop} {s : Shared}
theorem letGo_taken {vs : List Value} {keep : List Value} {Q : Unit → Shared → Prop} (hv : ∀ v ∈ vs, ∃ b t, v = .bytes b t) (h : Q () s) : wpAny (model pw w) A (Bytes.joinLetGo (vs.map fun v => (v, none)) keep) Q E s := by
  induction vs generalizing s with
  | nil => exact wpAny_pure h
  | cons v vs ih =>
    obtain ⟨b, t, rfl⟩ := hv v (.head _)
    rw [List.map_cons]
    unfold Bytes.joinLetGo
    exact wpAny_bind (wpAny_letGo (ih (fun v hv' => hv v (.tail _ hv')) h))
theorem wp_one {α : Type} {M : Model} {vs : Array Value} {f : Value → Sem α} {g : Sem α} {Q : α → Shared → Prop} (h1 : ∀ x, vs = #[x] → wpAny M A (f x) Q E s) (h2 : wpAny M A g Q E s) : wpAny M A (match vs with | #[x] => f x | _ => g) Q E s := by
  obtain ⟨l⟩ := vs
  match l, h1 with
  | [], _ => exact h2
  | [x], h1 => exact h1 x rfl
  | _ :: _ :: _, _ => exact h2
theorem join_wp {t : Tok} {a : Addr} {vs : Array Value} {n : Nat} {Q : Value → Shared → Prop} (ho : s.heap.get? a = some { cls := .type "list", data := .seq vs n }) (hv : ∀ v ∈ vs.toList, ∃ b t, v = .bytes b t)
    (hz : ((vs.toList.map fun v => (bOf v).toList).flatten).length ≤ 1000000) (h : ∀ t' k, Q (.bytes ((vs.toList.map fun v => (bOf v).toList).flatten).toArray t') { s with toks := k }) :
    wpAny (model pw w) A (Builtin.«bytes.join» ⟨[.bytes #[] t, .ref a], []⟩) (fun fin s' => ∃ r, fin = .done (.ret r) ∧ Q r s') E s := by
  unfold Builtin.«bytes.join» Builtin.Bytes.joinM
  refine wpAny_bind (wpAny_pure ?_)
  dsimp only
  rw [if_pos (by decide)]
  unfold Builtin.Bytes.joinItems
  refine wpAny_bind (wpAny_bind (wpAny_typeOf (T := "list") ⟨_, ho, rfl⟩ ?_))
  rw [if_pos (by decide)]
  refine wpAny_pure ?_
  refine wpAny_bind (wpAny_seqItems ho rfl ?_)
  dsimp only
  rw [if_pos (by decide)]
  refine wp_one (fun x hx => ?_) ?_
  · subst hx
    obtain ⟨b, u, rfl⟩ := hv x (by simp)
    refine wpAny_bind (wpAny_typeOf (typeIs_bytes s b u) ?_)
    rw [if_pos (by decide)]
    refine wpAny_bind (wpAny_rule (wpAny_pure ⟨_, rfl, ?_⟩))
    have := h u s.toks
    simpa [bOf] using this
  · refine wpAny_bind ?_
    rw [Std.Legacy.Range.forIn_eq_forIn_range']
    simp only [Std.Legacy.Range.size, Nat.sub_zero, Nat.add_sub_cancel, Nat.div_one]
    refine wpAny_forIn_list _
      (fun rest st s' => ∃ i, s' = s ∧ rest = List.range' i (vs.size - i) ∧ i ≤ vs.size ∧ st.1 = ((vs.toList.take i).map bOf).toArray ∧ st.2 = (vs.toList.take i).map fun v => (v, none))
      _ ?_ ?_ _ _ ⟨0, rfl, by simp, Nat.zero_le _, by simp, by simp⟩
    · rintro x rest ⟨ps, tk⟩ s' ⟨i, rfl, hr, hi, h1, h2⟩
      have hlt : i < vs.size := by
        rcases Nat.lt_or_ge i vs.size with h | h
        · exact h
        · rw [Nat.sub_eq_zero_of_le h] at hr; simp at hr
      obtain ⟨rfl, hrest⟩ : x = i ∧ rest = List.range' (i + 1) (vs.size - (i + 1)) := by
        have e : vs.size - i = (vs.size - (i + 1)) + 1 := by omega
        rw [e, List.range'_succ] at hr
        injection hr with h1 h2
        exact ⟨h1, h2⟩
      obtain ⟨b, u, hb⟩ := hv vs[x] (by simp)
      dsimp only at h1 h2 ⊢
      refine wpAny_bind (wpAny_seqItems ho rfl ?_)
      dsimp only
      have hx : vs.getD x .none = .bytes b u := by rw [Array.getD_eq_getD_getElem?, Array.getElem?_eq_getElem hlt]; exact hb
      rw [hx]
      have hany : (tk.any fun x => x.1.onHeap) = false := by
        rw [h2, List.any_map, List.any_eq_false]
        intro v hv'
        obtain ⟨b', u', rfl⟩ := hv v (List.mem_of_mem_take hv')
        simp [Value.onHeap]
      rw [hany, if_neg (by decide)]
      refine wpAny_bind (wpAny_holding (take_eq ?_))
      dsimp only
      refine wpAny_bind (wpAny_seqItems ho rfl ?_)
      dsimp only
      rw [if_neg (by simp)]
      have e : vs.toList.take (x + 1) = vs.toList.take x ++ [.bytes b u] := by
        rw [List.take_succ_eq_append_getElem (by simpa using hlt)]
        simp [hb]
      refine wpAny_pure ⟨x + 1, rfl, hrest, hlt, ?_, ?_⟩
      · rw [h1, e, List.map_append]; simp [bOf]
      · rw [h2, e, List.map_append]; rfl
    · rintro ⟨ps, tk⟩ s' ⟨i, rfl, hr, hi, h1, h2⟩
      have hi' : i = vs.size := by
        have := congrArg List.length hr
        simp at this
        omega
      subst hi'
      have et : vs.toList.take vs.size = vs.toList := List.take_of_length_le (by simp)
      rw [et] at h1 h2
      dsimp only at h1 h2 ⊢
      subst h1 h2
      refine wpAny_bind (m := Bytes.payload _) (wpAny_pure ?_)
      dsimp only
      have ej : Bytes.joined #[] (List.map bOf vs.toList) = ((vs.toList.map fun v => (bOf v).toList).flatten).toArray := by
        unfold Bytes.joined
        rw [← Array.toList_inj]
        have := joined_nil (List.map bOf vs.toList) 0 #[]
        simpa [List.map_map, Function.comp_def] using this
      have hsum : Array.foldl (fun x1 x2 => x1 + x2.size) ((#[] : Array UInt8).size * ((List.map bOf vs.toList).toArray.size - 1)) (List.map bOf vs.toList).toArray ≤ 16777216 := by
        have : ∀ (l : List (Array UInt8)) (n : Nat), l.foldl (fun x1 x2 => x1 + x2.size) n = n + ((l.map Array.toList).flatten).length := by
          intro l
          induction l with
          | nil => intro n; simp
          | cons p l ih => intro n; rw [List.foldl_cons, ih]; simp; omega
        rw [List.foldl_toArray', this] <;> simp [List.map_map, Function.comp_def] at hz ⊢
        omega
      rw [KBy.tooLong_not hsum, if_neg (by decide)]
      show wpAny _ _ (mkBytes (Bytes.joined #[] (List.map bOf vs.toList)) >>= _) _ _ _
      rw [ej]
      refine wpAny_bind (wpAny_mkBytes ?_ (by rw [sizeLine_eq]; simp at hz ⊢; omega))
      refine wpAny_bind (wpAny_holding (wpAny_point (wpAny_bind (letGo_taken (s := { s' with toks := s'.toks + 1 }) hv (wpAny_pure ⟨_, rfl, h _ _⟩)))))
end
section
variable {w : World} {B : Heap} {os : OsState} {l : List Env} {A : Around} {σ : MS} {E : Value → MS → Prop} {env : Env} {s : Shared}
theorem CL.join {a : Addr} {ps : List (List UInt8)} {Q : V → MS → Prop} (ha : σ a = some (.list (ps.map V.byt))) (hz : ps.flatten.length ≤ 1000000) (h : Q (.byt ps.flatten) σ) : CL w B os l A (.bi "bytes.join") [.byt [], .ref a] Q E σ := fun vf vs hf hv s R => by
  obtain ⟨x, y, rfl, hx, hy⟩ := list2 hv
  obtain ⟨t, rfl⟩ := er_byt hx
  rw [er_bi hf, er_ref hy]
  obtain ⟨_, us, n, ho, hus⟩ := R.known _ _ ha
  have hall := all_byt hus
  have e : (us.toList.map fun v => (bOf v).toList) = ps := by
    have h1 : us.toList.map (fun v => (bOf v).toList) = (us.toList.map er).map ub := by
      rw [List.map_map]
      refine List.map_congr_left fun v hv => ?_
      obtain ⟨b, t, rfl⟩ := hall v hv
      rfl
    rw [h1, hus, ub_map]
  refine wpAny_call_entry slot_b_join (typeIs_bytes s _ t) entry_b_join (join_wp ho hall (by rw [e]; exact hz) fun t' k => ?_) (args_b_join _ _)
  rw [e]
  exact ⟨σ, R.toks k, by simpa [er] using h⟩
theorem CL.sum {a : Addr} {ns : List Int} {Q : V → MS → Prop} (hh : A.handled = none) (ha : σ a = some (.list (ns.map V.int))) (h : Q (.int ns.sum) σ) : CL w B os l A (.bi "sum") [.ref a] Q E σ := fun vf vs hf hv s R => by
  obtain ⟨x, rfl, hx⟩ := list1 hv
  rw [er_bi hf, er_ref hx]
  obtain ⟨_, us, n, ho, hus⟩ := R.known _ _ ha
  have hi := ints_are hus
  obtain ⟨xs, hxs⟩ := hi.allInts.items
  have hl : s.heap.IsList a us := IsL.isList ho
  have hl' : s.heap.IsList a (intItems xs) := by rw [← hxs]; exact hl
  refine sum_intListG hh hl' fun h' tk t' hk => ?_
  have e1 : ns = xs.toList.map (·.1) := by
    rw [← nums_intItems, ← hxs]
    exact (show numsOf us.toList = ns from hi.numsOf).symm
  have e2 : preSum (numAt xs) xs.size = ns.sum := by
    rw [preSum_eq, List.take_of_length_le (by simp), e1]
  rw [e2]
  exact ⟨σ, R.grow hk tk, h⟩
theorem CL.all {a : Addr} {bs : List Bool} {Q : V → MS → Prop} (hh : A.handled = none) (ha : σ a = some (.list (bs.map V.bool))) (h : Q (.bool (bs.all id)) σ) : CL w B os l A (.bi "all") [.ref a] Q E σ := fun vf vs hf hv s R => by
  obtain ⟨x, rfl, hx⟩ := list1 hv
  rw [er_bi hf, er_ref hx]
  obtain ⟨_, us, n, ho, hus⟩ := R.known _ _ ha
  have hl : s.heap.IsList a us := IsL.isList ho
  have hlt : a < s.heap.objs.size := Heap.lt_size ho
  have hbs : us.toList.length = bs.length := by have := congrArg List.length hus; simpa using this
  refine call_all_walk (wpAny_pyIter_list hl ?_)
  refine ⟨s.heap.objs.size, [s.heap.objs.size, a], [s.heap.objs.size], us.size, _, _, fun i => (bs[i]?).getD true, rfl, Walks.list (A := A.in1) hh _ a (Nat.ne_of_lt hlt) us,
    ⟨⟨_, Heap.get?_push_size _ rfl, rfl, rfl⟩, hl.push _⟩, fun i v s' Q' E' hP hQ => ?_, fun h' tk hk => ?_⟩
  · have hi : us.toList[i]? = some v := by simpa using hP
    have h2 : (us.toList.map er)[i]? = some (er v) := by rw [List.getElem?_map, hi]; rfl
    rw [hus, List.getElem?_map] at h2
    obtain ⟨b, hb, hv⟩ := Option.map_eq_some_iff.mp h2
    rw [er_bool hv.symm]
    simp only [hb, Option.getD_some] at hQ
    exact wpAny_truthy_bool hQ
  · have e : ((List.range us.size).all fun i => (bs[i]?).getD true) = bs.all id := by
      rw [← Array.length_toList, hbs]; exact LSm.range_all bs
    rw [e]
    exact ⟨σ, R.grow (LSm.kept_iter hk) tk, h⟩
theorem CL.bytes {a : Addr} {ns : List Int} {Q : V → MS → Prop} (hh : A.handled = none) (ha : σ a = some (.list (ns.map V.int))) (hr : ∀ n ∈ ns, 0 ≤ n ∧ n < 256) (hz : ns.length ≤ 1000000) (h : ∀ b, Q (.byt b) σ) : CL w B os l A (.ty "bytes") [.ref a] Q E σ := fun vf vs hf hv s R => by
  obtain ⟨x, rfl, hx⟩ := list1 hv
  rw [er_ty hf, er_ref hx]
  obtain ⟨_, us, n, ho, hus⟩ := R.known _ _ ha
  have hl : us.toList.length = ns.length := by have := congrArg List.length hus; simpa using this
  exact call_bytes_ints (IsL.isList ho) (ints_are hus) hr (by rw [hl, sizeLine_eq]; omega) hh fun h' t k hk => ⟨σ, R.grow hk k, h _⟩
theorem SI.tup {x y : Expr} {T : Addr} {xs : List V} {i : Int} {j : Nat} {v : V} {Q : V → MS → Prop} (hT : σ T = some (.tup xs)) (hlo : -(2 ^ 63) ≤ i) (hhi : i < 2 ^ 63) (hj : seqIndex? i xs.length = some j) (hx : xs[j]? = some v) (h : Q v σ)
    (hs : ∀ u, subscripted y false (.ref T) (.int i u) = operate [.ref T, .int i u] (getItem (.ref T) (.int i u)) := by intro _; with_unfolding_all rfl) : SI w B os l A x y (.ref T) (.int i) Q E σ := fun va vb ha hb s R => by
  obtain ⟨u, rfl⟩ := er_int hb
  rw [er_ref ha]
  obtain ⟨_, us, n, ho, rfl⟩ := R.known _ _ hT
  rw [List.length_map] at hj
  rw [List.getElem?_map] at hx
  obtain ⟨v', hv', rfl⟩ := Option.map_eq_some_iff.mp hx
  exact item_tupleT (l := us.toList) ⟨_, ho, rfl, n, rfl⟩ hlo hhi hj hv' ⟨σ, R, h⟩ (hs u)
theorem SI.listBack {x y : Expr} {a : Addr} {xs : List V} {i : Int} {v : V} {Q : V → MS → Prop} (ha : σ a = some (.list xs)) (h0 : i < 0) (h1 : -(xs.length : Int) ≤ i) (hfit : -(2 ^ 63) ≤ i) (hx : xs[(i + xs.length).toNat]? = some v) (h : Q v σ)
    (hs : ∀ u, subscripted y false (.ref a) (.int i u) = operate [.ref a, .int i u] (getItem (.ref a) (.int i u)) := by intro _; with_unfolding_all rfl) : SI w B os l A x y (.ref a) (.int i) Q E σ := fun va vb ha' hb s R => by
  obtain ⟨u, rfl⟩ := er_int hb
  rw [er_ref ha']
  obtain ⟨_, vs, n, hx', rfl⟩ := R.known _ _ ha
  have hl := IsL.isList hx'
  rw [List.length_map, Array.length_toList] at h1 hx
  rw [List.getElem?_map] at hx
  obtain ⟨v', hv', rfl⟩ := Option.map_eq_some_iff.mp hx
  exact tail_any hl.typeIs slot_list_getitem.lookup (wpAny_getItem_list_neg hl h0 h1 hfit (by simpa using hv') ⟨σ, R, h⟩) (hs u)
end
end Mine
end
section
open PySem PySem.W PySem.Calls PyProof.Rows PySem.Builtin PySem.SeqAt
namespace Mine
noncomputable def atomV : V → Bool
  | .none | .bool _ | .str _ | .byt _ => true
  | _ => false
section
variable {w : World} {B : Heap} {os : OsState} {l : List Env} {A : Around} {σ : MS} {E : Value → MS → Prop} {env : Env} {s : Shared}
theorem atom_eq {va vb : Value} {a : V} (h1 : er va = a) (h2 : er vb = a) (h : atomV a = true) : EqAt A s va vb true := by
  cases a with
  | none => rw [er_none h1, er_none h2]; exact EqAt.same _
  | bool b => rw [er_bool h1, er_bool h2]; exact EqAt.same _
  | str x => 
    obtain ⟨t, rfl⟩ := er_str h1; obtain ⟨u, rfl⟩ := er_str h2
    have := EqAt.str_str (A := A) (s := s) x t x u
    rwa [beq_self_eq_true] at this
  | byt x =>
    obtain ⟨t, rfl⟩ := er_byt h1; obtain ⟨u, rfl⟩ := er_byt h2
    have := (eqBytes x.toArray x.toArray t u).at A s
    rwa [beq_self_eq_true] at this
  | _ => cases h
theorem CM.eqA {a : V} {Q : V → MS → Prop} (ha : atomV a = true) (h : Q (.bool true) σ) : CM w B os l A .Eq a a Q E σ := fun va vb h1 h2 s R => by
  cases a with
  | none => rw [er_none h1, er_none h2]; exact EqNone.eq_none_none ⟨σ, R, h⟩
  | bool b => rw [er_bool h1, er_bool h2]; exact eq_bool ⟨σ, R, by simpa [er] using h⟩
  | str x => obtain ⟨t, rfl⟩ := er_str h1; obtain ⟨u, rfl⟩ := er_str h2; exact eq_str ⟨σ, R, by simpa [er] using h⟩
  | byt x => obtain ⟨t, rfl⟩ := er_byt h1; obtain ⟨u, rfl⟩ := er_byt h2; exact eq_bytes ⟨σ, R, by simpa [er] using h⟩
  | _ => cases ha
theorem CM.neA {a : V} {Q : V → MS → Prop} (ha : atomV a = true) (h : Q (.bool false) σ) : CM w B os l A .NotEq a a Q E σ := fun va vb h1 h2 s R => by
  cases a with
  | none => rw [er_none h1, er_none h2]; exact EqNone.ne_none_none ⟨σ, R, h⟩
  | bool b => rw [er_bool h1, er_bool h2]; exact ne_bool ⟨σ, R, by simpa [er] using h⟩
  | str x => obtain ⟨t, rfl⟩ := er_str h1; obtain ⟨u, rfl⟩ := er_str h2; exact ne_str ⟨σ, R, by simpa [er] using h⟩
  | byt x => obtain ⟨t, rfl⟩ := er_byt h1; obtain ⟨u, rfl⟩ := er_byt h2; exact ne_bytes ⟨σ, R, by simpa [er] using h⟩
  | _ => cases ha
theorem CM.neBool {a b : Bool} {Q : V → MS → Prop} (h : Q (.bool (a != b)) σ) : CM w B os l A .NotEq (.bool a) (.bool b) Q E σ := fun va vb h1 h2 s R => by
  rw [er_bool h1, er_bool h2]; exact ne_bool ⟨σ, R, h⟩
theorem items_at {us vs : Array Value} {xs : List V} (h1 : us.toList.map er = xs) (h2 : vs.toList.map er = xs) (ha : ∀ x ∈ xs, atomV x = true) : us.size = vs.size ∧ ∀ j (j1 : j < us.size) (j2 : j < vs.size), EqAt A s us[j] vs[j] true := by
  have l1 : us.size = xs.length := by rw [← h1]; simp
  have l2 : vs.size = xs.length := by rw [← h2]; simp
  refine ⟨l1.trans l2.symm, fun j j1 j2 => ?_⟩
  have jx : j < xs.length := by omega
  have e1 : er us[j] = xs[j] := by simp only [← h1, List.getElem_map, Array.getElem_toList]
  have e2 : er vs[j] = xs[j] := by simp only [← h2, List.getElem_map, Array.getElem_toList]
  exact atom_eq e1 e2 (ha _ (List.getElem_mem jx))
theorem all_true (n : Nat) : ((List.range n).all fun _ => true) = true := by simp
theorem CM.neList {p q : Addr} {xs : List V} {Q : V → MS → Prop} (hu : A.units < cLine) (h1 : σ p = some (.list xs)) (h2 : σ q = some (.list xs)) (ha : ∀ x ∈ xs, atomV x = true) (h : Q (.bool false) σ) : CM w B os l A .NotEq (.ref p) (.ref q) Q E σ := fun va vb e1 e2 s R => by
  rw [er_ref e1, er_ref e2]
  obtain ⟨_, us, n, ho, hus⟩ := R.known _ _ h1
  obtain ⟨_, vs, m, ho', hvs⟩ := R.known _ _ h2
  obtain ⟨k1, k2⟩ := items_at (A := A.in1) (s := s) hus hvs ha
  refine EqBoolInt.of_rcne (RcNeAt.lists (e := fun _ => true) (IsL.isList ho) (IsL.isList ho') k1 hu k2) ?_
  rw [all_true]
  exact ⟨σ, R, h⟩
theorem list_at {p q : Addr} {xs : List V} (R : Rel w B os l σ s) (hu : A.units < cLine) (h1 : σ p = some (.list xs)) (h2 : σ q = some (.list xs)) (ha : ∀ x ∈ xs, atomV x = true) : EqAt A s (.ref p) (.ref q) true := by
  by_cases e : p = q
  · subst e; exact EqAt.same _
  · obtain ⟨_, us, n, ho, hus⟩ := R.known _ _ h1
    obtain ⟨_, vs, m, ho', hvs⟩ := R.known _ _ h2
    obtain ⟨k1, k2⟩ := items_at (A := A.in1) (s := s) hus hvs ha
    have := RcAt.lists (e := fun _ => true) (IsL.isList ho) (IsL.isList ho') k1 hu k2
    rw [all_true] at this
    exact EqAt.of_refs e this
theorem CM.neTup {T U p q : Addr} {xs : List V} {v : V} {Q : V → MS → Prop} (hu : A.units + 1 < cLine) (hT : σ T = some (.tup [.ref p, v])) (hU : σ U = some (.tup [.ref q, v])) (h1 : σ p = some (.list xs)) (h2 : σ q = some (.list xs)) (ha : ∀ x ∈ xs, atomV x = true) (hv : atomV v = true) (h : Q (.bool false) σ) :
    CM w B os l A .NotEq (.ref T) (.ref U) Q E σ := fun va vb e1 e2 s R => by
  rw [er_ref e1, er_ref e2]
  obtain ⟨_, us, n, ho, hus⟩ := R.known _ _ hT
  obtain ⟨_, vs, m, ho', hvs⟩ := R.known _ _ hU
  obtain ⟨u1, u2, eu, eu1, eu2⟩ := list2 hus
  obtain ⟨v1, v2, ev, ev1, ev2⟩ := list2 hvs
  have eu' : us = #[u1, u2] := by rw [← Array.toList_inj]; exact eu
  have ev' : vs = #[v1, v2] := by rw [← Array.toList_inj]; exact ev
  subst eu' ev'
  refine EqBoolInt.of_rcne (RcNeAt.tuples (e := fun _ => true) ⟨_, ho, rfl, n, rfl⟩ ⟨_, ho', rfl, m, rfl⟩ (by omega) fun j j1 j2 => ?_) ?_
  · match j, j1 with
    | 0, _ => show EqAt _ _ u1 v1 true; rw [er_ref eu1, er_ref ev1]; exact list_at R hu h1 h2 ha
    | 1, _ => exact atom_eq eu2 ev2 hv
  · rw [all_true]
    exact ⟨σ, R, h⟩
noncomputable def dB (ds : List (List UInt8 × List UInt8)) : List (List UInt8 × V) := ds.map fun p => (p.1, V.byt p.2)
noncomputable def lookB (ds : List (List UInt8 × List UInt8)) (k : List UInt8) : Option (List UInt8) := (ds.find? fun p => p.1 = k).map (·.2)
theorem getE_dB (ds : List (List UInt8 × List UInt8)) (k : List UInt8) : getE (dB ds) k = (lookB ds k).map V.byt := by
  unfold getE dB lookB
  rw [List.find?_map, Option.map_map, Option.map_map]
  rfl
theorem hits_all {ka kb : List (List UInt8 × Value)} {A : Around} {s : Shared} (h : ∀ k v, (k, v) ∈ ka → ∃ y, valueAt kb k = some y ∧ EqAt A s v y true) : KeqHits A s kb ka true := by
  induction ka with
  | nil => exact .nil
  | cons p r ih =>
    obtain ⟨k, v⟩ := p
    obtain ⟨y, h1, h2⟩ := h k v (.head _)
    have := KeqHits.hit h1 h2 (ih fun k v hm => h k v (.tail _ hm))
    simpa using this
theorem lookB_mem : ∀ {ds : List (List UInt8 × List UInt8)} {k b : List UInt8}, (ds.map (·.1)).Nodup → (k, b) ∈ ds → lookB ds k = some b
  | p :: ds, k, b, hn, h => by
    unfold lookB
    rw [List.find?_cons]
    rw [List.map_cons, List.nodup_cons] at hn
    rcases List.mem_cons.mp h with rfl | h
    · simp
    · have hne : p.1 ≠ k := fun e => hn.1 (List.mem_map.mpr ⟨_, h, e.symm⟩)
      rw [show decide (p.1 = k) = false from decide_eq_false hne]
      exact lookB_mem hn.2 h
theorem dict_hits {A : Around} {s : Shared} {ka kb : List (List UInt8 × Value)} {d1 d2 : List (List UInt8 × List UInt8)} (h1 : ka.map (fun p => (p.1, er p.2)) = dB d1) (h2 : kb.map (fun p => (p.1, er p.2)) = dB d2) (hp : d1.Perm d2) (hn : (d2.map (·.1)).Nodup) : ka.length = kb.length ∧ KeqHits A s kb ka true := by
  have l1 : ka.length = d1.length := by have := congrArg List.length h1; simpa [dB] using this
  have l2 : kb.length = d2.length := by have := congrArg List.length h2; simpa [dB] using this
  refine ⟨by rw [l1, l2, hp.length_eq], hits_all fun k v hm => ?_⟩
  have hm' : (k, er v) ∈ dB d1 := by rw [← h1]; exact List.mem_map.mpr ⟨_, hm, rfl⟩
  obtain ⟨⟨k', b⟩, hb, e⟩ := List.mem_map.mp hm'
  injection e with e1 e2
  simp only at e1 e2
  subst e1
  have hl := lookB_mem hn (hp.mem_iff.mp hb)
  have hv : (valueAt kb k').map er = some (.byt b) := by rw [getE_eq, h2, getE_dB, hl]; rfl
  obtain ⟨y, hy, hye⟩ := Option.map_eq_some_iff.mp hv
  exact ⟨y, hy, atom_eq e2.symm hye rfl⟩
theorem CM.eqDict {d e : Addr} {d1 d2 : List (List UInt8 × List UInt8)} {ep1 ep2 : Nat} {Q : V → MS → Prop} (G : BF w B) (hu : A.units < cLine) (h1 : σ d = some (.dict (dB d1) ep1)) (h2 : σ e = some (.dict (dB d2) ep2)) (hp : d1.Perm d2) (hn : (d2.map (·.1)).Nodup) (h : Q (.bool true) σ) :
    CM w B os l A .Eq (.ref d) (.ref e) Q E σ := fun va vb e1 e2 s R => by
  rw [er_ref e1, er_ref e2]
  obtain ⟨hB1, ka, D1, k1⟩ := R.known _ _ h1
  obtain ⟨hB2, kb, D2, k2⟩ := R.known _ _ h2
  obtain ⟨q1, q2⟩ := dict_hits (A := A.in1) (s := s) k1 k2 hp hn
  refine keq_eq (not_sys G hB1) (not_sys G hB2) D1.dictOf D2.dictOf hu (fun _ => q2) ?_
  rw [q1, beq_self_eq_true, Bool.and_self]
  exact ⟨σ, R, h⟩
theorem CM.neDict {d e : Addr} {d1 d2 : List (List UInt8 × List UInt8)} {ep1 ep2 : Nat} {Q : V → MS → Prop} (G : BF w B) (hu : A.units < cLine) (h1 : σ d = some (.dict (dB d1) ep1)) (h2 : σ e = some (.dict (dB d2) ep2)) (hp : d1.Perm d2) (hn : (d2.map (·.1)).Nodup) (h : Q (.bool false) σ) :
    CM w B os l A .NotEq (.ref d) (.ref e) Q E σ := fun va vb e1 e2 s R => by
  rw [er_ref e1, er_ref e2]
  obtain ⟨hB1, ka, D1, k1⟩ := R.known _ _ h1
  obtain ⟨hB2, kb, D2, k2⟩ := R.known _ _ h2
  obtain ⟨q1, q2⟩ := dict_hits (A := A.in1) (s := s) k1 k2 hp hn
  refine keq_ne (not_sys G hB1) (not_sys G hB2) D1.dictOf D2.dictOf hu (fun _ => q2) ?_
  rw [q1, beq_self_eq_true, Bool.and_self]
  exact ⟨σ, R, h⟩
theorem pick_to {items : Array Value} {k : Nat} : (slicePick items none (some (k : Int)) none).toList = items.toList.take k := by
  have hb : sliceBounds none (some (k : Int)) none items.size = (((0 : Nat) : Int), ((min k items.size : Nat) : Int), 1) := by
    simp only [sliceBounds, Option.getD_none, show (1 : Int) > 0 by decide, if_true, if_neg (show ¬ ((k : Int) < 0) by omega)]
    congr 1
    congr 1
    omega
  rw [kmk_pick_nat items hb]
  show (items.toList.drop 0).take (min k items.size - 0) = _
  rw [List.drop_zero, Nat.sub_zero, ← Array.length_toList]
  exact List.take_eq_take_min.symm
theorem EV.cutL {value upper : Expr} {p pos : Pos} {Q : V → MS → Prop}
    (h : EV w B os l A env value (fun a σ₁ => ∃ r xs, a = .ref r ∧ σ₁ r = some (.list xs) ∧ xs.length ≤ 1000000 ∧ EV w B os l A env upper (fun u σ₂ => ∃ k : Nat, u = .int k ∧ σ₂ r = some (.list xs) ∧ ∀ d, σ₂ d = Option.none → B.get? d = Option.none → Q (.ref d) (upd σ₂ d (.list (xs.take k)))) E σ₁) E σ)
    (hs : ∀ o i, subscripted (.Slice Option.none (some upper) Option.none p) false o i = operate [i, o] (getItem o i) := by intro _ _; with_unfolding_all rfl) : EV w B os l A env (.Subscript value (.Slice Option.none (some upper) Option.none p) pos) Q E σ := fun s R => by
  refine Subscript_ (wpAny_mono (h s R) (fun a s₁ hq1 => ?_) fun _ _ x => x)
  obtain ⟨σ₁, R₁, r, xs, ha, hx, hz, h₁⟩ := hq1
  rw [er_ref ha]
  refine wpAny_Slice (wpAny_of_eq (t := evalPart Option.none env) (a := Value.none) rfl (wpAny_mono (h₁ s₁ R₁) (fun u s₂ hq1 => ?_) fun _ _ x => x))
  obtain ⟨σ₂, R₂, k, hu, hx₂, h₂⟩ := hq1
  refine wpAny_of_eq (t := evalPart Option.none env) (a := Value.none) rfl ?_
  obtain ⟨t, rfl⟩ := er_int hu
  obtain ⟨_, us, n, ho, hus⟩ := R₂.known _ _ hx₂
  have hl := IsL.isList ho
  have hle : us.size = xs.length := by rw [← hus]; simp
  have hl' := hl.push { cls := .type "slice", data := .fields #[.none, .int k t, .none] }
  refine tail_any hl'.typeIs slot_list_getitem.lookup (wpAny_getItem_list_slice (lo := Option.none) (hi := some (k : Int)) (st := Option.none) hl' (Heap.IsSliceOf.new _ _ _ _) .none (.int _ _) .none (by simp) ?_ (by rw [hle, sizeLine_eq]; omega)) (hs _ _)
  have R₃ := R₂.grow (h' := s₂.heap.push { cls := .type "slice", data := .fields #[.none, .int k t, .none] }) (fun b o e => Heap.get?_push_of_some _ e) s₂.toks
  have e : (slicePick us Option.none (some (k : Int)) Option.none).toList.map er = xs.take k := by rw [pick_to, List.map_take, hus]
  exact ⟨_, R₃.newList (vs := (slicePick us Option.none (some (k : Int)) Option.none).toList) e s₂.toks, h₂ _ R₃.fresh.1 R₃.fresh.2⟩
end
end Mine
end
section
open PySem PySem.W PySem.Calls PyProof.Rows PySem.Builtin
namespace Mine
section
variable {w : World} {B : Heap} {os : OsState} {l : List Env} {A : Around} {σ : MS} {E : Value → MS → Prop} {env : Env} {s : Shared}
theorem SS.forSet {target iter : Expr} {body : List Stmt} {pos : Pos} {rest : List Stmt} {Q : Fl → MS → Prop} {L : Addr} (hA : A.frames = some (env :: l)) (hh : A.handled = Option.none) (hf : env.frame = some L)
    (h : EV w B os (env :: l) A env iter (fun v σ₁ => ∃ a ks, v = .ref a ∧ σ₁ a = some (.set ks) ∧ ks.length ≤ 1000 ∧ ∀ it (ys : List (List UInt8)) (S : Nat → O) (P : MS), ys.Perm ks → PinOf B σ₁ P a → ovl σ₁ P it = Option.none → B.get? it = Option.none → ∃ J : Nat → MS → Prop, J 0 (upd (ovl σ₁ P) it (S 0)) ∧
      (∀ i x τ, J i τ → ys[i]? = some x → Le P τ ∧ τ it = some (S i) ∧ AS w B os (env :: l) A env target (.byt x) (SS w B os (env :: l) A env body (lp (J (i + 1)) (SS w B os (env :: l) A env rest Q E) Q) E) E (upd τ it (S (i + 1)))) ∧
      (∀ τ, J ys.length τ → Le P τ ∧ τ it = some (S ys.length) ∧ SS w B os (env :: l) A env rest Q E (Mine.del τ it))) E σ)
    (hs : ∀ x, foldedSetIterable iter env x = pure x := by intro _; rfl) (ht : ∀ it v, letOwnedTupleGo target it v = pure () := by intro _ _; rfl) :
    SS w B os (env :: l) A env (.For target iter body [] pos :: rest) Q E σ := by
  refine SS.consNx fun s R => wpAny_For (wpAny_mono (h s R) (fun xv s₁ hq1 => ?_) fun _ _ x => x) hs
  obtain ⟨σ₁, R₁, a, ks, hv, ha, hz, h₁⟩ := hq1
  rw [er_ref hv]
  refine wpAny_mono (iterSet (Q := fun itv σ₂ => ∃ it, ∃ (xs : List V) (S : Nat → O) (P : MS), itv = .ref it ∧ xs.Perm (ks.map V.byt) ∧ NX w B os (env :: l) xs S P it ∧ PinOf B σ₁ P a ∧ ovl σ₁ P it = Option.none ∧ B.get? it = Option.none ∧ σ₂ = upd (ovl σ₁ P) it (S 0)) ha hz (fun it xs S P q1 q2 q3 q4 q5 => ⟨it, xs, S, P, rfl, q1, q2, q3, q4, q5, rfl⟩) s₁ R₁) (fun itv s₂ hq1 => ?_) fun _ _ x => x
  obtain ⟨σ₂, R₂, it, xs, S, P, hit, q1, q2, q3, q4, q5, hσ⟩ := hq1
  subst hit hσ
  obtain ⟨hxs, hys⟩ := perm_byt q1
  generalize xs.map ub = ys at hxs hys
  subst hxs
  obtain ⟨J, h0, hstep, hfin⟩ := h₁ it ys S P hys q3 q4 q5
  refine forW hA hf (xs := ys.map V.byt) J h0 (fun i v τ hJ hx => ?_) (fun τ hJ => ?_) s₂ R₂
  · rw [List.getElem?_map] at hx
    obtain ⟨y, hy, rfl⟩ := Option.map_eq_some_iff.mp hx
    obtain ⟨z1, z2, z3⟩ := hstep i y τ hJ hy
    refine q2.next A hh i _ τ _ _ z1 z2 (by rw [List.getElem?_map, hy]; rfl) fun va hva => ⟨va, rfl, hva, fun s R => ?_⟩
    rw [ht]
    exact wpAny_pure ⟨_, R, z3⟩
  · rw [List.length_map] at hJ
    obtain ⟨z1, z2, z3⟩ := hfin τ hJ
    exact q2.fin A hh τ _ _ z1 (by rw [List.length_map]; exact z2) ⟨rfl, z3⟩
end
end Mine
end
section
open PySem PySem.W PySem.Calls PyProof.Rows PySem.Builtin
namespace Mine
theorem nb {c : Bool} {P : Prop} (h : c = !c) : P := by cases c <;> cases h
theorem tyDict {σ : MS} {a : Addr} {es : List (List UInt8 × V)} {ep : Nat} (h : σ a = some (.dict es ep)) : TyOf σ (.ref a) "dict" := by
  unfold TyOf; dsimp only; rw [h]
theorem tyList {σ : MS} {a : Addr} {xs : List V} (h : σ a = some (.list xs)) : TyOf σ (.ref a) "list" := by
  unfold TyOf; dsimp only; rw [h]
theorem tySet {σ : MS} {a : Addr} {xs : List (List UInt8)} (h : σ a = some (.set xs)) : TyOf σ (.ref a) "set" := by
  unfold TyOf; dsimp only; rw [h]
theorem tyByt {σ : MS} {b : List UInt8} : TyOf σ (.byt b) "bytes" := rfl
noncomputable abbrev DS := List (List UInt8 × List UInt8)
noncomputable def vO : Option (List UInt8) → V
  | some b => .byt b
  | none => .none
noncomputable def symB : List UInt8 := [114, 101, 102, 58, 32]
noncomputable def Kept (σ : MS) (k R : Addr) (ds : DS) : Prop := ∃ dk P ep, σ k = some (IN 281 dk) ∧ σ dk = some (ID [("_refs", .ref R), ("_peeled", .ref P)]) ∧ σ R = some (.dict (dB ds) ep)
theorem Kept.le {τ σ : MS} {k R : Addr} {ds : DS} (K : Kept τ k R ds) (h : Le τ σ) : Kept σ k R ds := by
  obtain ⟨dk, P, ep, h1, h2, h3⟩ := K
  exact ⟨dk, P, ep, h _ _ h1, h _ _ h2, h _ _ h3⟩
theorem Kept.fr {σ : MS} {k R L : Addr} {ds : DS} {o : O} (K : Kept σ k R ds) (h : σ L = none) : Kept (upd σ L o) k R ds := K.le (Le.fresh h)
noncomputable def okVals : List (List UInt8) := [List.replicate 40 48, List.replicate 40 97, List.replicate 40 70, List.replicate 64 99] ++ (namesB.take 7).map (symB ++ ·)
theorem okVals_len : ∀ v ∈ okVals, v ≠ [] ∧ v.length ≤ 100 := by decide +kernel
structure Good (ds : DS) : Prop where
  nodup : (ds.map (·.1)).Nodup
  keys : ∀ p ∈ ds, p.1 ∈ namesB
  vals : ∀ p ∈ ds, p.2 ∈ okVals
theorem nodup_len {α : Type} [BEq α] [LawfulBEq α] : ∀ {l m : List α}, l.Nodup → (∀ x ∈ l, x ∈ m) → l.length ≤ m.length
  | [], _, _, _ => Nat.zero_le _
  | a :: l, m, hn, hs => by
    rw [List.nodup_cons] at hn
    have ha := hs a (.head _)
    have := nodup_len (m := m.erase a) hn.2 fun x hx => (List.mem_erase_of_ne fun e => hn.1 (by subst e; exact hx)).mpr (hs x (.tail _ hx))
    rw [List.length_erase_of_mem ha] at this
    have := List.length_pos_of_mem ha
    rw [List.length_cons]; omega
theorem Good.size {ds : DS} (g : Good ds) : ds.length ≤ 13 := by
  have := nodup_len (m := namesB) g.nodup fun x hx => by
    obtain ⟨p, hp, rfl⟩ := List.mem_map.mp hx
    exact g.keys p hp
  rw [List.length_map] at this
  exact this
theorem lookB_in {ds : DS} {k v : List UInt8} (h : lookB ds k = some v) : (k, v) ∈ ds := by
  unfold lookB at h
  obtain ⟨p, hp, rfl⟩ := Option.map_eq_some_iff.mp h
  have h1 := List.mem_of_find?_eq_some hp
  have h2 := List.find?_some hp
  simp at h2
  subst h2
  exact h1
theorem Good.val {ds : DS} (g : Good ds) {k v : List UInt8} (h : lookB ds k = some v) : v ≠ [] ∧ v.length ≤ 100 := okVals_len _ (g.vals _ (lookB_in h))
theorem getE_vO (ds : DS) (k : List UInt8) : (getE (dB ds) k).getD .none = vO (lookB ds k) := by
  rw [getE_dB]
  cases lookB ds k <;> rfl
theorem find281 (P : Params) : findIn (Kd P) (.ref 281) "__getattribute__" = some (some (.builtin "object.__getattribute__")) ∧ findIn (Kd P) (.ref 281) "__getattr__" = some none := ⟨by kernel_rfl!, by kernel_rfl!⟩
theorem refs281 (P : Params) : (clsIn (Kd P) 281).any (·.hasDict) = true ∧ findIn (Kd P) (.ref 281) "_refs" = some none := ⟨by kernel_rfl!, by kernel_rfl!⟩
section
variable {w : World} {B : Heap} {os : OsState} {l : List Env} {A : Around} {σ : MS} {E : Value → MS → Prop} {env : Env} {s : Shared} {k R : Addr} {ds : DS}
theorem evRefs {n : Str} {np pos : Pos} {m : Str → Option V} {Q : V → MS → Prop} (G : BF w B) (hσ : σ env.locals = some (.ns m)) (hv : m n = some (.ref k)) (K : Kept σ k R ds) (h : Q (.ref R) σ)
    (hk : env.scope.kind = .function := by rfl) (hl : env.kindOf n = some .local := by rfl) (hd : (n == ("__debug__" : Str)) = false := by decide) : EV w B os l A env (.Attribute (.Name n np) "_refs" pos) Q E σ := by
  obtain ⟨dk, P, ep, h1, h2, h3⟩ := K
  exact EV.attr G (EV.name hσ hv ⟨k, 281, dk, _, .ref R, rfl, h1, h2, rfl, (fun n e => by cases e), h, (refs281 _).1, (find281 _).1, (refs281 _).2⟩ hk hl hd)
theorem evSelf {n name : Str} {np apos pos : Pos} {es : List Expr} {f : Addr} {fd : FuncData} {body : List Stmt} {m : Str → Option V} {Q : V → MS → Prop} (G : BF w B) (hσ : σ env.locals = some (.ns m)) (hv : m n = some (.ref k)) (K : Kept σ k R ds) (hF : IsFn B f fd body)
    (h : SQ w B os l A env es (kCLm w B os l A E (.ref f) (.ref k) Q) E σ)
    (h1 : findIn (Kd w.params) (.ref 281) name = some (some (.ref f)) := by kernel_rfl!) (h2 : typeIn (Kd w.params) (.ref f) = some (.type "function") := by kernel_rfl!)
    (h3 : List.lookup name ([("_refs", V.ref R), ("_peeled", V.ref 0)] : List (Str × V)) = none := by rfl)
    (hs : backTo pos (starEach es env) = es.map (fun e => (false, eval e env)) := by rfl)
    (he : ∃ pl : Sem Bool, eval (.Call (.Attribute (.Name n np) name apos) es [] pos) env = (do
      let ov ← eval (.Name n np) env
      standAt apos.atName
      let (f, first) ← holding [ov] (getMethod ov name pl)
      callWith pos f first (backTo pos (starEach es env)) (backToKw pos (keywordEach [] env))) := by exact ⟨_, rfl⟩)
    (hk : env.scope.kind = .function := by rfl) (hl : env.kindOf n = some .local := by rfl) (hd : (n == ("__debug__" : Str)) = false := by decide) : EV w B os l A env (.Call (.Attribute (.Name n np) name apos) es [] pos) Q E σ := by
  obtain ⟨dk, P, ep, k1, k2, k3⟩ := K
  refine EV.methOwn G (EV.name hσ hv ⟨k, 281, dk, _, f, fd, rfl, k1, k2, ?_, hF.there, h, (find281 _).1, (find281 _).2, h1, h2⟩ hk hl hd) hs he
  simp only [List.lookup] at h3 ⊢
  split at h3
  · cases h3
  · split at h3
    · cases h3
    · rfl
theorem loose_ {n : Nat} {x : List UInt8} {Q : V → MS → Prop} (hA : Ar A l (n + 1)) (G : BF w B) (K : Kept σ k R ds) (h : Q (vO (lookB ds x)) σ) : CL w B os l A (.ref 236) [.ref k, .byt x] Q E σ := by
  refine call236 hA G fun L A' hL hA' => ?_
  have K' := K.fr (o := .ns (fr [(Str.ofString "name", .byt x), (Str.ofString "self", .ref k)])) hL
  refine SS.ret ?_
  refine EV.meth mf_get ?_
  refine evRefs G uu rfl K' ?_
  obtain ⟨dk, P, ep, h1, h2, h3⟩ := K'
  refine ⟨tyDict h3, SQ.cons <| EV.name uu rfl <| SQ.cons <| EV.none <| SQ.nil ?_⟩
  refine CL.dictGet2 G h3 ?_
  rw [getE_vO]
  exact ⟨σ, Le.fresh hL, h⟩
theorem packed_ {n : Nat} {Q : V → MS → Prop} (hA : Ar A l (n + 1)) (G : BF w B) (h : ∀ d ep, σ d = none → B.get? d = none → Q (.ref d) (upd σ d (.dict [] ep))) : CL w B os l A (.ref 243) [.ref k] Q E σ := by
  refine call243 hA G fun L A' hL hA' => ?_
  refine SS.ret <| evDict0 fun d ep hd hB => ?_
  exact ⟨upd σ d (.dict [] ep), Le.upd (Le.fresh hL), h d ep (by
    by_cases q : d = L
    · subst q; exact hL
    · rwa [upd_ne _ _ q] at hd) hB⟩
theorem read_ {n : Nat} {x : List UInt8} {Q : V → MS → Prop} (hA : Ar A l (n + 2)) (G : BF w B) (K : Kept σ k R ds) (g : Good ds) (h : Q (vO (lookB ds x)) σ) : CL w B os l A (.ref 159) [.ref k, .byt x] Q E σ := by
  refine call159 hA G fun L A' hL hA' => ?_
  refine SS.assign ?_
  refine evSelf G uu rfl (K.fr hL) (is236 G) ?_
  refine SQ.cons <| EV.name uu rfl <| SQ.nil ?_
  refine loose_ hA' G (K.fr hL) ⟨_, _, _, rfl, rfl, ?_⟩
  cases q : lookB ds x with
  | none =>
    refine SS.if <| TR.not <| TR.plain <| EV.name uu rfl <| TU.none ⟨fun _ => ?_, fun z => by cases z⟩
    refine SS.assign ?_
    refine EV.meth mf_get ?_
    refine evSelf G uu rfl (K.fr hL) (is243 G) <| SQ.nil ?_
    refine packed_ hA' G fun d ep hd hB => ⟨tyDict uu, SQ.cons <| EV.name (un hd uu) rfl <| SQ.cons <| EV.none <| SQ.nil ?_⟩
    refine CL.dictGet2 G uu ?_
    refine ⟨upd σ d (.dict [] ep), L, _, upd_comm ?_, rfl, ?_⟩
    · rintro rfl; rw [upd_self] at hd; cases hd
    refine SS.nxt ?_
    refine SS.ret <| EV.name uu rfl ⟨σ, ?_, ?_⟩
    · have hd' : σ d = none := by
        by_cases e : d = L
        · subst e; exact hL
        · rwa [upd_ne _ _ e] at hd
      exact Le.over (Le.fresh hd') hL
    · rw [q] at h; exact h
  | some v =>
    have hv := g.val q
    refine SS.if <| TR.not <| TR.plain <| EV.name uu rfl <| TU.byt (by omega) ⟨fun z => ?_, fun _ => ?_⟩
    · exfalso; have := hv.1; revert z; cases v <;> simp at this ⊢
    refine SS.nxt ?_
    refine SS.ret <| EV.name uu rfl ⟨σ, Le.fresh hL, ?_⟩
    rw [q] at h; exact h
end
end Mine
end
section
open PySem PySem.W PySem.Calls PyProof.Rows PySem.Builtin
namespace Mine
noncomputable def goF (ds : DS) : Nat → List (List UInt8) → List UInt8 → Option (List (List UInt8) × Option (List UInt8))
  | 0, _, _ => none
  | f + 1, acc, c => match symB.isPrefixOf c with
    | true => match lookB ds (c.drop 5) with
      | none => some (acc ++ [c.drop 5], none)
      | some c' => goF ds f (acc ++ [c.drop 5]) c'
    | false => some (acc, some c)
noncomputable def followB (ds : DS) (x : List UInt8) : Option (List (List UInt8) × Option (List UInt8)) := goF ds 6 [] (symB ++ x)
section
variable {w : World} {B : Heap} {os : OsState} {l : List Env} {A : Around} {σ : MS} {E : Value → MS → Prop} {env : Env} {s : Shared} {k R : Addr} {ds : DS}
theorem EV.callF {x : Str} {p pos : Pos} {es : List Expr} {a : Addr} {fd : FuncData} {body : List Stmt} {Q : V → MS → Prop} (G : BF w B) (hF : IsFn B a fd body) (hv : gtab.lookup x = some (.ref a))
    (h : SQ w B os l A env es (fun vs σ₁ => CL w B os l A (.ref a) vs Q E σ₁) E σ)
    (hs : backTo pos (starEach es env) = es.map (fun e => (false, eval e env)) := by rfl)
    (hg : env.globals = mainGlobals := by rfl) (hk : env.scope.kind = .function := by rfl) (hl : env.kindOf x = some .globalImplicit := by kernel_rfl!) (hdb : (x == ("__debug__" : Str)) = false := by kernel_rfl!) : EV w B os l A env (.Call (.Name x p) es [] pos) Q E σ := by
  obtain ⟨o, ho, hd'⟩ := hF.there
  exact EV.callDef G hv ho hd' h hs hg hk hl hdb
theorem follow_ {n : Nat} {x : List UInt8} {Q : V → MS → Prop} (hA : Ar A l (n + 3)) (G : BF w B) (K : Kept σ k R ds) (g : Good ds) (hx : x.length ≤ 100)
    (h1 : ∀ ns v p T, followB ds x = some (ns, v) → σ p = none → B.get? p = none → σ T = none → B.get? T = none → p ≠ T → Q (.ref T) (upd (upd σ p (.list (ns.map V.byt))) T (.tup [.ref p, vO v])))
    (h2 : followB ds x = none → E (.ref 84) σ) : CL w B os l A (.ref 166) [.ref k, .byt x] Q E σ := by
  refine call166 hA G fun L A' hL hA' => ?_
  refine SS.assign <| EV.binop <| EV.glob G rfl <| EV.name uu rfl <| BN.addB (by simp only [List.length_cons, List.length_nil]; omega) ⟨_, _, _, rfl, rfl, ?_⟩
  refine SS.assign <| EV.int ⟨_, _, _, rfl, rfl, ?_⟩
  refine SS.assign <| evList <| SQ.nil ⟨by decide, fun p hp hB => ?_⟩
  have hpL : p ≠ L := by rintro rfl; rw [upd_self] at hp; cases hp
  have hp' : σ p = none := by rwa [upd_ne _ _ hpL] at hp
  refine ⟨upd σ p (.list []), L, _, upd_comm hpL.symm, rfl, ?_⟩
  obtain ⟨J, hJ⟩ : ∃ J : Nat → MS → Prop, ∀ f τ, J f τ = (∃ acc c m, τ = upd (upd σ p (.list (acc.map V.byt))) L (.ns m) ∧ m "self" = some (.ref k) ∧ m "name" = some (.byt x) ∧ m "refnames" = some (.ref p) ∧ m "contents" = some (.byt c) ∧ m "depth" = some (.int (6 - f)) ∧
    1 ≤ f ∧ f ≤ 6 ∧ goF ds f acc c = followB ds x ∧ c ≠ [] ∧ c.length ≤ 200 ∧ acc.length + f ≤ 6) := ⟨_, fun _ _ => rfl⟩
  refine SS.while (n := 6) hA'.frames rfl J ((hJ _ _).mpr ⟨[], symB ++ x, _, rfl, rfl, rfl, rfl, rfl, rfl, by decide, by decide, rfl, by simp [symB], by simp [symB]; omega, by simp⟩) ?_
  intro f τ hI
  rw [hJ] at hI
  obtain ⟨acc, c, m, rfl, m1, m2, m3, m4, m5, f1, f2, hgo, hc, hcl, hacc⟩ := hI
  have hc' : (!c.isEmpty) = true := by cases c with | nil => exact absurd rfl hc | cons _ _ => rfl
  refine TR.and <| TR.plain <| EV.name uu m4 <| TU.byt (by omega) ?_
  rw [hc']
  refine TR.and <| TR.plain <| EV.meth mf_b_startswith <| EV.name uu m4 ⟨tyByt, ?_⟩
  refine SQ.cons <| EV.glob G rfl <| SQ.nil <| CL.startswith <| TU.bool ?_
  obtain ⟨f, rfl⟩ : ∃ f', f = f' + 1 := ⟨f - 1, by omega⟩
  unfold goF at hgo
  have hσp : σ p = none := hp'
  have hfin : ∀ (m' : Str → Option V) (acc' : List (List UInt8)) (v : Option (List UInt8)), m' "refnames" = some (.ref p) → m' "contents" = some (vO v) → followB ds x = some (acc', v) → (∀ b, v = some b → b ≠ [] ∧ b.length ≤ 200) → acc'.length ≤ 30 →
      SS w B os (callEnv fd166 L 166 :: l) A' (callEnv fd166 L 166) ((bd166.drop 4)) (kBody Q) (kDn E) (upd (upd σ p (.list (acc'.map V.byt))) L (.ns m')) := by
    intro m' acc' v n1 n2 hf hv hl
    have hend : ∀ T, upd (upd σ p (.list (acc'.map V.byt))) L (.ns m') T = none → B.get? T = none → Dn (Q (retV (.ret (.ref T)))) (upd (upd (upd σ p (.list (acc'.map V.byt))) L (.ns m')) T (.tup [.ref p, vO v])) := fun T hT hBT => by
      have hTL : T ≠ L := by rintro rfl; rw [upd_self] at hT; cases hT
      rw [upd_ne _ _ hTL] at hT
      have hTp : T ≠ p := by rintro rfl; rw [upd_self] at hT; cases hT
      rw [upd_ne _ _ hTp] at hT
      exact ⟨_, Le.upd (Le.fresh (by rw [upd_ne _ _ hpL.symm]; exact hL)), h1 acc' v p T hf hp' hB hT hBT hTp.symm⟩
    refine SS.ret <| evTup <| SQ.cons <| EV.name uu n1 <| SQ.cons ?_
    cases v with
    | none =>
      refine EV.ifexp <| TR.plain <| EV.name uu n2 <| TU.none ?_
      exact EV.none <| SQ.nil ⟨by simp, fun T hT hBT => hend T hT hBT⟩
    | some b =>
      obtain ⟨b1, b2⟩ := hv b rfl
      have hb' : (!b.isEmpty) = true := by cases b with | nil => exact absurd rfl b1 | cons _ _ => rfl
      refine EV.ifexp <| TR.plain <| EV.name uu n2 <| TU.byt (by omega) ?_
      rw [hb']
      exact EV.callF G (is53 G) rfl <| SQ.cons <| EV.name uu n2 <| SQ.nil <| objectID_ hA' G <| SQ.nil ⟨by simp, fun T hT hBT => hend T hT hBT⟩
  cases hpre : symB.isPrefixOf c with
  | false =>
    rw [hpre] at hgo
    rw [show List.isPrefixOf [114, 101, 102, 58, 32] c = false from hpre]
    show _ ∧ _
    refine ⟨nb, fun _ => ?_⟩
    exact hfin m acc (some c) m3 m4 hgo.symm (fun b hb => by cases hb; exact ⟨hc, hcl⟩) (by omega)
  | true =>
    rw [hpre] at hgo
    rw [show List.isPrefixOf [114, 101, 102, 58, 32] c = true from hpre]
    refine TR.and_nil ?_
    refine ⟨fun _ => ?_, nb⟩
    refine SS.assign <| EV.callF G (is67 G) rfl <| SQ.cons <| EV.cut <| EV.name uu m4 ⟨c, rfl, by omega, ptS <| EV.callBi G gl_len.1 gl_len.2 boot_len <| SQ.cons <| EV.glob G rfl <| SQ.nil <| CL.lenB (by decide) ⟨_, rfl, ptN <| SQ.nil <| ref_ hA' G ⟨_, L, _, rfl, rfl, ?_⟩⟩⟩
    have ec : cutB c (some ((List.length ([114, 101, 102, 58, 32] : List UInt8) : Nat) : Int)) none = c.drop 5 := cut_from c 5
    rw [ec]
    have hdl : (c.drop 5).length ≤ 200 := by rw [List.length_drop]; omega
    refine SS.expr <| EV.meth mf_append <| EV.name uu m3 ⟨tyList (upd_ne _ _ hpL |>.trans uu), ?_⟩
    refine SQ.cons <| EV.name uu rfl <| SQ.nil <| CL.append ((upd_ne _ _ hpL).trans uu) (by rw [List.length_map]; omega) ⟨fun a e => (by cases e), ?_⟩
    rw [upd_comm hpL.symm, upd_upd]
    have eacc : acc.map V.byt ++ [V.byt (c.drop 5)] = (acc ++ [c.drop 5]).map V.byt := by rw [List.map_append]; rfl
    rw [eacc]
    have KL : ∀ o o', Kept (upd (upd σ p o) L o') k R ds := fun o o' => (K.fr hσp).fr (by rw [upd_ne _ _ hpL.symm]; exact hL)
    refine SS.assign <| evSelf G uu m1 (KL _ _) (is159 G) <| SQ.cons <| EV.name uu rfl <| SQ.nil <| read_ hA' G (KL _ _) g ⟨_, L, _, rfl, rfl, ?_⟩
    cases q : lookB ds (c.drop 5) with
    | none =>
      rw [q] at hgo
      refine SS.if <| TR.not <| TR.plain <| EV.name uu rfl <| TU.none ⟨fun _ => SS.brk ?_, fun z => by cases z⟩
      exact hfin _ _ none m3 rfl hgo.symm (fun b hb => by cases hb) (by rw [List.length_append]; simp; omega)
    | some c' =>
      rw [q] at hgo
      have hv := g.val q
      have hcv : (!c'.isEmpty) = true := by cases c' with | nil => exact absurd rfl hv.1 | cons _ _ => rfl
      refine SS.if <| TR.not <| TR.plain <| EV.name uu rfl <| TU.byt (by omega) ?_
      rw [hcv]
      refine ⟨nb, fun _ => SS.nxt ?_⟩
      refine SS.augAdd rfl rfl m5 <| EV.int ⟨rfl, _, rfl, ?_⟩
      refine SS.if <| TR.cmp <| EV.name uu rfl <| EV.int <| CM.gtI <| TU.bool ⟨fun hgt => ?_, fun hgt => SS.nxt <| SS.nil ⟨f, by omega, ?_⟩⟩
      · have hf0 : f = 0 := by
          have : (6 : Int) - ((f + 1 : Nat) : Int) + 1 > 5 := of_decide_eq_true hgt
          omega
        subst hf0
        refine raise84 hA' G (nameIs_glob G rfl) <| SQ.cons <| EV.name uu m2 <| SQ.cons <| EV.name uu rfl <| SQ.nil ⟨⟨_, _, rfl⟩, σ, ?_, h2 hgo.symm⟩
        exact (Le.fresh hσp).trans (Le.fresh (by rw [upd_ne _ _ hpL.symm]; exact hL))
      · refine (hJ _ _).mpr ⟨acc ++ [c.drop 5], c', _, rfl, m1, m2, m3, rfl, ?_, ?_, ?_, hgo, hv.1, by omega, ?_⟩
        · show some (V.int _) = some (V.int _)
          congr 2; omega
        · have : ¬ ((6 : Int) - ((f + 1 : Nat) : Int) + 1 > 5) := of_decide_eq_false hgt
          omega
        · omega
        · rw [List.length_append, List.length_singleton]; omega
theorem contains_ {n : Nat} {x : List UInt8} {Q : V → MS → Prop} (hA : Ar A l (n + 3)) (G : BF w B) (K : Kept σ k R ds) (g : Good ds) (h : Q (.bool (lookB ds x).isSome) σ) : CL w B os l A (.ref 173) [.ref k, .byt x] Q E σ := by
  refine call173 hA G fun L A' hL hA' => ?_
  refine SS.if <| TR.plain <| evSelf G uu rfl (K.fr hL) (is159 G) <| SQ.cons <| EV.name uu rfl <| SQ.nil <| read_ hA' G (K.fr hL) g ?_
  cases q : lookB ds x with
  | none =>
    rw [q] at h
    exact TU.none ⟨nb, fun _ => SS.nxt <| SS.ret <| EV.bool ⟨σ, Le.fresh hL, h⟩⟩
  | some v =>
    rw [q] at h
    have hv := g.val q
    have hcv : (!v.isEmpty) = true := by cases v with | nil => exact absurd rfl hv.1 | cons _ _ => rfl
    refine TU.byt (by omega) ?_
    rw [hcv]
    exact ⟨fun _ => SS.ret <| EV.bool ⟨σ, Le.fresh hL, h⟩, fun z => by cases z⟩
theorem getitem_ {n : Nat} {x : List UInt8} {Q : V → MS → Prop} (hA : Ar A l (n + 4)) (G : BF w B) (K : Kept σ k R ds) (g : Good ds) (hx : x.length ≤ 100)
    (h1 : ∀ ns v, followB ds x = some (ns, some v) → Q (.byt v) σ) (h2 : ∀ ns, followB ds x = some (ns, none) → E (.type "KeyError") σ) (h3 : followB ds x = none → E (.ref 84) σ) : CL w B os l A (.ref 180) [.ref k, .byt x] Q E σ := by
  refine call180 hA G fun L A' hL hA' => ?_
  refine SS.assignTup hA'.handled ?_
  refine evSelf G uu rfl (K.fr hL) (is166 G) <| SQ.cons <| EV.name uu rfl <| SQ.nil <| follow_ hA' G (K.fr hL) g hx (fun ns v p T hf hp hpB hT hTB hne => ?_) fun hf => ⟨σ, Le.fresh hL, h3 hf⟩
  have hpL : p ≠ L := by rintro rfl; rw [upd_self] at hp; cases hp
  have hTL : T ≠ L := by rintro rfl; rw [upd_self] at hT; cases hT
  rw [upd_ne _ _ hpL] at hp
  rw [upd_ne _ _ hTL] at hT
  refine ⟨T, _, _, rfl, uu, ?_⟩
  have hL2 : ∀ o o' o'', upd (upd (upd σ L o) p o') T o'' L = some o := fun o o' o'' => by rw [upd_ne _ _ hTL.symm, upd_ne _ _ hpL.symm, upd_self]
  have hle : ∀ o o' o'', Le σ (upd (upd (upd σ p o) T o') L o'') := fun o o' o'' => ((Le.fresh hp).trans (Le.fresh (by rw [upd_ne _ _ hne.symm]; exact hT))).trans (Le.fresh (by rw [upd_ne _ _ hTL.symm, upd_ne _ _ hpL.symm]; exact hL))
  rw [upd_comm hpL.symm, upd_comm hTL.symm]
  refine AS.at uu <| AS.at uu ?_
  rw [upd_upd, upd_upd]
  refine SS.if <| TR.cmp <| EV.name uu rfl <| EV.none <| CM.isNone <| TU.bool ?_
  cases v with
  | none =>
    refine ⟨fun _ => ?_, fun z => (by simp [vO] at z)⟩
    exact raiseX excClass_KeyError hA'.handled (nameIs_built G (by kernel_rfl!) (by kernel_rfl!) (by kernel_rfl!)) <| SQ.cons <| EV.name uu rfl <| SQ.nil ⟨by simp, σ, hle _ _ _, h2 ns hf⟩
  | some v =>
    refine ⟨fun z => (by simp [vO] at z), fun _ => SS.nxt ?_⟩
    exact SS.ret <| EV.name uu rfl ⟨σ, hle _ _ _, h1 ns v hf⟩
end
end Mine
end
section
open PySem PySem.W PySem.Calls PyProof.Rows PySem.Builtin
namespace Mine
noncomputable def hexB (b : UInt8) : Bool := (48 ≤ b.toNat && b.toNat ≤ 57) || (65 ≤ b.toNat && b.toNat ≤ 70) || (97 ≤ b.toNat && b.toNat ≤ 102)
section
variable {w : World} {B : Heap} {os : OsState} {l : List Env} {A : Around} {σ : MS} {E : Value → MS → Prop} {env : Env} {s : Shared} {k R : Addr} {ds : DS}
theorem TR.cmp2 {x y z : Expr} {o₁ o₂ : CmpOp} {pos : Pos} {Q : Bool → MS → Prop}
    (h : EV w B os l A env x (fun a σ₁ => EV w B os l A env y (fun b σ₂ => CM w B os l A o₁ a b (fun c σ₃ => TU w B os l A c (fun t σ₄ => (t = true → EV w B os l A env z (fun d σ₅ => CM w B os l A o₂ b d (fun e σ₆ => TU w B os l A e Q E σ₆) E σ₅) E σ₄) ∧ (t = false → Q false σ₄)) E σ₃) E σ₂) E σ₁) E σ)
    (hm : lastMarks [o₁, o₂] [y, z] = false := by with_unfolding_all rfl) : TR w B os l A env (.Compare x [o₁, o₂] [y, z] pos) Q E σ := fun s R =>
  isTrue_chain (wpAny_mono (h s R) (fun a s₁ ⟨σ₁, R₁, h₁⟩ => test_link (wpAny_mono (h₁ s₁ R₁) (fun b s₂ ⟨σ₂, R₂, h₂⟩ => wpAny_mono (h₂ a b rfl rfl s₂ R₂) (fun c s₃ ⟨σ₃, R₃, h₃⟩ => wpAny_mono (h₃ c rfl s₃ R₃) (fun t s₄ ⟨σ₄, R₄, h₄⟩ => by
    cases t with
    | false => rw [if_neg (by decide)]; exact ⟨σ₄, R₄, h₄.2 rfl⟩
    | true =>
      rw [if_pos rfl]
      refine test_last (wpAny_mono (h₄.1 rfl s₄ R₄) (fun d s₅ ⟨σ₅, R₅, h₅⟩ => wpAny_mono (h₅ b d rfl rfl s₅ R₅) (fun e s₆ ⟨σ₆, R₆, h₆⟩ => h₆ e rfl s₆ R₆) fun _ _ x => x) fun _ _ x => x)) fun _ _ x => x) fun _ _ x => x) fun _ _ x => x)) fun _ _ x => x) hm
theorem digit_ {n : Nat} {b : UInt8} {Q : V → MS → Prop} (hA : Ar A l (n + 1)) (G : BF w B) (hb : hexB b = true) (h : ∀ d : Int, 0 ≤ d → d < 16 → Q (.int d) σ) : CL w B os l A (.ref 41) [.int b.toNat] Q E σ := by
  refine call41 hA G fun L A' hL hA' => ?_
  have hr : ∀ d : Int, 0 ≤ d → d < 16 → Dn (Q (retV (.ret (.int d)))) (upd σ L (.ns (fr [(Str.ofString "octet", .int b.toNat)]))) := fun d h0 h1 => ⟨σ, Le.fresh hL, h d h0 h1⟩
  unfold hexB at hb
  refine SS.if <| TR.cmp2 <| EV.int <| EV.name uu rfl <| CM.leI <| TU.bool ⟨fun t1 => EV.int <| CM.leI <| TU.bool ⟨fun t2 => ?_, fun t2 => SS.nxt ?_⟩, fun t1 => ⟨nb, fun _ => SS.nxt ?_⟩⟩
  · have := of_decide_eq_true t1; have := of_decide_eq_true t2
    exact SS.ret <| EV.binop <| EV.name uu rfl <| EV.int <| BN.subI <| hr _ (by omega) (by omega)
  all_goals
    refine SS.if <| TR.cmp2 <| EV.int <| EV.name uu rfl <| CM.leI <| TU.bool ⟨fun t3 => EV.int <| CM.leI <| TU.bool ⟨fun t4 => ?_, fun t4 => SS.nxt ?_⟩, fun t3 => ⟨nb, fun _ => SS.nxt ?_⟩⟩
    · have := of_decide_eq_true t3; have := of_decide_eq_true t4
      exact SS.ret <| EV.binop <| EV.name uu rfl <| EV.int <| BN.subI <| hr _ (by omega) (by omega)
    all_goals
      refine SS.if <| TR.cmp2 <| EV.int <| EV.name uu rfl <| CM.leI <| TU.bool ⟨fun t5 => EV.int <| CM.leI <| TU.bool ⟨fun t6 => ?_, fun t6 => ?_⟩, fun t5 => ⟨nb, fun _ => ?_⟩⟩
      · have := of_decide_eq_true t5; have := of_decide_eq_true t6
        exact SS.ret <| EV.binop <| EV.name uu rfl <| EV.int <| BN.subI <| hr _ (by omega) (by omega)
      all_goals exfalso; simp at hb; simp only [decide_eq_true_eq, decide_eq_false_iff_not] at *; omega
end
end Mine
end
section
open PySem PySem.W PySem.Calls PyProof.Rows PySem.Builtin
namespace Mine
section
variable {w : World} {B : Heap} {os : OsState} {l : List Env} {A : Around} {σ : MS} {E : Value → MS → Prop} {env : Env} {s : Shared} {k R : Addr} {ds : DS}
theorem call46 {n : Nat} {x0 : V} {Q : V → MS → Prop} (hA : Ar A l (n + 1)) (G : BF w B)
    (h : ∀ L A', σ L = none → (∀ c, L ≤ c → σ c = none) → Ar A' (callEnvC fd46 L 46 :: l) n → SS w B os (callEnvC fd46 L 46 :: l) A' (callEnvC fd46 L 46) bd46 (kBody Q) (kDn E) (upd (upd σ L (.ns (fr []))) (L + 1) (CE (some x0)))) :
    CL w B os l A (.ref 46) [x0] Q E σ := by
  refine CL.defC (m := fr []) (cm := fr [(Str.ofString "text", x0)]) hA G (is46 G) rfl (fun vs hv => ?_) (fun L n c h => ?_) h
  · obtain ⟨v0, rfl, rfl⟩ := list1 hv
    refine ⟨[(Str.ofString "text", v0)], by kernel_rfl!, fun L x hx => ?_, fun L x => ?_, fun L x => ?_⟩
    · rw [List.mem_singleton] at hx; subst hx
      exact .inr ⟨by show fd46.scope.names.lookup (Str.ofString "text") = _; decide +kernel, by rfl⟩
    · rfl
    · show Option.map er (if x = Str.ofString "text" then some v0 else none) = List.lookup x [(Str.ofString "text", er v0)]
      by_cases hx : x = Str.ofString "text"
      · subst hx; rw [if_pos rfl]; simp
      · rw [if_neg hx, List.lookup_cons, beq_eq_false_iff_ne.mpr hx]; rfl
  · have e : cellsFrom (L + 1) fd46.scope.names [] = [(Str.ofString "text", L + 1)] := by rfl
    rw [e] at h ⊢
    rw [List.mem_singleton] at h; cases h
    simp
theorem nu {σ : MS} {a b : Addr} {o : O} (h : upd σ a o b = none) : σ b = none ∧ b ≠ a := by
  by_cases e : b = a
  · subst e; rw [upd_self] at h; cases h
  · rw [upd_ne _ _ e] at h; exact ⟨h, e⟩
theorem Le.del {τ σ : MS} {a : Addr} (h : Le τ σ) (k : τ a = none) : Le τ (Mine.del σ a) := fun b o e => by
  have : b ≠ a := ne_of_none k e
  rw [del_ne this]; exact h _ _ e
theorem range_at {a c : Int} {n i : Nat} {v : V} (h : (rangeXs a c n)[i]? = some v) : i < n ∧ v = .int (a + (i : Nat) * c) := by
  unfold rangeXs at h
  have hi : i < n := by
    have := (List.getElem?_eq_some_iff.mp h).1
    simpa using this
  refine ⟨hi, ?_⟩
  rw [List.getElem?_map, List.getElem?_range hi] at h
  injection h with h
  exact h.symm
theorem TU.int {i : Int} {Q : Bool → MS → Prop} (h : Q (i != 0) σ) : TU w B os l A (.int i) Q E σ := fun va ha s R => by
  obtain ⟨t, rfl⟩ := er_int ha
  exact truthy_int ⟨σ, R, h⟩
theorem unhex_ {n : Nat} {x : List UInt8} {Q : V → MS → Prop} (hA : Ar A l (n + 2)) (G : BF w B) (hx : ∀ b ∈ x, hexB b = true) (hl : x.length = 40 ∨ x.length = 64) (h : ∀ b, Q (.byt b) σ) : CL w B os l A (.ref 46) [.byt x] Q E σ := by
  refine call46 hA G fun L A' hL hLs hA' => ?_
  have hL1 : σ (L + 1) = none := hLs _ (Nat.le_succ L)
  refine SS.if <| TR.plain <| EV.binop <| EV.callBi G gl_len.1 gl_len.2 boot_len <| SQ.cons <| EV.cell (c := L + 1) rfl uu <| SQ.nil <| CL.lenB (by omega) <| EV.int <| BN.modI hA'.handled (by decide) <| TU.int ⟨fun z => ?_, fun _ => SS.nxt ?_⟩
  · exfalso; rcases hl with e | e <;> rw [e] at z <;> exact absurd z (by decide)
  refine SS.ret <| EV.callTy (id := "bytes") G (by kernel_rfl!) (by kernel_rfl!) (by kernel_rfl!) <| SQ.cons ?_
  refine evComp (cl := [(Str.ofString "text", L + 1)]) rfl rfl (by decide +kernel) (by decide +kernel) ?_
  have hlen : x.length ≤ 1000000 := by omega
  refine EV.callTy (id := "range") G (by kernel_rfl!) (by kernel_rfl!) (by kernel_rfl!) <| SQ.cons <| EV.int <| SQ.cons <| EV.callBi G gl_len.1 gl_len.2 boot_len <| SQ.cons <| EV.cell (c := L + 1) rfl uu <| SQ.nil <| CL.lenB (by omega) <| SQ.cons <| EV.int <| SQ.nil <|
    CL.range3 (by decide) (by decide) fun r hr hrB => ?_
  refine ⟨_, _, _, Src.range (n := x.length / 2) hA'.handled uu (by rcases hl with e | e <;> rw [e] <;> decide) (by rcases hl with e | e <;> rw [e] <;> decide), fun it D C hit hitB hD hC e1 e2 e3 => ?_⟩
  obtain ⟨hr0, hr1⟩ := nu hr
  obtain ⟨hr2, hr3⟩ := nu hr0
  obtain ⟨hi1, hi2⟩ := nu hit
  obtain ⟨hi3, hi4⟩ := nu hi1
  obtain ⟨hi5, hi6⟩ := nu hi3
  obtain ⟨hD1, hD2⟩ := nu hD
  obtain ⟨hD3, hD4⟩ := nu hD1
  obtain ⟨hD5, hD6⟩ := nu hD3
  obtain ⟨hC1, hC2⟩ := nu hC
  obtain ⟨hC3, hC4⟩ := nu hC1
  obtain ⟨hC5, hC6⟩ := nu hC3
  refine ⟨fun i ys τ => (∃ ns : List Int, ys = ns.map V.int ∧ (∀ n ∈ ns, 0 ≤ n ∧ n < 256) ∧ ns.length = i) ∧ Le σ τ ∧ τ (L + 1) = some (CE (some (.byt x))) ∧ τ it = some (RI (0 + (i : Nat) * 2) (((x.length / 2 : Nat) : Int) - (i : Nat)) 2) ∧ τ D = some (.list ys) ∧ ∃ m, τ C = some (.ns m), ?_, ?_, ?_⟩
  · refine ⟨⟨[], rfl, by simp, rfl⟩, ?_, ?_, ?_, ?_, _, uu⟩
    · exact Le.over (Le.over (Le.over (Le.over (Le.over (Le.over Le.rfl hL) hL1) hr2) hi5) hD5) hC5
    · rw [upd_ne _ _ hC4.symm, upd_ne _ _ hD4.symm, upd_ne _ _ hi4.symm, upd_ne _ _ hr1.symm]; exact uu
    · rw [upd_ne _ _ e2, upd_ne _ _ e1]; exact uu
    · rw [upd_ne _ _ e3]; exact uu
  · rintro i v τ ys ⟨⟨ns, rfl, hns, rfl⟩, hle, ht1, ht2, ht3, m, ht4⟩ hv
    refine ⟨trivial, ht2, ?_⟩
    obtain ⟨hi, rfl⟩ : ns.length < x.length / 2 ∧ v = .int (0 + (ns.length : Nat) * 2) := by
      have := range_at hv
      exact ⟨this.1, this.2⟩
    have hhex : ∀ j, j < x.length → hexB (x.getD j 0) = true := fun j hj => hx _ (by rw [List.getD_eq_getElem?_getD, List.getElem?_eq_getElem hj]; exact List.getElem_mem hj)
    have hCi : C ≠ it := e2.symm
    have hLi : L + 1 ≠ it := hi4.symm
    have hLC : L + 1 ≠ C := hC4.symm
    refine AS.at (L := C) ((upd_ne _ _ hCi).trans ht4) <| TS.nil ⟨fun _ => ?_, fun z => by cases z⟩
    have hcell : ∀ o o', upd (upd τ it o) C o' (L + 1) = some (CE (some (.byt x))) := fun o o' => by rw [upd_ne _ _ hLC, upd_ne _ _ hLi]; exact ht1
    refine EV.binop <| EV.binop <| EV.callF G (is41 G) rfl <| SQ.cons <| EV.sub <| EV.cell (c := L + 1) rfl (hcell _ _) <| EV.name uu rfl <| SI.byt hlen (by omega) (by omega) <| SQ.nil <| digit_ hA' G (hhex _ (by omega)) fun d h0 h1 => EV.int <| BN.mulI (.of_right (by decide)) <|
      EV.callF G (is41 G) rfl <| SQ.cons <| EV.sub <| EV.cell (c := L + 1) rfl (hcell _ _) <| EV.binop <| EV.name uu rfl <| EV.int <| BN.addI <| SI.byt hlen (by omega) (by omega) <| SQ.nil <| digit_ hA' G (hhex _ (by omega)) fun d' h0' h1' => BN.addI ?_
    have hDi : D ≠ it := e1.symm
    refine ⟨by rw [upd_ne _ _ e3, upd_ne _ _ hDi]; exact ht3, by rw [List.length_map]; omega, ⟨ns ++ [d * 16 + d'], by rw [List.map_append]; rfl, ?_, by simp⟩, ?_, ?_, ?_, uu, _, (upd_ne _ _ e3.symm).trans uu⟩
    · intro y hy
      rcases List.mem_append.mp hy with hy | hy
      · exact hns y hy
      · rw [List.mem_singleton] at hy; omega
    · exact Le.over (Le.over (Le.over hle hi5) hC5) hD5
    · rw [upd_ne _ _ hD4.symm]; exact hcell _ _
    · rw [upd_ne _ _ e1, upd_ne _ _ e2, upd_self]
  · rintro τ ys ⟨⟨ns, rfl, hns, hl'⟩, hle, ht1, ht2, ht3, m, ht4⟩
    refine ⟨trivial, ht2, ⟨m, ht4⟩, SQ.nil ?_⟩
    refine CL.bytes hA'.handled (by rw [del_ne e3, del_ne e1.symm]; exact ht3) hns ?_ fun b => ⟨σ, (hle.del hi5).del hC5, h b⟩
    rw [hl']; simp [rangeXs]; omega
theorem hexsha_ {n : Nat} {x : List UInt8} {Q : V → MS → Prop} (hA : Ar A l (n + 3)) (G : BF w B) (hx : x.length = 40 ∨ x.length = 64 → ∀ b ∈ x, hexB b = true) (hz : x.length ≤ 1000000) (h : Q (.bool (x.length == 40 || x.length == 64)) σ) : CL w B os l A (.ref 60) [.byt x] Q E σ := by
  refine call60 hA G fun L A' hL hA' => ?_
  refine SS.if <| TR.cmp <| EV.callBi G gl_len.1 gl_len.2 boot_len <| SQ.cons <| EV.name uu rfl <| SQ.nil <| CL.lenB (by omega) <| evTup <| SQ.cons <| EV.int <| SQ.cons <| EV.int <| SQ.nil ⟨by decide, fun t ht hB => CM.notInTupI (ns := [40, 64]) uu <| TU.bool ⟨fun h2 => ?_, fun h2 => ?_⟩⟩
  · refine SS.ret <| EV.bool ⟨σ, (Le.fresh hL).trans (Le.fresh ht), ?_⟩
    have h3 : (x.length == 40 || x.length == 64) = false := by simp at h2; simp; omega
    rw [h3] at h; exact h
  · have h3 : x.length = 40 ∨ x.length = 64 := by simp at h2; omega
    have h4 : (x.length == 40 || x.length == 64) = true := by simp; omega
    rw [h4] at h
    refine SS.nxt <| try_ hA'.frames rfl <| SS.expr <| EV.callF G (is46 G) rfl <| SQ.cons <| EV.name (un ht uu) rfl <| SQ.nil <| unhex_ hA' G (hx h3) h3 fun b => ⟨fun a e => (by cases e), SS.nil ?_⟩
    exact SS.ret <| EV.bool ⟨σ, (Le.fresh hL).trans (Le.fresh ht), h⟩
end
end Mine
end
section
open PySem PySem.W PySem.Calls PyProof.Rows PySem.Builtin
namespace Mine
theorem slot_b_repr : Slot "bytes" "__repr__" "bytes.__repr__" := .of (owner := "bytes") (n := "__repr__") (by rw [typeLookup_type, builtinLookup_eq_fast]; kernel_rfl) (by decide +kernel) (by decide +kernel) (by decide +kernel)
    (by first | exact .inl (by decide +kernel) | exact .inr (by decide +kernel)) (by rw [isSubtype_type]; kernel_rfl)
theorem entry_b_repr : entryFor table "bytes.__repr__" = some Builtin.«bytes.__repr__» := entryFor_of_tree (by kernel_rfl)
theorem args_b_repr (a : Value) : argsOk "bytes.__repr__" ⟨[a], []⟩ := by unfold argsOk; kernel_rfl
noncomputable abbrev abcR : Str := "b'abc'"
theorem gives_b_repr (t : Tok) : Gives (Builtin.«bytes.__repr__» ⟨[.bytes #[97, 98, 99] t], []⟩) (.str abcR) := .of_eq (by kernel_rfl!)
noncomputable def valsB : List (List UInt8) := [List.replicate 40 48, List.replicate 40 97, List.replicate 40 70, List.replicate 64 99] ++ (namesB.take 5).map (symB ++ ·) ++ [[97, 98, 99]]
theorem vals_hex : ∀ x ∈ valsB, (x.length = 40 ∨ x.length = 64 → ∀ b ∈ x, hexB b = true) ∧ x.length ≤ 100 := by decide +kernel
theorem vals_ok : ∀ x ∈ valsB, valuedB x = ((x.length == 40 || x.length == 64) || symB.isPrefixOf x) ∧ (valuedB x = false → x = [97, 98, 99]) ∧ x ≠ [] := by decide +kernel
section
variable {w : World} {B : Heap} {os : OsState} {l : List Env} {A : Around} {σ : MS} {E : Value → MS → Prop} {env : Env} {s : Shared} {k R : Addr} {ds : DS}
theorem evRepr {v : Expr} {t : Str} {k : Nat} {p1 p2 pos : Pos} {Q : V → MS → Prop} (h : EV w B os l A env v (fun a σ₁ => a = .byt [97, 98, 99] ∧ ∀ x, Q (.str x) σ₁) E σ) (hz : (Str.empty ++ abcR).length ≤ sizeLine ∧ (Str.empty ++ abcR ++ t).length ≤ sizeLine := by decide +kernel) :
    EV w B os l A env (.JoinedStr [.FormattedValue v 114 none p1, .Constant (.str t) k p2] pos) Q E σ := fun s R => by
  refine JoinedStr_many (joinParts_cons (wpAny_FormattedValue_repr (wpAny_mono (h s R) (fun va s₁ hq1 => ?_) fun _ _ x => x)))
  obtain ⟨σ₁, R₁, ha, h₁⟩ := hq1
  obtain ⟨u, rfl⟩ := er_byt ha
  refine wpAny_pyReprObj_gives (typeIs_bytes s₁ _ u) slot_b_repr entry_b_repr (args_b_repr _) (gives_b_repr u) ?_ rfl (by rw [sizeLine_eq]; decide +kernel)
  refine formatField_str (fun t' tk => ⟨hz.1, ?_⟩) (by rw [sizeLine_eq]; decide +kernel)
  refine joinParts_cons (Constant_str ⟨hz.2, joinParts_nil ⟨σ₁, ?_, h₁ _⟩ hz.2⟩)
  exact ((R₁.toks _).toks _).toks _
theorem checkVal_ {n : Nat} {x : List UInt8} {c : V} {Q : V → MS → Prop} (hA : Ar A l (n + 4)) (G : BF w B) (hx : x ∈ valsB) (h1 : valuedB x = true → Q .none σ) (h2 : valuedB x = false → E (.type "ValueError") σ) : CL w B os l A (.ref 152) [c, .byt x] Q E σ := by
  refine call152 hA G fun L A' hL hA' => ?_
  obtain ⟨v1, v2⟩ := vals_hex x hx
  obtain ⟨v3, v4, v5⟩ := vals_ok x hx
  have hgood : valuedB x = true → SS w B os (callEnv fd152 L 152 :: l) A' (callEnv fd152 L 152) [] (kBody Q) (kDn E) (upd σ L (.ns (fr [(Str.ofString "ref", .byt x), (Str.ofString "self", c)]))) := fun z => SS.nil ⟨σ, Le.fresh hL, h1 z⟩
  refine SS.if <| TR.not <| TR.or <| TR.plain <| EV.callF G (is60 G) rfl <| SQ.cons <| EV.name uu rfl <| SQ.nil <| hexsha_ hA' G v1 (by omega) <| TU.bool ?_
  cases q : (x.length == 40 || x.length == 64) with
  | true => exact ⟨nb, fun _ => SS.nxt (hgood (by rw [v3, q]; rfl))⟩
  | false =>
    rw [q] at v3
    refine TR.or <| TR.plain <| EV.meth mf_b_startswith <| EV.name uu rfl ⟨tyByt, ?_⟩
    refine SQ.cons <| EV.glob G rfl <| SQ.nil <| CL.startswith <| TU.bool ?_
    cases q2 : symB.isPrefixOf x with
    | true =>
      rw [show List.isPrefixOf [114, 101, 102, 58, 32] x = true from q2]
      exact ⟨nb, fun _ => SS.nxt (hgood (by rw [v3, q2]; rfl))⟩
    | false =>
      rw [show List.isPrefixOf [114, 101, 102, 58, 32] x = false from q2]
      rw [q2] at v3
      refine TR.or_nil ?_
      refine ⟨fun _ => ?_, nb⟩
      refine raiseX excClass_ValueError hA'.handled (nameIs_built G (by kernel_rfl!) (by kernel_rfl!) (by kernel_rfl!)) <| SQ.cons <| evRepr (EV.name uu rfl ⟨by rw [v4 v3], fun y => SQ.nil ⟨by simp, σ, Le.fresh hL, h2 v3⟩⟩) (by rw [sizeLine_eq]; decide +kernel)
end
end Mine
end
section
open PySem PySem.W PySem.Calls PyProof.Rows PySem.Builtin
namespace Mine
noncomputable def signOk (c : UInt8) : Bool := !(c.toNat < 32) && !([127, 32, 126, 94, 58, 63, 42, 91].contains c)
noncomputable def partOk (p : List UInt8) : Bool := !p.isEmpty && !([46].isPrefixOf p) && !([46, 108, 111, 99, 107].isSuffixOf p)
noncomputable def checkB (x : List UInt8) : Bool := !(x == [64]) && hasB [47] x && !hasB [46, 46] x && x.all signOk && !([47, 46].contains (x.getLastD 0)) && !hasB [64, 123] x && !hasB [92] x && (splitB 47 x).all partOk
theorem cut_one {x : List UInt8} {i : Nat} {c : UInt8} (h : x[i]? = some c) : cutB x (some (i : Int)) (some ((i : Int) + 1)) = [c] := by
  obtain ⟨hi, rfl⟩ := List.getElem?_eq_some_iff.mp h
  unfold cutB
  simp only [Option.elim]
  rw [clipAt_nat, show ((i : Int) + 1) = ((i + 1 : Nat) : Int) by push_cast; rfl, clipAt_nat, Nat.min_eq_left (by omega), Nat.min_eq_left (by omega)]
  rw [List.drop_eq_getElem_cons hi, Nat.add_sub_cancel_left]
  rfl
theorem hasB_ne {x : List UInt8} (h : hasB [47] x = true) : x ≠ [] := by rintro rfl; cases h
theorem last_at {x : List UInt8} (h : x ≠ []) : x.getD ((-1 : Int) + x.length).toNat 0 = x.getLastD 0 := by
  have hl : 0 < x.length := List.length_pos_iff.mpr h
  have e : ((-1 : Int) + x.length).toNat = x.length - 1 := by
    rw [Int.add_comm, ← Int.sub_eq_add_neg]
    exact Int.toNat_sub x.length 1
  rw [e, List.getD_eq_getElem?_getD, ← List.getLast?_eq_getElem?, List.getLastD_eq_getLast?]
theorem take_succ_all {α : Type} {p : α → Bool} {xs : List α} {i : Nat} {c : α} (h : xs[i]? = some c) : (xs.take (i + 1)).all p = ((xs.take i).all p && p c) := by
  rw [List.take_add_one, h, List.all_append]; simp
theorem back_u8 (c : UInt8) : ((c.toNat : Int).toNat).toUInt8 = c := by simp
theorem splitB_len {x : List UInt8} : ∀ c ∈ splitB 47 x, c.length ≤ x.length := fun c h => by
  have := (cutAt_len 47 x []).2 c h
  simpa using this
section
variable {w : World} {B : Heap} {os : OsState} {l : List Env} {A : Around} {σ : MS} {E : Value → MS → Prop} {env : Env} {s : Shared} {k R : Addr} {ds : DS}
theorem check_ {n : Nat} {x : List UInt8} {Q : V → MS → Prop} (hA : Ar A l (n + 1)) (G : BF w B) (hx : x.length ≤ 1000) (h : Q (.bool (checkB x)) σ) : CL w B os l A (.ref 101) [.byt x] Q E σ := by
  refine call101 hA G fun L A' hL hA' => ?_
  have hno : checkB x = false → ∀ τ, Le σ τ → ∀ rest p1 p2 k, SS w B os (callEnv fd101 L 101 :: l) A' (callEnv fd101 L 101) (.Return (some (.Constant (.bool false) k p1)) p2 :: rest) (kBody Q) (kDn E) τ :=
    fun hc τ hle rest p1 p2 k => SS.ret <| EV.bool ⟨σ, hle, by rw [hc] at h; exact h⟩
  have hLe := Le.fresh (o := .ns (fr [(Str.ofString "refname", .byt x)])) hL
  refine SS.if <| TR.cmp <| EV.name uu rfl <| EV.byt <| CM.eqB <| TU.bool ⟨fun q => SS.ret <| EV.bool ⟨σ, hLe, ?_⟩, fun q1 => SS.nxt ?_⟩
  · have : checkB x = false := by unfold checkB; rw [q]; rfl
    rw [this] at h; exact h
  refine SS.if <| TR.cmp <| EV.byt <| EV.name uu rfl <| CM.notInB hA'.handled <| TU.bool ⟨fun q => SS.ret <| EV.bool ⟨σ, hLe, ?_⟩, fun q2 => SS.nxt ?_⟩
  · have : checkB x = false := by unfold checkB; rw [q1]; simp at q; rw [q]; rfl
    rw [this] at h; exact h
  simp only [Bool.not_eq_false'] at q2
  refine SS.if <| TR.cmp <| EV.byt <| EV.name uu rfl <| CM.inB hA'.handled <| TU.bool ⟨fun q => SS.ret <| EV.bool ⟨σ, hLe, ?_⟩, fun q3 => SS.nxt ?_⟩
  · have : checkB x = false := by unfold checkB; rw [q1, q2, q]; rfl
    rw [this] at h; exact h
  refine forEnum_ hA'.frames hA'.handled rfl <| EV.callTy (id := "enumerate") G (by kernel_rfl!) (by kernel_rfl!) (by kernel_rfl!) <| SQ.cons <| EV.name uu rfl <| SQ.nil <| CL.enumB fun e it he heB hit hitB hne => ?_
  obtain ⟨he1, he2⟩ := nu he
  obtain ⟨hi1, hi2⟩ := nu hit
  obtain ⟨J, hJ⟩ : ∃ J : Nat → MS → Prop, ∀ i τ, J i τ = (Le σ τ ∧ (∃ m, τ L = some (.ns m) ∧ m "refname" = some (.byt x)) ∧ τ e = some (EI it i) ∧ τ it = some (BI x i) ∧ (x.take i).all signOk = true) := ⟨_, fun _ _ => rfl⟩
  refine ⟨e, it, x, rfl, hne, uu, (upd_ne _ _ hne.symm).trans uu, J, ?_, ?_, ?_⟩
  · refine (hJ _ _).mpr ⟨Le.over (Le.over hLe hi1) he1, ⟨_, (upd_ne _ _ he2.symm).trans ((upd_ne _ _ hi2.symm).trans uu), rfl⟩, uu, (upd_ne _ _ hne.symm).trans uu, rfl⟩
  · intro i c τ hI hc
    rw [hJ] at hI
    obtain ⟨hle, ⟨m, hm, hmx⟩, h1, h2, h3⟩ := hI
    refine ⟨h1, h2, fun T hT hTB hTe hTi => ?_⟩
    have hTL : T ≠ L := fun z => by rw [z, hm] at hT; cases hT
    refine AS.at (L := L) (m := m) ((upd_ne _ _ hTL.symm).trans ((upd_ne _ _ he2.symm).trans ((upd_ne _ _ hi2.symm).trans hm))) ?_
    refine AS.at uu ?_
    rw [upd_upd]
    have hσT : σ T = none := by
      cases q : σ T with
      | none => rfl
      | some o => rw [hle _ _ q] at hT; cases hT
    have hle' : ∀ o o' o'' o3, Le σ (upd (upd (upd (upd τ it o) e o') T o'') L o3) := fun _ _ _ _ => Le.over (Le.over (Le.over (Le.over hle hi1) he1) hσT) hL
    have hend : signOk c = false → Dn (Q (retV (.ret (.bool false)))) (upd (upd (upd (upd τ it (BI x (i + 1))) e (EI it (i + 1))) T (.tup [.int i, .int c.toNat])) L (.ns (put (put m (Str.ofString "i") (.int i)) (Str.ofString "c") (.int c.toNat)))) := fun hz => ⟨σ, hle' _ _ _ _, by
      have : checkB x = false := by
        have hf : x.all signOk = false := by
          rw [List.all_eq_false]
          exact ⟨c, List.mem_of_getElem? hc, by rw [hz]; decide⟩
        unfold checkB; rw [q1, q2, q3, hf]; rfl
      rw [this] at h; exact h⟩
    have hnx : signOk c = true → SS w B os (callEnv fd101 L 101 :: l) A' (callEnv fd101 L 101) [] (lp (J (i + 1)) (SS w B os (callEnv fd101 L 101 :: l) A' (callEnv fd101 L 101) (bd101.drop 4) (kBody Q) (kDn E)) (kBody Q)) (kDn E) (upd (upd (upd (upd τ it (BI x (i + 1))) e (EI it (i + 1))) T (.tup [.int i, .int c.toNat])) L (.ns (put (put m (Str.ofString "i") (.int i)) (Str.ofString "c") (.int c.toNat)))) := fun hz => SS.nil <| by
      refine (hJ _ _).mpr ⟨hle' _ _ _ _, ⟨_, uu, hmx⟩, (upd_ne _ _ he2).trans ((upd_ne _ _ hTe.symm).trans uu), (upd_ne _ _ hi2).trans ((upd_ne _ _ hTi.symm).trans ((upd_ne _ _ hne.symm).trans uu)), ?_⟩
      rw [take_succ_all hc, h3, hz]; rfl
    refine SS.if <| TR.or <| TR.cmp <| EV.callBi (id := "ord") G (by kernel_rfl!) (by kernel_rfl!) (by kernel_rfl!) <| SQ.cons <| EV.cut <| EV.name uu hmx ⟨x, rfl, by omega, ptS <| EV.name uu rfl ⟨_, rfl, ptS <| EV.binop <| EV.name uu rfl <| EV.int <| BN.addI ⟨_, rfl, SQ.nil ?_⟩⟩⟩
    rw [cut_one hc]
    refine CL.ord <| EV.int <| CM.ltI <| TU.bool ?_
    by_cases z1 : (c.toNat : Int) < 32
    · rw [decide_eq_true z1]
      refine ⟨fun _ => SS.ret <| EV.bool ?_, nb⟩
      exact hend (by unfold signOk; rw [decide_eq_true (by omega)]; rfl)
    · rw [decide_eq_false z1]
      refine TR.or <| TR.cmp <| EV.name uu rfl <| EV.glob G rfl <| CM.inBI (by omega) (by have := c.toNat_lt; omega) <| TU.bool ?_
      rw [back_u8]
      cases z2 : List.contains [127, 32, 126, 94, 58, 63, 42, 91] c with
      | true =>
        refine ⟨fun _ => SS.ret <| EV.bool ?_, nb⟩
        exact hend (by unfold signOk; rw [z2, Bool.not_true, Bool.and_false])
      | false =>
        refine TR.or_nil ?_
        refine ⟨nb, fun _ => SS.nxt ?_⟩
        exact hnx (by unfold signOk; rw [z2, decide_eq_false (by omega)]; rfl)
  · intro τ hI
    rw [hJ] at hI
    obtain ⟨hle, ⟨m, hm, hmx⟩, h1, h2, h3⟩ := hI
    clear hJ J
    have q4 : x.all signOk = true := by rw [List.take_length] at h3; exact h3
    have hle1 : Le σ (del τ it) := hle.del hi1
    have hm1 : del τ it L = some (.ns m) := (del_ne hi2.symm).trans hm
    have hxne := hasB_ne q2
    have hxl : 0 < x.length := List.length_pos_iff.mpr hxne
    refine ⟨h1, h2, ?_⟩
    refine SS.if <| TR.cmp <| EV.sub ?_
    refine EV.name hm1 hmx ?_
    refine evNeg <| EV.int ⟨1, rfl, ?_⟩
    refine SI.bytBack (by omega) (by omega) (by omega) ?_
    refine EV.byt <| CM.inBI (by omega) (by have := (x.getD ((-1 : Int) + x.length).toNat 0).toNat_lt; omega) <| TU.bool ?_
    rw [back_u8, last_at hxne]
    refine ⟨fun q => SS.ret <| EV.bool ⟨σ, hle1, ?_⟩, fun q5 => SS.nxt ?_⟩
    · have : checkB x = false := by unfold checkB; rw [q1, q2, q3, q4, q]; rfl
      rw [this] at h; exact h
    refine SS.if <| TR.cmp <| EV.byt <| EV.name hm1 hmx <| CM.inB hA'.handled <| TU.bool ⟨fun q => SS.ret <| EV.bool ⟨σ, hle1, ?_⟩, fun q6 => SS.nxt ?_⟩
    · have : checkB x = false := by unfold checkB; rw [q1, q2, q3, q4, q5, q]; rfl
      rw [this] at h; exact h
    refine SS.if <| TR.cmp <| EV.byt <| EV.name hm1 hmx <| CM.inB hA'.handled <| TU.bool ⟨fun q => SS.ret <| EV.bool ⟨σ, hle1, ?_⟩, fun q7 => SS.nxt ?_⟩
    · have : checkB x = false := by unfold checkB; rw [q1, q2, q3, q4, q5, q6, q]; rfl
      rw [this] at h; exact h
    have hck : checkB x = (splitB 47 x).all partOk := by unfold checkB; rw [q1, q2, q3, q4, q5, q6, q7]; rfl
    generalize del τ it = τ₁ at hle1 hm1 ⊢
    refine SS.forG hA'.frames rfl <| EV.meth mf_b_split <| EV.name hm1 hmx ⟨tyByt, ?_⟩
    refine SQ.cons <| EV.byt <| SQ.nil <| CL.split (by omega) fun a ha haB => ?_
    refine ⟨_, _, _, Src.list hA'.handled uu, fun it2 hit2 hit2B => ?_⟩
    obtain ⟨hj1, hj2⟩ := nu hit2
    have haL : a ≠ L := fun z => by rw [z, hm1] at ha; cases ha
    have hjL : it2 ≠ L := fun z => by rw [z, hm1] at hj1; cases hj1
    have hσa : σ a = none := by
      cases q : σ a with
      | none => rfl
      | some o => rw [hle1 _ _ q] at ha; cases ha
    have hσj : σ it2 = none := by
      cases q : σ it2 with
      | none => rfl
      | some o => rw [hle1 _ _ q] at hj1; cases hj1
    obtain ⟨J, hJ⟩ : ∃ J : Nat → MS → Prop, ∀ i τ, J i τ = (Le σ τ ∧ (∃ m, τ L = some (.ns m)) ∧ τ a = some (.list ((splitB 47 x).map V.byt)) ∧ τ it2 = some (LI a i) ∧ ((splitB 47 x).take i).all partOk = true) := ⟨_, fun _ _ => rfl⟩
    refine ⟨J, ?_, ?_, ?_⟩
    · exact (hJ _ _).mpr ⟨Le.over (Le.over hle1 hσa) hσj, ⟨_, (upd_ne _ _ hjL.symm).trans ((upd_ne _ _ haL.symm).trans hm1)⟩, (upd_ne _ _ hj2.symm).trans uu, uu, rfl⟩
    · intro i v τ hI hv
      rw [hJ] at hI
      obtain ⟨hle2, ⟨m2, hm2⟩, g1, g2, g3⟩ := hI
      rw [List.getElem?_map] at hv
      obtain ⟨c, hc, rfl⟩ := Option.map_eq_some_iff.mp hv
      refine ⟨g1, g2, AS.at (L := L) ((upd_ne _ _ hjL.symm).trans hm2) ?_⟩
      have hcl : c.length ≤ 1000000 := by
        have := splitB_len c (List.mem_of_getElem? hc)
        omega
      have hle3 : ∀ o o', Le σ (upd (upd τ it2 o) L o') := fun o o' => Le.over (Le.over hle2 hσj) hL
      have hend : partOk c = false → ∀ o o', Dn (Q (retV (.ret (.bool false)))) (upd (upd τ it2 o) L o') := fun hz o o' => ⟨σ, hle3 _ _, by
        have : checkB x = false := by
          rw [hck, List.all_eq_false]
          exact ⟨c, List.mem_of_getElem? hc, by rw [hz]; decide⟩
        rw [this] at h; exact h⟩
      refine SS.if <| TR.not <| TR.plain <| EV.name uu rfl <| TU.byt hcl ?_
      cases z1 : c.isEmpty with
      | true => exact ⟨fun _ => SS.ret <| EV.bool <| hend (by unfold partOk; rw [z1]; rfl) _ _, nb⟩
      | false =>
      refine ⟨nb, fun _ => SS.nxt ?_⟩
      refine SS.if <| TR.plain <| EV.meth mf_b_startswith <| EV.name uu rfl ⟨tyByt, SQ.cons <| EV.byt <| SQ.nil <| CL.startswith <| TU.bool ?_⟩
      cases z2 : List.isPrefixOf [46] c with
      | true => exact ⟨fun _ => SS.ret <| EV.bool <| hend (by unfold partOk; rw [z1, z2]; rfl) _ _, nb⟩
      | false =>
      refine ⟨nb, fun _ => SS.nxt ?_⟩
      refine SS.if <| TR.plain <| EV.meth mf_b_endswith <| EV.name uu rfl ⟨tyByt, SQ.cons <| EV.byt <| SQ.nil <| CL.endswith <| TU.bool ?_⟩
      cases z3 : List.isSuffixOf [46, 108, 111, 99, 107] c with
      | true => exact ⟨fun _ => SS.ret <| EV.bool <| hend (by unfold partOk; rw [z1, z2, z3]; rfl) _ _, nb⟩
      | false =>
      refine ⟨nb, fun _ => SS.nxt <| SS.nil ?_⟩
      refine (hJ _ _).mpr ⟨hle3 _ _, ⟨_, uu⟩, ?_, ?_, ?_⟩
      · rw [upd_ne _ _ haL, upd_ne _ _ hj2.symm]; exact g1
      · rw [upd_ne _ _ hjL]; exact uu
      · rw [take_succ_all hc, g3]; unfold partOk; rw [z1, z2, z3]; rfl
    · intro τ hI
      rw [hJ] at hI
      obtain ⟨hle2, ⟨m2, hm2⟩, g1, g2, g3⟩ := hI
      refine ⟨g1, g2, SS.ret <| EV.bool ⟨σ, hle2.del hσj, ?_⟩⟩
      rw [List.length_map, List.take_length] at g3
      rw [hck, g3] at h; exact h
end
end Mine
end
section
open PySem PySem.W PySem.Calls PyProof.Rows PySem.Builtin
namespace Mine
theorem range1_size (n : Nat) : Builtin.Range.rangeSize 0 n 1 = n := by
  unfold Builtin.Range.rangeSize
  rw [if_pos (by decide)]
  split <;> omega
theorem range1_small (n : Nat) (h : n ≤ 1000) : Builtin.Range.small 0 n 1 = true := by
  have hs := range1_size n
  have e1 : Builtin.Range.rangeFitsLong 0 = true := by decide
  have e2 : Builtin.Range.rangeFitsLong 1 = true := by decide
  have e3 : Builtin.Range.rangeFitsLong n = true := (Bool.and_eq_true _ _).mpr ⟨decide_eq_true (by omega), decide_eq_true (by omega)⟩
  have e4 : Builtin.Range.rangeFitsLong ((n : Int) + (1 - 1)) = true := (Bool.and_eq_true _ _).mpr ⟨decide_eq_true (by omega), decide_eq_true (by omega)⟩
  unfold Builtin.Range.small
  rw [hs, e1, e2, e3, if_pos (by decide), e4, Bool.or_true]
  rfl
noncomputable def bad9 : List (List UInt8) := [[127], [32], [126], [94], [58], [63], [42], [91], [92]]
noncomputable def bad2 : List (List UInt8) := [[46, 46], [64, 123], [47, 47]]
noncomputable def atOk (x : List UInt8) (i : Nat) : Bool := !((x.getD i 0).toNat < 32) && !(bad9.any (· == (x.drop i).take 1)) && !(bad2.any (· == (x.drop i).take 2))
noncomputable def lastB (x : List UInt8) (k : Nat) : List UInt8 := x.drop (x.length - k)
noncomputable def part2Ok (p : List UInt8) : Bool := p != [] && p.take 1 != [46] && lastB p 5 != [46, 108, 111, 99, 107]
noncomputable def mayB (x : List UInt8) : Bool := !(x == [64]) && hasB [47] x && !([[47], [46]].any (· == lastB x 1)) && ((List.range x.length).all fun i => atOk x i) && (splitB 47 x).all part2Ok
theorem clip_neg (n k : Nat) (hk : 0 < k) : clipAt n (-(k : Int)) = n - k := by
  unfold clipAt
  rw [if_pos (Int.neg_neg_of_pos (Int.natCast_pos.mpr hk)), Int.min_eq_left (Int.add_le_of_le_neg_add (by rw [Int.neg_neg]; exact Int.le_add_of_nonneg_left (Int.natCast_nonneg k)))]
  rw [Int.add_comm, ← Int.sub_eq_add_neg]
  rcases Nat.le_total k n with h | h
  · rw [← Int.natCast_sub h, Int.max_eq_right (Int.natCast_nonneg _), Int.toNat_natCast]
  · rw [Int.max_eq_left (Int.sub_nonpos_of_le (Int.ofNat_le.mpr h)), Nat.sub_eq_zero_of_le h]; rfl
theorem cut_last (x : List UInt8) (k : Nat) (hk : 0 < k) : cutB x (some (-(k : Int))) none = lastB x k := by
  show (x.drop (clipAt x.length (-(k : Int)))).take (x.length - clipAt x.length (-(k : Int))) = _
  rw [clip_neg _ _ hk, List.take_of_length_le (Nat.le_of_eq List.length_drop)]
  rfl
theorem cut_mid (x : List UInt8) (i k : Nat) : cutB x (some (i : Int)) (some ((i : Int) + k)) = (x.drop i).take k := by
  show (x.drop (clipAt x.length i)).take (clipAt x.length ((i : Int) + k) - clipAt x.length i) = _
  rw [clipAt_nat, show ((i : Int) + k) = ((i + k : Nat) : Int) from (Int.natCast_add i k).symm, clipAt_nat]
  rcases Nat.le_total i x.length with h | h
  · rw [Nat.min_eq_left h, ← Nat.sub_min_sub_right, Nat.add_sub_cancel_left, ← List.length_drop]
    exact List.take_eq_take_min.symm
  · rw [Nat.min_eq_right h, List.drop_of_length_le (Nat.le_refl _), List.drop_of_length_le h]; simp
section
variable {w : World} {B : Heap} {os : OsState} {l : List Env} {A : Around} {σ : MS} {E : Value → MS → Prop} {env : Env} {s : Shared} {k R : Addr} {ds : DS}
theorem upd_same {σ : MS} {a : Addr} {o : O} (h : σ a = some o) : upd σ a o = σ := by
  funext b
  by_cases q : b = a
  · subst q; rw [upd_self, h]
  · rw [upd_ne _ _ q]
end
section
variable (w : World) (B : Heap) (os : OsState) (l : List Env) (A : Around) (env : Env) (E : Value → MS → Prop)
noncomputable abbrev kAsgAt (L : Addr) (x : Str) (rest : List Stmt) (Q : Fl → MS → Prop) : V → MS → Prop := fun v σ₁ => ∃ m, σ₁ L = some (.ns m) ∧ SS w B os l A env rest Q E (upd σ₁ L (.ns (put m x v)))
end
section
variable {w : World} {B : Heap} {os : OsState} {l : List Env} {A : Around} {σ : MS} {E : Value → MS → Prop} {env : Env} {s : Shared} {k R : Addr} {ds : DS}
theorem assignAt {x : Str} {p pos : Pos} {e : Expr} {rest : List Stmt} {Q : Fl → MS → Prop} {L : Addr}
    (h : EV w B os l A env e (kAsgAt w B os l A env E L x rest Q) E σ) (hL : env.locals = L := by rfl)
    (hs : swapsWith e (some (.Name x p)) pos.line env = pure false := by rfl) (hl : env.kindOf x = some .local := by rfl)
    (hp : (env.scope.kind == .class || (env.scope.kind == .module && env.locals != env.globals)) = false := by rfl) : SS w B os l A env (.Assign [.Name x p] e pos :: rest) Q E σ :=
  SS.assign (EV.mono h (fun v σ₁ ⟨m, hm, hr⟩ => ⟨σ₁, L, m, (upd_same hm).symm, hL, hr⟩) fun _ _ x => x) hs hl hp
theorem snd_none {τ σ : MS} (h : Le σ τ) {a : Addr} (k : τ a = none) : σ a = none := by
  cases q : σ a with
  | none => rfl
  | some o => rw [h _ _ q] at k; cases k
theorem may_ {n : Nat} {x : List UInt8} {Q : V → MS → Prop} (hA : Ar A l (n + 1)) (G : BF w B) (hx : x.length ≤ 1000) (h : Q (.bool (mayB x)) σ) : CL w B os l A (.ref 315) [.byt x] Q E σ := by
  refine call315 hA G fun L A' hL hA' => ?_
  have hLe := Le.fresh (o := .ns (fr [(Str.ofString "name", .byt x)])) hL
  have hno : mayB x = false → ∀ τ, Le σ τ → Dn (Q (retV (.ret (.bool false)))) τ := fun hc τ hle => ⟨σ, hle, by rw [hc] at h; exact h⟩
  have hpart2 : (!(x == [64]) && hasB [47] x && !([[47], [46]].any (· == lastB x 1))) = true → ((List.range x.length).all fun i => atOk x i) = true → ∀ τ, Le σ τ → ∀ m, τ L = some (.ns m) → m "name" = some (.byt x) → SS w B os (callEnv fd315 L 315 :: l) A' (callEnv fd315 L 315) (bd315.drop 2) (kBody Q) (kDn E) τ := by
    intro p1 p2 τ₀ hle0 m0 hm0 hmx0
    have hmb : mayB x = (splitB 47 x).all part2Ok := by unfold mayB; rw [p1, p2]; rfl
    refine assignAt (L := L) <| evList <| SQ.cons <| EV.byt <| SQ.nil ⟨by decide, fun P hP hPB => ⟨m0, un hP hm0, ?_⟩⟩
    have hPL : P ≠ L := fun z => by rw [z, hm0] at hP; cases hP
    have hle1 : ∀ o o', Le σ (upd (upd τ₀ P o) L o') := fun o o' => Le.over (Le.over hle0 (snd_none hle0 hP)) hL
    refine SS.forG hA'.frames rfl <| EV.callTy (id := "range") G (by kernel_rfl!) (by kernel_rfl!) (by kernel_rfl!) <| SQ.cons <| EV.callBi G gl_len.1 gl_len.2 boot_len <| SQ.cons <| EV.name uu hmx0 <| SQ.nil <| CL.lenB (by omega) <| SQ.nil <| CL.range1 fun r hr hrB => ?_
    refine ⟨_, _, _, Src.range (n := x.length) hA'.handled uu (range1_small _ hx) (range1_size _), fun it hit hitB => ?_⟩
    obtain ⟨hi1, hi2⟩ := nu hit
    obtain ⟨hi3, hiL⟩ := nu hi1
    obtain ⟨hi4, hiP⟩ := nu hi3
    obtain ⟨hr1, hrL⟩ := nu hr
    obtain ⟨hr2, hrP⟩ := nu hr1
    have hσP := snd_none hle0 hP
    have hσi := snd_none hle0 hi4
    obtain ⟨J, hJ⟩ : ∃ J : Nat → MS → Prop, ∀ i τ, J i τ = (Le σ τ ∧ (∃ m, τ L = some (.ns m) ∧ m "name" = some (.byt x) ∧ m "parts" = some (.ref P)) ∧ τ it = some (RI (0 + (i : Nat) * 1) (((x.length : Nat) : Int) - (i : Nat)) 1) ∧ ∃ pre acc, τ P = some (.list ((pre ++ [acc]).map V.byt)) ∧ pre ++ cutAt 47 acc (x.drop i) = splitB 47 x ∧ pre.length ≤ i ∧ acc.length ≤ i) := ⟨_, fun _ _ => rfl⟩
    refine ⟨J, ?_, ?_, ?_⟩
    · refine (hJ _ _).mpr ⟨Le.over (Le.over (hle1 _ _) (snd_none hle0 hr2)) hσi, ⟨_, (upd_ne _ _ hiL.symm).trans ((upd_ne _ _ hrL.symm).trans uu), hmx0, rfl⟩, uu, [], [], ?_, rfl, by simp, by simp⟩
      exact (upd_ne _ _ hiP.symm).trans ((upd_ne _ _ hrP.symm).trans ((upd_ne _ _ hPL).trans uu))
    · intro i v τ hI hv
      rw [hJ] at hI
      obtain ⟨hle, ⟨m, hm, hmx, hmp⟩, h1, pre, acc, h2, h3, h4, h5⟩ := hI
      obtain ⟨hi, rfl⟩ := range_at hv
      refine ⟨trivial, h1, AS.at (L := L) ((upd_ne _ _ hiL.symm).trans hm) ?_⟩
      have ei : (0 : Int) + (i : Nat) * 1 = (i : Nat) := by omega
      rw [ei]
      have hP2 : ∀ o o', upd (upd τ it o) L o' P = some (.list ((pre ++ [acc]).map V.byt)) := fun o o' => by rw [upd_ne _ _ hPL, upd_ne _ _ hiP.symm]; exact h2
      have hle2 : ∀ o o', Le σ (upd (upd τ it o) L o') := fun o o' => Le.over (Le.over hle hσi) hL
      have hdrop : x.drop i = x[i] :: x.drop (i + 1) := List.drop_eq_getElem_cons hi
      have ht1 : (x.drop i).take 1 = [x[i]] := by rw [hdrop]; rfl
      rw [hdrop] at h3
      unfold cutAt at h3
      refine SS.if <| TR.cmp <| EV.cut <| EV.name uu hmx ⟨x, rfl, by omega, ptS <| EV.name uu rfl ⟨_, rfl, ptS <| EV.binop <| EV.name uu rfl <| EV.int <| BN.addI ⟨_, rfl, ?_⟩⟩⟩
      refine cutTo (show cutB x (some ((i : Nat) : Int)) (some (((i : Nat) : Int) + 1)) = [x[i]] from (cut_mid x i 1).trans ht1) ?_
      refine EV.byt <| CM.eqB <| TU.bool ?_
      by_cases z : x[i] = 47
      · rw [show ([x[i]] == [47]) = true by rw [z]; rfl]
        rw [if_pos z] at h3
        refine ⟨fun _ => ?_, nb⟩
        refine SS.expr <| EV.meth mf_append <| EV.name uu hmp ⟨tyList (hP2 _ _), SQ.cons <| EV.byt <| SQ.nil <| CL.append (hP2 _ _) (by simp; omega) ⟨fun a e => (by cases e), SS.nxt <| SS.nil ?_⟩⟩
        refine (hJ _ _).mpr ⟨Le.over (hle2 _ _) hσP, ⟨_, (upd_ne _ _ hPL.symm).trans uu, hmx, hmp⟩, (upd_ne _ _ hiP).trans ((upd_ne _ _ hiL).trans uu), pre ++ [acc], [], ?_, by rw [← h3]; simp, by simp; omega, by simp⟩
        rw [upd_self]; simp
      · rw [show ([x[i]] == [47]) = false by simp [z]]
        rw [if_neg z] at h3
        refine ⟨nb, fun _ => ?_⟩
        have hlen : ((pre ++ [acc]).map V.byt).length = pre.length + 1 := by simp
        have hx1 : ((pre ++ [acc]).map V.byt)[((-1 : Int) + ((pre ++ [acc]).map V.byt).length).toNat]? = some (.byt acc) := by
          rw [hlen, show ((-1 : Int) + ((pre.length + 1 : Nat) : Int)).toNat = pre.length by omega]
          simp
        refine SS.assignSub <| EV.binop <| EV.sub <| EV.name uu hmp <| evNeg <| EV.int ⟨1, rfl, ?_⟩
        refine SI.listBack (hP2 _ _) (by decide) (by rw [hlen]; omega) (by decide) hx1 ?_
        refine EV.cut <| EV.name uu hmx ⟨x, rfl, by omega, ptS <| EV.name uu rfl ⟨_, rfl, ptS <| EV.binop <| EV.name uu rfl <| EV.int <| BN.addI ⟨_, rfl, ?_⟩⟩⟩
        refine cutTo (show cutB x (some ((i : Nat) : Int)) (some (((i : Nat) : Int) + 1)) = [x[i]] from (cut_mid x i 1).trans ht1) ?_
        refine BN.addB (by simp; omega) ?_
        refine EV.name uu hmp <| evNeg <| EV.int ⟨1, rfl, fun a b c ha hb hc => setListBack ha hb hc (hP2 _ _) (by decide) (by rw [hlen]; omega) (by decide) (SS.nxt <| SS.nil ?_)⟩
        rw [hlen, show ((-1 : Int) + ((pre.length + 1 : Nat) : Int)).toNat = pre.length by omega]
        refine (hJ _ _).mpr ⟨Le.over (hle2 _ _) hσP, ⟨_, (upd_ne _ _ hPL.symm).trans uu, hmx, hmp⟩, (upd_ne _ _ hiP).trans ((upd_ne _ _ hiL).trans uu), pre, acc ++ [x[i]], ?_, h3, by omega, by simp; omega⟩
        rw [upd_self]
        simp
    · intro τ hI
      rw [hJ] at hI
      obtain ⟨hle, ⟨m, hm, hmx, hmp⟩, h1, pre, acc, h2, h3, h4, h5⟩ := hI
      clear hJ J
      unfold rangeXs at h1 h3 h4 h5 ⊢
      rw [List.length_map, List.length_range] at h1 h3 h4 h5 ⊢
      refine ⟨trivial, h1, ?_⟩
      rw [List.drop_length] at h3
      unfold cutAt at h3
      rw [h3] at h2
      have hl2 : Le σ (del τ it) := hle.del hσi
      have hm2 : del τ it L = some (.ns m) := (del_ne hiL.symm).trans hm
      have hP2 : del τ it P = some (.list ((splitB 47 x).map V.byt)) := (del_ne hiP.symm).trans h2
      generalize del τ it = τ₁ at hl2 hm2 hP2 ⊢
      refine SS.ret <| EV.callBi (id := "all") G (by kernel_rfl!) (by kernel_rfl!) (by kernel_rfl!) <| SQ.cons ?_
      refine evComp (cl := []) rfl rfl (by decide +kernel) (by decide +kernel) ?_
      refine EV.name hm2 hmp ⟨_, _, _, Src.list hA'.handled hP2, fun it2 D C hi2 hi2B hD hC e1 e2 e3 => ?_⟩
      have hPi : P ≠ it2 := ne_of_none hi2 hP2
      have hPD : P ≠ D := ne_of_none hD hP2
      have hPC : P ≠ C := ne_of_none hC hP2
      have s1 := snd_none hl2 hi2
      have s2 := snd_none hl2 hD
      have s3 := snd_none hl2 hC
      obtain ⟨J, hJ⟩ : ∃ J : Nat → List V → MS → Prop, ∀ i ys τ, J i ys τ = (Le σ τ ∧ ys = ((splitB 47 x).take i).map (fun p => V.bool (part2Ok p)) ∧ τ P = some (.list ((splitB 47 x).map V.byt)) ∧ τ it2 = some (LI P i) ∧ τ D = some (.list ys) ∧ ∃ m, τ C = some (.ns m)) := ⟨_, fun _ _ _ => rfl⟩
      refine ⟨J, ?_, ?_, ?_⟩
      · refine (hJ _ _ _).mpr ⟨Le.over (Le.over (Le.over hl2 s1) s2) s3, rfl, ?_, ?_, ?_, _, uu⟩
        · rw [upd_ne _ _ hPC, upd_ne _ _ hPD, upd_ne _ _ hPi]; exact hP2
        · rw [upd_ne _ _ e2, upd_ne _ _ e1]; exact uu
        · rw [upd_ne _ _ e3]; exact uu
      · intro i v τ ys hI hv
        rw [hJ] at hI
        obtain ⟨k1, rfl, k3, k4, k5, m5, k6⟩ := hI
        rw [List.getElem?_map] at hv
        obtain ⟨c, hc, rfl⟩ := Option.map_eq_some_iff.mp hv
        have hcl : c.length ≤ 1000000 := by
          have := splitB_len c (List.mem_of_getElem? hc)
          omega
        refine ⟨k3, k4, AS.at (L := C) ((upd_ne _ _ e2.symm).trans k6) <| TS.nil ⟨fun _ => ?_, nb⟩⟩
        have hend : ∀ y, y = V.bool (part2Ok c) → ∀ m', kPush D (((splitB 47 x).take i).map (fun p => V.bool (part2Ok p))) (J (i + 1)) y (upd (upd τ it2 (LI P (i + 1))) C (.ns m')) := by
          intro y hy m'
          refine ⟨by rw [upd_ne _ _ e3, upd_ne _ _ e1.symm]; exact k5, ?_, (hJ _ _ _).mpr ⟨Le.over (Le.over (Le.over k1 s1) s3) s2, ?_, ?_, ?_, uu, _, (upd_ne _ _ e3.symm).trans uu⟩⟩
          · have := (cutAt_len 47 x []).1
            rw [List.length_map, List.length_take]
            unfold splitB
            omega
          · rw [List.take_add_one, hc, List.map_append, hy]; rfl
          · rw [upd_ne _ _ hPD, upd_ne _ _ hPC, upd_ne _ _ hPi]; exact k3
          · rw [upd_ne _ _ e1, upd_ne _ _ e2]; exact uu
        refine evAnd <| EV.cmp <| EV.name uu rfl <| EV.byt <| CM.neB <| TU.bool ⟨fun z1 => ?_, fun z1 => ?_⟩
        · refine evAnd <| EV.cmp <| EV.cut <| EV.name uu rfl ⟨c, rfl, hcl, ptN <| ptS <| EV.int ⟨1, rfl, ?_⟩⟩
          refine cutTo (show cutB c none (some 1) = c.take 1 from cut_to c 1) ?_
          refine EV.byt <| CM.neB <| TU.bool ⟨fun z2 => ?_, fun z2 => ?_⟩
          · refine evBool1 <| EV.cmp <| EV.cut <| EV.name uu rfl ⟨c, rfl, hcl, ptS <| evNeg <| EV.int ⟨5, rfl, ⟨_, rfl, ptN ?_⟩⟩⟩
            refine cutTo (show cutB c (some (-5)) none = lastB c 5 from cut_last c 5 (by decide)) ?_
            exact EV.byt <| CM.neB <| hend _ (by unfold part2Ok; rw [z1, z2]; rfl) _
          · rw [z2]; exact hend _ (by unfold part2Ok; rw [z1, z2]; rfl) _
        · rw [z1]; exact hend _ (by unfold part2Ok; rw [z1]; rfl) _
      · intro τ ys hI
        rw [hJ] at hI
        obtain ⟨k1, rfl, k3, k4, k5, m5, k6⟩ := hI
        rw [List.length_map, List.take_length] at k5
        refine ⟨k3, k4, ⟨m5, k6⟩, SQ.nil ?_⟩
        refine CL.all (bs := (splitB 47 x).map part2Ok) hA'.handled (by rw [del_ne e3, del_ne e1.symm, List.map_map]; exact k5) ⟨σ, (k1.del s1).del s3, ?_⟩
        rw [hmb] at h
        rw [List.all_map]
        exact h
  have hrest : (!(x == [64]) && hasB [47] x && !([[47], [46]].any (· == lastB x 1))) = true → ∀ τ, Le σ τ → (∃ m, τ L = some (.ns m) ∧ m "name" = some (.byt x)) → SS w B os (callEnv fd315 L 315 :: l) A' (callEnv fd315 L 315) (bd315.drop 1) (kBody Q) (kDn E) τ := by
    intro p1 τ₀ hle0 ⟨m0, hm0, hmx0⟩
    refine SS.forG hA'.frames rfl <| EV.callTy (id := "range") G (by kernel_rfl!) (by kernel_rfl!) (by kernel_rfl!) <| SQ.cons <| EV.callBi G gl_len.1 gl_len.2 boot_len <| SQ.cons <| EV.name hm0 hmx0 <| SQ.nil <| CL.lenB (by omega) <| SQ.nil <| CL.range1 fun r hr hrB => ?_
    refine ⟨_, _, _, Src.range (n := x.length) hA'.handled uu (range1_small _ hx) (range1_size _), fun it hit hitB => ?_⟩
    obtain ⟨hi1, hi2⟩ := nu hit
    have sn : ∀ a, τ₀ a = none → σ a = none := fun a ha => by
      cases q : σ a with
      | none => rfl
      | some o => rw [hle0 _ _ q] at ha; cases ha
    have hiL : it ≠ L := fun z => by rw [z, hm0] at hi1; cases hi1
    have hrL : r ≠ L := fun z => by rw [z, hm0] at hr; cases hr
    obtain ⟨J, hJ⟩ : ∃ J : Nat → MS → Prop, ∀ i τ, J i τ = (Le σ τ ∧ (∃ m, τ L = some (.ns m) ∧ m "name" = some (.byt x)) ∧ τ it = some (RI (0 + (i : Nat) * 1) (((x.length : Nat) : Int) - (i : Nat)) 1) ∧ (List.range i).all (fun i => atOk x i) = true) := ⟨_, fun _ _ => rfl⟩
    refine ⟨J, ?_, ?_, ?_⟩
    · exact (hJ _ _).mpr ⟨Le.over (Le.over hle0 (sn _ hr)) (sn _ hi1), ⟨m0, (upd_ne _ _ hiL.symm).trans ((upd_ne _ _ hrL.symm).trans hm0), hmx0⟩, uu, rfl⟩
    · intro i v τ hI hv
      rw [hJ] at hI
      obtain ⟨hle, ⟨m, hm, hmx⟩, h1, h2⟩ := hI
      obtain ⟨hi, rfl⟩ := range_at hv
      refine ⟨trivial, h1, AS.at (L := L) ((upd_ne _ _ hiL.symm).trans hm) ?_⟩
      have ei : (0 : Int) + (i : Nat) * 1 = (i : Nat) := by omega
      rw [ei]
      have hle1 : ∀ o o', Le σ (upd (upd τ it o) L o') := fun o o' => Le.over (Le.over hle (sn _ hi1)) hL
      have hend : atOk x i = false → ∀ τ', Le σ τ' → Dn (Q (retV (.ret (.bool false)))) τ' := fun hz τ' hl => hno (by
        have hf : ((List.range x.length).all fun i => atOk x i) = false := by
          rw [List.all_eq_false]
          exact ⟨i, List.mem_range.mpr hi, by rw [hz]; decide⟩
        unfold mayB; rw [p1, hf]; rfl) τ' hl
      have hcut : ∀ k : Nat, cutB x (some ((i : Nat) : Int)) (some (((i : Nat) : Int) + (k : Nat))) = (x.drop i).take k := cut_mid x i
      have hc1 := hcut 1
      have hc2 := hcut 2
      have hst : ∀ τ', Le (upd (upd τ it (RI (0 + ((i + 1 : Nat) : Int) * 1) ((x.length : Int) - ((i + 1 : Nat) : Int)) 1)) L (.ns (put m (Str.ofString "sign") (.int (i : Nat))))) τ' → atOk x i = true → J (i + 1) τ' := fun τ' hl hz =>
        (hJ _ _).mpr ⟨(hle1 _ _).trans hl, ⟨_, hl _ _ uu, hmx⟩, hl _ _ ((upd_ne _ _ hiL).trans uu), by rw [List.range_succ, List.all_append, h2]; simp [hz]⟩
      generalize hτ₁ : upd (upd τ it (RI (0 + ((i + 1 : Nat) : Int) * 1) ((x.length : Int) - ((i + 1 : Nat) : Int)) 1)) L (.ns (put m (Str.ofString "sign") (.int (i : Nat)))) = τ₁ at hst ⊢
      have hm1 : τ₁ L = some (.ns (put m (Str.ofString "sign") (.int (i : Nat)))) := by rw [← hτ₁]; exact uu
      have hl1 : Le σ τ₁ := by rw [← hτ₁]; exact hle1 _ _
      refine SS.if <| TR.or <| TR.cmp <| EV.sub <| EV.name hm1 hmx <| EV.name hm1 rfl <| SI.byt (by omega) (by omega) (by omega) <| EV.int <| CM.ltI <| TU.bool ?_
      have g1 : decide (((x.getD ((i : Nat) : Int).toNat 0).toNat : Int) < 32) = decide ((x.getD i 0).toNat < 32) := by
        rw [Int.toNat_natCast]
        by_cases z : (x.getD i 0).toNat < 32
        · rw [decide_eq_true z, decide_eq_true (by omega)]
        · rw [decide_eq_false z, decide_eq_false (by omega)]
      rw [g1]
      cases z1 : decide ((x.getD i 0).toNat < 32) with
      | true => exact ⟨fun _ => SS.ret <| EV.bool <| hend (by unfold atOk; rw [z1]; rfl) _ hl1, nb⟩
      | false =>
      refine TR.or <| TR.cmp <| EV.cut <| EV.name hm1 hmx ⟨x, rfl, by omega, ptS <| EV.name hm1 rfl ⟨_, rfl, ptS <| EV.binop <| EV.name hm1 rfl <| EV.int <| BN.addI ⟨_, rfl, ?_⟩⟩⟩
      refine cutTo (show cutB x (some ((i : Nat) : Int)) (some (((i : Nat) : Int) + 1)) = (x.drop i).take 1 from hc1) ?_
      refine evTup ?_
      iterate 9 (refine SQ.cons ?_; refine EV.byt ?_)
      refine SQ.nil ⟨by decide, fun t ht hB => CM.inTupB (ys := bad9) uu <| TU.bool ?_⟩
      cases z2 : bad9.any (· == (x.drop i).take 1) with
      | true => exact ⟨fun _ => SS.ret <| EV.bool <| hend (by unfold atOk; rw [z1, z2]; rfl) _ (hl1.trans (Le.fresh ht)), nb⟩
      | false =>
      have hm2 : upd τ₁ t (.tup (bad9.map V.byt)) L = some (.ns (put m (Str.ofString "sign") (.int (i : Nat)))) := un ht hm1
      refine TR.or <| TR.cmp <| EV.cut <| EV.name hm2 hmx ⟨x, rfl, by omega, ptS <| EV.name hm2 rfl ⟨_, rfl, ptS <| EV.binop <| EV.name hm2 rfl <| EV.int <| BN.addI ⟨_, rfl, ?_⟩⟩⟩
      refine cutTo (show cutB x (some ((i : Nat) : Int)) (some (((i : Nat) : Int) + 2)) = (x.drop i).take 2 from hc2) ?_
      refine evTup ?_
      iterate 3 (refine SQ.cons ?_; refine EV.byt ?_)
      refine SQ.nil ⟨by decide, fun t' ht' hB' => CM.inTupB (ys := bad2) uu <| TU.bool ?_⟩
      have hl3 := (Le.fresh (o := .tup (bad9.map V.byt)) ht).trans (Le.fresh (o := .tup (bad2.map V.byt)) ht')
      cases z3 : bad2.any (· == (x.drop i).take 2) with
      | true => exact ⟨fun _ => SS.ret <| EV.bool <| hend (by unfold atOk; rw [z1, z2, z3]; rfl) _ (hl1.trans hl3), nb⟩
      | false =>
      refine TR.or_nil ?_
      refine ⟨nb, fun _ => SS.nxt <| SS.nil ?_⟩
      exact hst _ hl3 (by unfold atOk; rw [z1, z2, z3]; rfl)
    · intro τ hI
      rw [hJ] at hI
      obtain ⟨hle, ⟨m, hm, hmx⟩, h1, h2⟩ := hI
      unfold rangeXs at h1 h2 ⊢
      rw [List.length_map, List.length_range] at h1 h2 ⊢
      refine ⟨trivial, h1, ?_⟩
      have hl2 : Le σ (del τ it) := hle.del (sn _ hi1)
      have hm2 : del τ it L = some (.ns m) := (del_ne hiL.symm).trans hm
      exact hpart2 p1 h2 _ hl2 m hm2 hmx
  refine SS.if <| TR.or <| TR.cmp <| EV.name uu rfl <| EV.byt <| CM.eqB <| TU.bool ?_
  cases q1 : (x == [64]) with
  | true => exact ⟨fun _ => SS.ret <| EV.bool <| hno (by unfold mayB; rw [q1]; rfl) _ hLe, nb⟩
  | false =>
  refine TR.or <| TR.cmp <| EV.byt <| EV.name uu rfl <| CM.notInB hA'.handled <| TU.bool ?_
  cases q2 : hasB [47] x with
  | false => exact ⟨fun _ => SS.ret <| EV.bool <| hno (by unfold mayB; rw [q1, q2]; rfl) _ hLe, nb⟩
  | true =>
  refine TR.or <| TR.cmp <| EV.cut <| EV.name uu rfl ⟨x, rfl, by omega, ptS <| evNeg <| EV.int ⟨1, rfl, ⟨_, rfl, ptN ?_⟩⟩⟩
  refine cutTo (show cutB x (some (-1)) none = lastB x 1 from cut_last x 1 (by decide)) ?_
  refine evTup <| SQ.cons <| EV.byt <| SQ.cons <| EV.byt <| SQ.nil ⟨by decide, fun t ht hB => CM.inTupB (ys := [[47], [46]]) uu <| TU.bool ?_⟩
  cases q3 : ([[47], [46]].any (· == lastB x 1)) with
  | true => exact ⟨fun _ => SS.ret <| EV.bool <| hno (by unfold mayB; rw [q1, q2, q3]; rfl) _ (hLe.trans (Le.fresh ht)), nb⟩
  | false =>
  refine TR.or_nil ?_
  refine ⟨nb, fun _ => SS.nxt ?_⟩
  exact hrest (by rw [q1, q2, q3]; rfl) _ (hLe.trans (Le.fresh ht)) ⟨_, un ht uu, rfl⟩
end
end Mine
end
section
open PySem PySem.W PySem.Calls PyProof.Rows PySem.Builtin
namespace Mine
noncomputable abbrev headB : List UInt8 := [72, 69, 65, 68]
noncomputable abbrev stashB : List UInt8 := [114, 101, 102, 115, 47, 115, 116, 97, 115, 104]
noncomputable abbrev refsB : List UInt8 := [114, 101, 102, 115, 47]
noncomputable def namedB (x : List UInt8) : Bool := [headB, stashB].any (· == x) || (x.take 5 == refsB && mayB (x.drop 5))
theorem names_len : ∀ x ∈ namesB, x.length ≤ 40 := by decide +kernel
theorem names_ok : ∀ x ∈ namesB, namedB x = ([headB, stashB].any (· == x) || (refsB.isPrefixOf x && checkB (x.drop 5))) ∧ hasB [47, 47] x = false := by decide +kernel
section
variable {w : World} {B : Heap} {os : OsState} {l : List Env} {A : Around} {σ : MS} {E : Value → MS → Prop} {env : Env} {s : Shared} {k R : Addr} {ds : DS}
theorem named_ {n : Nat} {x : List UInt8} {Q : V → MS → Prop} (hA : Ar A l (n + 2)) (G : BF w B) (hx : x.length ≤ 1000) (h : Q (.bool (namedB x)) σ) : CL w B os l A (.ref 322) [.byt x] Q E σ := by
  refine call322 hA G fun L A' hL hA' => ?_
  refine SS.ret <| evOr <| EV.cmp <| EV.name uu rfl <| evTup <| SQ.cons <| EV.byt <| SQ.cons <| EV.byt <| SQ.nil ⟨by decide, fun t ht hB => CM.inTupB (ys := [headB, stashB]) uu <| TU.bool ?_⟩
  have hle := (Le.fresh (o := .ns (fr [(Str.ofString "name", .byt x)])) hL).trans (Le.fresh (o := .tup ([headB, stashB].map V.byt)) ht)
  cases q1 : [headB, stashB].any (· == x) with
  | true => exact ⟨fun _ => ⟨σ, hle, by unfold namedB at h; rw [q1] at h; exact h⟩, nb⟩
  | false =>
  refine ⟨nb, fun _ => ?_⟩
  refine evBool1 <| evAnd <| EV.cmp <| EV.cut <| EV.name (un ht uu) rfl ⟨x, rfl, by omega, ptN <| ptS <| EV.int ⟨5, rfl, ?_⟩⟩
  first | refine cutTo (show cutB x none (some 5) = x.take 5 from cut_to x 5) ?_ | rw [show cutB x none (some 5) = x.take 5 from cut_to x 5]
  refine EV.byt <| CM.eqB <| TU.bool ?_
  cases q2 : x.take 5 == refsB with
  | false => exact ⟨nb, fun _ => ⟨σ, hle, by unfold namedB at h; rw [q1, q2] at h; exact h⟩⟩
  | true =>
  refine ⟨fun _ => ?_, nb⟩
  refine evBool1 <| EV.callF G (is315 G) rfl <| SQ.cons <| EV.cut <| EV.name (un ht uu) rfl ⟨x, rfl, by omega, ptS <| EV.int ⟨5, rfl, ptN ?_⟩⟩
  first | refine cutTo (show cutB x (some 5) none = x.drop 5 from cut_from x 5) ?_ | rw [show cutB x (some 5) none = x.drop 5 from cut_from x 5]
  refine SQ.nil <| may_ hA' G (by rw [List.length_drop]; omega) ⟨σ, hle, by unfold namedB at h; rw [q1, q2] at h; exact h⟩
theorem checkName_ {n : Nat} {x : List UInt8} {c : V} {Q : V → MS → Prop} (hA : Ar A l (n + 2)) (G : BF w B) (hx : x ∈ namesB) (h1 : namedB x = true → Q .none σ) (h2 : namedB x = false → E (.ref 31) σ) : CL w B os l A (.ref 145) [c, .byt x] Q E σ := by
  refine call145 hA G fun L A' hL hA' => ?_
  have hxl := names_len x hx
  obtain ⟨k1, k2⟩ := names_ok x hx
  refine SS.if <| TR.cmp <| EV.name uu rfl <| evTup <| SQ.cons <| EV.glob G rfl <| SQ.cons <| EV.callF G (is67 G) rfl <| SQ.cons <| EV.byt <| SQ.nil <| ref_ hA' G <| SQ.nil ⟨by decide, fun t ht hB => CM.inTupB (ys := [headB, stashB]) uu <| TU.bool ?_⟩
  have hL' : Le σ (upd σ L (.ns (fr [(Str.ofString "name", .byt x), (Str.ofString "self", c)]))) := Le.fresh hL
  have hle := hL'.trans (Le.fresh (o := .tup ([headB, stashB].map V.byt)) ht)
  cases q1 : [headB, stashB].any (· == x) with
  | true =>
    rw [q1] at k1
    exact ⟨fun _ => SS.retNone ⟨σ, hle, h1 k1⟩, nb⟩
  | false =>
  rw [q1] at k1
  refine ⟨nb, fun _ => SS.nxt ?_⟩
  refine SS.if <| TR.not <| TR.plain <| EV.meth mf_b_startswith <| EV.name (un ht uu) rfl ⟨tyByt, SQ.cons <| EV.byt <| SQ.nil <| CL.startswith <| TU.bool ?_⟩
  cases q2 : List.isPrefixOf [114, 101, 102, 115, 47] x with
  | false =>
    rw [q2] at k1
    refine ⟨fun _ => ?_, nb⟩
    exact raise31 G hA'.handled (nameIs_glob G rfl) <| SQ.cons <| EV.name (un ht uu) rfl <| SQ.nil ⟨by simp, σ, hle, h2 k1⟩
  | true =>
  rw [q2] at k1
  refine ⟨nb, fun _ => SS.nxt ?_⟩
  have hm2 : upd (upd σ L (.ns (fr [(Str.ofString "name", .byt x), (Str.ofString "self", c)]))) t (.tup ([headB, stashB].map V.byt)) L = some (.ns (fr [(Str.ofString "name", .byt x), (Str.ofString "self", c)])) := un ht uu
  refine assignAt (L := L) <| EV.callF G (is67 G) rfl <| SQ.cons <| EV.cut <| EV.name hm2 rfl ⟨x, rfl, by omega, ptS <| EV.int ⟨5, rfl, ptN <| SQ.nil <| ref_ hA' G ⟨_, hm2, ?_⟩⟩⟩
  first | refine cutTo (show cutB x (some 5) none = x.drop 5 from cut_from x 5) ?_ | rw [show cutB x (some 5) none = x.drop 5 from cut_from x 5]
  have hle2 := Le.over (o := .ns (put (fr [(Str.ofString "name", .byt x), (Str.ofString "self", c)]) (Str.ofString "rest") (.byt (x.drop 5)))) hle hL
  refine SS.if <| TR.plain <| EV.callF G (is101 G) rfl <| SQ.cons <| EV.name uu rfl <| SQ.nil <| check_ hA' G (by rw [List.length_drop]; omega) <| TU.bool ?_
  cases q3 : checkB (x.drop 5) with
  | true =>
    rw [q3] at k1
    exact ⟨fun _ => SS.retNone ⟨σ, hle2, h1 k1⟩, nb⟩
  | false =>
  rw [q3] at k1
  refine ⟨nb, fun _ => SS.nxt ?_⟩
  refine SS.if <| TR.and <| TR.cmp <| EV.byt <| EV.name uu rfl <| CM.inB hA'.handled <| TU.bool ?_
  rw [k2]
  refine ⟨nb, fun _ => SS.nxt ?_⟩
  exact raise31 G hA'.handled (nameIs_glob G rfl) <| SQ.cons <| EV.name uu rfl <| SQ.nil ⟨by simp, σ, hle2, h2 k1⟩
end
end Mine
end
section
open PySem PySem.W PySem.Calls PyProof.Rows PySem.Builtin
namespace Mine
noncomputable def resW (ds : DS) (f : Nat) (acc : List (List UInt8)) : Option (List UInt8) → Option (List (List UInt8) × Option (List UInt8))
  | none => some (acc, none)
  | some c => goF ds f acc c
theorem followB_way (ds : DS) (x : List UInt8) : followB ds x = resW ds 5 [x] (lookB ds x) := by
  have e : symB.isPrefixOf (symB ++ x) = true := by rw [List.isPrefixOf_iff_prefix]; exact List.prefix_append _ _
  unfold followB goF
  rw [e]
  have d : (symB ++ x).drop 5 = x := by simp [symB]
  rw [d]
  cases lookB ds x <;> rfl
theorem take_prefix (c : List UInt8) : (c.take 5 == symB) = symB.isPrefixOf c := by
  have e : symB.isPrefixOf c = true ↔ symB = c.take 5 := by
    rw [List.isPrefixOf_iff_prefix, List.prefix_iff_eq_take]; rfl
  cases q : symB.isPrefixOf c with
  | true => rw [beq_iff_eq]; exact (e.mp q).symm
  | false =>
    rw [beq_eq_false_iff_ne]
    intro z
    rw [e.mpr z.symm] at q; cases q
section
variable {w : World} {B : Heap} {os : OsState} {l : List Env} {A : Around} {σ : MS} {E : Value → MS → Prop} {env : Env} {s : Shared} {k R : Addr} {ds : DS}
theorem way_ {n : Nat} {M : Addr} {ep : Nat} {x : List UInt8} {Q : V → MS → Prop} (hA : Ar A l (n + 1)) (G : BF w B) (hM : σ M = some (.dict (dB ds) ep)) (g : Good ds) (hx : x.length ≤ 100)
    (h1 : ∀ ns v p T, followB ds x = some (ns, v) → σ p = none → B.get? p = none → σ T = none → B.get? T = none → p ≠ T → Q (.ref T) (upd (upd σ p (.list (ns.map V.byt))) T (.tup [.ref p, vO v])))
    (h2 : followB ds x = none → Q .none σ) : CL w B os l A (.ref 336) [.ref M, .byt x] Q E σ := by
  refine call336 hA G fun L A' hL hA' => ?_
  refine SS.assign <| evList <| SQ.cons <| EV.name uu rfl <| SQ.nil ⟨by simp, fun p hp hB => ?_⟩
  obtain ⟨hp', hpL⟩ := nu hp
  refine ⟨upd σ p (.list [.byt x]), L, _, upd_comm hpL.symm, rfl, ?_⟩
  have hML : M ≠ L := ne_of_none hL hM
  have hMp : M ≠ p := ne_of_none hp' hM
  have hM2 : ∀ o o', upd (upd σ p o) L o' M = some (.dict (dB ds) ep) := fun o o' => by rw [upd_ne _ _ hML, upd_ne _ _ hMp]; exact hM
  have hle : ∀ o o', Le σ (upd (upd σ p o) L o') := fun o o' => Le.over (Le.fresh hp') hL
  refine SS.assign <| EV.meth mf_get <| EV.name uu rfl ⟨tyDict (hM2 _ _), SQ.cons <| EV.name uu rfl <| SQ.nil <| CL.dictGet1 G (hM2 _ _) ⟨_, L, _, rfl, rfl, ?_⟩⟩
  rw [getE_vO]
  have hvl : ∀ y v, lookB ds y = v → ∀ b, v = some b → b ≠ [] ∧ b.length ≤ 200 := fun y v hv b hb => by
    have := g.val (hb ▸ hv); exact ⟨this.1, by omega⟩
  obtain ⟨J, hJ⟩ : ∃ J : Nat → MS → Prop, ∀ f τ, J f τ = (∃ acc v m, τ = upd (upd σ p (.list (acc.map V.byt))) L (.ns m) ∧ m "model" = some (.ref M) ∧ m "way" = some (.ref p) ∧ m "value" = some (vO v) ∧ acc.length + f = 6 ∧ resW ds f acc v = followB ds x ∧ ∀ b, v = some b → b ≠ [] ∧ b.length ≤ 200) := ⟨_, fun _ _ => rfl⟩
  refine SS.while (n := 5) hA'.frames rfl J ((hJ _ _).mpr ⟨[x], lookB ds x, _, rfl, rfl, rfl, rfl, rfl, (followB_way ds x).symm, hvl x _ rfl⟩) ?_
  intro f τ hI
  rw [hJ] at hI
  obtain ⟨acc, v, m, rfl, m1, m2, m3, hf, hgo, hv⟩ := hI
  have hP : ∀ o, upd (upd σ p (.list (acc.map V.byt))) L o p = some (.list (acc.map V.byt)) := fun o => (upd_ne _ _ hpL).trans uu
  have hfin : (∀ c, v = some c → symB.isPrefixOf c = false) → SS w B os (callEnv fd336 L 336 :: l) A' (callEnv fd336 L 336) (bd336.drop 3) (kBody Q) (kDn E) (upd (upd σ p (.list (acc.map V.byt))) L (.ns m)) := by
    intro hnp
    have htup : resW ds f acc v = some (acc, v) → ∀ p1 p2 p3 k, EV w B os (callEnv fd336 L 336 :: l) A' (callEnv fd336 L 336) (.Tuple [.Name "way" p1, .Name "value" p2] k p3) (kRet (kBody Q)) (kDn E) (upd (upd σ p (.list (acc.map V.byt))) L (.ns m)) := by
      intro hr p1 p2 p3 k
      refine evTup <| SQ.cons <| EV.name uu m2 <| SQ.cons <| EV.name uu m3 <| SQ.nil ⟨by simp, fun T hT hTB => ?_⟩
      obtain ⟨hT1, hTL⟩ := nu hT
      obtain ⟨hT2, hTp⟩ := nu hT1
      exact ⟨_, Le.upd (Le.fresh (by rw [upd_ne _ _ hpL.symm]; exact hL)), h1 acc v p T (hgo ▸ hr) hp' hB hT2 hTB hTp.symm⟩
    refine SS.ret <| EV.ifexp <| TR.and <| TR.cmp <| EV.name uu m3 <| EV.none <| CM.isNotNone <| TU.bool ?_
    cases v with
    | none =>
      rw [show (!decide (vO none = V.none)) = false from rfl]
      exact htup rfl _ _ _ _
    | some c =>
      rw [show (!decide (vO (some c) = V.none)) = true by simp [vO]]
      refine TR.and <| TR.cmp <| EV.callBi G gl_len.1 gl_len.2 boot_len <| SQ.cons <| EV.name uu m2 <| SQ.nil <| CL.lenList (hP _) (by simp; omega) <| EV.int <| CM.gtI <| TU.bool ?_
      have hnp' := hnp c rfl
      rw [List.length_map]
      cases f with
      | zero =>
        rw [decide_eq_true (by omega)]
        refine TR.and_nil ?_
        exact EV.none ⟨σ, hle _ _, h2 (hgo.symm.trans rfl)⟩
      | succ f =>
        rw [decide_eq_false (by omega)]
        refine htup ?_ _ _ _ _
        show goF ds (f + 1) acc c = _
        unfold goF; rw [hnp']
  refine TR.and <| TR.cmp <| EV.name uu m3 <| EV.none <| CM.isNotNone <| TU.bool ?_
  cases v with
  | none =>
    rw [show (!decide (vO none = V.none)) = false from rfl]
    refine ⟨nb, fun _ => hfin fun c hc => (by cases hc)⟩
  | some c =>
    obtain ⟨hc, hcl⟩ := hv c rfl
    rw [show (!decide (vO (some c) = V.none)) = true by simp [vO]]
    refine TR.and <| TR.cmp <| EV.cut <| EV.name uu m3 ⟨c, rfl, by omega, ptN <| ptS <| EV.int ⟨5, rfl, ?_⟩⟩
    first | refine cutTo (show cutB c none (some 5) = c.take 5 from cut_to c 5) ?_ | rw [show cutB c none (some 5) = c.take 5 from cut_to c 5]
    refine EV.byt <| CM.eqB <| TU.bool ?_
    rw [show (c.take 5 == [114, 101, 102, 58, 32]) = symB.isPrefixOf c from take_prefix c]
    cases q : symB.isPrefixOf c with
    | false => exact ⟨nb, fun _ => hfin fun c' hc' => (by cases hc'; exact q)⟩
    | true =>
    refine TR.and_nil ?_
    refine ⟨fun _ => ?_, nb⟩
    refine SS.if <| TR.cmp <| EV.callBi G gl_len.1 gl_len.2 boot_len <| SQ.cons <| EV.name uu m2 <| SQ.nil <| CL.lenList (hP _) (by simp; omega) <| EV.int <| CM.gtI <| TU.bool ?_
    rw [List.length_map]
    cases f with
    | zero =>
      rw [decide_eq_true (by omega)]
      refine ⟨fun _ => SS.ret <| EV.none ⟨σ, hle _ _, h2 (hgo.symm.trans rfl)⟩, nb⟩
    | succ f =>
      rw [decide_eq_false (by omega)]
      refine ⟨nb, fun _ => SS.nxt ?_⟩
      have ec : cutB c (some 5) none = c.drop 5 := cut_from c 5
      refine SS.expr <| EV.meth mf_append <| EV.name uu m2 ⟨tyList (hP _), SQ.cons <| EV.cut <| EV.name uu m3 ⟨c, rfl, by omega, ptS <| EV.int ⟨5, rfl, ptN <| SQ.nil ?_⟩⟩⟩
      rw [ec]
      refine CL.append (hP _) (by simp; omega) ⟨fun a e => (by cases e), ?_⟩
      rw [upd_comm hpL.symm, upd_upd, show acc.map V.byt ++ [V.byt (c.drop 5)] = (acc ++ [c.drop 5]).map V.byt by simp]
      refine SS.assign <| EV.meth mf_get <| EV.name uu m1 ⟨tyDict (hM2 _ _), SQ.cons <| EV.cut <| EV.name uu m3 ⟨c, rfl, by omega, ptS <| EV.int ⟨5, rfl, ptN <| SQ.nil ?_⟩⟩⟩
      rw [ec]
      refine CL.dictGet1 G (hM2 _ _) ⟨_, L, _, rfl, rfl, SS.nil ⟨f, by omega, (hJ _ _).mpr ⟨acc ++ [c.drop 5], lookB ds (c.drop 5), _, rfl, m1, m2, ?_, by simp; omega, ?_, hvl _ _ rfl⟩⟩⟩
      · rw [← getE_vO]; rfl
      · rw [← hgo]
        show _ = goF ds (f + 1) acc c
        unfold goF
        rw [q]
        cases lookB ds (c.drop 5) <;> rfl
end
end Mine
end
section
open PySem PySem.W PySem.Calls PyProof.Rows PySem.Builtin
namespace Mine
noncomputable def setB (ds : DS) (x v : List UInt8) : DS := if ds.any (fun p => p.1 = x) then ds.map (fun p => if p.1 = x then (p.1, v) else p) else ds ++ [(x, v)]
noncomputable def delB (ds : DS) (x : List UInt8) : DS := ds.filter fun p => decide (p.1 ≠ x)
theorem setE_dB (ds : DS) (x v : List UInt8) : setE (dB ds) x (.byt v) = dB (setB ds x v) := by
  unfold setE setB dB
  have e : ((ds.map fun p => (p.1, V.byt p.2)).any fun p => decide (p.1 = x)) = ds.any fun p => decide (p.1 = x) := by rw [List.any_map]; rfl
  rw [e]
  split
  · rw [List.map_map, List.map_map]
    refine List.map_congr_left fun p _ => ?_
    simp only [Function.comp]
    split <;> rfl
  · rw [List.map_append]; rfl
theorem delE_dB (ds : DS) (x : List UInt8) : delE (dB ds) x = dB (delB ds x) := by
  unfold delE delB dB
  rw [List.filter_map]
  rfl
theorem keys_setB (ds : DS) (x v : List UInt8) : (setB ds x v).map (·.1) = if ds.any (fun p => p.1 = x) then ds.map (·.1) else ds.map (·.1) ++ [x] := by
  unfold setB
  split
  · rw [List.map_map]
    refine List.map_congr_left fun p _ => ?_
    simp only [Function.comp]
    split <;> rfl
  · rw [List.map_append]; rfl
theorem Good.set {ds : DS} (g : Good ds) {x v : List UInt8} (hx : x ∈ namesB) (hv : v ∈ okVals) : Good (setB ds x v) := by
  refine ⟨?_, fun p hp => ?_, fun p hp => ?_⟩
  · rw [keys_setB]
    split
    · exact g.nodup
    · rename_i h
      rw [List.nodup_append]
      refine ⟨g.nodup, by simp, fun a ha b hb e => h ?_⟩
      rw [List.mem_singleton] at hb
      obtain ⟨p, hp, hpa⟩ := List.mem_map.mp ha
      rw [List.any_eq_true]
      exact ⟨p, hp, decide_eq_true (by rw [hpa, e, hb])⟩
  · have := List.mem_map_of_mem (f := (·.1)) hp
    rw [keys_setB] at this
    split at this
    · obtain ⟨q, hq, e⟩ := List.mem_map.mp this
      rw [← e]; exact g.keys q hq
    · rcases List.mem_append.mp this with h | h
      · obtain ⟨q, hq, e⟩ := List.mem_map.mp h
        rw [← e]; exact g.keys q hq
      · rw [List.mem_singleton] at h; rw [h]; exact hx
  · unfold setB at hp
    split at hp
    · obtain ⟨q, hq, e⟩ := List.mem_map.mp hp
      rw [← e]
      split
      · exact hv
      · exact g.vals q hq
    · rcases List.mem_append.mp hp with h | h
      · exact g.vals p h
      · rw [List.mem_singleton] at h; rw [h]; exact hv
theorem Good.del {ds : DS} (g : Good ds) (x : List UInt8) : Good (delB ds x) := by
  unfold delB
  refine ⟨?_, fun p hp => g.keys p (List.mem_filter.mp hp).1, fun p hp => g.vals p (List.mem_filter.mp hp).1⟩
  have : (List.filter (fun p : List UInt8 × List UInt8 => decide (p.1 ≠ x)) ds).Sublist ds := List.filter_sublist
  exact (this.map (·.1)).nodup g.nodup
theorem delB_none {ds : DS} {x : List UInt8} (h : lookB ds x = none) : delB ds x = ds := by
  unfold delB
  rw [List.filter_eq_self]
  intro p hp
  unfold lookB at h
  rw [Option.map_eq_none_iff, List.find?_eq_none] at h
  have := h p hp
  simpa using this
theorem Kept.set {σ : MS} {k R : Addr} {ds ds' : DS} {ep' : Nat} (K : Kept σ k R ds) : Kept (upd σ R (.dict (dB ds') ep')) k R ds' := by
  obtain ⟨dk, P, ep, h1, h2, h3⟩ := K
  refine ⟨dk, P, ep', (upd_ne _ _ ?_).trans h1, (upd_ne _ _ ?_).trans h2, uu⟩
  · rintro rfl; rw [h1] at h3; cases h3
  · rintro rfl; rw [h2] at h3; cases h3
noncomputable abbrev zeroB : List UInt8 := List.replicate 40 48
noncomputable def refusedB (ds : DS) (x : List UInt8) : Option (List UInt8) → Bool
  | none => false
  | some o => (lookB ds x).getD zeroB != o
theorem getE_zero (ds : DS) (x : List UInt8) : (getE (dB ds) x).getD (.byt zeroB) = .byt ((lookB ds x).getD zeroB) := by
  rw [getE_dB]
  cases lookB ds x <;> rfl
section
variable {w : World} {B : Heap} {os : OsState} {l : List Env} {A : Around} {σ : MS} {E : Value → MS → Prop} {env : Env} {s : Shared} {k R : Addr} {ds : DS}
theorem set_ {n : Nat} {x v : List UInt8} {old : Option (List UInt8)} {Q : V → MS → Prop} (hA : Ar A l (n + 5)) (G : BF w B) (K : Kept σ k R ds) (g : Good ds) (hx : x ∈ namesB) (hv : v ∈ valsB)
    (h0 : valuedB v = false → E (.type "ValueError") σ) (h1 : valuedB v = true → refusedB ds x old = true → Q (.bool false) σ) (h2 : valuedB v = true → refusedB ds x old = false → namedB x = false → E (.ref 31) σ)
    (h3 : valuedB v = true → refusedB ds x old = false → namedB x = true → ∀ ep', Q (.bool true) (upd σ R (.dict (dB (setB ds x v)) ep'))) : CL w B os l A (.ref 257) [.ref k, .byt x, vO old, .byt v] Q E σ := by
  refine call257 hA G fun L A' hL hA' => ?_
  have hLe : ∀ o, Le σ (upd σ L o) := fun o => Le.fresh hL
  have hRk : ∃ dk P ep, σ k = some (IN 281 dk) ∧ σ dk = some (ID [("_refs", .ref R), ("_peeled", .ref P)]) ∧ σ R = some (.dict (dB ds) ep) := K
  obtain ⟨dk, P, ep, k1, k2, k3⟩ := hRk
  have hRL : R ≠ L := ne_of_none hL k3
  have hR : ∀ o, upd σ L o R = some (.dict (dB ds) ep) := fun o => (upd_ne _ _ hRL).trans k3
  refine SS.expr <| evSelf G uu rfl (K.fr hL) (is152 G) <| SQ.cons <| EV.name uu rfl <| SQ.nil <| checkVal_ hA' G hv (fun q0 => ⟨fun a e => (by cases e), ?_⟩) fun q => ⟨σ, hLe _, h0 q⟩
  have hrest : refusedB ds x old = false → SS w B os (callEnv fd257 L 257 :: l) A' (callEnv fd257 L 257) (bd257.drop 2) (kBody Q) (kDn E) (upd σ L (.ns (fr [(Str.ofString "new_ref", .byt v), (Str.ofString "old_ref", vO old), (Str.ofString "name", .byt x), (Str.ofString "self", .ref k)]))) := by
    intro q1
    refine SS.expr <| evSelf G uu rfl (K.fr hL) (is145 G) <| SQ.cons <| EV.name uu rfl <| SQ.nil <| checkName_ hA' G hx (fun q2 => ⟨fun a e => (by cases e), ?_⟩) fun q2 => ⟨σ, hLe _, h2 q0 q1 q2⟩
    refine SS.assign <| EV.meth mf_get <| evRefs G uu rfl (K.fr hL) ⟨tyDict (hR _), SQ.cons <| EV.name uu rfl <| SQ.nil <| CL.dictGet1 G (hR _) ⟨_, L, _, rfl, rfl, ?_⟩⟩
    refine SS.assignSub <| EV.name uu rfl <| evRefs G uu rfl (K.fr hL) <| EV.name uu rfl fun a b c ha hb hc => setDict ha hb hc (by unfold dB; rw [List.length_map]; have := g.size; omega) (hR _) fun ep' => ?_
    refine SS.ret <| EV.bool ⟨_, ?_, h3 q0 q1 q2 ep'⟩
    rw [upd_comm hRL.symm, setE_dB]
    exact Le.fresh (by rw [upd_ne _ _ hRL.symm]; exact hL)
  refine SS.if <| TR.and <| TR.cmp <| EV.name uu rfl <| EV.none <| CM.isNotNone <| TU.bool ?_
  cases old with
  | none =>
    rw [show (!decide (vO none = V.none)) = false from rfl]
    exact ⟨nb, fun _ => SS.nxt <| hrest rfl⟩
  | some o =>
    rw [show (!decide (vO (some o) = V.none)) = true by simp [vO]]
    refine TR.and <| TR.cmp <| EV.meth mf_get <| evRefs G uu rfl (K.fr hL) ⟨tyDict (hR _), SQ.cons <| EV.name uu rfl <| SQ.cons <| EV.glob G rfl <| SQ.nil <| CL.dictGet2 G (hR _) ?_⟩
    rw [getE_zero]
    refine EV.name (v := .byt o) uu rfl <| CM.neB <| TU.bool ?_
    cases q : (lookB ds x).getD zeroB != o with
    | false => exact ⟨nb, fun _ => SS.nxt <| hrest q⟩
    | true =>
    refine TR.and_nil ?_
    exact ⟨fun _ => SS.ret <| EV.bool ⟨σ, hLe _, h1 q0 q⟩, nb⟩
end
end Mine
end
section
open PySem PySem.W PySem.Calls PyProof.Rows PySem.Builtin
namespace Mine
section
variable {w : World} {B : Heap} {os : OsState} {l : List Env} {A : Around} {σ : MS} {E : Value → MS → Prop} {env : Env} {s : Shared} {k R : Addr} {ds : DS}
theorem dB_len (g : Good ds) : (dB ds).length ≤ 1000000 := by unfold dB; rw [List.length_map]; have := g.size; omega
theorem add_ {n : Nat} {x v : List UInt8} {Q : V → MS → Prop} (hA : Ar A l (n + 5)) (G : BF w B) (K : Kept σ k R ds) (g : Good ds) (hv : v ∈ valsB)
    (h0 : valuedB v = false → E (.type "ValueError") σ) (h1 : valuedB v = true → (lookB ds x).isSome = true → Q (.bool false) σ)
    (h3 : valuedB v = true → (lookB ds x).isSome = false → ∀ ep', Q (.bool true) (upd σ R (.dict (dB (setB ds x v)) ep'))) : CL w B os l A (.ref 264) [.ref k, .byt x, .byt v] Q E σ := by
  refine call264 hA G fun L A' hL hA' => ?_
  have hLe : ∀ o, Le σ (upd σ L o) := fun o => Le.fresh hL
  obtain ⟨dk, P, ep, k1, k2, k3⟩ := id K
  have hRL : R ≠ L := ne_of_none hL k3
  have hR : ∀ o, upd σ L o R = some (.dict (dB ds) ep) := fun o => (upd_ne _ _ hRL).trans k3
  refine SS.expr <| evSelf G uu rfl (K.fr hL) (is152 G) <| SQ.cons <| EV.name uu rfl <| SQ.nil <| checkVal_ hA' G hv (fun q0 => ⟨fun a e => (by cases e), ?_⟩) fun q => ⟨σ, hLe _, h0 q⟩
  refine SS.if <| TR.cmp <| EV.name uu rfl <| evRefs G uu rfl (K.fr hL) <| CM.inD G (hR _) <| TU.bool ?_
  have eg : (getE (dB ds) x).isSome = (lookB ds x).isSome := by rw [getE_dB, Option.isSome_map]
  rw [eg]
  cases q1 : (lookB ds x).isSome with
  | true => exact ⟨fun _ => SS.ret <| EV.bool ⟨σ, hLe _, h1 q0 q1⟩, nb⟩
  | false =>
  refine ⟨nb, fun _ => SS.nxt ?_⟩
  refine SS.assignSub <| EV.name uu rfl <| evRefs G uu rfl (K.fr hL) <| EV.name uu rfl fun a b c ha hb hc => setDict ha hb hc (dB_len g) (hR _) fun ep' => ?_
  refine SS.ret <| EV.bool ⟨_, ?_, h3 q0 q1 ep'⟩
  rw [upd_comm hRL.symm, setE_dB]
  exact Le.fresh (by rw [upd_ne _ _ hRL.symm]; exact hL)
theorem remove_ {n : Nat} {x : List UInt8} {old : Option (List UInt8)} {Q : V → MS → Prop} (hA : Ar A l (n + 1)) (G : BF w B) (K : Kept σ k R ds) (g : Good ds)
    (h1 : refusedB ds x old = true → Q (.bool false) σ) (h3 : refusedB ds x old = false → ∀ ep', Q (.bool true) (upd σ R (.dict (dB (delB ds x)) ep'))) : CL w B os l A (.ref 271) [.ref k, .byt x, vO old] Q E σ := by
  refine call271 hA G fun L A' hL hA' => ?_
  have hLe : ∀ o, Le σ (upd σ L o) := fun o => Le.fresh hL
  obtain ⟨dk, P, ep, k1, k2, k3⟩ := id K
  have hRL : R ≠ L := ne_of_none hL k3
  have hR : ∀ o, upd σ L o R = some (.dict (dB ds) ep) := fun o => (upd_ne _ _ hRL).trans k3
  have hrest : refusedB ds x old = false → SS w B os (callEnv fd271 L 271 :: l) A' (callEnv fd271 L 271) (bd271.drop 1) (kBody Q) (kDn E) (upd σ L (.ns (fr [(Str.ofString "old_ref", vO old), (Str.ofString "name", .byt x), (Str.ofString "self", .ref k)]))) := by
    intro q1
    refine try_ hA'.frames rfl <| SS.assign <| EV.meth mf_pop <| evRefs G uu rfl (K.fr hL) ⟨tyDict (hR _), SQ.cons <| EV.name uu rfl <| SQ.nil <| CL.pop1 G hA'.handled (hR _) (dB_len g) (fun v ep' hv => ?_) fun hv e => ?_⟩
    · refine ⟨upd σ R (.dict (delE (dB ds) x) ep'), L, _, upd_comm hRL.symm, rfl, SS.nil ?_⟩
      refine SS.nil <| SS.ret <| EV.bool ⟨_, Le.fresh (by rw [upd_ne _ _ hRL.symm]; exact hL), ?_⟩
      have := h3 q1 ep'
      rw [← delE_dB] at this
      exact this
    · refine HB.one (c := .type "KeyError") (b := true) G (nameIs_built G (by kernel_rfl!) (by kernel_rfl!) (by kernel_rfl!)) (by kernel_rfl!) ?_
      refine SS.pass <| SS.nil <| SS.ret <| EV.bool ⟨σ, hLe _, ?_⟩
      have := h3 q1 ep
      rw [getE_dB, Option.map_eq_none_iff] at hv
      rw [delB_none hv, upd_same k3] at this
      exact this
  refine SS.if <| TR.and <| TR.cmp <| EV.name uu rfl <| EV.none <| CM.isNotNone <| TU.bool ?_
  cases old with
  | none =>
    rw [show (!decide (vO none = V.none)) = false from rfl]
    exact ⟨nb, fun _ => SS.nxt <| hrest rfl⟩
  | some o =>
    rw [show (!decide (vO (some o) = V.none)) = true by simp [vO]]
    refine TR.and <| TR.cmp <| EV.meth mf_get <| evRefs G uu rfl (K.fr hL) ⟨tyDict (hR _), SQ.cons <| EV.name uu rfl <| SQ.cons <| EV.glob G rfl <| SQ.nil <| CL.dictGet2 G (hR _) ?_⟩
    rw [getE_zero]
    refine EV.name (v := .byt o) uu rfl <| CM.neB <| TU.bool ?_
    cases q : (lookB ds x).getD zeroB != o with
    | false => exact ⟨nb, fun _ => SS.nxt <| hrest q⟩
    | true =>
    refine TR.and_nil ?_
    exact ⟨fun _ => SS.ret <| EV.bool ⟨σ, hLe _, h1 q⟩, nb⟩
theorem symref_ {n : Nat} {x o : List UInt8} {Q : V → MS → Prop} (hA : Ar A l (n + 4)) (G : BF w B) (K : Kept σ k R ds) (g : Good ds) (hx : x ∈ namesB) (ho : o ∈ namesB)
    (h0 : followB ds x = none → E (.ref 84) σ) (h1 : followB ds x ≠ none → ∀ ep', Q .none (upd σ R (.dict (dB (setB ds x (symB ++ o))) ep'))) : CL w B os l A (.ref 250) [.ref k, .byt x, .byt o] Q E σ := by
  refine call250 hA G fun L A' hL hA' => ?_
  have hLe : ∀ o, Le σ (upd σ L o) := fun o => Le.fresh hL
  obtain ⟨dk, P, ep, k1, k2, k3⟩ := id K
  have hRL : R ≠ L := ne_of_none hL k3
  have hR : ∀ o, upd σ L o R = some (.dict (dB ds) ep) := fun o => (upd_ne _ _ hRL).trans k3
  have hxl := names_len x hx
  have hol := names_len o ho
  refine SS.assign <| EV.forget <| EV.sub <| evSelf G uu rfl (K.fr hL) (is166 G) <| SQ.cons <| EV.name uu rfl <| SQ.nil <| follow_ hA' G (K.fr hL) g (by omega) (fun ns v p T hf hp hpB hT hTB hne => ?_) fun q => ⟨_, Le.rfl, σ, hLe _, h0 q⟩
  refine evNeg <| EV.int ⟨1, rfl, SI.tup (j := 1) (v := vO v) uu (by decide) (by decide) (by rfl) rfl ?_⟩
  refine ⟨upd σ L (.ns (fr [(Str.ofString "other", .byt o), (Str.ofString "name", .byt x), (Str.ofString "self", .ref k)])), (Le.fresh hp).trans (Le.fresh (by rw [upd_ne _ _ hne.symm]; exact hT)), σ, L, _, rfl, rfl, ?_⟩
  refine SS.assign <| EV.binop <| EV.glob G rfl <| EV.name uu rfl <| BN.addB (by simp; omega) ⟨σ, L, _, rfl, rfl, ?_⟩
  refine SS.assignSub <| EV.name uu rfl <| evRefs G uu rfl (K.fr hL) <| EV.name uu rfl fun a b c ha hb hc => setDict ha hb hc (dB_len g) (hR _) fun ep' => ?_
  refine SS.nil ⟨_, ?_, h1 (by rw [hf]; simp) ep'⟩
  rw [upd_comm hRL.symm, show setE (dB ds) x (.byt ([114, 101, 102, 58, 32] ++ o)) = dB (setB ds x (symB ++ o)) from setE_dB ds x _]
  exact Le.fresh (by rw [upd_ne _ _ hRL.symm]; exact hL)
theorem setitem_ {n : Nat} {x v : List UInt8} {Q : V → MS → Prop} (hA : Ar A l (n + 6)) (G : BF w B) (K : Kept σ k R ds) (g : Good ds) (hx : x ∈ namesB) (hv : v ∈ valsB)
    (h0 : valuedB v = false → E (.type "ValueError") σ) (h2 : valuedB v = true → namedB x = false → E (.ref 31) σ)
    (h3 : valuedB v = true → namedB x = true → ∀ ep', Q .none (upd σ R (.dict (dB (setB ds x v)) ep'))) : CL w B os l A (.ref 187) [.ref k, .byt x, .byt v] Q E σ := by
  refine call187 hA G fun L A' hL hA' => ?_
  have hLe : ∀ o, Le σ (upd σ L o) := fun o => Le.fresh hL
  obtain ⟨dk, P, ep, k1, k2, k3⟩ := id K
  have hRL : R ≠ L := ne_of_none hL k3
  refine SS.expr <| evSelf G uu rfl (K.fr hL) (is152 G) <| SQ.cons <| EV.name uu rfl <| SQ.nil <| checkVal_ hA' G hv (fun q0 => ⟨fun a e => (by cases e), ?_⟩) fun q => ⟨σ, hLe _, h0 q⟩
  refine SS.expr <| evSelf G uu rfl (K.fr hL) (is257 G) <| SQ.cons <| EV.name uu rfl <| SQ.cons <| EV.none <| SQ.cons <| EV.name uu rfl <| SQ.nil <| set_ (old := none) hA' G (K.fr hL) g hx hv (fun q => ⟨σ, hLe _, h0 q⟩) (fun _ q => by cases q) (fun q _ q2 => ⟨σ, hLe _, h2 q q2⟩) fun q _ q2 ep' => ⟨fun a e => (by cases e), SS.nil ⟨_, ?_, h3 q q2 ep'⟩⟩
  rw [upd_comm hRL.symm]
  exact Le.fresh (by rw [upd_ne _ _ hRL.symm]; exact hL)
theorem delitem_ {n : Nat} {x : List UInt8} {Q : V → MS → Prop} (hA : Ar A l (n + 2)) (G : BF w B) (K : Kept σ k R ds) (g : Good ds) (h3 : ∀ ep', Q .none (upd σ R (.dict (dB (delB ds x)) ep'))) : CL w B os l A (.ref 194) [.ref k, .byt x] Q E σ := by
  refine call194 hA G fun L A' hL hA' => ?_
  obtain ⟨dk, P, ep, k1, k2, k3⟩ := id K
  have hRL : R ≠ L := ne_of_none hL k3
  refine SS.expr <| evSelf G uu rfl (K.fr hL) (is271 G) <| SQ.cons <| EV.name uu rfl <| SQ.cons <| EV.none <| SQ.nil <| remove_ (old := none) hA' G (K.fr hL) g (fun q => by cases q) fun _ ep' => ⟨fun a e => (by cases e), SS.nil ⟨_, ?_, h3 ep'⟩⟩
  rw [upd_comm hRL.symm]
  exact Le.fresh (by rw [upd_ne _ _ hRL.symm]; exact hL)
end
end Mine
end
section
open PySem PySem.W PySem.Calls PyProof.Rows PySem.Builtin
namespace Mine
theorem foldl_addK : ∀ (xs acc : List (List UInt8)), (acc ++ xs).Nodup → xs.foldl addK acc = acc ++ xs
  | [], acc, _ => by simp
  | x :: xs, acc, h => by
    have h' : ((acc ++ [x]) ++ xs).Nodup := by simpa using h
    have hx : x ∉ acc := fun hm => by
      rw [List.nodup_append] at h
      exact h.2.2 x hm x (.head _) rfl
    rw [List.foldl_cons, show addK acc x = acc ++ [x] by unfold addK; rw [if_neg (by simpa using hx)], foldl_addK xs _ h']
    simp
theorem sub_dk : isSubtype (.type "dict_keys") (.type "set") = pure false ∧ isSubtype (.type "dict_keys") (.type "frozenset") = pure false := ⟨by rw [isSubtype_type]; kernel_rfl, by rw [isSubtype_type]; kernel_rfl⟩
noncomputable abbrev keysB (ds : DS) : List (List UInt8) := ds.map (·.1)
section
variable {w : World} {B : Heap} {os : OsState} {l : List Env} {A : Around} {σ : MS} {E : Value → MS → Prop} {env : Env} {s : Shared} {k R : Addr} {ds : DS}
theorem allkeys_ {n : Nat} {Q : V → MS → Prop} (hA : Ar A l (n + 1)) (G : BF w B) (K : Kept σ k R ds) (g : Good ds) (h : ∀ a, σ a = none → B.get? a = none → Q (.ref a) (upd σ a (.set (keysB ds)))) : CL w B os l A (.ref 229) [.ref k] Q E σ := by
  refine call229 hA G fun L A' hL hA' => ?_
  obtain ⟨dk, P, ep, k1, k2, k3⟩ := id K
  have hRL : R ≠ L := ne_of_none hL k3
  have hR : ∀ o, upd σ L o R = some (.dict (dB ds) ep) := fun o => (upd_ne _ _ hRL).trans k3
  have hsz := g.size
  refine SS.ret <| EV.callTy (id := "set") G (by kernel_rfl!) (by kernel_rfl!) (by kernel_rfl!) <| SQ.cons <| EV.meth mf_keys <| evRefs G uu rfl (K.fr hL) ⟨tyDict (hR _), SQ.nil <| CL.keys G (hR _) fun v hv hvB => SQ.nil ?_⟩
  have hRv : R ≠ v := ne_of_none hv (hR _)
  have ek : (dB ds).map (fun p => V.byt p.1) = (keysB ds).map V.byt := by unfold dB keysB; rw [List.map_map, List.map_map]; rfl
  refine CL.setOf (xs := keysB ds) (S := KI R (dB ds).length ep) (Pin := fun τ => τ R = some (.dict (dB ds) ep)) hA'.handled (fun a A'' hh ha => ?_) (by rw [List.length_map]; omega) (fun a τ o ha hp => ?_) ((upd_ne _ _ hRv).trans (hR _)) (fun va s hva R₁ => ?_) fun a ha haB => ?_
  · have haR : R ≠ a := ne_of_none ha ((upd_ne _ _ hRv).trans (hR _))
    have hav : v ≠ a := ne_of_none ha uu
    rw [← ek]
    exact Src.view hh ((upd_ne _ _ haR).trans ((upd_ne _ _ hRv).trans (hR _))) ((upd_ne _ _ hav).trans uu)
  · have haR : R ≠ a := ne_of_none ha ((upd_ne _ _ hRv).trans (hR _))
    exact (upd_ne _ _ haR).trans hp
  · obtain ⟨_, o, ho, hc, hd⟩ := R₁.known _ _ (uu : upd (upd σ L _) v (KV R) v = _)
    rw [er_ref hva]
    exact ⟨"dict_keys", ⟨o, ho, hc⟩, sub_dk.1, sub_dk.2, rfl⟩
  · obtain ⟨h1, h2⟩ := nu ha
    obtain ⟨h3, h4⟩ := nu h1
    obtain ⟨h5, h6⟩ := nu hv
    have := h a h3 haB
    rw [foldl_addK _ [] (by simpa using g.nodup), List.nil_append]
    exact ⟨_, Le.upd ((Le.fresh hL).trans (Le.fresh hv)), this⟩
theorem keys1_ {n : Nat} {Q : V → MS → Prop} (hA : Ar A l (n + 2)) (G : BF w B) (K : Kept σ k R ds) (g : Good ds) (h : ∀ a, σ a = none → B.get? a = none → Q (.ref a) (upd σ a (.set (keysB ds)))) : CL w B os l A (.ref 123) [.ref k] Q E σ := by
  refine call123_1 hA G fun L A' hL hA' => ?_
  refine SS.if <| TR.cmp <| EV.name uu rfl <| EV.none <| CM.isNotNone <| TU.bool ⟨nb, fun _ => ?_⟩
  refine SS.ret <| evSelf G uu rfl (K.fr hL) (is229 G) <| SQ.nil <| allkeys_ hA' G (K.fr hL) g fun a ha hB => ⟨_, Le.upd (Le.fresh hL), h a (nu ha).1 hB⟩
end
end Mine
end
section
open PySem PySem.W PySem.Calls PyProof.Rows PySem.Builtin
namespace Mine
theorem Le.put {σ τ : MS} {a : Addr} {o : O} (h : Le σ τ) (k : τ a = some o) : Le (Mine.upd σ a o) τ := fun b o' e => by
  by_cases q : b = a
  · subst q; rw [upd_self] at e; cases e; exact k
  · rw [upd_ne _ _ q] at e; exact h _ _ e
theorem ovl_le {σ P : MS} : Le P (ovl σ P) := fun b o e => by unfold ovl; rw [e]; rfl
theorem PinOf.none {B : Heap} {σ P : MS} {a b : Addr} {o : O} (p : PinOf B σ P a) (hb : b ≠ a) (h : σ b = some o) : P b = none := by
  cases q : P b with
  | none => rfl
  | some o' =>
    rcases (p.at_ b o' q).1 with e | e
    · exact absurd e hb
    · rw [h] at e; cases e
theorem PinOf.keep {B : Heap} {σ P : MS} {a b : Addr} {o : O} (p : PinOf B σ P a) (hb : b ≠ a) (h : σ b = some o) : ovl σ P b = some o := by
  unfold ovl; rw [p.none hb h]; exact h
theorem PinOf.le {B : Heap} {τ σ P : MS} {a : Addr} (p : PinOf B σ P a) (ha : τ a = Option.none) (h : Le τ σ) : Le τ (ovl σ P) := fun b o e => p.keep (by rintro rfl; rw [ha] at e; cases e) (h _ _ e)
theorem ovl_none {σ P : MS} {b : Addr} (h : ovl σ P b = none) : P b = none ∧ σ b = none := by
  unfold ovl at h
  cases q : P b with
  | none => rw [q] at h; exact ⟨rfl, h⟩
  | some o => rw [q] at h; cases h
noncomputable abbrev headsB : List UInt8 := [114, 101, 102, 115, 47, 104, 101, 97, 100, 115]
noncomputable def pickB (ys : List (List UInt8)) : List (List UInt8) := (ys.filter fun x => headsB.isPrefixOf x).map (·.drop 11)
theorem pick_names : ∀ x ∈ namesB, ∀ y ∈ namesB, headsB.isPrefixOf x = true → headsB.isPrefixOf y = true → x.drop 11 = y.drop 11 → x = y := by decide +kernel
theorem map_nodup {α β : Type} {f : α → β} : ∀ {l : List α}, (∀ x ∈ l, ∀ y ∈ l, f x = f y → x = y) → l.Nodup → (l.map f).Nodup
  | [], _, _ => by simp
  | x :: l, h, hn => by
    rw [List.nodup_cons] at hn
    rw [List.map_cons, List.nodup_cons]
    refine ⟨fun hm => ?_, map_nodup (fun a ha b hb => h a (.tail _ ha) b (.tail _ hb)) hn.2⟩
    obtain ⟨y, hy, e⟩ := List.mem_map.mp hm
    exact hn.1 (h y (.tail _ hy) x (.head _) e ▸ hy)
theorem pick_nodup {ys : List (List UInt8)} (hn : ys.Nodup) (hs : ∀ y ∈ ys, y ∈ namesB) : (pickB ys).Nodup := by
  unfold pickB
  refine map_nodup (fun x hx y hy e => ?_) (hn.sublist List.filter_sublist)
  obtain ⟨h1, h2⟩ := List.mem_filter.mp hx
  obtain ⟨h3, h4⟩ := List.mem_filter.mp hy
  exact pick_names x (hs x h1) y (hs y h3) h2 h4 e
theorem pick_take {ys : List (List UInt8)} {i : Nat} {c : List UInt8} (h : ys[i]? = some c) : pickB (ys.take (i + 1)) = if headsB.isPrefixOf c then pickB (ys.take i) ++ [c.drop 11] else pickB (ys.take i) := by
  unfold pickB
  rw [List.take_add_one, h]
  cases q : headsB.isPrefixOf c <;> simp [List.filter_append, q]
section
variable {w : World} {B : Heap} {os : OsState} {l : List Env} {A : Around} {σ : MS} {E : Value → MS → Prop} {env : Env} {s : Shared} {k R : Addr} {ds : DS}
theorem subkeys_ {n : Nat} {Q : V → MS → Prop} (hA : Ar A l (n + 2)) (G : BF w B) (K : Kept σ k R ds) (g : Good ds) (h : ∀ a ks, ks.Perm (pickB (keysB ds)) → σ a = none → B.get? a = none → Q (.ref a) (upd σ a (.set ks))) : CL w B os l A (.ref 130) [.ref k, .byt headsB] Q E σ := by
  refine call130 hA G fun L A' hL hA' => ?_
  have hLe : ∀ o, Le σ (upd σ L o) := fun o => Le.fresh hL
  refine assignAt (L := L) <| EV.callTy (id := "set") G (by kernel_rfl!) (by kernel_rfl!) (by kernel_rfl!) <| SQ.nil <| CL.setNew fun a ha haB => ⟨_, un ha uu, ?_⟩
  obtain ⟨ha1, haL⟩ := nu ha
  rw [← upd_comm haL, upd_upd]
  refine SS.assign <| EV.binop <| EV.callBi G gl_len.1 gl_len.2 boot_len <| SQ.cons <| EV.name uu rfl <| SQ.nil <| CL.lenB (by decide) <| EV.int <| BN.addI ⟨_, L, _, rfl, rfl, ?_⟩
  have KL : ∀ o o', Kept (upd (upd σ a o) L o') k R ds := fun o o' => (K.fr ha1).fr (by rw [upd_ne _ _ haL.symm]; exact hL)
  have hKLe : ∀ o o', Le σ (upd (upd σ a o) L o') := fun o o' => Le.over (Le.fresh ha1) hL
  refine SS.forSet hA'.frames hA'.handled rfl <| evSelf G uu rfl (KL _ _) (is229 G) <| SQ.nil <| allkeys_ hA' G (KL _ _) g fun b hb hbB => ?_
  obtain ⟨hb1, hbL⟩ := nu hb
  obtain ⟨hb2, hba⟩ := nu hb1
  refine ⟨b, keysB ds, rfl, uu, by rw [List.length_map]; have := g.size; omega, fun it ys S P hp pin hit hitB => ?_⟩
  obtain ⟨hPi, hi0⟩ := ovl_none hit
  obtain ⟨hi1, hib⟩ := nu hi0
  obtain ⟨hi2, hiL⟩ := nu hi1
  obtain ⟨hi3, hia⟩ := nu hi2
  have hyn : ys.Nodup := hp.nodup_iff.mpr g.nodup
  have hys : ∀ y ∈ ys, y ∈ namesB := fun y hy => by
    obtain ⟨p, hp', e⟩ := List.mem_map.mp (hp.mem_iff.mp hy)
    rw [← e]; exact g.keys p hp'
  have hPL : P L = none := pin.none hbL.symm ((upd_ne _ _ hbL.symm).trans uu)
  have hPa : P a = none := pin.none hba.symm ((upd_ne _ _ hba.symm).trans ((upd_ne _ _ haL).trans uu))
  obtain ⟨J, hJ⟩ : ∃ J : Nat → MS → Prop, ∀ i τ, J i τ = (Le σ τ ∧ Le P τ ∧ τ it = some (S i) ∧ (∃ m, τ L = some (.ns m) ∧ m "base" = some (.byt headsB) ∧ m "keys" = some (.ref a) ∧ m "base_len" = some (.int 11)) ∧ τ a = some (.set (pickB (ys.take i)))) := ⟨_, fun _ _ => rfl⟩
  refine ⟨J, ?_, ?_, ?_⟩
  · refine (hJ _ _).mpr ⟨Le.over (pin.le hb2 ((hKLe _ _).trans (Le.fresh hb))) hi3, Le.over ovl_le hPi, uu, ⟨_, (upd_ne _ _ hiL.symm).trans (pin.keep hbL.symm ((upd_ne _ _ hbL.symm).trans uu)), rfl, rfl, rfl⟩, ?_⟩
    exact (upd_ne _ _ hia.symm).trans (pin.keep hba.symm ((upd_ne _ _ hba.symm).trans ((upd_ne _ _ haL).trans uu)))
  · intro i x τ hI hx
    rw [hJ] at hI
    obtain ⟨h1, h2, h3, ⟨m, hm, m1, m2, m3⟩, h4⟩ := hI
    refine ⟨h2, h3, AS.at (L := L) ((upd_ne _ _ hiL.symm).trans hm) ?_⟩
    have hxl := names_len x (hys x (List.mem_of_getElem? hx))
    have hal : ∀ o o', upd (upd τ it o) L o' a = some (.set (pickB (ys.take i))) := fun o o' => by rw [upd_ne _ _ haL, upd_ne _ _ hia.symm]; exact h4
    have e1 : ∀ o o', Le σ (upd (upd τ it o) L o') := fun o o' => Le.over (Le.over h1 hi3) hL
    have e2 : ∀ o o', Le P (upd (upd τ it o) L o') := fun o o' => Le.over (Le.over h2 hPi) hPL
    refine SS.if <| TR.plain <| EV.meth mf_b_startswith <| EV.name uu rfl ⟨tyByt, SQ.cons <| EV.name uu m1 <| SQ.nil <| CL.startswith <| TU.bool ?_⟩
    have hpt := pick_take hx
    cases q : headsB.isPrefixOf x with
    | true =>
      rw [q, if_pos rfl] at hpt
      refine ⟨fun _ => ?_, nb⟩
      refine SS.expr <| EV.meth mf_set_add <| EV.name uu m2 ⟨tySet (hal _ _), SQ.cons <| EV.callF G (is67 G) rfl <| SQ.cons <| EV.cut <| EV.name uu rfl ⟨x, rfl, by omega, ptS <| EV.name uu m3 ⟨_, rfl, ptN <| SQ.nil <| ref_ hA' G <| SQ.nil ?_⟩⟩⟩
      first | refine cutTo (show cutB x (some 11) none = x.drop 11 from cut_from x 11) ?_ | rw [show cutB x (some 11) none = x.drop 11 from cut_from x 11]
      have hnd : (pickB (ys.take (i + 1))).Nodup := pick_nodup (hyn.sublist (List.take_sublist _ _)) fun y hy => hys y (List.mem_of_mem_take hy)
      have hz : (pickB (ys.take i)).length ≤ 1000 := by
        unfold pickB
        have h1 := List.length_filter_le (fun x => headsB.isPrefixOf x) (ys.take i)
        have h2 := List.length_take_le i ys
        have h3 := hp.length_eq
        have h4 := g.size
        rw [List.length_map] at h3 ⊢
        have h5 : (ys.take i).length ≤ ys.length := by rw [List.length_take]; omega
        omega
      refine CL.setAdd (hal _ _) hz ⟨fun a e => (by cases e), SS.nxt <| SS.nil ?_⟩
      have hadd : addK (pickB (ys.take i)) (x.drop 11) = pickB (ys.take (i + 1)) := by
        rw [hpt] at hnd ⊢
        unfold addK
        rw [if_neg]
        intro hc
        rw [List.nodup_append] at hnd
        exact hnd.2.2 _ (by simpa using hc) _ (.head _) rfl
      rw [hadd]
      exact (hJ _ _).mpr ⟨Le.over (e1 _ _) ha1, Le.over (e2 _ _) hPa, (upd_ne _ _ hia).trans ((upd_ne _ _ hiL).trans uu), ⟨_, (upd_ne _ _ haL.symm).trans uu, m1, m2, m3⟩, uu⟩
    | false =>
      rw [q, if_neg (by decide)] at hpt
      refine ⟨nb, fun _ => SS.nxt <| SS.nil ?_⟩
      exact (hJ _ _).mpr ⟨e1 _ _, e2 _ _, (upd_ne _ _ hiL).trans uu, ⟨_, uu, m1, m2, m3⟩, by rw [hpt]; exact hal _ _⟩
  · intro τ hI
    rw [hJ] at hI
    obtain ⟨h1, h2, h3, ⟨m, hm, m1, m2, m3⟩, h4⟩ := hI
    rw [List.take_length] at h4
    refine ⟨h2, h3, SS.ret <| EV.name ((del_ne hiL.symm).trans hm) m2 ⟨_, Le.put (h1.del hi3) ((del_ne hia.symm).trans h4), h a _ ?_ ha1 haB⟩⟩
    exact (hp.filter _).map _
theorem keys2_ {n : Nat} {Q : V → MS → Prop} (hA : Ar A l (n + 3)) (G : BF w B) (K : Kept σ k R ds) (g : Good ds) (h : ∀ a ks, ks.Perm (pickB (keysB ds)) → σ a = none → B.get? a = none → Q (.ref a) (upd σ a (.set ks))) : CL w B os l A (.ref 123) [.ref k, .byt headsB] Q E σ := by
  refine call123_2 hA G fun L A' hL hA' => ?_
  refine SS.if <| TR.cmp <| EV.name uu rfl <| EV.none <| CM.isNotNone <| TU.bool ⟨fun _ => ?_, nb⟩
  refine SS.ret <| evSelf G uu rfl (K.fr hL) (is130 G) <| SQ.cons <| EV.name uu rfl <| SQ.nil <| subkeys_ hA' G (K.fr hL) g fun a ks hk ha hB => ⟨_, Le.upd (Le.fresh hL), h a ks hk (nu ha).1 hB⟩
end
end Mine
end
section
open PySem PySem.W PySem.Calls PyProof.Rows PySem.Builtin
namespace Mine
theorem okVals_strip : ∀ v ∈ okVals, symB.isPrefixOf v = true → rstripB (v.drop 5) [13, 10] = v.drop 5 := by decide +kernel
noncomputable def madeOf (f : List UInt8 → Option (List UInt8)) (ys : List (List UInt8)) : DS := ys.filterMap fun x => (f x).map fun v => (x, v)
noncomputable def symOf (ds : DS) (x : List UInt8) : Option (List UInt8) := match lookB ds x with
  | some v => if symB.isPrefixOf v then some (v.drop 5) else none
  | none => none
theorem made_keys {f : List UInt8 → Option (List UInt8)} {ys : List (List UInt8)} {p : List UInt8 × List UInt8} (h : p ∈ madeOf f ys) : p.1 ∈ ys ∧ f p.1 = some p.2 := by
  obtain ⟨x, hx, e⟩ := List.mem_filterMap.mp h
  obtain ⟨v, hv, rfl⟩ := Option.map_eq_some_iff.mp e
  exact ⟨hx, hv⟩
theorem setB_new {ds : DS} {x v : List UInt8} (h : ∀ p ∈ ds, p.1 ≠ x) : setB ds x v = ds ++ [(x, v)] := by
  unfold setB
  rw [if_neg]
  rw [List.any_eq_true]
  rintro ⟨p, hp, e⟩
  exact h p hp (of_decide_eq_true e)
theorem take_notin {α : Type} {ys : List α} {i : Nat} {x : α} (hn : ys.Nodup) (hx : ys[i]? = some x) : x ∉ ys.take i := fun hm => by
  have h1 : (ys.take (i + 1)).Nodup := hn.sublist (List.take_sublist _ _)
  rw [List.take_add_one, hx, List.nodup_append] at h1
  exact h1.2.2 x hm x (by simp) rfl
theorem made_take {f : List UInt8 → Option (List UInt8)} {ys : List (List UInt8)} {i : Nat} {x : List UInt8} (hn : ys.Nodup) (hx : ys[i]? = some x) :
    (∀ v, f x = some v → setB (madeOf f (ys.take i)) x v = madeOf f (ys.take (i + 1))) ∧ (f x = none → madeOf f (ys.take i) = madeOf f (ys.take (i + 1))) := by
  have e : madeOf f (ys.take (i + 1)) = madeOf f (ys.take i) ++ madeOf f [x] := by
    unfold madeOf; rw [List.take_add_one, hx, List.filterMap_append]; rfl
  refine ⟨fun v hv => ?_, fun hv => ?_⟩
  · rw [e, setB_new (fun p hp q => take_notin hn hx (by rw [← q]; exact (made_keys hp).1))]
    unfold madeOf; simp [hv]
  · rw [e]; unfold madeOf; simp [hv]
theorem made_len {f : List UInt8 → Option (List UInt8)} {ys : List (List UInt8)} : (madeOf f ys).length ≤ ys.length := List.length_filterMap_le _ _
section
variable {w : World} {B : Heap} {os : OsState} {l : List Env} {A : Around} {σ : MS} {E : Value → MS → Prop} {env : Env} {s : Shared} {k R : Addr} {ds : DS}
theorem parse_ {n : Nat} {v : List UInt8} {Q : V → MS → Prop} (hA : Ar A l (n + 1)) (G : BF w B) (hv : v ∈ okVals) (h1 : symB.isPrefixOf v = true → Q (.byt (v.drop 5)) σ) (h2 : symB.isPrefixOf v = false → E (.type "ValueError") σ) : CL w B os l A (.ref 94) [.byt v] Q E σ := by
  refine call94 hA G fun L A' hL hA' => ?_
  have hl := (okVals_len v hv).2
  refine SS.if <| TR.plain <| EV.meth mf_b_startswith <| EV.name uu rfl ⟨tyByt, SQ.cons <| EV.glob G rfl <| SQ.nil <| CL.startswith <| TU.bool ?_⟩
  cases q : symB.isPrefixOf v with
  | true =>
    rw [show List.isPrefixOf [114, 101, 102, 58, 32] v = true from q]
    refine ⟨fun _ => ?_, nb⟩
    refine SS.ret <| EV.meth mf_b_rstrip <| EV.cut <| EV.name uu rfl ⟨v, rfl, by omega, ptS <| EV.callBi G gl_len.1 gl_len.2 boot_len <| SQ.cons <| EV.glob G rfl <| SQ.nil <| CL.lenB (by decide) ⟨_, rfl, ptN ⟨tyByt, SQ.cons <| EV.byt <| SQ.nil ?_⟩⟩⟩
    first | refine cutTo (show cutB v (some ((List.length ([114, 101, 102, 58, 32] : List UInt8) : Nat) : Int)) none = v.drop 5 from cut_from v 5) ?_ | rw [show cutB v (some ((List.length ([114, 101, 102, 58, 32] : List UInt8) : Nat) : Int)) none = v.drop 5 from cut_from v 5]
    refine CL.rstrip (by rw [List.length_drop]; omega) ⟨σ, Le.fresh hL, ?_⟩
    rw [okVals_strip v hv q]; exact h1 q
  | false =>
    rw [show List.isPrefixOf [114, 101, 102, 58, 32] v = false from q]
    refine ⟨nb, fun _ => SS.nxt ?_⟩
    exact raiseX excClass_ValueError hA'.handled (nameIs_built G (by kernel_rfl!) (by kernel_rfl!) (by kernel_rfl!)) <| SQ.cons <| EV.name uu rfl <| SQ.nil ⟨by simp, σ, Le.fresh hL, h2 q⟩
theorem getsym_ {n : Nat} {Q : V → MS → Prop} (hA : Ar A l (n + 3)) (G : BF w B) (K : Kept σ k R ds) (g : Good ds) (h : ∀ a ep ys, ys.Perm (keysB ds) → σ a = none → B.get? a = none → Q (.ref a) (upd σ a (.dict (dB (madeOf (symOf ds) ys)) ep))) : CL w B os l A (.ref 201) [.ref k] Q E σ := by
  refine call201 hA G fun L A' hL hA' => ?_
  have hLe : ∀ o, Le σ (upd σ L o) := fun o => Le.fresh hL
  refine assignAt (L := L) <| evDict0 fun a ep0 ha haB => ⟨_, un ha uu, ?_⟩
  obtain ⟨ha1, haL⟩ := nu ha
  rw [← upd_comm haL, upd_upd]
  have KL : ∀ o o', Kept (upd (upd σ a o) L o') k R ds := fun o o' => (K.fr ha1).fr (by rw [upd_ne _ _ haL.symm]; exact hL)
  have hKLe : ∀ o o', Le σ (upd (upd σ a o) L o') := fun o o' => Le.over (Le.fresh ha1) hL
  refine SS.forSet hA'.frames hA'.handled rfl <| evSelf G uu rfl (KL _ _) (is229 G) <| SQ.nil <| allkeys_ hA' G (KL _ _) g fun b hb hbB => ?_
  obtain ⟨hb1, hbL⟩ := nu hb
  obtain ⟨hb2, hba⟩ := nu hb1
  refine ⟨b, keysB ds, rfl, uu, by rw [List.length_map]; have := g.size; omega, fun it ys S P hp pin hit hitB => ?_⟩
  obtain ⟨hPi, hi0⟩ := ovl_none hit
  obtain ⟨hi1, hib⟩ := nu hi0
  obtain ⟨hi2, hiL⟩ := nu hi1
  obtain ⟨hi3, hia⟩ := nu hi2
  have hyn : ys.Nodup := hp.nodup_iff.mpr g.nodup
  have hyl : ys.length ≤ 13 := by have := hp.length_eq; rw [List.length_map] at this; have := g.size; omega
  have hPL : P L = none := pin.none hbL.symm ((upd_ne _ _ hbL.symm).trans uu)
  have hPa : P a = none := pin.none hba.symm ((upd_ne _ _ hba.symm).trans ((upd_ne _ _ haL).trans uu))
  obtain ⟨J, hJ⟩ : ∃ J : Nat → MS → Prop, ∀ i τ, J i τ = (Le σ τ ∧ Le P τ ∧ τ it = some (S i) ∧ (∃ m, τ L = some (.ns m) ∧ m "self" = some (.ref k) ∧ m "ret" = some (.ref a)) ∧ ∃ ep, τ a = some (.dict (dB (madeOf (symOf ds) (ys.take i))) ep)) := ⟨_, fun _ _ => rfl⟩
  refine ⟨J, ?_, ?_, ?_⟩
  · refine (hJ _ _).mpr ⟨Le.over (pin.le hb2 ((hKLe _ _).trans (Le.fresh hb))) hi3, Le.over ovl_le hPi, uu, ⟨_, (upd_ne _ _ hiL.symm).trans (pin.keep hbL.symm ((upd_ne _ _ hbL.symm).trans uu)), rfl, rfl⟩, ep0, ?_⟩
    exact (upd_ne _ _ hia.symm).trans (pin.keep hba.symm ((upd_ne _ _ hba.symm).trans ((upd_ne _ _ haL).trans uu)))
  · intro i x τ hI hx
    rw [hJ] at hI
    obtain ⟨h1, h2, h3, ⟨m, hm, m1, m2⟩, ep, h4⟩ := hI
    refine ⟨h2, h3, AS.at (L := L) ((upd_ne _ _ hiL.symm).trans hm) ?_⟩
    obtain ⟨t1, t2⟩ := made_take (f := symOf ds) hyn hx
    have hal : ∀ o o', upd (upd τ it o) L o' a = some (.dict (dB (madeOf (symOf ds) (ys.take i))) ep) := fun o o' => by rw [upd_ne _ _ haL, upd_ne _ _ hia.symm]; exact h4
    have e1 : ∀ o o', Le σ (upd (upd τ it o) L o') := fun o o' => Le.over (Le.over h1 hi3) hL
    have e2 : ∀ o o', Le P (upd (upd τ it o) L o') := fun o o' => Le.over (Le.over h2 hPi) hPL
    have hxk : x ∈ keysB ds := hp.mem_iff.mp (List.mem_of_getElem? hx)
    obtain ⟨v, hv⟩ : ∃ v, lookB ds x = some v := by
      obtain ⟨p, hp', e⟩ := List.mem_map.mp hxk
      exact ⟨p.2, lookB_mem g.nodup (by rw [← e]; exact hp')⟩
    have hvo := g.vals _ (lookB_in hv)
    have hKept : ∀ o o', Kept (upd (upd τ it o) L o') k R ds := fun o o' => K.le (e1 o o')
    refine try_ hA'.frames rfl ?_
    refine assignAt (L := L) <| evSelf G uu m1 (hKept _ _) (is159 G) <| SQ.cons <| EV.name uu rfl <| SQ.nil <| read_ hA' G (hKept _ _) g ⟨_, uu, ?_⟩
    rw [upd_upd, hv]
    refine SS.assert <| TR.cmp <| EV.name uu rfl <| EV.none <| CM.isNotNone <| TU.bool ⟨by simp [vO], ?_⟩
    refine assignAt (L := L) <| EV.callF G (is94 G) rfl <| SQ.cons <| EV.name (v := .byt v) uu rfl <| SQ.nil <| parse_ hA' G hvo (fun q => ⟨_, uu, ?_⟩) fun q e => ?_
    · rw [upd_upd]
      refine SS.nil ?_
      refine SS.assignSub <| EV.callF G (is67 G) rfl <| SQ.cons <| EV.name uu rfl <| SQ.nil <| ref_ hA' G <| EV.name uu m2 <| EV.name uu rfl fun va vb vc hva hvb hvc => setDict hva hvb hvc ?_ (hal _ _) fun ep' => ?_
      · unfold dB; rw [List.length_map]
        have := made_len (f := symOf ds) (ys := ys.take i)
        rw [List.length_take] at this; omega
      refine SS.nil <| SS.nil ?_
      rw [setE_dB, t1 _ (by unfold symOf; rw [hv]; exact if_pos q)]
      exact (hJ _ _).mpr ⟨Le.over (e1 _ _) ha1, Le.over (e2 _ _) hPa, (upd_ne _ _ hia).trans ((upd_ne _ _ hiL).trans uu), ⟨_, (upd_ne _ _ haL.symm).trans uu, m1, m2⟩, ep', uu⟩
    · refine HB.one (c := .type "ValueError") (b := true) G (nameIs_built G (by kernel_rfl!) (by kernel_rfl!) (by kernel_rfl!)) (by kernel_rfl!) ?_
      refine SS.pass <| SS.nil <| SS.nil ?_
      have := t2 (by unfold symOf; rw [hv]; exact if_neg (by rw [q]; decide))
      exact (hJ _ _).mpr ⟨e1 _ _, e2 _ _, (upd_ne _ _ hiL).trans uu, ⟨_, uu, m1, m2⟩, ep, by rw [← this]; exact hal _ _⟩
  · intro τ hI
    rw [hJ] at hI
    obtain ⟨h1, h2, h3, ⟨m, hm, m1, m2⟩, ep, h4⟩ := hI
    rw [List.take_length] at h4
    exact ⟨h2, h3, SS.ret <| EV.name ((del_ne hiL.symm).trans hm) m2 ⟨_, Le.put (h1.del hi3) ((del_ne hia.symm).trans h4), h a ep ys hp ha1 haB⟩⟩
end
end Mine
end
section
open PySem PySem.W PySem.Calls PyProof.Rows PySem.Builtin
namespace Mine
noncomputable def leadOf (ds : DS) (x : List UInt8) : Option (List UInt8) := match followB ds x with
  | some (_, some v) => some v
  | _ => none
theorem names_strip : ∀ x ∈ namesB, stripB (([] ++ [47]) ++ x) [47] = x := by decide +kernel
section
variable {w : World} {B : Heap} {os : OsState} {l : List Env} {A : Around} {σ : MS} {E : Value → MS → Prop} {env : Env} {s : Shared} {k R : Addr} {ds : DS} {e : Addr} {cls : Value}
theorem XR.grow (X : XR w B os l e cls σ s) {h' : Heap} (k : ∀ b o, s.heap.get? b = some o → h'.get? b = some o) : XR w B os l e cls σ { s with heap := h' } := by
  obtain ⟨g, o, B₂, a0, hB, hk, hn, hfr, hkn, hx⟩ := X
  have tr : ∀ fl, s.heap.TracedAtW B₂ e cls a0 fl → Heap.TracedAtW h' B₂ e cls a0 fl := fun fl hq => by
    obtain ⟨oe, vs, T, oT, ts, h1, h2, h3, h4, h5, h6, h7, h8⟩ := hq
    exact ⟨oe, vs, T, oT, ts, k _ _ h1, h2, h3, h4, h5, h6, k _ _ h7, h8⟩
  refine ⟨g, o, B₂, a0, hB, fun b ob q => k b ob (hk b ob q), hn, hfr.of_keeps fun b o q _ => ⟨o, k b o q, rfl⟩, fun a ob q => ⟨(hkn a ob q).1, (hkn a ob q).2.imp id fun ⟨m, z, y⟩ => ⟨m, z, y.of_get (k a)⟩⟩, ?_⟩
  rcases hx with ⟨oe, vs, he, r⟩ | ht | ⟨env, l', L, h1, h2, ht⟩
  · exact .inl ⟨oe, vs, k _ _ he, r⟩
  · exact .inr (.inl (tr _ ht))
  · exact .inr (.inr ⟨env, l', L, h1, h2, tr _ ht⟩)
theorem HB.two {t1 t2 : Expr} {c1 c2 : Value} {b : Bool} {kk : Nat} {tp : Pos} {b₀ : Stmt} {suite : List Stmt} {pos : Pos} {rest : List ExceptHandler} {Q : Fl → MS → Prop} (G : BF w B) (ht1 : NameIs w B env t1 c1) (ht2 : NameIs w B env t2 c2) (hx : exmAny (Kd w.params) cls [c1, c2] = some b)
    (h : match b with | true => SS w B os l (A.mark (some (.ref e))) env (b₀ :: suite) Q (fun _ _ => False) σ | false => HB w B os l A env e cls rest Q E σ)
    (hs : backTo tp (starEach [t1, t2] env) = [t1, t2].map (fun e => (false, eval e env)) := by rfl) :
    HB w B os l A env e cls (.ExceptHandler (some (.Tuple [t1, t2] kk tp)) none (b₀ :: suite) pos :: rest) Q E σ := fun s X => by
  have R := X.rel
  refine wpAny_handleBy_cons (codeAny_handlers_test (wpAny_Tuple ?_)) (by intro q; cases q)
  rw [hs]
  refine spliced_cons (ht1 _ s _ _ R.old (spliced_cons (ht2 _ s _ _ R.old (spliced_nil ⟨by rw [sizeLine_eq]; exact Nat.le_of_ble_eq_true rfl, ?_⟩))))
  have hkeep : ∀ b o, s.heap.get? b = some o → (s.heap.push { cls := .type "tuple", data := .seq [c1, c2].toArray }).get? b = some o := fun b o q => Heap.get?_push_of_some _ q
  have X₁ := X.grow hkeep
  obtain ⟨ob, ho, hc⟩ := X₁.there
  have KI : (Kd w.params).In (s.heap.push { cls := .type "tuple", data := .seq [c1, c2].toArray }) := G.kd.keeps fun b o q => hkeep b o (R.old b o q)
  have LT : Looks (model pw w) (s.heap.push { cls := .type "tuple", data := .seq [c1, c2].toArray }) (typeOf (.ref e)) cls := by
    subst hc
    exact (Looks.ld ho).andThen .now
  refine (exm_tup2 KI LT (Heap.get?_push_size _ rfl) hx).here ?_
  cases b with
  | true =>
    rw [if_pos rfl]
    refine codeAny_handlers_suite (X₁.flight fun s' X' => ?_)
    exact wpAny_mono (h s' X'.rel) (fun f s₂ ⟨σ₂, R₂, h₂⟩ => ⟨σ₂, R₂, h₂⟩) fun v s' z => no5 z
  | false =>
    rw [if_neg (by decide)]
    exact h _ X₁
theorem keysN_ {n : Nat} {Q : V → MS → Prop} (hA : Ar A l (n + 2)) (G : BF w B) (K : Kept σ k R ds) (g : Good ds) (h : ∀ a, σ a = none → B.get? a = none → Q (.ref a) (upd σ a (.set (keysB ds)))) : CL w B os l A (.ref 123) [.ref k, .none] Q E σ := by
  refine call123_2 hA G fun L A' hL hA' => ?_
  refine SS.if <| TR.cmp <| EV.name uu rfl <| EV.none <| CM.isNotNone <| TU.bool ⟨nb, fun _ => ?_⟩
  refine SS.ret <| evSelf G uu rfl (K.fr hL) (is229 G) <| SQ.nil <| allkeys_ hA' G (K.fr hL) g fun a ha hB => ⟨_, Le.upd (Le.fresh hL), h a (nu ha).1 hB⟩
theorem asdict_ {n : Nat} {Q : V → MS → Prop} (hA : Ar A l (n + 6)) (G : BF w B) (K : Kept σ k R ds) (g : Good ds) (h : ∀ a ep ys, ys.Perm (keysB ds) → σ a = none → B.get? a = none → Q (.ref a) (upd σ a (.dict (dB (madeOf (leadOf ds) ys)) ep))) : CL w B os l A (.ref 138) [.ref k] Q E σ := by
  refine call138_1 hA G fun L A' hL hA' => ?_
  have hLe : ∀ o, Le σ (upd σ L o) := fun o => Le.fresh hL
  refine assignAt (L := L) <| evDict0 fun a ep0 ha haB => ⟨_, un ha uu, ?_⟩
  obtain ⟨ha1, haL⟩ := nu ha
  rw [← upd_comm haL, upd_upd]
  have KL : ∀ o o', Kept (upd (upd σ a o) L o') k R ds := fun o o' => (K.fr ha1).fr (by rw [upd_ne _ _ haL.symm]; exact hL)
  have hKLe : ∀ o o', Le σ (upd (upd σ a o) L o') := fun o o' => Le.over (Le.fresh ha1) hL
  refine assignAt (L := L) <| evSelf G uu rfl (KL _ _) (is123 G) <| SQ.cons <| EV.name uu rfl <| SQ.nil <| keysN_ hA' G (KL _ _) g fun b hb hbB => ?_
  obtain ⟨hb1, hbL⟩ := nu hb
  obtain ⟨hb2, hba⟩ := nu hb1
  refine ⟨_, un hb uu, ?_⟩
  refine SS.ann ?_
  refine SS.if <| TR.cmp <| EV.name uu rfl <| EV.none <| CM.isNone <| TU.bool ⟨fun _ => ?_, nb⟩
  refine assignAt (L := L) <| EV.byt ⟨_, uu, ?_⟩
  rw [upd_upd]
  refine SS.nxt ?_
  have hbk : ∀ o o' o'' o3, upd (upd (upd (upd σ a o) L o') b o'') L o3 b = some o'' := fun _ _ _ _ => (upd_ne _ _ hbL).trans uu
  have hak : ∀ o o' o'' o3, upd (upd (upd (upd σ a o) L o') b o'') L o3 a = some o := fun _ _ _ _ => (upd_ne _ _ haL).trans ((upd_ne _ _ hba.symm).trans ((upd_ne _ _ haL).trans uu))
  have hLe4 : ∀ o o' o'' o3, Le σ (upd (upd (upd (upd σ a o) L o') b o'') L o3) := fun _ _ _ _ => Le.over (Le.over (hKLe _ _) hb2) hL
  refine SS.forSet hA'.frames hA'.handled rfl <| EV.name uu rfl ?_
  refine ⟨b, keysB ds, rfl, hbk _ _ _ _, by rw [List.length_map]; have := g.size; omega, fun it ys S P hp pin hit hitB => ?_⟩
  obtain ⟨hPi, hi0⟩ := ovl_none hit
  obtain ⟨hi1, hiL⟩ := nu hi0
  obtain ⟨hi1', hib⟩ := nu hi1
  obtain ⟨hi2, hiL'⟩ := nu hi1'
  obtain ⟨hi3, hia⟩ := nu hi2
  have hyn : ys.Nodup := hp.nodup_iff.mpr g.nodup
  have hyl : ys.length ≤ 13 := by have := hp.length_eq; rw [List.length_map] at this; have := g.size; omega
  have hPL : P L = none := pin.none hbL.symm uu
  have hPa : P a = none := pin.none hba.symm (hak _ _ _ _)
  obtain ⟨J, hJ⟩ : ∃ J : Nat → MS → Prop, ∀ i τ, J i τ = (Le σ τ ∧ Le P τ ∧ τ it = some (S i) ∧ (∃ m, τ L = some (.ns m) ∧ m "self" = some (.ref k) ∧ m "ret" = some (.ref a) ∧ m "base_bytes" = some (.byt [])) ∧ ∃ ep, τ a = some (.dict (dB (madeOf (leadOf ds) (ys.take i))) ep)) := ⟨_, fun _ _ => rfl⟩
  refine ⟨J, ?_, ?_, ?_⟩
  · refine (hJ _ _).mpr ⟨Le.over (pin.le hb2 (hLe4 _ _ _ _)) hi3, Le.over ovl_le hPi, uu, ⟨_, (upd_ne _ _ hiL.symm).trans (pin.keep hbL.symm uu), rfl, rfl, rfl⟩, ep0, ?_⟩
    exact (upd_ne _ _ hia.symm).trans (pin.keep hba.symm (hak _ _ _ _))
  · intro i x τ hI hx
    rw [hJ] at hI
    obtain ⟨h1, h2, h3, ⟨m, hm, m1, m2, m3⟩, ep, h4⟩ := hI
    refine ⟨h2, h3, AS.at (L := L) ((upd_ne _ _ hiL.symm).trans hm) ?_⟩
    obtain ⟨t1, t2⟩ := made_take (f := leadOf ds) hyn hx
    have hal : ∀ o o', upd (upd τ it o) L o' a = some (.dict (dB (madeOf (leadOf ds) (ys.take i))) ep) := fun o o' => by rw [upd_ne _ _ haL, upd_ne _ _ hia.symm]; exact h4
    have e1 : ∀ o o', Le σ (upd (upd τ it o) L o') := fun o o' => Le.over (Le.over h1 hi3) hL
    have e2 : ∀ o o', Le P (upd (upd τ it o) L o') := fun o o' => Le.over (Le.over h2 hPi) hPL
    have hxk : x ∈ namesB := by
      obtain ⟨p, hp', e⟩ := List.mem_map.mp (hp.mem_iff.mp (List.mem_of_getElem? hx))
      rw [← e]; exact g.keys p hp'
    have hxl := names_len x hxk
    have hKept : ∀ o o', Kept (upd (upd τ it o) L o') k R ds := fun o o' => K.le (e1 o o')
    obtain ⟨dk, PP, epk, kk1, kk2, kk3⟩ := hKept (S (i + 1)) (.ns (put m (Str.ofString "key") (.byt x)))
    have hmiss : leadOf ds x = none → ∀ e cls, exmAny (Kd w.params) cls [.ref 84, .type "KeyError"] = some true → ∀ p1 p2 p3 p4 p5 kk, HB w B os (callEnv fd138 L 138 :: l) A' (callEnv fd138 L 138) e cls [.ExceptHandler (some (.Tuple [.Name (Str.ofString "SymrefLoop") p1, .Name (Str.ofString "KeyError") p2] kk p3)) none [.Continue p4] p5] (nx w B os (callEnv fd138 L 138 :: l) A' (callEnv fd138 L 138) [] (lp (J (i + 1)) (SS w B os (callEnv fd138 L 138 :: l) A' (callEnv fd138 L 138) (bd138.drop 5) (kBody Q) (kDn E)) (kBody Q)) (kDn E)) (kDn E) (upd (upd τ it (S (i + 1))) L (.ns (put m (Str.ofString "key") (.byt x)))) := fun hn e cls hex p1 p2 p3 p4 p5 kk => by
      refine HB.two G (nameIs_glob G rfl) (nameIs_built G (T := "KeyError") (by kernel_rfl!) (by kernel_rfl!) (by kernel_rfl!)) (b := true) hex ?_
      refine SS.cont ?_
      have := t2 hn
      exact (hJ _ _).mpr ⟨e1 _ _, e2 _ _, (upd_ne _ _ hiL).trans uu, ⟨_, uu, m1, m2, m3⟩, ep, by rw [← this]; exact hal _ _⟩
    refine try_ hA'.frames rfl ?_
    refine SS.assignSub <| EV.sub <| EV.name uu m1 <| EV.callF G (is67 G) rfl <| SQ.cons <| EV.meth mf_b_strip <| EV.binop <| EV.binop <| EV.name uu m3 <| EV.byt <| BN.addB (by decide) <| EV.name uu rfl <| BN.addB (by simp; omega) ⟨tyByt, SQ.cons <| EV.byt <| SQ.nil <| CL.strip (by simp; omega) <| SQ.nil <| ref_ hA' G ?_⟩
    rw [names_strip x hxk]
    refine SI.own (f := 180) G kk1 kk2 ?_
    refine getitem_ (n := n) hA'.in1 G (hKept _ _) g (by omega) (fun ns v hf => ?_) (fun ns hf e => ?_) (fun hf e => ?_)
    · refine EV.name uu m2 <| EV.name uu rfl fun va vb vc hva hvb hvc => setDict hva hvb hvc ?_ (hal _ _) fun ep' => ?_
      · unfold dB; rw [List.length_map]
        have := made_len (f := leadOf ds) (ys := ys.take i)
        rw [List.length_take] at this; omega
      refine SS.nil <| SS.nil <| SS.nil ?_
      rw [setE_dB, t1 v (by unfold leadOf; rw [hf])]
      exact (hJ _ _).mpr ⟨Le.over (e1 _ _) ha1, Le.over (e2 _ _) hPa, (upd_ne _ _ hia).trans ((upd_ne _ _ hiL).trans uu), ⟨_, (upd_ne _ _ haL.symm).trans uu, m1, m2, m3⟩, ep', uu⟩
    · exact hmiss (by unfold leadOf; rw [hf]) e _ (by kernel_rfl!) _ _ _ _ _ _
    · exact hmiss (by unfold leadOf; rw [hf]) e _ (by kernel_rfl!) _ _ _ _ _ _
  · intro τ hI
    rw [hJ] at hI
    obtain ⟨h1, h2, h3, ⟨m, hm, m1, m2, m3⟩, ep, h4⟩ := hI
    rw [List.take_length] at h4
    exact ⟨h2, h3, SS.ret <| EV.name ((del_ne hiL.symm).trans hm) m2 ⟨_, Le.put (h1.del hi3) ((del_ne hia.symm).trans h4), h a ep ys hp ha1 haB⟩⟩
end
end Mine
end
section
open PySem PySem.W PySem.Calls PyProof.Rows PySem.Builtin
namespace Mine
theorem among_snoc (pos : Pos) (a b : Int) (c : Value) : ∀ (l : List Value), TriplesOk l → codeAmong pos (l ++ [rawInt a, rawInt b, c]) = (codeAmong pos l).or (if (a == pos.line && b == pos.col) = true then some c else none) := by
  intro l h
  fun_induction TriplesOk l with
  | case1 => 
    show (if (a == pos.line && b == pos.col) = true then some c else codeAmong pos []) = _
    simp [codeAmong]
  | case2 i t j u c' rest ih =>
    show (if (i == pos.line && j == pos.col) = true then some c' else codeAmong pos (rest ++ [rawInt a, rawInt b, c])) = Option.or (if (i == pos.line && j == pos.col) = true then some c' else codeAmong pos rest) _
    split
    · rfl
    · exact ih h
  | case3 => exact h.elim
noncomputable def CR (q : Str) : O := .pr fun o => ∃ vs t, o.data = .fields vs ∧ vs[1]? = some (.str q t)
noncomputable def TabAt (σ : MS) (P : Addr) (q : Str) : Prop := ∃ ps : Array Value, σ P = some (PIN (tabObj ps)) ∧ TriplesOk ps.toList ∧ ∀ pos cv, codeAmong pos ps.toList = some cv → ∃ c', c' ≠ P ∧ cv = .ref c' ∧ σ c' = some (CR q)
theorem TabAt.le {τ σ : MS} {P : Addr} {q : Str} (T : TabAt τ P q) (h : Le τ σ) : TabAt σ P q := by
  obtain ⟨ps, h1, h2, h3⟩ := T
  refine ⟨ps, h _ _ h1, h2, fun pos cv e => ?_⟩
  obtain ⟨c', k1, k2, k3⟩ := h3 pos cv e
  exact ⟨c', k1, k2, h _ _ k3⟩
noncomputable def LM (q : Str) (params : Arguments) (body : Expr) (scope : Scope) (clos : List (Str × Addr)) (c' : Addr) : O := .pr fun o => ∃ pm ctv, o = kla_obj "<lambda>" q params body scope clos pm c' ctv
theorem codeRec_of {w : World} {B : Heap} {os : OsState} {l : List Env} {σ : MS} {s : Shared} (R : Rel w B os l σ s) {c : Addr} {q : Str} (h : σ c = some (CR q)) : s.heap.CodeRec (.ref c) q := by
  obtain ⟨_, o, ho, vs, t, h1, h2⟩ := R.known _ _ h
  exact ⟨c, o, vs, t, rfl, ho, h1, h2⟩
section
variable {w : World} {B : Heap} {os : OsState} {l : List Env} {A : Around} {σ : MS} {E : Value → MS → Prop} {env : Env} {s : Shared} {k R : Addr} {ds : DS} {e : Addr} {cls : Value}
theorem builtins_at (G : BF w B) (R : Rel w B os l σ s) (P : Addr) (hP4 : P ≠ 4) : ∃ mg, s.heap.Ns mainGlobals mg ∧ s.heap.BuiltinsAt mg P := by
  have h3 : B.get? 3 = some (o3 w.params) := G.ob 3 (o3 w.params) (by kernel_rfl!) (by decide) (by decide)
  have h4 : B.get? 4 = some (o4 w.params) := G.ob 4 (o4 w.params) (by kernel_rfl!) (by decide) (by decide)
  obtain ⟨mg, mb, hg, hb, n1, n2, n3⟩ := G.names
  refine ⟨mg, hg.keeps R.old, 4, o4 w.params, ?_, by decide, by decide, Ne.symm hP4, R.old _ _ h4, rfl, rfl, rfl⟩
  obtain ⟨o, es, ep, ho, hd, hk, hf⟩ := hg
  rw [show B.get? mainGlobals = some (o3 w.params) from h3] at ho
  cases ho
  have e : nsFind (match (o3 w.params).data with | .dict es _ => es | _ => #[]) (Str.ofString "__builtins__") = some (.ref 4) := by kernel_rfl!
  rw [hd] at e
  exact (hf _).symm.trans e
theorem upd_del {σ : MS} {a : Addr} {o : O} : upd (del σ a) a o = upd σ a o := by
  funext b
  by_cases q : b = a
  · subst q; rw [upd_self, upd_self]
  · rw [upd_ne _ _ q, upd_ne _ _ q, del_ne q]
theorem fresh_of (R : Rel w B os l σ s) {a : Addr} (h : s.heap.get? a = none) : σ a = none ∧ B.get? a = none ∧ a ∉ l.filterMap (·.frame) := by
  refine ⟨?_, ?_, fun hm => ?_⟩
  · cases q : σ a with
    | none => rfl
    | some o => obtain ⟨ob, ho⟩ := (R.known _ _ q).2.there; rw [h] at ho; cases ho
  · cases q : B.get? a with
    | none => rfl
    | some o => have := R.old _ _ q; rw [h] at this; cases this
  · obtain ⟨_, o, ho, _⟩ := R.frames.mem hm
    rw [h] at ho; cases ho
theorem evLambda {params : Arguments} {body : Expr} {scope : Scope} {pos : Pos} {clos : List (Str × Addr)} {P c : Addr} {q : Str} {Q : V → MS → Prop} (G : BF w B) (hT : TabAt σ P q) (hP4 : P ≠ 4)
    (h : ∀ f c' σ', σ f = none → B.get? f = none → TabAt σ' P q → (∀ a o, a ≠ P → σ a = some o → σ' a = some o) → σ' f = some (LM q params body scope clos c') → σ' c' = some (CR q) → f ≠ c' → Q (.ref f) σ')
    (hq : env.qual ++ "<lambda>" = q := by rfl) (hcl : closureFor scope env = pure clos := by rfl) (hcode : env.code = .ref c := by rfl) (hC : codeHdIn (Kd w.params) c P = true := by kernel_rfl!) (hg : env.globals = mainGlobals := by rfl)
    (hdef : defaultsOf params env = ([], []) := by rfl) : EV w B os l A env (.Lambda params body scope pos) Q E σ := fun s R => by
  refine kla_eval hdef ?_
  rw [hq]
  obtain ⟨ps, h1, h2, h3⟩ := hT
  obtain ⟨hBP, oP, hoP, rfl⟩ := R.known _ _ h1
  obtain ⟨mg, hmg, hbm⟩ := builtins_at G R P hP4
  have CH : CodeHd s.heap c P := codeHd_of_K (G.kd.keeps R.old) hC
  have hgP : mainGlobals ≠ P := fun z => by
    have h3 : B.get? 3 = some (o3 w.params) := G.ob 3 (o3 w.params) (by kernel_rfl!) (by decide) (by decide)
    rw [← z, show B.get? mainGlobals = some (o3 w.params) from h3] at hBP; cases hBP
  cases hc : codeAmong pos ps.toList with
  | some cv =>
    obtain ⟨c', k1, rfl, k3⟩ := h3 pos cv hc
    refine kla_makeFunctionHit (mg := mg) hcl hg hmg hcode CH hoP h2 hc hbm fun ctv h' tk hk hsz => ?_
    have R₁ := R.grow hk tk
    have hnone : h'.get? h'.objs.size = none := get_none { s with heap := h', toks := tk }
    have R₂ := R₁.new (a := h'.objs.size) (o := LM q params body scope clos c') (h' := h'.push (kla_obj "<lambda>" q params body scope clos ((mg "__name__").getD .none) c' ctv)) (fun b o e => Heap.get?_push_of_some _ e) hnone ⟨_, Heap.get?_push_size _ rfl, _, _, rfl⟩ tk
    have hf := fresh_of R₁ hnone
    refine ⟨_, R₂, h _ c' _ hf.1 hf.2.1 ?_ (fun a o _ e => un hf.1 e) uu (un hf.1 k3) ?_⟩
    · exact TabAt.le ⟨ps, h1, h2, h3⟩ (Le.fresh hf.1)
    · rintro z; rw [z, k3] at hf; cases hf.1
  | none =>
    refine kla_makeFunction (mg := mg) hcl hg hmg hcode CH hoP h2 hc hgP hbm fun c' ctv h' tk hx hge hlt hrec htb => ?_
    obtain ⟨c₂, oc, vs, t, e2, hoc, hd, hv⟩ := hrec
    cases e2
    have hcn : s.heap.get? c' = none := by
      cases z : s.heap.get? c' with
      | none => rfl
      | some o => exact absurd (Heap.lt_size z) (Nat.not_lt.mpr hge)
    have hcf := fresh_of R hcn
    have hcP : c' ≠ P := fun z => by rw [z, h1] at hcf; cases hcf.1
    have hPf : P ∉ l.filterMap (·.frame) := fun hm => by obtain ⟨m, z⟩ := R.nsf P _ h1 hm; cases z
    have R₁ := R.drop h1 (fun m z => by cases z) hx tk
    have R₂ := R₁.learn (a := P) (o := PIN (tabObj (ps ++ #[rawInt pos.line, rawInt pos.col, .ref c']))) hBP ⟨_, htb, rfl⟩ (fun hm => absurd hm hPf)
    rw [upd_del] at R₂
    have R₃ := R₂.learn (a := c') (o := CR q) hcf.2.1 ⟨oc, hoc, vs, t, hd, hv⟩ (fun hm => absurd hm hcf.2.2)
    have hnone : h'.get? h'.objs.size = none := get_none { s with heap := h', toks := tk }
    have hf := fresh_of R₃ hnone
    have R₄ := R₃.new (a := h'.objs.size) (o := LM q params body scope clos c') (h' := h'.push (kla_obj "<lambda>" q params body scope clos ((mg "__name__").getD .none) c' ctv)) (fun b o e => Heap.get?_push_of_some _ e) hnone ⟨_, Heap.get?_push_size _ rfl, _, _, rfl⟩ tk
    obtain ⟨f1, f2⟩ := nu hf.1
    obtain ⟨f3, f4⟩ := nu f1
    have hle : ∀ a o, a ≠ P → σ a = some o → upd (upd (upd σ P (PIN (tabObj (ps ++ #[rawInt pos.line, rawInt pos.col, .ref c'])))) c' (CR q)) h'.objs.size (LM q params body scope clos c') a = some o := fun a o ha e => by
      have a1 : a ≠ h'.objs.size := fun z => by rw [z, f3] at e; cases e
      have a2 : a ≠ c' := fun z => by rw [z, hcf.1] at e; cases e
      rw [upd_ne _ _ a1, upd_ne _ _ a2, upd_ne _ _ ha]; exact e
    refine ⟨_, R₄, h _ c' _ f3 hf.2.1 ?_ hle uu ((upd_ne _ _ f2.symm).trans uu) f2⟩
    refine ⟨ps ++ #[rawInt pos.line, rawInt pos.col, .ref c'], ?_, ?_, fun pos' cv e => ?_⟩
    · rw [upd_ne _ _ f4.symm, upd_ne _ _ hcP.symm]; exact uu
    · rw [Array.toList_append]; exact TriplesOk_snoc _ _ _ _ h2
    · rw [Array.toList_append] at e
      have e' := (among_snoc pos' pos.line pos.col (.ref c') ps.toList h2).symm.trans e
      cases z : codeAmong pos' ps.toList with
      | some cv' =>
        rw [z] at e'
        cases e'
        obtain ⟨c₃, k1, k2, k3⟩ := h3 pos' _ z
        exact ⟨c₃, k1, k2, hle _ _ k1 k3⟩
      | none =>
        rw [z] at e'
        change (if _ then some (Value.ref c') else none) = some cv at e'
        split at e'
        · cases e'; exact ⟨c', hcP, rfl, (upd_ne _ _ f2.symm).trans uu⟩
        · cases e'
end
end Mine
end
section
open PySem PySem.W PySem.Calls PyProof.Rows PySem.Builtin
namespace Mine
section
variable {w : World} {B : Heap} {os : OsState} {l : List Env} {A : Around} {σ : MS} {E : Value → MS → Prop} {env : Env} {s : Shared} {k R : Addr} {ds : DS} {e : Addr} {cls : Value}
theorem CL.lam {f c' : Addr} {q : Str} {params : Arguments} {body : Expr} {scope : Scope} {clos : List (Str × Addr)} {n : Nat} {Q : V → MS → Prop} (hA : Ar A l (n + 1)) (G : BF w B) (hf : σ f = some (LM q params body scope clos c')) (hc : σ c' = some (CR q))
    (hbind : ∀ pm ctv, bindArgs (kla_fn "<lambda>" q params body scope clos pm (.ref c') ctv) ⟨[], []⟩ = pure []) (hcell : ∀ x ∈ scope.names, x.2 ≠ .cell)
    (h : ∀ L A', σ L = Option.none → Ar A' (envX q scope L f (.ref c') clos :: l) n → EV w B os (envX q scope L f (.ref c') clos :: l) A' (envX q scope L f (.ref c') clos) body (kDnV Q) (kDn E) (upd σ L (.ns (fr []))))
    (hk : scope.kind = .function := by rfl) (hco : scope.isCoroutine = false := by rfl) (hgen : scope.isGenerator = false := by rfl) : CL w B os l A (.ref f) [] Q E σ := CL.forget fun vf vs hvf hvs s R => by
  rw [er_ref hvf, list0 hvs]
  obtain ⟨_, o, ho, pm, ctv, rfl⟩ := R.known _ _ hf
  refine wpAny_call (kla_callFunE (Nat.lt_of_le_of_lt (Nat.le_add_right _ _) hA.depth) ho rfl hco hgen rfl (codeRec_of R hc) ?_)
  rw [hbind]
  refine wpAny_pure (wpAny_newFunctionEnv hcell (by intro y hy; cases hy) (fun h₁ hns hsb => ⟨((G.lim).keeps R.old).fresh _ hsb, ?_⟩) hk)
  show codeAny _ _ (.expr body (envX q scope s.heap.objs.size f (.ref c') clos)) _ _
  have hk₁ : ∀ b o, s.heap.get? b = some o → h₁.get? b = some o := fun b o e => hsb.extBut b o (Nat.ne_of_lt (Heap.lt_size e)) (Heap.get?_push_of_some _ e)
  have hfr := R.fresh
  have hA' : Ar (A.deeper (envX q scope s.heap.objs.size f (.ref c') clos)) (envX q scope s.heap.objs.size f (.ref c') clos :: l) n := hA.deep
  have hi : IsO w h₁ s.heap.objs.size (.ns (fr [])) := ⟨_, hns, fun x => rfl⟩
  have R₁ := R.new (a := s.heap.objs.size) hk₁ (get_none s) hi (s.toks + ([] : List (Str × Value)).length)
  have R₂ : Rel w B os (envX q scope s.heap.objs.size f (.ref c') clos :: l) (upd σ s.heap.objs.size (.ns (fr []))) { s with heap := h₁, toks := s.toks + ([] : List (Str × Value)).length } := by
    obtain ⟨oL, es, ep, hL, hLd, _⟩ := hns
    refine ⟨R₁.gens, R₁.os, R₁.old, R₁.known, ⟨by rw [show (envX q scope s.heap.objs.size f (.ref c') clos).scope = scope from rfl, hk]; decide, ⟨_, oL, rfl, hfr.2, hL, fun vs e => by rw [hLd] at e; cases e⟩, R₁.frames⟩, fun a o e hm => ?_⟩
    rcases List.mem_cons.mp hm with rfl | hm
    · rw [upd_self] at e; cases e; exact ⟨_, rfl⟩
    · exact R₁.nsf a o e hm
  refine kla_codeExpr (wpAny_mono (h _ _ hfr.1 hA' _ R₂) (fun v s' ⟨σ', R', q⟩ => ⟨σ', R'.pop, q⟩) fun v s' hq1 => ?_)
  obtain ⟨e, c, σ', hv, X, z⟩ := hq1
  subst hv
  exact XR.leave (A := A.deeper (envX q scope s.heap.objs.size f (.ref c') clos)) hA'.frames rfl X fun s'' X' => ⟨e, c, σ', rfl, X', z⟩
theorem EV.callLam {x : Str} {p pos : Pos} {f c' : Addr} {q : Str} {params : Arguments} {body : Expr} {scope : Scope} {clos : List (Str × Addr)} {m : Str → Option V} {Q : V → MS → Prop} (hσ : σ env.locals = some (.ns m)) (hv : m x = some (.ref f)) (hf : σ f = some (LM q params body scope clos c'))
    (h : CL w B os l A (.ref f) [] Q E σ) (hs : backTo pos (starEach [] env) = [] := by rfl)
    (hk : env.scope.kind = .function := by rfl) (hl : env.kindOf x = some .local := by rfl) (hd : (x == ("__debug__" : Str)) = false := by decide) : EV w B os l A env (.Call (.Name x p) [] [] pos) Q E σ := fun s R => by
  refine wpAny_Call_NameR (wpAny_mono (EV.name (Q := fun v σ₁ => v = .ref f ∧ σ₁ = σ) hσ hv ⟨rfl, rfl⟩ hk hl hd s R) (fun v s₁ hq1 => ?_) fun _ _ x => x)
  obtain ⟨σ₁, R₁, hv₁, hσ⟩ := hq1
  subst hσ
  rw [er_ref hv₁, hs]
  obtain ⟨_, o, ho, pm, ctv, rfl⟩ := R₁.known _ _ hf
  exact Calls.callWith_function (evalArgs_nil3 ⟨⟨ho, rfl⟩, h _ [] rfl rfl s₁ R₁⟩)
end
end Mine
end
section
open PySem PySem.W PySem.Calls PyProof.Rows PySem.Builtin
namespace Mine
section
variable {w : World} {B : Heap} {os : OsState} {l : List Env} {A : Around} {σ : MS} {E : Value → MS → Prop} {env : Env} {s : Shared} {k R : Addr} {ds : DS} {e : Addr} {cls : Value}
theorem lawset_ {n : Nat} {x v : List UInt8} {Q : V → MS → Prop} (hA : Ar A l (n + 7)) (G : BF w B) (K : Kept σ k R ds) (g : Good ds) (hx : x ∈ namesB) (hv : v ∈ valsB)
    (h0 : valuedB v = false → E (.type "ValueError") σ) (h2 : valuedB v = true → namedB x = false → E (.ref 31) σ)
    (h3 : valuedB v = true → namedB x = true → ∀ ep', Q (.str "set") (upd σ R (.dict (dB (setB ds x v)) ep'))) : CL w B os l A (.ref 350) [.ref k, .byt x, .byt v] Q E σ := by
  refine call350 hA G fun L A' hL hA' => ?_
  have hLe : ∀ o, Le σ (upd σ L o) := fun o => Le.fresh hL
  obtain ⟨dk, P, ep, k1, k2, k3⟩ := id K
  have hRL : R ≠ L := ne_of_none hL k3
  refine SS.assignSub <| EV.name uu rfl <| EV.name uu rfl <| EV.name uu rfl fun a b c ha hb hc => setOwn (f := 187) G ha hb hc (un hL k1) (un hL k2) <| setitem_ hA' G (K.fr hL) g hx hv (fun q => ⟨σ, hLe _, h0 q⟩) (fun q q2 => ⟨σ, hLe _, h2 q q2⟩) fun q q2 ep' => ?_
  refine SS.ret <| EV.str ⟨_, ?_, h3 q q2 ep'⟩
  rw [upd_comm hRL.symm]
  exact Le.fresh (by rw [upd_ne _ _ hRL.symm]; exact hL)
theorem lawout_ {n : Nat} {x : List UInt8} {Q : V → MS → Prop} (hA : Ar A l (n + 3)) (G : BF w B) (K : Kept σ k R ds) (g : Good ds) (h3 : ∀ ep', Q (.str "out") (upd σ R (.dict (dB (delB ds x)) ep'))) : CL w B os l A (.ref 357) [.ref k, .byt x] Q E σ := by
  refine call357 hA G fun L A' hL hA' => ?_
  obtain ⟨dk, P, ep, k1, k2, k3⟩ := id K
  have hRL : R ≠ L := ne_of_none hL k3
  refine SS.del <| EV.name uu rfl <| EV.name uu rfl fun a b ha hb => delOwn (f := 194) G ha hb (un hL k1) (un hL k2) <| delitem_ hA' G (K.fr hL) g fun ep' => ?_
  refine SS.ret <| EV.str ⟨_, ?_, h3 ep'⟩
  rw [upd_comm hRL.symm]
  exact Le.fresh (by rw [upd_ne _ _ hRL.symm]; exact hL)
noncomputable def SaysOf (c : Value) (t : Str) : Prop := (c = .type "ValueError" ∧ t = "value") ∨ (c = .ref 31 ∧ t = "name") ∨ (c = .ref 84 ∧ t = "loop") ∨ (c = .type "KeyError" ∧ t = "none")
theorem answer_ {n : Nat} {f c' : Addr} {q : Str} {params : Arguments} {body : Expr} {scope : Scope} {clos : List (Str × Addr)} {Q : V → MS → Prop} (hA : Ar A l (n + 1)) (G : BF w B) (hf : σ f = some (LM q params body scope clos c'))
    (h : ∀ L A', σ L = none → Ar A' (callEnv fd343 L 343 :: l) n → CL w B os (callEnv fd343 L 343 :: l) A' (.ref f) [] (kDnV Q) (fun c σ' => ∃ t, SaysOf c t ∧ Dn (Q (.str t)) σ') (upd σ L (.ns (fr [(Str.ofString "action", .ref f)])))) : CL w B os l A (.ref 343) [.ref f] Q E σ := by
  refine call343 hA G fun L A' hL hA' => ?_
  refine try_ hA'.frames rfl <| SS.ret <| EV.callLam uu rfl (un hL hf) <| CL.mono (h L A' hL hA') (fun v σ₁ z => z) fun c σ₁ hq1 e => ?_
  obtain ⟨t, ht, z⟩ := hq1
  rcases ht with ⟨rfl, rfl⟩ | ⟨rfl, rfl⟩ | ⟨rfl, rfl⟩ | ⟨rfl, rfl⟩
  · refine HB.one (c := .type "ValueError") (b := true) G (nameIs_built G (by kernel_rfl!) (by kernel_rfl!) (by kernel_rfl!)) (by kernel_rfl!) ?_
    exact SS.ret <| EV.str z
  · refine HB.one (c := .type "ValueError") (b := false) G (nameIs_built G (by kernel_rfl!) (by kernel_rfl!) (by kernel_rfl!)) (by kernel_rfl!) ?_
    refine HB.one (c := .ref 31) (b := true) G (nameIs_glob G rfl) (by kernel_rfl!) ?_
    exact SS.ret <| EV.str z
  · refine HB.one (c := .type "ValueError") (b := false) G (nameIs_built G (by kernel_rfl!) (by kernel_rfl!) (by kernel_rfl!)) (by kernel_rfl!) ?_
    refine HB.one (c := .ref 31) (b := false) G (nameIs_glob G rfl) (by kernel_rfl!) ?_
    refine HB.one (c := .ref 84) (b := true) G (nameIs_glob G rfl) (by kernel_rfl!) ?_
    exact SS.ret <| EV.str z
  · refine HB.one (c := .type "ValueError") (b := false) G (nameIs_built G (by kernel_rfl!) (by kernel_rfl!) (by kernel_rfl!)) (by kernel_rfl!) ?_
    refine HB.one (c := .ref 31) (b := false) G (nameIs_glob G rfl) (by kernel_rfl!) ?_
    refine HB.one (c := .ref 84) (b := false) G (nameIs_glob G rfl) (by kernel_rfl!) ?_
    refine HB.one (c := .type "KeyError") (b := true) G (nameIs_built G (by kernel_rfl!) (by kernel_rfl!) (by kernel_rfl!)) (by kernel_rfl!) ?_
    exact SS.ret <| EV.str z
end
end Mine
end
section
open PySem PySem.W PySem.Calls PyProof.Rows PySem.Builtin
namespace Mine
theorem bool_index : typeLookup (.type "bool") (Str.ofString "__index__") = pure (some (.builtin "int.__index__")) := by rw [typeLookup_type, builtinLookup_eq_fast]; kernel_rfl
section
variable {w : World} {B : Heap} {os : OsState} {l : List Env} {A : Around} {σ : MS} {E : Value → MS → Prop} {env : Env} {s : Shared} {k R : Addr} {ds : DS} {e : Addr} {cls : Value}
theorem getItem_list_bool {l : Addr} {items : Array Value} {b : Bool} {x : Value} {Q : Value → Shared → Prop} {E : Value → Shared → Prop} (hl : s.heap.IsList l items)
    (hx : items[(if b then 1 else 0 : Nat)]? = some x) (h : Q x s) : wpAny (model pw w) A (getItem (.ref l) (.bool b)) Q E s := by
  obtain ⟨o, ho, hc, ne, hd⟩ := id hl
  unfold getItem
  try with_reducible refine wpAny_holding ?_
  first | refine wpAny_bind (wpAny_pure ?_) | skip
  refine wpAny_bind (wpAny_sequenceKey hl.typeIs (by decide) ?_)
  refine wpAny_bind (wpAny_callSpecial?_slot (name := Str.ofString "__getitem__") hl.typeIs slot_list_getitem
    (wpAny_call_entry slot_list_getitem hl.typeIs entry_list_getitem ?_ (args_list_getitem _ _)))
  show wpAny _ _ (Builtin.List.listSubscript? (.bool b) >>= _) _ _ s
  refine wpAny_bind ?_
  unfold Builtin.List.listSubscript?
  refine wpAny_bind (wpAny_specialOf (T := "bool") (PySem.typeIs_bool s b) bool_index ?_)
  show wpAny _ _ (asIndex (.bool b) >>= _) _ _ s
  refine wpAny_bind (wpAny_of_eq (a := if b then (1 : Int) else 0) rfl ?_)
  have hfit : Builtin.List.listFitsIndex (if b then (1 : Int) else 0) = true := by cases b <;> decide
  show wpAny _ _ (if (!Builtin.List.listFitsIndex (if b then (1 : Int) else 0)) = true then _ else _) _ _ s
  rw [if_neg (by rw [hfit]; decide)]
  refine wpAny_pure ?_
  clear hfit
  cases b
  · have hx' : items[0]? = some x := hx
    show wpAny _ _ ((seqItemAt l 0 >>= fun r => pure (r.map (0, ·))) >>= _) _ _ s
    refine wpAny_bind (wpAny_bind (wpAny_seqItemAt ho hd (wpAny_pure ?_)))
    rw [hx']
    first
      | exact wpAny_bind (wpAny_pure (wpAny_pure ⟨x, rfl, wpAny_pure h⟩))
      | exact wpAny_pure ⟨x, rfl, wpAny_pure h⟩
  · have hx' : items[1]? = some x := hx
    show wpAny _ _ ((seqItemAt l 1 >>= fun r => pure (r.map (1, ·))) >>= _) _ _ s
    refine wpAny_bind (wpAny_bind (wpAny_seqItemAt ho hd (wpAny_pure ?_)))
    rw [hx']
    first
      | exact wpAny_bind (wpAny_pure (wpAny_pure ⟨x, rfl, wpAny_pure h⟩))
      | exact wpAny_pure ⟨x, rfl, wpAny_pure h⟩
theorem SI.listBool {x y : Expr} {a : Addr} {xs : List V} {b : Bool} {v : V} {Q : V → MS → Prop} (ha : σ a = some (.list xs)) (hx : xs[(if b then 1 else 0 : Nat)]? = some v) (h : Q v σ)
    (hs : subscripted y false (.ref a) (.bool b) = operate [.ref a, .bool b] (getItem (.ref a) (.bool b)) := by with_unfolding_all rfl) : SI w B os l A x y (.ref a) (.bool b) Q E σ := fun va vb ha' hb s R => by
  rw [er_bool hb, er_ref ha']
  obtain ⟨_, vs, n, hx', rfl⟩ := R.known _ _ ha
  have hl := IsL.isList hx'
  rw [List.getElem?_map] at hx
  obtain ⟨v', hv', rfl⟩ := Option.map_eq_some_iff.mp hx
  exact tail_any hl.typeIs slot_list_getitem.lookup (getItem_list_bool hl (by simpa using hv') ⟨σ, R, h⟩) hs
end
end Mine
end
section
open PySem PySem.W PySem.Calls PyProof.Rows PySem.Builtin
set_option maxHeartbeats 2000000
namespace Mine
theorem nextV_bounds (ns : List Int) (q : Int) (p : Nat) {size : Int} (h : 0 < size) : 0 ≤ nextV ns q p size ∧ nextV ns q p size < size := by
  unfold nextV
  split <;> exact ⟨Int.fmod_nonneg_of_pos _ h, Int.fmod_lt_of_pos _ h⟩
noncomputable abbrev stL (scr : Addr) (p : Nat) (q : Int) : O := .list [.ref scr, .int p, .int q]
section
variable {w : World} {B : Heap} {os : OsState} {l : List Env} {A : Around} {σ : MS} {E : Value → MS → Prop} {env : Env} {s : Shared} {k R : Addr} {ds : DS} {e : Addr} {cls : Value}
theorem nextN_ {n : Nat} {st scr : Addr} {ns : List Int} {p : Nat} {q : Int} {size : Nat} {Q : V → MS → Prop} (hA : Ar A l (n + 1)) (G : BF w B) (h1 : σ st = some (stL scr p q)) (h2 : σ scr = some (.list (ns.map V.int)))
    (hp : p < 1000000) (hns : ns.length ≤ 60) (hz : 0 < size) (h : ∀ v : Nat, v < size → Q (.int v) (upd σ st (stL scr (p + 1) q))) : CL w B os l A (.ref 298) [.ref st, .int size] Q E σ := by
  refine next_ hA G h1 h2 hp hns (by omega) ?_
  obtain ⟨b1, b2⟩ := nextV_bounds ns q p (show (0 : Int) < size by omega)
  obtain ⟨v, hv⟩ := Int.eq_ofNat_of_zero_le b1
  rw [hv] at b2 ⊢
  exact h v (by omega)
theorem scr_ne {st scr : Addr} {ns : List Int} {p : Nat} {q : Int} (h1 : σ st = some (stL scr p q)) (h2 : σ scr = some (.list (ns.map V.int))) : scr ≠ st := by
  rintro rfl; rw [h1] at h2
  have := congrArg (fun o => match o with | some (O.list (x :: _)) => x | _ => V.none) h2
  cases ns <;> simp at this
theorem six {v : Nat} (h : v < 6) : v = 0 ∨ v = 1 ∨ v = 2 ∨ v = 3 ∨ v = 4 ∨ v = 5 := (by decide : ∀ v : Fin 6, v.1 = 0 ∨ v.1 = 1 ∨ v.1 = 2 ∨ v.1 = 3 ∨ v.1 = 4 ∨ v.1 = 5) ⟨v, h⟩
theorem value_ {n : Nat} {st scr : Addr} {ns : List Int} {p : Nat} {q : Int} {Q : V → MS → Prop} (hA : Ar A l (n + 2)) (G : BF w B) (h1 : σ st = some (stL scr p q)) (h2 : σ scr = some (.list (ns.map V.int)))
    (hp : p < 900000) (hns : ns.length ≤ 60) (h : ∀ x p', x ∈ valsB → p' ≤ p + 2 → Q (.byt x) (upd σ st (stL scr p' q))) : CL w B os l A (.ref 310) [.ref st] Q E σ := by
  refine call310 hA G fun L A' hL hA' => ?_
  have hsc := scr_ne h1 h2
  have e1 : st ≠ L := ne_of_none hL h1
  have e2 : scr ≠ L := ne_of_none hL h2
  refine assignAt (L := L) <| EV.callF G (is298 G) rfl <| SQ.cons <| EV.name uu rfl <| SQ.cons <| EV.int <| SQ.nil <| nextN_ (size := 6) hA' G (un hL h1) (un hL h2) (by omega) hns (by decide) fun v hv => ⟨_, (upd_ne _ _ e1.symm).trans uu, ?_⟩
  rw [← upd_comm e1, upd_upd]
  generalize hτ : upd σ st (stL scr (p + 1) q) = τ
  have hτs : τ st = some (stL scr (p + 1) q) := by rw [← hτ]; exact uu
  have hτc : τ scr = some (.list (ns.map V.int)) := by rw [← hτ, upd_ne _ _ hsc]; exact h2
  have hτL : τ L = none := by rw [← hτ, upd_ne _ _ e1.symm]; exact hL
  have hQ : ∀ x, x ∈ valsB → Q (.byt x) τ := fun x hx => by rw [← hτ]; exact h x (p + 1) hx (by omega)
  refine SS.if <| TR.cmp <| EV.name uu rfl <| EV.int <| CM.ltI <| TU.bool ?_
  have h6 := six hv
  have small : ∀ (y : List UInt8) (i : Nat), v = i → i < 3 → ([[48], [97], [70]] : List (List UInt8))[i]? = some y → (List.replicate 40 y).flatten ∈ valsB → decide ((v : Int) < 3) = true ∧
      SS w B os (callEnv fd310 L 310 :: l) A' (callEnv fd310 L 310) (match bd310.drop 1 with | .If _ b _ _ :: _ => b | _ => []) (nx w B os (callEnv fd310 L 310 :: l) A' (callEnv fd310 L 310) (bd310.drop 2) (kBody Q) (kDn E)) (kDn E) (upd τ L (.ns (put (fr [(Str.ofString "state", .ref st)]) (Str.ofString "kind") (.int (v : Nat))))) := by
    intro y i hvi hi hy hin
    refine ⟨decide_eq_true (by omega), ?_⟩
    have hyl : y ≠ [] ∧ y.length ≤ 1000 := by
      have : y ∈ ([[48], [97], [70]] : List (List UInt8)) := List.mem_of_getElem? hy
      simp at this
      rcases this with rfl | rfl | rfl <;> simp
    refine SS.ret <| EV.binop <| EV.sub <| evList <| SQ.cons <| EV.byt <| SQ.cons <| EV.byt <| SQ.cons <| EV.byt <| SQ.nil ⟨by decide, fun a ha hB => ?_⟩
    refine EV.name (un ha uu) rfl <| SI.list (v := .byt y) uu (by omega) (by omega) ?_ <| EV.int <| BN.mulB hyl.1 (by decide) (by decide) hyl.2 ?_
    · rw [Int.toNat_natCast, hvi]
      have := congrArg (Option.map V.byt) hy
      rw [← List.getElem?_map] at this
      exact this
    · exact ⟨τ, (Le.fresh hτL).trans (Le.fresh ha), hQ _ hin⟩
  rcases h6 with h6 | h6 | h6 | h6 | h6 | h6
  · obtain ⟨z1, z2⟩ := small _ 0 h6 (by decide) rfl (by decide +kernel)
    rw [z1]; exact ⟨fun _ => z2, nb⟩
  · obtain ⟨z1, z2⟩ := small _ 1 h6 (by decide) rfl (by decide +kernel)
    rw [z1]; exact ⟨fun _ => z2, nb⟩
  · obtain ⟨z1, z2⟩ := small _ 2 h6 (by decide) rfl (by decide +kernel)
    rw [z1]; exact ⟨fun _ => z2, nb⟩
  · subst h6
    refine ⟨nb, fun _ => SS.nxt ?_⟩
    refine SS.if <| TR.cmp <| EV.name uu rfl <| EV.int <| CM.eqI <| TU.bool ⟨fun _ => ?_, nb⟩
    exact SS.ret <| EV.binop <| EV.byt <| EV.int <| BN.mulB (by decide) (by decide) (by decide) (by decide) ⟨τ, Le.fresh hτL, hQ _ (by decide +kernel)⟩
  all_goals
    have hcmp : ∀ a : Addr, True := fun _ => trivial
    refine ⟨fun z => (by exact absurd (of_decide_eq_true z) (by omega)), fun _ => SS.nxt ?_⟩
    refine SS.if <| TR.cmp <| EV.name uu rfl <| EV.int <| CM.eqI <| TU.bool ⟨fun z => (by exact absurd (beq_iff_eq.mp z) (by omega)), fun _ => SS.nxt ?_⟩
    refine SS.ret <| EV.sub <| evList <| SQ.cons <| EV.binop <| EV.byt <| EV.sub <| EV.callF G (is290 G) rfl <| SQ.nil <| names_ hA' G fun a ha hB => ?_
    have hsa : st ≠ a := ne_of_none ha ((upd_ne _ _ e1).trans hτs)
    have hca : scr ≠ a := ne_of_none ha ((upd_ne _ _ e2).trans hτc)
    have hLa : L ≠ a := ne_of_none ha uu
    refine EV.callF G (is298 G) rfl <| SQ.cons <| EV.name (un ha uu) rfl <| SQ.cons <| EV.int <| SQ.nil <| nextN_ (size := 5) hA' G (un ha ((upd_ne _ _ e1).trans hτs)) (un ha ((upd_ne _ _ e2).trans hτc)) (by omega) hns (by decide) fun u hu => ?_
    obtain ⟨y, hy⟩ : ∃ y, namesB[u]? = some y := ⟨_, List.getElem?_eq_getElem (Nat.lt_of_lt_of_le hu (by decide))⟩
    have hyn : y ∈ namesB.take 5 := List.mem_of_getElem? (by rw [List.getElem?_take, if_pos hu]; exact hy)
    have hyl := names_len y (List.mem_of_mem_take hyn)
    refine SI.list (v := .byt y) ((upd_ne _ _ hsa.symm).trans uu) (by omega) (by omega) (by rw [Int.toNat_natCast, List.getElem?_map, hy]; rfl) <| BN.addB (by simp; omega) <| SQ.cons <| EV.byt <| SQ.nil ⟨by simp, fun b hb hbB => ?_⟩
    have hyv : symB ++ y ∈ valsB := by
      unfold valsB
      exact List.mem_append_left _ (List.mem_append_right _ (List.mem_map_of_mem hyn))
    have hLs : upd (upd (upd τ L (.ns (put (fr [(Str.ofString "state", .ref st)]) (Str.ofString "kind") (.int (v : Nat))))) a (.list (namesB.map V.byt))) st (stL scr (p + 1 + 1) q) L = some (.ns (put (fr [(Str.ofString "state", .ref st)]) (Str.ofString "kind") (.int (v : Nat)))) := (upd_ne _ _ e1.symm).trans ((upd_ne _ _ hLa).trans uu)
    obtain ⟨hb1, hb2⟩ := nu hb
    obtain ⟨hb3, hb4⟩ := nu hb1
    have hLeB : Le (upd σ st (stL scr (p + 1 + 1) q)) (upd (upd (upd (upd τ L (.ns (put (fr [(Str.ofString "state", .ref st)]) (Str.ofString "kind") (.int (v : Nat))))) a (.list (namesB.map V.byt))) st (stL scr (p + 1 + 1) q)) b (.list [.byt ([114, 101, 102, 58, 32] ++ y), .byt [97, 98, 99]])) := by
      have z1 : Le τ (upd (upd τ L (.ns (put (fr [(Str.ofString "state", .ref st)]) (Str.ofString "kind") (.int (v : Nat))))) a (.list (namesB.map V.byt))) := (Le.fresh hτL).trans (Le.fresh ha)
      have z2 := (Le.upd (a := st) (o := stL scr (p + 1 + 1) q) z1).trans (Le.fresh (o := .list [.byt ([114, 101, 102, 58, 32] ++ y), .byt [97, 98, 99]]) hb)
      rw [← hτ, upd_upd] at z2
      rw [← hτ]; exact z2
    have hQ2 : ∀ x, x ∈ valsB → Q (.byt x) (upd σ st (stL scr (p + 1 + 1) q)) := fun x hx => h x (p + 1 + 1) hx (by omega)
    refine EV.cmp <| EV.name (un hb hLs) rfl <| EV.int <| CM.eqI ?_
    subst h6
  · exact SI.listBool (b := false) (v := .byt (symB ++ y)) uu rfl ⟨_, hLeB, hQ2 _ hyv⟩
  · exact SI.listBool (b := true) (v := .byt [97, 98, 99]) uu rfl ⟨_, hLeB, hQ2 _ (by decide +kernel)⟩
end
end Mine
end
section
open PySem PySem.W PySem.Calls PyProof.Rows PySem.Builtin
set_option maxHeartbeats 1000000
namespace Mine
theorem fr_ite {x a : Str} {v : Value} {o : Option Value} {r : List (Str × V)} (h : o.map er = fr r x) : Option.map er (if x = a then some v else o) = fr ((a, er v) :: r) x := by
  by_cases q : x = a
  · subst q; rw [if_pos rfl]; simp [fr]
  · rw [if_neg q, h]
    show List.lookup x r = List.lookup x ((a, er v) :: r)
    rw [List.lookup_cons, beq_eq_false_iff_ne.mpr q]
section
variable {w : World} {B : Heap} {os : OsState} {l : List Env} {A : Around} {σ : MS} {E : Value → MS → Prop} {env : Env} {s : Shared} {k R : Addr} {ds : DS} {e : Addr} {cls : Value}
theorem CM.notInD {d : Addr} {es : List (List UInt8 × V)} {ep : Nat} {k : List UInt8} {Q : V → MS → Prop} (G : BF w B) (hd : σ d = some (.dict es ep)) (h : Q (.bool (!(getE es k).isSome)) σ) : CM w B os l A .NotIn (.byt k) (.ref d) Q E σ := fun va vb ha hb s R => by
  obtain ⟨t, rfl⟩ := er_byt ha
  rw [er_ref hb]
  obtain ⟨hB, kvs, hD, rfl⟩ := R.known _ _ hd
  refine wpAny_notIn_of (bytesKind_is pw w k t) (not_sys G hB) hD.dictOf.mapOf ⟨σ, R.toks _, ?_⟩
  rw [← getE_eq, Option.isSome_map] at h
  exact h
theorem CM.isBool {a b : Bool} {Q : V → MS → Prop} (h : Q (.bool (a == b)) σ) : CM w B os l A .Is (.bool a) (.bool b) Q E σ := fun va vb ha hb s R => by
  rw [er_bool ha, er_bool hb]; exact is_bool ⟨σ, R, h⟩
theorem CM.isStrBool {a : Str} {b : Bool} {Q : V → MS → Prop} (h : Q (.bool false) σ) : CM w B os l A .Is (.str a) (.bool b) Q E σ := fun va vb ha hb s R => by
  obtain ⟨t, rfl⟩ := er_str ha
  rw [er_bool hb]
  exact wpAny_pure (a := Value.bool (Value.str a t == Value.bool b)) ⟨σ, R, by
    have : (Value.str a t == Value.bool b) = false := by rfl
    rw [this]; exact h⟩
noncomputable abbrev cells5 (L : Addr) : List (Str × Addr) := [("value", L + 5), ("other", L + 4), ("old", L + 3), ("name", L + 2), ("kept", L + 1)]
theorem call364 {n : Nat} {x0 x1 x2 : V} {Q : V → MS → Prop} (hA : Ar A l (n + 1)) (G : BF w B)
    (h : ∀ L A', σ L = none → (∀ c, L ≤ c → σ c = none) → Ar A' (callEnvC fd364 L 364 :: l) n → SS w B os (callEnvC fd364 L 364 :: l) A' (callEnvC fd364 L 364) bd364 (kBody Q) (kDn E)
      (upd (upd (upd (upd (upd (upd σ L (.ns (fr [("model", x2), ("state", x0)]))) (L + 1) (CE (some x1))) (L + 2) (CE none)) (L + 3) (CE none)) (L + 4) (CE none)) (L + 5) (CE none))) :
    CL w B os l A (.ref 364) [x0, x1, x2] Q E σ := by
  refine CL.defC (m := fr [("model", x2), ("state", x0)]) (cm := fr [("kept", x1)]) hA G (is364 G) rfl (fun vs hv => ?_) (fun L n c h => ?_) h
  · obtain ⟨v0, v1, v2, rfl, rfl, rfl, rfl⟩ := list3 hv
    refine ⟨[("state", v0), ("kept", v1), ("model", v2)], by kernel_rfl!, fun L x hx => ?_, fun L x => ?_, fun L x => ?_⟩
    · simp only [List.mem_cons, List.not_mem_nil, or_false] at hx
      rcases hx with rfl | rfl | rfl
      · exact .inl (by show fd364.scope.names.lookup (Str.ofString "state") = _; decide +kernel)
      · exact .inr ⟨by show fd364.scope.names.lookup (Str.ofString "kept") = _; decide +kernel, by rfl⟩
      · exact .inl (by show fd364.scope.names.lookup (Str.ofString "model") = _; decide +kernel)
    · show Option.map er (if x = Str.ofString "model" then some v2 else if x = Str.ofString "state" then some v0 else none) = _
      exact fr_ite (fr_ite rfl)
    · show Option.map er (if x = Str.ofString "kept" then some v1 else none) = _
      exact fr_ite rfl
  · have e : cellsFrom (L + 1) fd364.scope.names [] = cells5 L := by rfl
    rw [e] at h ⊢
    simp only [List.mem_cons, List.not_mem_nil, or_false, Prod.mk.injEq] at h
    rcases h with ⟨rfl, rfl⟩ | ⟨rfl, rfl⟩ | ⟨rfl, rfl⟩ | ⟨rfl, rfl⟩ | ⟨rfl, rfl⟩ <;> rfl
end
end Mine
end
section
open PySem PySem.W PySem.Calls PyProof.Rows PySem.Builtin
set_option maxHeartbeats 1000000
namespace Mine
theorem an (L : Addr) (i j : Nat) (h : i ≠ j) : L + i ≠ L + j := fun e => h (Nat.add_left_cancel (n := L) e)
theorem ce_ne {P : Obj → Prop} {v : Option V} (ob : Obj) (h : P ob) (hd : ∀ ov, ob.data ≠ .cell ov) : CE v ≠ .pr P := fun e => by
  unfold CE at e
  injection e with e
  have h' := h
  rw [← e] at h'
  obtain ⟨ov, z, _⟩ := h'
  exact hd ov z
theorem ce_cr {v : Option V} {q : Str} : CE v ≠ CR q := ce_ne { cls := .none, data := .fields #[.none, .str q 0] } ⟨_, 0, rfl, rfl⟩ (fun ov z => by cases z)
theorem ce_in {v : Option V} {C dx : Addr} : CE v ≠ IN C dx := ce_ne (instObj C dx) rfl (fun ov z => by cases z)
theorem ce_id {v : Option V} {R P : Addr} : CE v ≠ ID [("_refs", .ref R), ("_peeled", .ref P)] :=
  ce_ne { cls := .type "dict", dict := none, data := .dict #[⟨0, .str (Str.ofString "_refs") 0, .ref R⟩, ⟨0, .str (Str.ofString "_peeled") 0, .ref P⟩] 0 } ⟨_, _, rfl, rfl⟩ (fun ov z => by cases z)
noncomputable def Free (τ : MS) (b : Addr) : Prop := ∀ o, τ b = some o → (∀ q, o ≠ CR q) ∧ (∀ C dx, o ≠ IN C dx) ∧ (∀ R P, o ≠ ID [("_refs", .ref R), ("_peeled", .ref P)])
theorem free_ns {τ : MS} {b : Addr} {m : Str → Option V} (h : τ b = some (.ns m)) : Free τ b := fun o e => by rw [h] at e; cases e; exact ⟨fun _ z => (by cases z), fun _ _ z => (by cases z), fun _ _ z => (by cases z)⟩
theorem free_list {τ : MS} {b : Addr} {m : List V} (h : τ b = some (.list m)) : Free τ b := fun o e => by rw [h] at e; cases e; exact ⟨fun _ z => (by cases z), fun _ _ z => (by cases z), fun _ _ z => (by cases z)⟩
theorem free_dict {τ : MS} {b : Addr} {m : List (List UInt8 × V)} {ep : Nat} (h : τ b = some (.dict m ep)) : Free τ b := fun o e => by rw [h] at e; cases e; exact ⟨fun _ z => (by cases z), fun _ _ z => (by cases z), fun _ _ z => (by cases z)⟩
theorem free_ce {τ : MS} {b : Addr} {v : Option V} (h : τ b = some (CE v)) : Free τ b := fun o e => by rw [h] at e; cases e; exact ⟨fun _ => ce_cr, fun _ _ => ce_in, fun _ _ => ce_id⟩
theorem TabAt.but {τ : MS} {P b : Addr} {q : Str} {o : O} (T : TabAt τ P q) (hb : b ≠ P) (hf : Free τ b) : TabAt (upd τ b o) P q := by
  obtain ⟨ps, h1, h2, h3⟩ := T
  refine ⟨ps, (upd_ne _ _ hb.symm).trans h1, h2, fun pos cv e => ?_⟩
  obtain ⟨c', k1, k2, k3⟩ := h3 pos cv e
  exact ⟨c', k1, k2, (upd_ne _ _ (fun z => (hf _ (z ▸ k3)).1 q rfl)).trans k3⟩
theorem Kept.but {τ : MS} {k R b : Addr} {ds : DS} {o : O} (K : Kept τ k R ds) (hb : b ≠ R) (hf : Free τ b) : Kept (upd τ b o) k R ds := by
  obtain ⟨dk, P, ep, h1, h2, h3⟩ := K
  exact ⟨dk, P, ep, (upd_ne _ _ fun z => (hf _ (z ▸ h1)).2.1 _ _ rfl).trans h1, (upd_ne _ _ fun z => (hf _ (z ▸ h2)).2.2 _ _ rfl).trans h2, (upd_ne _ _ hb.symm).trans h3⟩
noncomputable abbrev qD : Str := "_law_deed.<locals>.<lambda>"
structure D0 (σ : MS) (st scr k R M L : Addr) (ns : List Int) : Prop where
  fresh : ∀ c, L ≤ c → σ c = none
  rm : R ≠ M
  hst : ∃ o, σ st = some o
  hR : ∃ o, σ R = some o
  hM : ∃ o, σ M = some o
  hT : ∃ o, σ 359 = some o
  hscr : σ scr = some (.list (ns.map V.int))
  tst : st ≠ 359
  tR : R ≠ 359
  tM : M ≠ 359
structure D1 (σ : MS) (st scr k R M L : Addr) (ns : List Int) (q : Int) (p : Nat) (dk dm : DS) (m : Str → Option V) (c2 c3 c4 c5 : Option V) (τ : MS) : Prop where
  keep : ∀ a o, a ≠ st → a ≠ R → a ≠ M → a ≠ 359 → σ a = some o → τ a = some o
  st : τ st = some (stL scr p q)
  kept : Kept τ k R dk
  model : ∃ ep, τ M = some (.dict (dB dm) ep)
  tab : TabAt τ 359 qD
  fr : τ L = some (.ns m)
  k1 : τ (L + 1) = some (CE (some (.ref k)))
  k2 : τ (L + 2) = some (CE c2)
  k3 : τ (L + 3) = some (CE c3)
  k4 : τ (L + 4) = some (CE c4)
  k5 : τ (L + 5) = some (CE c5)
  scr : τ scr = some (.list (ns.map V.int))
section
variable {σ τ τ' : MS} {st scr k R M L : Addr} {ns : List Int} {q : Int} {p : Nat} {dk dm : DS} {m : Str → Option V} {c2 c3 c4 c5 : Option V}
theorem D1.le (D : D1 σ st scr k R M L ns q p dk dm m c2 c3 c4 c5 τ) (h : Le τ τ') : D1 σ st scr k R M L ns q p dk dm m c2 c3 c4 c5 τ' :=
  ⟨fun a o a1 a2 a3 a4 e => h _ _ (D.keep a o a1 a2 a3 a4 e), h _ _ D.st, D.kept.le h, let ⟨ep, e⟩ := D.model; ⟨ep, h _ _ e⟩, D.tab.le h, h _ _ D.fr, h _ _ D.k1, h _ _ D.k2, h _ _ D.k3, h _ _ D.k4, h _ _ D.k5, h _ _ D.scr⟩
theorem D1.fresh {a : Addr} {o : O} (D : D1 σ st scr k R M L ns q p dk dm m c2 c3 c4 c5 τ) (h : τ a = none) : D1 σ st scr k R M L ns q p dk dm m c2 c3 c4 c5 (upd τ a o) := D.le (Le.fresh h)
theorem D1.lam (D : D1 σ st scr k R M L ns q p dk dm m c2 c3 c4 c5 τ) (Z : D0 σ st scr k R M L ns) (h : ∀ a o, a ≠ 359 → τ a = some o → τ' a = some o) (hT : TabAt τ' 359 qD) : D1 σ st scr k R M L ns q p dk dm m c2 c3 c4 c5 τ' := by
  have hL : ∀ i, L + i ≠ 359 := fun i z => by
    obtain ⟨o, e⟩ := Z.hT
    rw [← z, Z.fresh _ (Nat.le_add_right _ _)] at e; cases e
  obtain ⟨ps, t1, _⟩ := D.tab
  refine ⟨fun a o a1 a2 a3 a4 e => h _ _ a4 (D.keep a o a1 a2 a3 a4 e), h _ _ Z.tst D.st, ?_, let ⟨ep, e⟩ := D.model; ⟨ep, h _ _ Z.tM e⟩, hT, h _ _ (hL 0) D.fr, h _ _ (hL 1) D.k1, h _ _ (hL 2) D.k2, h _ _ (hL 3) D.k3, h _ _ (hL 4) D.k4, h _ _ (hL 5) D.k5, h _ _ ?_ D.scr⟩
  · obtain ⟨dk, P, ep, h1, h2, h3⟩ := D.kept
    have np : ∀ {o : O}, o = PIN (tabObj ps) → (∀ C dx, o ≠ IN C dx) ∧ (∀ R P, o ≠ ID [("_refs", .ref R), ("_peeled", .ref P)]) := fun {o} e => by
      subst e
      refine ⟨fun C dx z => ?_, fun R P z => ?_⟩
      · unfold PIN IN at z; injection z with z
        have : (tabObj ps = instObj C dx) := by have := congrFun z (tabObj ps); exact this.mp rfl
        cases this
      · unfold PIN ID at z; injection z with z
        obtain ⟨arr, n, e, _⟩ := (congrFun z (tabObj ps)).mp rfl
        cases e
    exact ⟨dk, P, ep, h _ _ (fun z => by rw [z, t1] at h1; exact (np rfl).1 _ _ (Option.some.inj h1)) h1, h _ _ (fun z => by rw [z, t1] at h2; exact (np rfl).2 _ _ (Option.some.inj h2)) h2, h _ _ Z.tR h3⟩
  · intro z
    have := D.scr
    rw [z, t1] at this; cases this
theorem D1.but {b : Addr} {o : O} (D : D1 σ st scr k R M L ns q p dk dm m c2 c3 c4 c5 τ) (Z : D0 σ st scr k R M L ns) (hf : Free τ b) (bt : b ≠ 359) (bs : b ≠ scr) (bk : σ b = none ∨ b = st ∨ b = R ∨ b = M) {p' : Nat} {dk' dm' : DS} {m' : Str → Option V} {d2 d3 d4 d5 : Option V}
    (x1 : upd τ b o st = some (stL scr p' q)) (x2 : Kept (upd τ b o) k R dk') (x3 : ∃ ep, upd τ b o M = some (.dict (dB dm') ep)) (x4 : upd τ b o L = some (.ns m')) (x5 : b ≠ L + 1) (x6 : upd τ b o (L + 2) = some (CE d2)) (x7 : upd τ b o (L + 3) = some (CE d3)) (x8 : upd τ b o (L + 4) = some (CE d4)) (x9 : upd τ b o (L + 5) = some (CE d5)) :
    D1 σ st scr k R M L ns q p' dk' dm' m' d2 d3 d4 d5 (upd τ b o) :=
  ⟨fun a o' a1 a2 a3 a4 e => (upd_ne _ _ fun z => by
      subst z
      rcases bk with bk | bk | bk | bk
      · rw [bk] at e; cases e
      · exact a1 bk
      · exact a2 bk
      · exact a3 bk).trans (D.keep a o' a1 a2 a3 a4 e), x1, x2, x3, D.tab.but bt hf, x4, (upd_ne _ _ x5.symm).trans D.k1, x6, x7, x8, x9, (upd_ne _ _ bs.symm).trans D.scr⟩
theorem D0.st_lt (Z : D0 σ st scr k R M L ns) (i : Nat) : L + i ≠ st ∧ L + i ≠ R ∧ L + i ≠ M ∧ L + i ≠ 359 ∧ L + i ≠ scr := by
  have hf := Z.fresh (L + i) (Nat.le_add_right _ _)
  refine ⟨fun z => ?_, fun z => ?_, fun z => ?_, fun z => ?_, fun z => ?_⟩
  · obtain ⟨o, e⟩ := Z.hst; rw [← z, hf] at e; cases e
  · obtain ⟨o, e⟩ := Z.hR; rw [← z, hf] at e; cases e
  · obtain ⟨o, e⟩ := Z.hM; rw [← z, hf] at e; cases e
  · obtain ⟨o, e⟩ := Z.hT; rw [← z, hf] at e; cases e
  · have e := Z.hscr; rw [← z, hf] at e; cases e
theorem D1.frame {m' : Str → Option V} (D : D1 σ st scr k R M L ns q p dk dm m c2 c3 c4 c5 τ) (Z : D0 σ st scr k R M L ns) : D1 σ st scr k R M L ns q p dk dm m' c2 c3 c4 c5 (upd τ L (.ns m')) := by
  obtain ⟨z1, z2, z3, z4, z5⟩ := Z.st_lt 0
  have hf := free_ns D.fr
  exact D.but Z hf z4 z5 (.inl (Z.fresh _ (Nat.le_refl _))) ((upd_ne _ _ z1.symm).trans D.st) (D.kept.but z2 hf) (let ⟨ep, e⟩ := D.model; ⟨ep, (upd_ne _ _ z3.symm).trans e⟩) uu (by show L ≠ L + 1; exact Nat.ne_of_lt (Nat.lt_succ_self _))
    ((upd_ne _ _ (an L 2 0 (by decide))).trans D.k2) ((upd_ne _ _ (an L 3 0 (by decide))).trans D.k3) ((upd_ne _ _ (an L 4 0 (by decide))).trans D.k4) ((upd_ne _ _ (an L 5 0 (by decide))).trans D.k5)
theorem D1.setSt {p' : Nat} (D : D1 σ st scr k R M L ns q p dk dm m c2 c3 c4 c5 τ) (Z : D0 σ st scr k R M L ns) : D1 σ st scr k R M L ns q p' dk dm m c2 c3 c4 c5 (upd τ st (stL scr p' q)) := by
  have hf := free_list D.st
  have zz := fun i => (Z.st_lt i).1
  obtain ⟨ep, e⟩ := D.model
  obtain ⟨_, _, epk, _, _, ek⟩ := id D.kept
  refine D.but Z hf Z.tst (fun z => ?_) (.inr (.inl rfl)) uu (D.kept.but (fun z => ?_) hf) ⟨ep, (upd_ne _ _ fun z => ?_).trans e⟩ ((upd_ne _ _ (zz 0)).trans D.fr) (Ne.symm (zz 1)) ((upd_ne _ _ (zz 2)).trans D.k2) ((upd_ne _ _ (zz 3)).trans D.k3) ((upd_ne _ _ (zz 4)).trans D.k4) ((upd_ne _ _ (zz 5)).trans D.k5)
  · exact scr_ne D.st D.scr z.symm
  · have := D.st; rw [z, ek] at this; cases this
  · have := D.st; rw [← z, e] at this; cases this
theorem D1.setM {dm' : DS} {ep' : Nat} (D : D1 σ st scr k R M L ns q p dk dm m c2 c3 c4 c5 τ) (Z : D0 σ st scr k R M L ns) : D1 σ st scr k R M L ns q p dk dm' m c2 c3 c4 c5 (upd τ M (.dict (dB dm') ep')) := by
  obtain ⟨ep, e⟩ := D.model
  have hf := free_dict e
  have zz := fun i => (Z.st_lt i).2.2.1
  refine D.but Z hf Z.tM (fun z => ?_) (.inr (.inr (.inr rfl))) ((upd_ne _ _ fun z => ?_).trans D.st) (D.kept.but Z.rm.symm hf) ⟨ep', uu⟩ ((upd_ne _ _ (zz 0)).trans D.fr) (Ne.symm (zz 1)) ((upd_ne _ _ (zz 2)).trans D.k2) ((upd_ne _ _ (zz 3)).trans D.k3) ((upd_ne _ _ (zz 4)).trans D.k4) ((upd_ne _ _ (zz 5)).trans D.k5)
  · have := D.scr; rw [← z, e] at this; cases this
  · have := D.st; rw [z, e] at this; cases this
theorem D1.setR {dk' : DS} {ep' : Nat} (D : D1 σ st scr k R M L ns q p dk dm m c2 c3 c4 c5 τ) (Z : D0 σ st scr k R M L ns) : D1 σ st scr k R M L ns q p dk' dm m c2 c3 c4 c5 (upd τ R (.dict (dB dk') ep')) := by
  obtain ⟨_, _, epk, _, _, ek⟩ := id D.kept
  have hf := free_dict ek
  have zz := fun i => (Z.st_lt i).2.1
  obtain ⟨ep, e⟩ := D.model
  refine D.but Z hf Z.tR (fun z => ?_) (.inr (.inr (.inl rfl))) ((upd_ne _ _ fun z => ?_).trans D.st) D.kept.set ⟨ep, (upd_ne _ _ Z.rm.symm).trans e⟩ ((upd_ne _ _ (zz 0)).trans D.fr) (Ne.symm (zz 1)) ((upd_ne _ _ (zz 2)).trans D.k2) ((upd_ne _ _ (zz 3)).trans D.k3) ((upd_ne _ _ (zz 4)).trans D.k4) ((upd_ne _ _ (zz 5)).trans D.k5)
  · have := D.scr; rw [← z, ek] at this; cases this
  · have := D.st; rw [z, ek] at this; cases this
theorem D1.cell2 {v : Option V} (D : D1 σ st scr k R M L ns q p dk dm m c2 c3 c4 c5 τ) (Z : D0 σ st scr k R M L ns) : D1 σ st scr k R M L ns q p dk dm m v c3 c4 c5 (upd τ (L + 2) (CE v)) := by
  have hf := free_ce D.k2
  obtain ⟨z1, z2, z3, z4, z5⟩ := Z.st_lt 2
  exact D.but Z hf z4 z5 (.inl (Z.fresh _ (Nat.le_add_right _ _))) ((upd_ne _ _ z1.symm).trans D.st) (D.kept.but z2 hf) (let ⟨ep, e⟩ := D.model; ⟨ep, (upd_ne _ _ z3.symm).trans e⟩) ((upd_ne _ _ (an L 0 2 (by decide))).trans D.fr) (an L 2 1 (by decide))
    uu ((upd_ne _ _ (an L 3 2 (by decide))).trans D.k3) ((upd_ne _ _ (an L 4 2 (by decide))).trans D.k4) ((upd_ne _ _ (an L 5 2 (by decide))).trans D.k5)
theorem D1.cell3 {v : Option V} (D : D1 σ st scr k R M L ns q p dk dm m c2 c3 c4 c5 τ) (Z : D0 σ st scr k R M L ns) : D1 σ st scr k R M L ns q p dk dm m c2 v c4 c5 (upd τ (L + 3) (CE v)) := by
  have hf := free_ce D.k3
  obtain ⟨z1, z2, z3, z4, z5⟩ := Z.st_lt 3
  exact D.but Z hf z4 z5 (.inl (Z.fresh _ (Nat.le_add_right _ _))) ((upd_ne _ _ z1.symm).trans D.st) (D.kept.but z2 hf) (let ⟨ep, e⟩ := D.model; ⟨ep, (upd_ne _ _ z3.symm).trans e⟩) ((upd_ne _ _ (an L 0 3 (by decide))).trans D.fr) (an L 3 1 (by decide))
    ((upd_ne _ _ (an L 2 3 (by decide))).trans D.k2) uu ((upd_ne _ _ (an L 4 3 (by decide))).trans D.k4) ((upd_ne _ _ (an L 5 3 (by decide))).trans D.k5)
theorem D1.cell4 {v : Option V} (D : D1 σ st scr k R M L ns q p dk dm m c2 c3 c4 c5 τ) (Z : D0 σ st scr k R M L ns) : D1 σ st scr k R M L ns q p dk dm m c2 c3 v c5 (upd τ (L + 4) (CE v)) := by
  have hf := free_ce D.k4
  obtain ⟨z1, z2, z3, z4, z5⟩ := Z.st_lt 4
  exact D.but Z hf z4 z5 (.inl (Z.fresh _ (Nat.le_add_right _ _))) ((upd_ne _ _ z1.symm).trans D.st) (D.kept.but z2 hf) (let ⟨ep, e⟩ := D.model; ⟨ep, (upd_ne _ _ z3.symm).trans e⟩) ((upd_ne _ _ (an L 0 4 (by decide))).trans D.fr) (an L 4 1 (by decide))
    ((upd_ne _ _ (an L 2 4 (by decide))).trans D.k2) ((upd_ne _ _ (an L 3 4 (by decide))).trans D.k3) uu ((upd_ne _ _ (an L 5 4 (by decide))).trans D.k5)
theorem D1.cell5 {v : Option V} (D : D1 σ st scr k R M L ns q p dk dm m c2 c3 c4 c5 τ) (Z : D0 σ st scr k R M L ns) : D1 σ st scr k R M L ns q p dk dm m c2 c3 c4 v (upd τ (L + 5) (CE v)) := by
  have hf := free_ce D.k5
  obtain ⟨z1, z2, z3, z4, z5⟩ := Z.st_lt 5
  exact D.but Z hf z4 z5 (.inl (Z.fresh _ (Nat.le_add_right _ _))) ((upd_ne _ _ z1.symm).trans D.st) (D.kept.but z2 hf) (let ⟨ep, e⟩ := D.model; ⟨ep, (upd_ne _ _ z3.symm).trans e⟩) ((upd_ne _ _ (an L 0 5 (by decide))).trans D.fr) (an L 5 1 (by decide))
    ((upd_ne _ _ (an L 2 5 (by decide))).trans D.k2) ((upd_ne _ _ (an L 3 5 (by decide))).trans D.k3) ((upd_ne _ _ (an L 4 5 (by decide))).trans D.k4) uu
end
end Mine
end
section
open PySem PySem.W PySem.Calls PyProof.Rows PySem.Builtin
set_option maxHeartbeats 1000000
namespace Mine
noncomputable def judge (d1 : Bool) (ds : DS) (x v : List UInt8) (old : Option (List UInt8)) : V × DS :=
  if valuedB v = false then (.str "value", ds) else if (d1 && refusedB ds x old) = true then (.bool false, ds) else if namedB x = false then (.str "name", ds) else (if d1 then .bool true else .str "set", setB ds x v)
theorem vals_okVals : ∀ v ∈ valsB, valuedB v = true → v ∈ okVals := by decide +kernel
section
variable {w : World} {B : Heap} {os : OsState} {l : List Env} {A : Around} {E : Value → MS → Prop} {env : Env} {s : Shared}
variable {σ τ τ' : MS} {st scr k R M L : Addr} {ns : List Int} {q : Int} {p : Nat} {dk dm : DS} {m : Str → Option V} {c2 c3 c4 c5 : Option V}
theorem askD {params : Arguments} {body : Expr} {scope : Scope} {lp np pos : Pos} {clos : List (Str × Addr)} {n : Nat} {Q : V → MS → Prop} (G : BF w B) (hA : Ar A (callEnvC fd364 L 364 :: l) (n + 2)) (Z : D0 σ st scr k R M L ns) (D : D1 σ st scr k R M L ns q p dk dm m c2 c3 c4 c5 τ)
    (h : ∀ f c' L2 L3 A3 τ3, D1 σ st scr k R M L ns q p dk dm m c2 c3 c4 c5 τ3 → Ar A3 (envX qD scope L3 f (.ref c') clos :: callEnv fd343 L2 343 :: callEnvC fd364 L 364 :: l) n →
      EV w B os (envX qD scope L3 f (.ref c') clos :: callEnv fd343 L2 343 :: callEnvC fd364 L 364 :: l) A3 (envX qD scope L3 f (.ref c') clos) body Q (fun c σ' => ∃ t, SaysOf c t ∧ Q (.str t) σ') τ3)
    (hcl : closureFor scope (callEnvC fd364 L 364) = pure clos := by rfl) (hbind : ∀ c' pm ctv, bindArgs (kla_fn "<lambda>" qD params body scope clos pm (.ref c') ctv) ⟨[], []⟩ = pure [] := by intros; rfl) (hcell : ∀ x ∈ scope.names, x.2 ≠ .cell := by decide +kernel)
    (hk : scope.kind = .function := by rfl) (hco : scope.isCoroutine = false := by rfl) (hgen : scope.isGenerator = false := by rfl) (hdef : defaultsOf params (callEnvC fd364 L 364) = ([], []) := by rfl) :
    EV w B os (callEnvC fd364 L 364 :: l) A (callEnvC fd364 L 364) (.Call (.Name "_law_answer" np) [.Lambda params body scope lp] [] pos) Q E τ := by
  refine EV.callF G (is343 G) rfl <| SQ.cons <| evLambda (P := 359) (c := 363) (q := qD) G D.tab (by decide) (fun f c' σ' hf hfB hT hkeep hLM hCR hne => SQ.nil ?_) rfl hcl rfl (by kernel_rfl!) rfl hdef
  have D' := D.lam Z hkeep hT
  refine answer_ hA G hLM fun L2 A2 hL2 hA2 => ?_
  refine CL.lam hA2 G (un hL2 hLM) (un hL2 hCR) (hbind c') hcell (fun L3 A3 hL3 hA3 => ?_) hk hco hgen
  exact EV.mono (h f c' L2 L3 A3 _ ((D'.fresh hL2).fresh hL3) hA3) (fun v σ₁ z => Dn.of (Dn.of z)) fun c σ₁ ⟨t, ht, z⟩ => Dn.of ⟨t, ht, Dn.of z⟩
end
end Mine
end
section
open PySem PySem.W PySem.Calls PyProof.Rows PySem.Builtin
set_option maxHeartbeats 2000000
namespace Mine
noncomputable def ifBody : List Stmt → List Stmt
  | .If _ b _ _ :: _ => b
  | _ => []
noncomputable def elseBody : List Stmt → List Stmt
  | .If _ _ b _ :: _ => b
  | _ => []
theorem judge_val {d1 : Bool} {ds : DS} {x v : List UInt8} {old : Option (List UInt8)} (h : valuedB v = false) : judge d1 ds x v old = (.str "value", ds) := by unfold judge; rw [if_pos h]
theorem judge_ref {ds : DS} {x v : List UInt8} {old : Option (List UInt8)} (h : valuedB v = true) (h1 : refusedB ds x old = true) : judge true ds x v old = (.bool false, ds) := by unfold judge; rw [if_neg (by rw [h]; decide), h1]; rfl
theorem judge_name {d1 : Bool} {ds : DS} {x v : List UInt8} {old : Option (List UInt8)} (h : valuedB v = true) (h1 : d1 = true → refusedB ds x old = false) (h2 : namedB x = false) : judge d1 ds x v old = (.str "name", ds) := by
  unfold judge; rw [if_neg (by rw [h]; decide), if_neg (by cases d1 with | false => simp | true => rw [h1 rfl]; decide), if_pos h2]
theorem judge_set {d1 : Bool} {ds : DS} {x v : List UInt8} {old : Option (List UInt8)} (h : valuedB v = true) (h1 : d1 = true → refusedB ds x old = false) (h2 : namedB x = true) : judge d1 ds x v old = (if d1 then .bool true else .str "set", setB ds x v) := by
  unfold judge; rw [if_neg (by rw [h]; decide), if_neg (by cases d1 with | false => simp | true => rw [h1 rfl]; decide), if_neg (by rw [h2]; decide)]
section
variable {w : World} {B : Heap} {os : OsState} {l : List Env} {A : Around} {E : Value → MS → Prop} {env : Env} {s : Shared}
variable {σ τ τ' : MS} {st scr k R M L : Addr} {ns : List Int} {q : Int} {p : Nat} {dk dm ds : DS} {m : Str → Option V} {c2 c3 c4 c5 : Option V}
theorem deed01 {n : Nat} {d : Nat} {x v : List UInt8} {old : Option (List UInt8)} {Q : Fl → MS → Prop} (G : BF w B) (hA : Ar A (callEnvC fd364 L 364 :: l) (n + 9)) (Z : D0 σ st scr k R M L ns) (g : Good ds) (hx : x ∈ namesB) (hv : v ∈ valsB) (hd : d = 0 ∨ d = 1)
    (D : D1 σ st scr k R M L ns q p ds ds m (some (.byt x)) (some (vO old)) c4 (some (.byt v)) τ) (m1 : m "deed" = some (.int d)) (m2 : m "model" = some (.ref M))
    (h : ∀ τ' ds' m' c4', Good ds' → D1 σ st scr k R M L ns q p ds' ds' m' (some (.byt x)) (some (vO old)) c4' (some (.byt v)) τ' → Q (.ret (.bool true)) τ') :
    SS w B os (callEnvC fd364 L 364 :: l) A (callEnvC fd364 L 364) (ifBody (bd364.drop 4)) Q E τ := by
  have hxl := names_len x hx
  obtain ⟨_, hvl⟩ := vals_hex v hv
  refine assignAt (L := L) ?_
  refine EV.mono (Q := fun u τ₁ => u = (judge (d == 1) ds x v old).1 ∧ D1 σ st scr k R M L ns q p (judge (d == 1) ds x v old).2 ds m (some (.byt x)) (some (vO old)) c4 (some (.byt v)) τ₁) (E := E) ?_ ?_ fun _ _ z => z
  · refine EV.ifexp <| TR.cmp <| EV.name D.fr m1 <| EV.int <| CM.eqI <| TU.bool ?_
    rcases hd with rfl | rfl
    · refine askD (n := n + 7) G hA Z D fun f c' L2 L3 A3 τ3 D3 hA3 => ?_
      refine EV.callF G (is350 G) rfl <| SQ.cons <| EV.free (c := L + 1) rfl D3.k1 <| SQ.cons <| EV.free (c := L + 2) rfl D3.k2 <| SQ.cons <| EV.free (c := L + 5) rfl D3.k5 <| SQ.nil <| lawset_ (n := n) hA3 G D3.kept g hx hv (fun q0 => ?_) (fun q0 q2 => ?_) fun q0 q2 ep' => ?_
      · refine ⟨"value", .inl ⟨rfl, rfl⟩, ?_⟩
        rw [judge_val q0]; exact ⟨rfl, D3⟩
      · refine ⟨"name", .inr (.inl ⟨rfl, rfl⟩), ?_⟩
        rw [judge_name q0 (fun z => by cases z) q2]; exact ⟨rfl, D3⟩
      · rw [judge_set q0 (fun z => by cases z) q2]; exact ⟨rfl, D3.setR Z⟩
    · refine askD (n := n + 7) G hA Z D fun f c' L2 L3 A3 τ3 D3 hA3 => ?_
      obtain ⟨dkk, P, epk, kk1, kk2, kk3⟩ := id D3.kept
      refine EV.methOwn G (EV.free (c := L + 1) rfl D3.k1 ⟨k, 281, dkk, _, 257, fd257, rfl, kk1, kk2, rfl, (is257 G).there, ?_, (find281 _).1, (find281 _).2, by kernel_rfl!, by kernel_rfl!⟩)
      refine SQ.cons <| EV.free (c := L + 2) rfl D3.k2 <| SQ.cons <| EV.free (c := L + 3) rfl D3.k3 <| SQ.cons <| EV.free (c := L + 5) rfl D3.k5 <| SQ.nil <| set_ (n := n + 2) hA3 G D3.kept g hx hv (fun q0 => ?_) (fun q0 q1 => ?_) (fun q0 q1 q2 => ?_) fun q0 q1 q2 ep' => ?_
      · refine ⟨"value", .inl ⟨rfl, rfl⟩, ?_⟩
        rw [judge_val q0]; exact ⟨rfl, D3⟩
      · show _ ∧ _
        rw [show ((1 : Nat) == 1) = true from rfl, judge_ref q0 q1]; exact ⟨rfl, D3⟩
      · refine ⟨"name", .inr (.inl ⟨rfl, rfl⟩), ?_⟩
        rw [judge_name q0 (fun _ => q1) q2]; exact ⟨rfl, D3⟩
      · show _ ∧ _
        rw [judge_set q0 (fun _ => q1) q2]; exact ⟨rfl, D3.setR Z⟩
  · rintro u τ₁ ⟨rfl, D₁⟩
    refine ⟨m, D₁.fr, ?_⟩
    generalize hj1 : (judge (d == 1) ds x v old).1 = tv
    have D₂ := D₁.frame Z (m' := put m (Str.ofString "told") tv)
    generalize upd τ₁ L (.ns (put m (Str.ofString "told") tv)) = τ₂ at D₂
    refine assignAt (L := L) ?_
    refine EV.mono (Q := fun u τ₃ => u = (if (d == 1) = true then V.bool true else V.str "set") ∧ τ₃ = τ₂) (E := E) ?_ ?_ fun _ _ z => z
    · refine EV.ifexp <| TR.cmp <| EV.name D₂.fr m1 <| EV.int <| CM.eqI <| TU.bool ?_
      rcases hd with rfl | rfl
      · exact EV.str ⟨rfl, rfl⟩
      · exact EV.bool ⟨rfl, rfl⟩
    rintro u τ₃ ⟨rfl, rfl⟩
    refine ⟨_, D₂.fr, ?_⟩
    generalize hu : (if (d == 1) = true then V.bool true else V.str "set") = u0
    have D₃ := D₂.frame Z (m' := put (put m (Str.ofString "told") tv) (Str.ofString "due") u0)
    generalize upd τ₃ L (.ns (put (put m (Str.ofString "told") tv) (Str.ofString "due") u0)) = τ₄ at D₃
    have hend : ∀ τ₅ ds' m', Good ds' → m' "told" = some tv → m' "due" = some tv → atomV tv = true → D1 σ st scr k R M L ns q p ds' ds' m' (some (.byt x)) (some (vO old)) c4 (some (.byt v)) τ₅ → SS w B os (callEnvC fd364 L 364 :: l) A (callEnvC fd364 L 364) ((ifBody (bd364.drop 4)).drop 3) Q E τ₅ :=
      fun τ₅ ds' m' g' n1 n2 ha D₅ => SS.ret <| EV.cmp <| EV.name D₅.fr n1 <| EV.name D₅.fr n2 <| CM.eqA ha <| h _ _ _ _ g' D₅
    refine SS.if <| TR.not <| TR.plain <| EV.callF G (is329 G) rfl <| SQ.cons <| EV.cell (c := L + 5) rfl D₃.k5 <| SQ.nil <| valued_ hA G (by omega) <| TU.bool ?_
    cases q0 : valuedB v with
    | false =>
      have hj := judge_val (d1 := (d == 1)) (ds := ds) (x := x) (old := old) q0
      rw [hj] at hj1 D₃
      refine ⟨fun _ => ?_, nb⟩
      refine assignAt (L := L) <| EV.str ⟨_, D₃.fr, SS.nxt ?_⟩
      exact hend _ _ _ g rfl (by rw [← hj1]; rfl) (by rw [← hj1]; rfl) (D₃.frame Z)
    | true =>
    refine ⟨nb, fun _ => ?_⟩
    have hbranch : ((d == 1) = true → refusedB ds x old = false) → SS w B os (callEnvC fd364 L 364 :: l) A (callEnvC fd364 L 364) (elseBody (elseBody ((ifBody (bd364.drop 4)).drop 2))) (nx w B os (callEnvC fd364 L 364 :: l) A (callEnvC fd364 L 364) [] (nx w B os (callEnvC fd364 L 364 :: l) A (callEnvC fd364 L 364) ((ifBody (bd364.drop 4)).drop 3) Q E) E) E τ₄ := by
      intro hr
      refine SS.if <| TR.not <| TR.plain <| EV.callF G (is322 G) rfl <| SQ.cons <| EV.cell (c := L + 2) rfl D₃.k2 <| SQ.nil <| named_ hA G (by omega) <| TU.bool ?_
      cases q2 : namedB x with
      | false =>
        have hj := judge_name (d1 := (d == 1)) (ds := ds) (old := old) q0 hr q2
        rw [hj] at hj1 D₃
        refine ⟨fun _ => ?_, nb⟩
        refine assignAt (L := L) <| EV.str ⟨_, D₃.fr, SS.nxt <| SS.nil <| SS.nil ?_⟩
        exact hend _ _ _ g rfl (by rw [← hj1]; rfl) (by rw [← hj1]; rfl) (D₃.frame Z)
      | true =>
        have hj := judge_set (d1 := (d == 1)) (ds := ds) (old := old) q0 hr q2
        rw [hj] at hj1 D₃
        refine ⟨nb, fun _ => ?_⟩
        obtain ⟨ep, hM⟩ := D₃.model
        refine SS.assignSub <| EV.cell (c := L + 5) rfl D₃.k5 <| EV.name D₃.fr m2 <| EV.cell (c := L + 2) rfl D₃.k2 fun a b c ha hb hc => setDict ha hb hc (dB_len g) hM fun ep' => SS.nxt <| SS.nil <| SS.nil ?_
        rw [setE_dB]
        have D₄ := D₃.setM (ep' := ep') (dm' := setB ds x v) Z
        refine hend _ _ _ (g.set hx (vals_okVals v hv q0)) rfl ?_ ?_ D₄
        · rw [← hj1, ← hu]; rfl
        · rw [← hj1]; rcases hd with rfl | rfl <;> rfl
    refine SS.if <| TR.and <| TR.cmp <| EV.name D₃.fr m1 <| EV.int <| CM.eqI <| TU.bool ?_
    rcases hd with rfl | rfl
    · exact ⟨nb, fun _ => hbranch fun z => by cases z⟩
    · refine TR.and <| TR.cmp <| EV.cell (c := L + 3) rfl D₃.k3 <| EV.none <| CM.isNotNone <| TU.bool ?_
      cases old with
      | none =>
        rw [show (!decide (vO none = V.none)) = false from rfl]
        exact ⟨nb, fun _ => hbranch fun _ => rfl⟩
      | some o =>
        rw [show (!decide (vO (some o) = V.none)) = true by simp [vO]]
        obtain ⟨ep, hM⟩ := D₃.model
        refine TR.and <| TR.cmp <| EV.meth mf_get <| EV.name D₃.fr m2 ⟨tyDict hM, SQ.cons <| EV.cell (c := L + 2) rfl D₃.k2 <| SQ.cons <| EV.binop <| EV.byt <| EV.int <| BN.mulB (by decide) (by decide) (by decide) (by decide) <| SQ.nil <| CL.dictGet2 G hM ?_⟩
        rw [show (getE (dB ds) x).getD (.byt (List.replicate (40 : Int).toNat [48]).flatten) = .byt ((lookB ds x).getD zeroB) from getE_zero ds x]
        refine EV.cell (c := L + 3) (v := .byt o) rfl D₃.k3 <| CM.neB <| TU.bool ?_
        cases q1 : (lookB ds x).getD zeroB != o with
        | false => exact ⟨nb, fun _ => hbranch fun _ => q1⟩
        | true =>
          have hj := judge_ref (ds := ds) (x := x) (old := some o) q0 q1
          rw [show ((1 : Nat) == 1) = true from rfl, hj] at hj1 D₃
          refine TR.and_nil ?_
          refine ⟨fun _ => ?_, nb⟩
          refine assignAt (L := L) <| EV.bool ⟨_, D₃.fr, SS.nxt <| SS.nil ?_⟩
          exact hend _ _ _ g rfl (by rw [← hj1]; rfl) (by rw [← hj1]; rfl) (D₃.frame Z)
end
end Mine
end
section
open PySem PySem.W PySem.Calls PyProof.Rows PySem.Builtin
set_option maxHeartbeats 2000000
namespace Mine
theorem sym_ok : ∀ o ∈ namesB.take 7, symB ++ o ∈ okVals := fun o h => List.mem_append_right _ (List.mem_map_of_mem h)
section
variable {w : World} {B : Heap} {os : OsState} {l : List Env} {A : Around} {E : Value → MS → Prop} {env : Env} {s : Shared}
variable {σ τ τ' : MS} {st scr k R M L : Addr} {ns : List Int} {q : Int} {p : Nat} {dk dm ds : DS} {m : Str → Option V} {c2 c3 c4 c5 : Option V}
theorem evOwn {xn name : Str} {xp apos pos : Pos} {es : List Expr} {c f : Addr} {fd : FuncData} {body : List Stmt} {Q : V → MS → Prop} (G : BF w B) (hc : env.cells.lookup xn = some c) (hσ : σ c = some (CE (some (.ref k)))) (K : Kept σ k R ds) (hF : IsFn B f fd body)
    (h : SQ w B os l A env es (kCLm w B os l A E (.ref f) (.ref k) Q) E σ)
    (h1 : findIn (Kd w.params) (.ref 281) name = some (some (.ref f)) := by kernel_rfl!) (h2 : typeIn (Kd w.params) (.ref f) = some (.type "function") := by kernel_rfl!)
    (h3 : List.lookup name ([("_refs", V.ref R), ("_peeled", V.ref 0)] : List (Str × V)) = none := by rfl)
    (hs : backTo pos (starEach es env) = es.map (fun e => (false, eval e env)) := by rfl)
    (he : ∃ pl : Sem Bool, eval (.Call (.Attribute (.Name xn xp) name apos) es [] pos) env = (do
      let ov ← eval (.Name xn xp) env
      standAt apos.atName
      let (f, first) ← holding [ov] (getMethod ov name pl)
      callWith pos f first (backTo pos (starEach es env)) (backToKw pos (keywordEach [] env))) := by exact ⟨_, rfl⟩)
    (hk : env.scope.kind = .function := by rfl) (hl : env.kindOf xn = some .free := by rfl) (hd : (xn == ("__debug__" : Str)) = false := by kernel_rfl!) (hn : (xn == ("__classdict__" : Str)) = false := by kernel_rfl!) : EV w B os l A env (.Call (.Attribute (.Name xn xp) name apos) es [] pos) Q E σ := by
  obtain ⟨dk, P, ep, k1, k2, k3⟩ := K
  refine EV.methOwn G (EV.free hc hσ ⟨k, 281, dk, _, f, fd, rfl, k1, k2, ?_, hF.there, h, (find281 _).1, (find281 _).2, h1, h2⟩ hk hl hd hn) hs he
  simp only [List.lookup] at h3 ⊢
  split at h3
  · cases h3
  · split at h3
    · cases h3
    · rfl
theorem deed2 {n : Nat} {x v : List UInt8} {Q : Fl → MS → Prop} (G : BF w B) (hA : Ar A (callEnvC fd364 L 364 :: l) (n + 9)) (Z : D0 σ st scr k R M L ns) (g : Good ds) (hx : x ∈ namesB) (hv : v ∈ valsB)
    (D : D1 σ st scr k R M L ns q p ds ds m (some (.byt x)) c3 c4 (some (.byt v)) τ) (m2 : m "model" = some (.ref M))
    (h : ∀ τ' ds' m', Good ds' → D1 σ st scr k R M L ns q p ds' ds' m' (some (.byt x)) c3 c4 (some (.byt v)) τ' → Q (.ret (.bool true)) τ') :
    SS w B os (callEnvC fd364 L 364 :: l) A (callEnvC fd364 L 364) (ifBody (bd364.drop 5)) Q E τ := by
  have hxl := names_len x hx
  obtain ⟨_, hvl⟩ := vals_hex v hv
  refine assignAt (L := L) ?_
  refine EV.mono (Q := fun u τ₁ => u = (if valuedB v = true then V.bool (!(lookB ds x).isSome) else V.str "value") ∧ τ₁ = τ) (E := E) ?_ ?_ fun _ _ z => z
  · refine EV.ifexp <| TR.not <| TR.plain <| EV.callF G (is329 G) rfl <| SQ.cons <| EV.cell (c := L + 5) rfl D.k5 <| SQ.nil <| valued_ hA G (by omega) <| TU.bool ?_
    cases q0 : valuedB v with
    | false => exact EV.str ⟨rfl, rfl⟩
    | true =>
      obtain ⟨ep, hM⟩ := D.model
      exact EV.cmp <| EV.cell (c := L + 2) rfl D.k2 <| EV.name D.fr m2 <| CM.notInD G hM ⟨by rw [getE_dB, Option.isSome_map]; rfl, rfl⟩
  rintro u τ₃ ⟨rfl, rfl⟩
  refine ⟨_, D.fr, ?_⟩
  generalize hu : (if valuedB v = true then V.bool (!(lookB ds x).isSome) else V.str "value") = u0
  have D₃ := D.frame Z (m' := put m (Str.ofString "due") u0)
  generalize upd τ₃ L (.ns (put m (Str.ofString "due") u0)) = τ₄ at D₃
  have hend : ∀ τ₅ ds', Good ds' → (∀ (n : Nat) (A3 : Around) (τ3 : MS) (lk : List Env), D1 σ st scr k R M L ns q p ds ds' (put m (Str.ofString "due") u0) (some (.byt x)) c3 c4 (some (.byt v)) τ3 → Ar A3 lk (n + 5) → ∀ (Q' : V → MS → Prop), (∀ τ6, D1 σ st scr k R M L ns q p ds' ds' (put m (Str.ofString "due") u0) (some (.byt x)) c3 c4 (some (.byt v)) τ6 → Q' u0 τ6) →
      CL w B os lk A3 (.ref 264) [.ref k, .byt x, .byt v] Q' (fun c σ' => ∃ t, SaysOf c t ∧ Q' (.str t) σ') τ3) → atomV u0 = true → D1 σ st scr k R M L ns q p ds ds' (put m (Str.ofString "due") u0) (some (.byt x)) c3 c4 (some (.byt v)) τ₅ → SS w B os (callEnvC fd364 L 364 :: l) A (callEnvC fd364 L 364) ((ifBody (bd364.drop 5)).drop 2) Q E τ₅ := by
    intro τ₅ ds' g' hc ha D₅
    refine SS.ret <| EV.cmp ?_
    refine askD (n := n + 7) G hA Z D₅ fun f c' L2 L3 A3 τ3 D3 hA3 => ?_
    refine evOwn G (c := L + 1) rfl D3.k1 D3.kept (is264 G) <| SQ.cons <| EV.free (c := L + 2) rfl D3.k2 <| SQ.cons <| EV.free (c := L + 5) rfl D3.k5 <| SQ.nil ?_
    refine hc (n + 2) A3 τ3 _ D3 hA3 _ fun τ6 D6 => ?_
    exact EV.name D6.fr rfl <| CM.eqA ha <| h _ _ _ g' D6
  refine SS.if <| TR.cmp <| EV.name D₃.fr rfl <| EV.bool ?_
  cases q0 : valuedB v with
  | false =>
    rw [if_neg (by rw [q0]; decide)] at hu
    subst hu
    refine CM.isStrBool <| TU.bool ⟨nb, fun _ => SS.nxt ?_⟩
    refine hend _ ds g (fun n A3 τ3 lk D3 hA3 Q' hQ => add_ hA3 G D3.kept g hv (fun _ => ⟨"value", .inl ⟨rfl, rfl⟩, hQ _ D3⟩) (fun z => by rw [q0] at z; cases z) (fun z => by rw [q0] at z; cases z)) rfl D₃
  | true =>
    rw [if_pos q0] at hu
    subst hu
    refine CM.isBool <| TU.bool ?_
    cases q1 : (lookB ds x).isSome with
    | true =>
      rw [q1] at hend D₃
      refine ⟨nb, fun _ => SS.nxt ?_⟩
      refine hend _ ds g (fun n A3 τ3 lk D3 hA3 Q' hQ => add_ hA3 G D3.kept g hv (fun z => by rw [q0] at z; cases z) (fun _ _ => hQ _ D3) (fun _ z => by rw [q1] at z; cases z)) rfl D₃
    | false =>
      rw [q1] at hend D₃
      refine ⟨fun _ => ?_, nb⟩
      obtain ⟨ep, hM⟩ := D₃.model
      refine SS.assignSub <| EV.cell (c := L + 5) rfl D₃.k5 <| EV.name D₃.fr m2 <| EV.cell (c := L + 2) rfl D₃.k2 fun a b c ha hb hc => setDict ha hb hc (dB_len g) hM fun ep' => SS.nxt ?_
      rw [setE_dB]
      have D₄ := D₃.setM (ep' := ep') (dm' := setB ds x v) Z
      refine hend _ _ (g.set hx (vals_okVals v hv q0)) (fun n A3 τ3 lk D3 hA3 Q' hQ => add_ hA3 G D3.kept g hv (fun z => by rw [q0] at z; cases z) (fun _ z => by rw [q1] at z; cases z) (fun _ _ ep'' => hQ _ (D3.setR Z))) rfl D₄
theorem popM {n : Nat} {x : List UInt8} {Q : V → MS → Prop} (G : BF w B) (Z : D0 σ st scr k R M L ns) (g : Good dm) (D : D1 σ st scr k R M L ns q p dk dm m (some (.byt x)) c3 c4 c5 τ)
    (h : ∀ v τ', (∀ a, v ≠ .ref a) → D1 σ st scr k R M L ns q p dk (delB dm x) m (some (.byt x)) c3 c4 c5 τ' → Q v τ') : CL w B os l A (.bi "dict.pop") [.ref M, .byt x, .none] Q E τ := by
  obtain ⟨ep, hM⟩ := D.model
  refine CL.pop2 G hM (dB_len g) (fun y ep' hy => ?_) fun hy => ?_
  · rw [delE_dB]
    refine h _ _ (fun a z => ?_) (D.setM Z)
    rw [getE_dB] at hy
    obtain ⟨b, _, hb⟩ := Option.map_eq_some_iff.mp hy
    rw [z] at hb; cases hb
  · rw [getE_dB, Option.map_eq_none_iff] at hy
    refine h _ _ (fun a z => by cases z) ?_
    rw [delB_none hy]; exact D
theorem deed4 {n : Nat} {x : List UInt8} {Q : Fl → MS → Prop} (G : BF w B) (hA : Ar A (callEnvC fd364 L 364 :: l) (n + 9)) (Z : D0 σ st scr k R M L ns) (g : Good ds)
    (D : D1 σ st scr k R M L ns q p ds ds m (some (.byt x)) c3 c4 c5 τ) (m2 : m "model" = some (.ref M))
    (h : ∀ τ' ds' m', Good ds' → D1 σ st scr k R M L ns q p ds' ds' m' (some (.byt x)) c3 c4 c5 τ' → Q (.ret (.bool true)) τ') :
    SS w B os (callEnvC fd364 L 364 :: l) A (callEnvC fd364 L 364) (ifBody (bd364.drop 7)) Q E τ := by
  obtain ⟨ep, hM⟩ := D.model
  refine SS.expr <| EV.meth mf_pop <| EV.name D.fr m2 ⟨tyDict hM, SQ.cons <| EV.cell (c := L + 2) rfl D.k2 <| SQ.cons <| EV.none <| SQ.nil <| popM (n := n) G Z g D fun v τ' hv D' => ⟨hv, ?_⟩⟩
  refine SS.ret <| EV.cmp <| askD (n := n + 7) G hA Z D' fun f c' L2 L3 A3 τ3 D3 hA3 => ?_
  refine EV.callF G (is357 G) rfl <| SQ.cons <| EV.free (c := L + 1) rfl D3.k1 <| SQ.cons <| EV.free (c := L + 2) rfl D3.k2 <| SQ.nil <| lawout_ (n := n + 4) hA3 G D3.kept g fun ep' => ?_
  exact EV.str <| CM.eqA rfl <| h _ _ _ (g.del x) (D3.setR Z)
theorem deed5 {n : Nat} {x : List UInt8} {old : Option (List UInt8)} {Q : Fl → MS → Prop} (G : BF w B) (hA : Ar A (callEnvC fd364 L 364 :: l) (n + 9)) (Z : D0 σ st scr k R M L ns) (g : Good ds)
    (D : D1 σ st scr k R M L ns q p ds ds m (some (.byt x)) (some (vO old)) c4 c5 τ) (m2 : m "model" = some (.ref M))
    (h : ∀ τ' ds' m', Good ds' → D1 σ st scr k R M L ns q p ds' ds' m' (some (.byt x)) (some (vO old)) c4 c5 τ' → Q (.ret (.bool true)) τ') :
    SS w B os (callEnvC fd364 L 364 :: l) A (callEnvC fd364 L 364) (bd364.drop 8) Q E τ := by
  refine assignAt (L := L) ?_
  refine EV.mono (Q := fun u τ₁ => u = V.bool (!refusedB ds x old) ∧ τ₁ = τ) (E := E) ?_ ?_ fun _ _ z => z
  · refine evOr <| EV.cmp <| EV.cell (c := L + 3) rfl D.k3 <| EV.none <| CM.isNone <| TU.bool ?_
    cases old with
    | none => exact ⟨fun _ => ⟨rfl, rfl⟩, nb⟩
    | some o =>
      rw [show decide (vO (some o) = V.none) = false by simp [vO]]
      refine ⟨nb, fun _ => evBool1 ?_⟩
      obtain ⟨ep, hM⟩ := D.model
      refine EV.cmp <| EV.meth mf_get <| EV.name D.fr m2 ⟨tyDict hM, SQ.cons <| EV.cell (c := L + 2) rfl D.k2 <| SQ.cons <| EV.binop <| EV.byt <| EV.int <| BN.mulB (by decide) (by decide) (by decide) (by decide) <| SQ.nil <| CL.dictGet2 G hM ?_⟩
      rw [show (getE (dB ds) x).getD (.byt (List.replicate (40 : Int).toNat [48]).flatten) = .byt ((lookB ds x).getD zeroB) from getE_zero ds x]
      refine EV.cell (c := L + 3) (v := .byt o) rfl D.k3 <| CM.eqB ⟨?_, rfl⟩
      show V.bool _ = V.bool (!((lookB ds x).getD zeroB != o))
      rw [bne, Bool.not_not]
  rintro u τ₃ ⟨rfl, rfl⟩
  refine ⟨_, D.fr, ?_⟩
  have D₃ := D.frame Z (m' := put m (Str.ofString "due") (V.bool (!refusedB ds x old)))
  generalize upd τ₃ L (.ns (put m (Str.ofString "due") (V.bool (!refusedB ds x old)))) = τ₄ at D₃
  refine SS.if <| TR.plain <| EV.name D₃.fr rfl <| TU.bool ?_
  cases q1 : refusedB ds x old with
  | true =>
    rw [q1] at D₃
    refine ⟨nb, fun _ => SS.nxt ?_⟩
    refine SS.ret <| EV.cmp <| askD (n := n + 7) G hA Z D₃ fun f c' L2 L3 A3 τ3 D3 hA3 => ?_
    refine evOwn G (c := L + 1) rfl D3.k1 D3.kept (is271 G) <| SQ.cons <| EV.free (c := L + 2) rfl D3.k2 <| SQ.cons <| EV.free (c := L + 3) rfl D3.k3 <| SQ.nil <| remove_ (n := n + 6) hA3 G D3.kept g (fun _ => ?_) fun z => by rw [q1] at z; cases z
    exact EV.name D3.fr rfl <| CM.eqA rfl <| h _ _ _ g D3
  | false =>
    rw [q1] at D₃
    refine ⟨fun _ => ?_, nb⟩
    obtain ⟨ep, hM⟩ := D₃.model
    refine SS.expr <| EV.meth mf_pop <| EV.name D₃.fr m2 ⟨tyDict hM, SQ.cons <| EV.cell (c := L + 2) rfl D₃.k2 <| SQ.cons <| EV.none <| SQ.nil <| popM (n := n) G Z g D₃ fun v τ' hv D' => ⟨hv, SS.nxt ?_⟩⟩
    refine SS.ret <| EV.cmp <| askD (n := n + 7) G hA Z D' fun f c' L2 L3 A3 τ3 D3 hA3 => ?_
    refine evOwn G (c := L + 1) rfl D3.k1 D3.kept (is271 G) <| SQ.cons <| EV.free (c := L + 2) rfl D3.k2 <| SQ.cons <| EV.free (c := L + 3) rfl D3.k3 <| SQ.nil <| remove_ (n := n + 6) hA3 G D3.kept g (fun z => by rw [q1] at z; cases z) fun _ ep' => ?_
    exact EV.name (D3.setR Z).fr rfl <| CM.eqA rfl <| h _ _ _ (g.del x) (D3.setR Z)
end
end Mine
end
section
open PySem PySem.W PySem.Calls PyProof.Rows PySem.Builtin
set_option maxHeartbeats 2000000
namespace Mine
section
variable {w : World} {B : Heap} {os : OsState} {l : List Env} {A : Around} {E : Value → MS → Prop} {env : Env} {s : Shared}
variable {σ τ τ' : MS} {st scr k R M L : Addr} {ns : List Int} {q : Int} {p : Nat} {dk dm ds : DS} {m : Str → Option V} {c2 c3 c4 c5 : Option V}
theorem deed3 {n : Nat} {x : List UInt8} {Q : Fl → MS → Prop} (G : BF w B) (hA : Ar A (callEnvC fd364 L 364 :: l) (n + 9)) (Z : D0 σ st scr k R M L ns) (g : Good ds) (hx : x ∈ namesB) (hp : p < 900000) (hns : ns.length ≤ 60)
    (D : D1 σ st scr k R M L ns q p ds ds m (some (.byt x)) c3 c4 c5 τ) (m1 : m "state" = some (.ref st)) (m2 : m "model" = some (.ref M))
    (h : ∀ τ' ds' m' c4', Good ds' → D1 σ st scr k R M L ns q (p + 1) ds' ds' m' (some (.byt x)) c3 c4' c5 τ' → Q (.ret (.bool true)) τ') :
    SS w B os (callEnvC fd364 L 364 :: l) A (callEnvC fd364 L 364) (ifBody (bd364.drop 6)) Q E τ := by
  have hxl := names_len x hx
  refine SS.assignC (c := L + 4) rfl ?_
  refine EV.sub <| EV.callF G (is290 G) rfl <| SQ.nil <| names_ hA G fun a ha hB => ?_
  have D₁ := D.fresh (o := .list (namesB.map V.byt)) ha
  refine EV.callF G (is298 G) rfl <| SQ.cons <| EV.name D₁.fr m1 <| SQ.cons <| EV.int <| SQ.nil <| nextN_ (size := 7) hA G D₁.st D₁.scr (by omega) hns (by decide) fun u hu => ?_
  obtain ⟨o, ho⟩ : ∃ y, namesB[u]? = some y := ⟨_, List.getElem?_eq_getElem (Nat.lt_of_lt_of_le hu (by decide))⟩
  have hon : o ∈ namesB.take 7 := List.mem_of_getElem? (by rw [List.getElem?_take, if_pos hu]; exact ho)
  have hom := List.mem_of_mem_take hon
  have hol := names_len o hom
  have D₂ := D₁.setSt (p' := p + 1) Z
  have hsa : a ≠ st := fun z => by rw [z, D.st] at ha; cases ha
  refine SI.list (v := .byt o) ((upd_ne _ _ hsa).trans uu) (by omega) (by omega) (by rw [Int.toNat_natCast, List.getElem?_map, ho]; rfl) ⟨_, D₂.k4, ?_⟩
  have D₃ := D₂.cell4 (v := some (.byt o)) Z
  generalize upd (upd (upd τ a (.list (namesB.map V.byt))) st (stL scr (p + 1) q)) (L + 4) (CE (some (.byt o))) = τ₃ at D₃
  obtain ⟨ep, hM⟩ := D₃.model
  refine assignAt (L := L) ?_
  refine EV.mono (Q := fun u τ₁ => u = (if followB ds x = none then V.str "loop" else V.none) ∧ D1 σ st scr k R M L ns q (p + 1) ds ds m (some (.byt x)) c3 (some (.byt o)) c5 τ₁) (E := E) ?_ ?_ fun _ _ z => z
  · refine EV.ifexp <| TR.cmp <| EV.callF G (is336 G) rfl <| SQ.cons <| EV.name D₃.fr m2 <| SQ.cons <| EV.cell (c := L + 2) rfl D₃.k2 <| SQ.nil <| way_ hA G hM g (by omega) (fun nms v pp T hf hpp hppB hT hTB hne => ?_) fun hf => ?_
    · have hTp : upd τ₃ pp (.list (nms.map V.byt)) T = none := by rw [upd_ne _ _ hne.symm]; exact hT
      refine EV.none <| CM.isNotNone <| TU.bool ?_
      rw [show (!decide (V.ref T = V.none)) = true by simp]
      refine EV.none ⟨?_, (D₃.fresh hpp).fresh hTp⟩
      rw [if_neg (by rw [hf]; simp)]
    · refine EV.none <| CM.isNotNone <| TU.bool ?_
      rw [show (!decide (V.none = V.none)) = false from rfl]
      refine EV.str ⟨?_, D₃⟩
      rw [if_pos hf]
  rintro u τ₄ ⟨rfl, D₄⟩
  refine ⟨_, D₄.fr, ?_⟩
  generalize hu0 : (if followB ds x = none then V.str "loop" else V.none) = u0
  have D₅ := D₄.frame Z (m' := put m (Str.ofString "due") u0)
  generalize upd τ₄ L (.ns (put m (Str.ofString "due") u0)) = τ₅ at D₅
  refine SS.if <| TR.cmp <| EV.name D₅.fr rfl <| EV.none <| CM.isNone <| TU.bool ?_
  by_cases hf : followB ds x = none
  · rw [if_pos hf] at hu0
    subst hu0
    refine ⟨nb, fun _ => SS.nxt ?_⟩
    refine SS.ret <| EV.cmp <| askD (n := n + 7) G hA Z D₅ fun f c' L2 L3 A3 τ3 D3 hA3 => ?_
    refine evOwn G (c := L + 1) rfl D3.k1 D3.kept (is250 G) <| SQ.cons <| EV.free (c := L + 2) rfl D3.k2 <| SQ.cons <| EV.free (c := L + 4) rfl D3.k4 <| SQ.nil <| symref_ (n := n + 3) hA3 G D3.kept g hx hom (fun _ => ?_) fun z => absurd hf z
    exact ⟨"loop", .inr (.inr (.inl ⟨rfl, rfl⟩)), EV.name D3.fr rfl <| CM.eqA rfl <| h _ _ _ _ g D3⟩
  · rw [if_neg hf] at hu0
    subst hu0
    refine ⟨fun _ => ?_, nb⟩
    obtain ⟨ep5, hM5⟩ := D₅.model
    refine SS.assignSub <| EV.binop <| EV.byt <| EV.cell (c := L + 4) rfl D₅.k4 <| BN.addB (by simp; omega) <| EV.name D₅.fr m2 <| EV.cell (c := L + 2) rfl D₅.k2 fun a b c ha hb hc => setDict ha hb hc (dB_len g) hM5 fun ep' => SS.nxt ?_
    rw [show setE (dB ds) x (.byt ([114, 101, 102, 58, 32] ++ o)) = dB (setB ds x (symB ++ o)) from setE_dB ds x _]
    have D₆ := D₅.setM (ep' := ep') (dm' := setB ds x (symB ++ o)) Z
    refine SS.ret <| EV.cmp <| askD (n := n + 7) G hA Z D₆ fun f c' L2 L3 A3 τ3 D3 hA3 => ?_
    refine evOwn G (c := L + 1) rfl D3.k1 D3.kept (is250 G) <| SQ.cons <| EV.free (c := L + 2) rfl D3.k2 <| SQ.cons <| EV.free (c := L + 4) rfl D3.k4 <| SQ.nil <| symref_ (n := n + 3) hA3 G D3.kept g hx hom (fun z => absurd z hf) fun _ ep'' => ?_
    exact EV.name (D3.setR Z).fr rfl <| CM.eqA rfl <| h _ _ _ _ (g.set hx (sym_ok o hon)) (D3.setR Z)
end
end Mine
end
section
open PySem PySem.W PySem.Calls PyProof.Rows PySem.Builtin
set_option maxHeartbeats 4000000
namespace Mine
noncomputable def oldL (ds : DS) (x : List UInt8) : List (Option (List UInt8)) := [none, some (List.replicate 40 48), some (List.replicate 40 97), lookB ds x]
section
variable {w : World} {B : Heap} {os : OsState} {l : List Env} {A : Around} {E : Value → MS → Prop} {env : Env} {s : Shared}
variable {σ τ τ' : MS} {st scr k R M L : Addr} {ns : List Int} {q : Int} {p : Nat} {dk dm ds : DS} {m : Str → Option V} {c2 c3 c4 c5 : Option V}
theorem deed_ {n : Nat} {Q : V → MS → Prop} (hA : Ar A l (n + 10)) (G : BF w B) (hst : σ st = some (stL scr p q)) (hscr : σ scr = some (.list (ns.map V.int))) (K : Kept σ k R ds) (hM : ∃ ep, σ M = some (.dict (dB ds) ep)) (T : TabAt σ 359 qD) (hRM : R ≠ M) (g : Good ds) (hp : p < 800000) (hns : ns.length ≤ 60)
    (h : ∀ σ' ds' p', Good ds' → p' ≤ p + 7 → (∀ a o, a ≠ st → a ≠ R → a ≠ M → a ≠ 359 → σ a = some o → σ' a = some o) → σ' st = some (stL scr p' q) → Kept σ' k R ds' → (∃ ep, σ' M = some (.dict (dB ds') ep)) → TabAt σ' 359 qD → Q (.bool true) σ') :
    CL w B os l A (.ref 364) [.ref st, .ref k, .ref M] Q E σ := by
  refine call364 hA G fun L A' hL hLs hA' => ?_
  obtain ⟨epM, hM⟩ := hM
  obtain ⟨dkk, P, epk, kk1, kk2, kk3⟩ := id K
  obtain ⟨ps, t1, _⟩ := id T
  have Z : D0 σ st scr k R M L ns := ⟨hLs, hRM, ⟨_, hst⟩, ⟨_, kk3⟩, ⟨_, hM⟩, ⟨_, t1⟩, hscr, (fun z => by rw [z, t1] at hst; cases hst), (fun z => by rw [z, t1] at kk3; cases kk3), (fun z => by rw [z, t1] at hM; cases hM)⟩
  have f1 := hLs (L + 1) (Nat.le_add_right _ _)
  have f2 := hLs (L + 2) (Nat.le_add_right _ _)
  have f3 := hLs (L + 3) (Nat.le_add_right _ _)
  have f4 := hLs (L + 4) (Nat.le_add_right _ _)
  have f5 := hLs (L + 5) (Nat.le_add_right _ _)
  have hLe : ∀ o0 o1 o2 o3 o4 o5, Le σ (upd (upd (upd (upd (upd (upd σ L o0) (L + 1) o1) (L + 2) o2) (L + 3) o3) (L + 4) o4) (L + 5) o5) := fun _ _ _ _ _ _ => Le.over (Le.over (Le.over (Le.over (Le.over (Le.fresh hL) f1) f2) f3) f4) f5
  have D : D1 σ st scr k R M L ns q p ds ds (fr [("model", .ref M), ("state", .ref st)]) none none none none (upd (upd (upd (upd (upd (upd σ L (.ns (fr [("model", .ref M), ("state", .ref st)]))) (L + 1) (CE (some (.ref k)))) (L + 2) (CE none)) (L + 3) (CE none)) (L + 4) (CE none)) (L + 5) (CE none)) := by
    refine ⟨fun a o _ _ _ _ e => hLe _ _ _ _ _ _ _ _ e, hLe _ _ _ _ _ _ _ _ hst, K.le (hLe _ _ _ _ _ _), ⟨epM, hLe _ _ _ _ _ _ _ _ hM⟩, T.le (hLe _ _ _ _ _ _), ?_, ?_, ?_, ?_, ?_, uu, hLe _ _ _ _ _ _ _ _ hscr⟩
    · exact (upd_ne _ _ (an L 0 5 (by decide))).trans ((upd_ne _ _ (an L 0 4 (by decide))).trans ((upd_ne _ _ (an L 0 3 (by decide))).trans ((upd_ne _ _ (an L 0 2 (by decide))).trans ((upd_ne _ _ (an L 0 1 (by decide))).trans uu))))
    · rw [upd_ne _ _ (an L 1 5 (by decide)), upd_ne _ _ (an L 1 4 (by decide)), upd_ne _ _ (an L 1 3 (by decide)), upd_ne _ _ (an L 1 2 (by decide))]; exact uu
    · rw [upd_ne _ _ (an L 2 5 (by decide)), upd_ne _ _ (an L 2 4 (by decide)), upd_ne _ _ (an L 2 3 (by decide))]; exact uu
    · rw [upd_ne _ _ (an L 3 5 (by decide)), upd_ne _ _ (an L 3 4 (by decide))]; exact uu
    · rw [upd_ne _ _ (an L 4 5 (by decide))]; exact uu
  generalize upd (upd (upd (upd (upd (upd σ L (.ns (fr [("model", .ref M), ("state", .ref st)]))) (L + 1) (CE (some (.ref k)))) (L + 2) (CE none)) (L + 3) (CE none)) (L + 4) (CE none)) (L + 5) (CE none) = τ at D
  refine assignAt (L := L) <| EV.callF G (is298 G) rfl <| SQ.cons <| EV.name D.fr rfl <| SQ.cons <| EV.int <| SQ.nil <| nextN_ (size := 6) hA' G D.st D.scr (by omega) hns (by decide) fun d hd => ?_
  have D := D.setSt (p' := p + 1) Z
  refine ⟨_, D.fr, ?_⟩
  have D := D.frame Z (m' := put (fr [("model", .ref M), ("state", .ref st)]) (Str.ofString "deed") (.int (d : Nat)))
  generalize upd (upd τ st (stL scr (p + 1) q)) L (.ns (put (fr [("model", .ref M), ("state", .ref st)]) (Str.ofString "deed") (.int (d : Nat)))) = τ at D
  refine SS.assignC (c := L + 2) rfl ?_
  refine EV.sub <| EV.callF G (is290 G) rfl <| SQ.nil <| names_ hA' G fun a ha hB => ?_
  have hsa : a ≠ st := fun z => by rw [z, D.st] at ha; cases ha
  have D := D.fresh (o := .list (namesB.map V.byt)) ha
  refine EV.callF G (is298 G) rfl <| SQ.cons <| EV.name D.fr rfl <| SQ.cons <| EV.callBi G gl_len.1 gl_len.2 boot_len <| SQ.cons <| EV.callF G (is290 G) rfl <| SQ.nil <| names_ hA' G fun b hb hbB => SQ.nil <| CL.lenList uu (by decide) ?_
  have hba : a ≠ b := ne_of_none hb uu
  have D := D.fresh (o := .list (namesB.map V.byt)) hb
  refine SQ.nil <| nextN_ (size := (namesB.map V.byt).length) hA' G D.st D.scr (by omega) hns (by decide) fun u hu => ?_
  rw [List.length_map] at hu
  obtain ⟨x, hx⟩ : ∃ y, namesB[u]? = some y := ⟨_, List.getElem?_eq_getElem hu⟩
  have hxn := List.mem_of_getElem? hx
  have D := D.setSt (p' := p + 1 + 1) Z
  refine SI.list (v := .byt x) ((upd_ne _ _ hsa).trans ((upd_ne _ _ hba).trans uu)) (by omega) (by rw [show namesB.length = 13 from rfl] at hu; omega) (by rw [Int.toNat_natCast, List.getElem?_map, hx]; rfl) ⟨_, D.k2, ?_⟩
  have D := D.cell2 (v := some (.byt x)) Z
  generalize upd (upd (upd (upd τ a (.list (namesB.map V.byt))) b (.list (namesB.map V.byt))) st (stL scr (p + 1 + 1) q)) (L + 2) (CE (some (.byt x))) = τ at D
  refine SS.assignC (c := L + 5) rfl <| EV.callF G (is310 G) rfl <| SQ.cons <| EV.name D.fr rfl <| SQ.nil <| value_ hA' G D.st D.scr (by omega) hns fun v p1 hv hp1 => ?_
  have D := D.setSt (p' := p1) Z
  refine ⟨_, D.k5, ?_⟩
  have D := D.cell5 (v := some (.byt v)) Z
  generalize upd (upd τ st (stL scr p1 q)) (L + 5) (CE (some (.byt v))) = τ at D
  obtain ⟨ep, hMM⟩ := D.model
  refine SS.assignC (c := L + 3) rfl ?_
  refine EV.sub <| evList <| SQ.cons <| EV.none <| SQ.cons <| EV.binop <| EV.byt <| EV.int <| BN.mulB (by decide) (by decide) (by decide) (by decide) <| SQ.cons <| EV.binop <| EV.byt <| EV.int <| BN.mulB (by decide) (by decide) (by decide) (by decide) <| SQ.cons <| EV.meth mf_get <| EV.name D.fr rfl ⟨tyDict hMM, SQ.cons <| EV.cell (c := L + 2) rfl D.k2 <| SQ.nil <| CL.dictGet1 G hMM ?_⟩
  rw [getE_vO]
  refine SQ.nil ⟨by simp, fun c hc hcB => ?_⟩
  have hcs : c ≠ st := fun z => by rw [z, D.st] at hc; cases hc
  have D := D.fresh (o := .list ((oldL ds x).map vO)) hc
  refine EV.callF G (is298 G) rfl <| SQ.cons <| EV.name D.fr rfl <| SQ.cons <| EV.int <| SQ.nil <| nextN_ (size := 4) hA' G D.st D.scr (by omega) hns (by decide) fun i hi => ?_
  obtain ⟨old, hold⟩ : ∃ y, (oldL ds x)[i]? = some y := ⟨_, List.getElem?_eq_getElem (show i < (oldL ds x).length from hi)⟩
  have D := D.setSt (p' := p1 + 1) Z
  refine SI.list (v := vO old) ((upd_ne _ _ hcs).trans uu) (by omega) (by omega) (by
    rw [Int.toNat_natCast]
    have := congrArg (Option.map vO) hold
    rw [← List.getElem?_map] at this
    exact this) ⟨_, D.k3, ?_⟩
  have D := D.cell3 (v := some (vO old)) Z
  suffices hmain : ∀ τ, D1 σ st scr k R M L ns q (p1 + 1) ds ds (put (fr [("model", .ref M), ("state", .ref st)]) (Str.ofString "deed") (.int (d : Nat))) (some (.byt x)) (some (vO old)) none (some (.byt v)) τ → SS w B os (callEnvC fd364 L 364 :: l) A' (callEnvC fd364 L 364) (bd364.drop 4) (kBody Q) (kDn E) τ from hmain _ D
  clear D
  intro τ D
  have hfin : ∀ τ' ds' p' m' c4' , p' ≤ p1 + 2 → Good ds' → D1 σ st scr k R M L ns q p' ds' ds' m' (some (.byt x)) (some (vO old)) c4' (some (.byt v)) τ' → Dn (Q (.bool true)) τ' := fun τ' ds' p' m' c4' hp' g' D' => Dn.of <| h τ' ds' p' g' (by omega) D'.keep D'.st D'.kept D'.model D'.tab
  refine SS.if <| TR.cmp <| EV.name D.fr rfl <| EV.int <| CM.ltI <| TU.bool ?_
  have h6 := six hd
  rcases h6 with rfl | rfl | rfl | rfl | rfl | rfl
  · exact ⟨fun _ => deed01 (n := n) G hA' Z g hxn hv (.inl rfl) D rfl rfl fun τ' ds' m' c4' g' D' => hfin _ _ _ _ _ (by omega) g' D', nb⟩
  · exact ⟨fun _ => deed01 (n := n) G hA' Z g hxn hv (.inr rfl) D rfl rfl fun τ' ds' m' c4' g' D' => hfin _ _ _ _ _ (by omega) g' D', nb⟩
  · refine ⟨nb, fun _ => SS.nxt ?_⟩
    refine SS.if <| TR.cmp <| EV.name D.fr rfl <| EV.int <| CM.eqI <| TU.bool ⟨fun _ => ?_, nb⟩
    exact deed2 (n := n) G hA' Z g hxn hv D rfl fun τ' ds' m' g' D' => hfin _ _ _ _ _ (by omega) g' D'
  · refine ⟨nb, fun _ => SS.nxt ?_⟩
    refine SS.if <| TR.cmp <| EV.name D.fr rfl <| EV.int <| CM.eqI <| TU.bool ⟨nb, fun _ => SS.nxt ?_⟩
    refine SS.if <| TR.cmp <| EV.name D.fr rfl <| EV.int <| CM.eqI <| TU.bool ⟨fun _ => ?_, nb⟩
    exact deed3 (n := n) G hA' Z g hxn (by omega) hns D rfl rfl fun τ' ds' m' c4' g' D' => hfin _ _ _ _ _ (by omega) g' D'
  · refine ⟨nb, fun _ => SS.nxt ?_⟩
    refine SS.if <| TR.cmp <| EV.name D.fr rfl <| EV.int <| CM.eqI <| TU.bool ⟨nb, fun _ => SS.nxt ?_⟩
    refine SS.if <| TR.cmp <| EV.name D.fr rfl <| EV.int <| CM.eqI <| TU.bool ⟨nb, fun _ => SS.nxt ?_⟩
    refine SS.if <| TR.cmp <| EV.name D.fr rfl <| EV.int <| CM.eqI <| TU.bool ⟨fun _ => ?_, nb⟩
    exact deed4 (n := n) G hA' Z g D rfl fun τ' ds' m' g' D' => hfin _ _ _ _ _ (by omega) g' D'
  · refine ⟨nb, fun _ => SS.nxt ?_⟩
    refine SS.if <| TR.cmp <| EV.name D.fr rfl <| EV.int <| CM.eqI <| TU.bool ⟨nb, fun _ => SS.nxt ?_⟩
    refine SS.if <| TR.cmp <| EV.name D.fr rfl <| EV.int <| CM.eqI <| TU.bool ⟨nb, fun _ => SS.nxt ?_⟩
    refine SS.if <| TR.cmp <| EV.name D.fr rfl <| EV.int <| CM.eqI <| TU.bool ⟨nb, fun _ => SS.nxt ?_⟩
    exact deed5 (n := n) G hA' Z g D rfl fun τ' ds' m' g' D' => hfin _ _ _ _ _ (by omega) g' D'
end
end Mine
end
section
open PySem PySem.W PySem.Calls PyProof.Rows PySem.Builtin
set_option maxHeartbeats 1000000
namespace Mine
noncomputable abbrev qA : Str := "_law_alike.<locals>.<lambda>"
noncomputable abbrev cells3 (L : Addr) : List (Str × Addr) := [("name", L + 3), ("model", L + 2), ("kept", L + 1)]
structure A1 (σ : MS) (k M L : Addr) (m : Str → Option V) (c3 : Option V) (τ : MS) : Prop where
  keep : ∀ a o, a ≠ 366 → σ a = some o → τ a = some o
  tab : TabAt τ 366 qA
  fr : τ L = some (.ns m)
  k1 : τ (L + 1) = some (CE (some (.ref k)))
  k2 : τ (L + 2) = some (CE (some (.ref M)))
  k3 : τ (L + 3) = some (CE c3)
structure A0 (σ : MS) (L : Addr) : Prop where
  fresh : ∀ i, i ≤ 3 → σ (L + i) = none
  hT : ∃ ps, σ 366 = some (PIN (tabObj ps))
section
variable {σ τ τ' : MS} {k M L : Addr} {m : Str → Option V} {c3 : Option V}
theorem A0.ne (Z : A0 σ L) (i : Nat) (hi : i ≤ 3 := by decide) : L + i ≠ 366 := fun z => by
  obtain ⟨o, e⟩ := Z.hT; rw [← z, Z.fresh _ hi] at e; cases e
theorem A1.le (D : A1 σ k M L m c3 τ) (h : Le τ τ') : A1 σ k M L m c3 τ' := ⟨fun a o a1 e => h _ _ (D.keep a o a1 e), D.tab.le h, h _ _ D.fr, h _ _ D.k1, h _ _ D.k2, h _ _ D.k3⟩
theorem A1.fresh {a : Addr} {o : O} (D : A1 σ k M L m c3 τ) (h : τ a = none) : A1 σ k M L m c3 (upd τ a o) := D.le (Le.fresh h)
theorem A1.lam (D : A1 σ k M L m c3 τ) (Z : A0 σ L) (h : ∀ a o, a ≠ 366 → τ a = some o → τ' a = some o) (hT : TabAt τ' 366 qA) : A1 σ k M L m c3 τ' :=
  ⟨fun a o a4 e => h _ _ a4 (D.keep a o a4 e), hT, h _ _ (Z.ne 0) D.fr, h _ _ (Z.ne 1) D.k1, h _ _ (Z.ne 2) D.k2, h _ _ (Z.ne 3) D.k3⟩
theorem A1.frame {m' : Str → Option V} (D : A1 σ k M L m c3 τ) (Z : A0 σ L) : A1 σ k M L m' c3 (upd τ L (.ns m')) :=
  ⟨fun a o a1 e => (upd_ne _ _ fun z => by rw [z, show σ L = none from Z.fresh 0 (by decide)] at e; cases e).trans (D.keep a o a1 e), D.tab.but (Z.ne 0) (free_ns D.fr), uu, (upd_ne _ _ (an L 1 0 (by decide))).trans D.k1, (upd_ne _ _ (an L 2 0 (by decide))).trans D.k2, (upd_ne _ _ (an L 3 0 (by decide))).trans D.k3⟩
theorem A1.cell3 {v : Option V} (D : A1 σ k M L m c3 τ) (Z : A0 σ L) : A1 σ k M L m v (upd τ (L + 3) (CE v)) :=
  ⟨fun a o a1 e => (upd_ne _ _ fun z => by rw [z, Z.fresh 3 (by decide)] at e; cases e).trans (D.keep a o a1 e), D.tab.but (Z.ne 3) (free_ce D.k3), (upd_ne _ _ (an L 0 3 (by decide))).trans D.fr, (upd_ne _ _ (an L 1 3 (by decide))).trans D.k1, (upd_ne _ _ (an L 2 3 (by decide))).trans D.k2, uu⟩
theorem A1.but {b : Addr} {o : O} (D : A1 σ k M L m c3 τ) (hb : σ b = none) (hb' : b ≠ 366) (hf : Free τ b) (hns : ∀ m, τ b ≠ some (.ns m)) (hce : ∀ v, τ b ≠ some (CE v)) : A1 σ k M L m c3 (upd τ b o) := by
  have h0 : L ≠ b := fun z => hns m (z ▸ D.fr)
  have h1 : L + 1 ≠ b := fun z => hce _ (z ▸ D.k1)
  have h2 : L + 2 ≠ b := fun z => hce _ (z ▸ D.k2)
  have h3 : L + 3 ≠ b := fun z => hce _ (z ▸ D.k3)
  exact ⟨fun a o a1 e => (upd_ne _ _ fun z => by rw [z, hb] at e; cases e).trans (D.keep a o a1 e), D.tab.but hb' hf, (upd_ne _ _ h0).trans D.fr, (upd_ne _ _ h1).trans D.k1, (upd_ne _ _ h2).trans D.k2, (upd_ne _ _ h3).trans D.k3⟩
theorem A1.del {b : Addr} (D : A1 σ k M L m c3 τ) (hb : σ b = none) (hb' : b ≠ 366) (hf : Free τ b) (hns : ∀ m, τ b ≠ some (.ns m)) (hce : ∀ v, τ b ≠ some (CE v)) : A1 σ k M L m c3 (Mine.del τ b) := by
  have h0 : L ≠ b := fun z => hns m (z ▸ D.fr)
  have h1 : L + 1 ≠ b := fun z => hce _ (z ▸ D.k1)
  have h2 : L + 2 ≠ b := fun z => hce _ (z ▸ D.k2)
  have h3 : L + 3 ≠ b := fun z => hce _ (z ▸ D.k3)
  refine ⟨fun a o a1 e => (del_ne fun z => by rw [z, hb] at e; cases e).trans (D.keep a o a1 e), ?_, (del_ne h0).trans D.fr, (del_ne h1).trans D.k1, (del_ne h2).trans D.k2, (del_ne h3).trans D.k3⟩
  obtain ⟨ps, t1, t2, t3⟩ := D.tab
  refine ⟨ps, (del_ne hb'.symm).trans t1, t2, fun pos cv e => ?_⟩
  obtain ⟨c', j1, j2, j3⟩ := t3 pos cv e
  exact ⟨c', j1, j2, (del_ne fun z => (hf _ (z ▸ j3)).1 qA rfl).trans j3⟩
end
section
variable {w : World} {B : Heap} {os : OsState} {l : List Env} {A : Around} {E : Value → MS → Prop} {env : Env} {s : Shared}
variable {σ τ τ' : MS} {k M L : Addr} {m : Str → Option V} {c3 : Option V}
theorem call369 {n : Nat} {x0 x1 : V} {Q : V → MS → Prop} (hA : Ar A l (n + 1)) (G : BF w B)
    (h : ∀ L A', σ L = none → (∀ c, L ≤ c → σ c = none) → Ar A' (callEnvC fd369 L 369 :: l) n → SS w B os (callEnvC fd369 L 369 :: l) A' (callEnvC fd369 L 369) bd369 (kBody Q) (kDn E)
      (upd (upd (upd (upd σ L (.ns (fr []))) (L + 1) (CE (some x0))) (L + 2) (CE (some x1))) (L + 3) (CE none))) :
    CL w B os l A (.ref 369) [x0, x1] Q E σ := by
  refine CL.defC (m := fr []) (cm := fr [("model", x1), ("kept", x0)]) hA G (is369 G) rfl (fun vs hv => ?_) (fun L n c h => ?_) h
  · obtain ⟨v0, v1, rfl, rfl, rfl⟩ := list2 hv
    refine ⟨[("kept", v0), ("model", v1)], by kernel_rfl!, fun L x hx => ?_, fun L x => rfl, fun L x => ?_⟩
    · simp only [List.mem_cons, List.not_mem_nil, or_false] at hx
      rcases hx with rfl | rfl
      · exact .inr ⟨by show fd369.scope.names.lookup (Str.ofString "kept") = _; decide +kernel, by rfl⟩
      · exact .inr ⟨by show fd369.scope.names.lookup (Str.ofString "model") = _; decide +kernel, by rfl⟩
    · show Option.map er (if x = Str.ofString "model" then some v1 else if x = Str.ofString "kept" then some v0 else none) = _
      exact fr_ite (fr_ite rfl)
  · have e : cellsFrom (L + 1) fd369.scope.names [] = cells3 L := by rfl
    rw [e] at h ⊢
    simp only [List.mem_cons, List.not_mem_nil, or_false, Prod.mk.injEq] at h
    rcases h with ⟨rfl, rfl⟩ | ⟨rfl, rfl⟩ | ⟨rfl, rfl⟩ <;> rfl
theorem askA {params : Arguments} {body : Expr} {scope : Scope} {lp np pos : Pos} {clos : List (Str × Addr)} {n : Nat} {Q : V → MS → Prop} (G : BF w B) (hA : Ar A (callEnvC fd369 L 369 :: l) (n + 2)) (Z : A0 σ L) (D : A1 σ k M L m c3 τ)
    (h : ∀ f c' L2 L3 A3 τ3, A1 σ k M L m c3 τ3 → (∀ a o, a ≠ 366 → τ a = some o → τ3 a = some o) → Ar A3 (envX qA scope L3 f (.ref c') clos :: callEnv fd343 L2 343 :: callEnvC fd369 L 369 :: l) n →
      EV w B os (envX qA scope L3 f (.ref c') clos :: callEnv fd343 L2 343 :: callEnvC fd369 L 369 :: l) A3 (envX qA scope L3 f (.ref c') clos) body Q (fun c σ' => ∃ t, SaysOf c t ∧ Q (.str t) σ') τ3)
    (hcl : closureFor scope (callEnvC fd369 L 369) = pure clos := by rfl) (hbind : ∀ c' pm ctv, bindArgs (kla_fn "<lambda>" qA params body scope clos pm (.ref c') ctv) ⟨[], []⟩ = pure [] := by intros; rfl) (hcell : ∀ x ∈ scope.names, x.2 ≠ .cell := by decide +kernel)
    (hk : scope.kind = .function := by rfl) (hco : scope.isCoroutine = false := by rfl) (hgen : scope.isGenerator = false := by rfl) (hdef : defaultsOf params (callEnvC fd369 L 369) = ([], []) := by rfl) :
    EV w B os (callEnvC fd369 L 369 :: l) A (callEnvC fd369 L 369) (.Call (.Name "_law_answer" np) [.Lambda params body scope lp] [] pos) Q E τ := by
  refine EV.callF G (is343 G) rfl <| SQ.cons <| evLambda (P := 366) (c := 368) (q := qA) G D.tab (by decide) (fun f c' σ' hf hfB hT hkeep hLM hCR hne => SQ.nil ?_) rfl hcl rfl (by kernel_rfl!) rfl hdef
  have D' := D.lam Z hkeep hT
  refine answer_ hA G hLM fun L2 A2 hL2 hA2 => ?_
  refine CL.lam hA2 G (un hL2 hLM) (un hL2 hCR) (hbind c') hcell (fun L3 A3 hL3 hA3 => ?_) hk hco hgen
  have hle := (Le.fresh (o := .ns (fr [(Str.ofString "action", .ref f)])) hL2).trans (Le.fresh (o := .ns (fr [])) hL3)
  exact EV.mono (h f c' L2 L3 A3 _ ((D'.fresh hL2).fresh hL3) (fun a o ha e => hle _ _ (hkeep a o ha e)) hA3) (fun v σ₁ z => Dn.of (Dn.of z)) fun c σ₁ ⟨t, ht, z⟩ => Dn.of ⟨t, ht, Dn.of z⟩
end
end Mine
end
section
open PySem PySem.W PySem.Calls PyProof.Rows PySem.Builtin
set_option maxHeartbeats 1000000
namespace Mine
theorem miss_keys : typeLookup (.type "list") (Str.ofString "keys") = pure none := by rw [typeLookup_type, builtinLookup_eq_fast]; kernel_rfl
theorem getAttrQ_keys {prog : Program} {w : World} {A : Around} {E : Value → Shared → Prop} {s : Shared} {a : Addr} {xs : Array Value} {k : Nat} {Q : Option Value → Shared → Prop}
    (hx : s.heap.get? a = some { cls := .type "list", data := .seq xs k }) (hA : A.handled = none)
    (h : ∀ h' tk, (∀ b o, s.heap.get? b = some o → h'.get? b = some o) → Q none { s with heap := h', toks := tk }) :
    wpAny (model prog w) A (getAttr? (.ref a) (Str.ofString "keys")) Q E s := by
  obtain ⟨hp, g, d, tk, os⟩ := s
  have hT : ∀ tk', (⟨hp, g, d, tk', os⟩ : Shared).TypeIs (.ref a) "list" := fun _ => ⟨_, hx, rfl⟩
  have f1 := sub_AttributeError
  have f3 := F.slot_list_getattribute.lookup
  have f4 := F.slot_list_getattribute.bind (.ref a)
  have f5 := am_list_getattr_none
  unfold getAttr? getAttrBy? getAttrBy
  repeat (any_goals (first | assumption | exact hT _ | ((with_reducible show wpAny _ _ (call (Value.builtin "list.__getattribute__") _ _) _ _ _); refine call_meets F.slot_list_getattribute (hT _) am_entry_list_getattribute (F.args_list_getattribute_2 _ _) (meets_getattribute_miss_list a xs k #[] (Str.ofString "keys") _ miss_keys (by decide +kernel)) ⟨hx, hA, fun h' tk' e hx' => ?_⟩) | wp_step))
  obtain ⟨t', u', he⟩ := hx'.there
  show wpAny _ _ (getattributeRaised _ _ _ _ _ _ _) _ _ _
  unfold getattributeRaised
  repeat (any_goals (first | assumption | wp_step))
  exact h _ _ hx'.keeps
end Mine
end
section
open PySem PySem.W PySem.Calls PyProof.Rows PySem.Builtin
set_option maxHeartbeats 1000000
namespace Mine
theorem entry_du_loop : entryFor table "dict.update.loop" = some Builtin.«dict.update.loop» := entryFor_of_tree (by kernel_rfl)
theorem plain_du_loop : plainId "dict.update.loop" = true := by decide +kernel
section
variable {w : World} {B : Heap} {os : OsState} {l : List Env} {A : Around} {σ : MS} {E : Value → MS → Prop} {env : Env} {s : Shared}
theorem dictSetW {d : Addr} {es : List (List UInt8 × V)} {ep : Nat} {k : List UInt8} {u : Tok} {vc : Value} {v : V} {Q : Unit → MS → Prop} (hvc : er vc = v) (hz : es.length ≤ 1000000) (hd : σ d = some (.dict es ep)) (h : ∀ ep', Q () (upd σ d (.dict (setE es k v) ep'))) : W w B os l A (dictSet d (.bytes k.toArray u) vc) Q E σ := fun s R => by
  obtain ⟨hB, kvs, hD, rfl⟩ := R.known _ _ hd
  refine wpAny_dictSet_pairs (bytesKind_is pw w k u) hD.dictOf (fun h' hD' hs => (let ⟨ep', hA'⟩ := hD'.dictAt; ⟨_, R.turn (o' := .dict _ ep') hd hs ⟨_, hA', rfl⟩ _ (fun m e => by cases e), ?_⟩)) (by rw [List.length_map] at hz; rw [sizeLine_eq]; omega)
  rw [setE_eq, hvc]
  exact h _
noncomputable def PairsAt (σ : MS) (ts : List Addr) (kvs : DS) : Prop := ts.length = kvs.length ∧ ∀ (i : Nat) (t : Addr) (p : List UInt8 × List UInt8), ts[i]? = some t → kvs[i]? = some p → σ t = some (.tup [.byt p.1, .byt p.2])
theorem duLoop {D it lst : Addr} {ts : List Addr} {kvs : DS} (hh : A.handled = none) (hz : kvs.length ≤ 1000) (hkn : (kvs.map (·.1)).Nodup) :
    ∀ (n i : Nat) (ep : Nat) (τ : MS), n = kvs.length - i → i ≤ kvs.length → PairsAt τ ts kvs → τ lst = some (.list (ts.map V.ref)) → τ it = some (LI lst i) → τ D = some (.dict (dB (kvs.take i)) ep) → D ≠ it → ∀ s, Rel w B os l τ s →
      ∀ R : Result → Shared → Prop, (∀ s' ep', Rel w B os l (del (upd τ D (.dict (dB kvs) ep')) it) s' → R (.ok (.ret .none)) s') → codeAny (model pw w) A (.builtin "dict.update.loop" ⟨[.ref D, .ref it, rawInt i, .none], []⟩) R s := by
  intro n
  induction n with
  | zero =>
    intro i ep τ hn hi hp hl hit hD hne s R P' hP
    obtain rfl : i = kvs.length := ix0 hn hi
    refine codeAny_builtin entry_du_loop ?_
    rw [Around.under_plainId plain_du_loop _]
    show wpAny _ A.in1 (pyNext (.ref it) >>= _) _ _ s
    have hit' : τ it = some (LI lst (ts.map V.ref).length) := by rw [List.length_map, hp.1]; exact hit
    refine wpAny_bind (wpAny_mono (nextListEnd (A := A.in1) (Q := fun r σ' => r = none ∧ σ' = del τ it) (E := fun _ _ => False) hh hl hit' ⟨rfl, rfl⟩ s R) (fun r s' hq1 => ?_) fun v s' z => no5 z)
    obtain ⟨σ', R', hr, hσ⟩ := hq1
    subst hr hσ
    refine wpAny_bind (wpAny_pure (wpAny_pure (hP s' ep ?_)))
    rw [List.take_length] at hD
    rw [upd_same hD]; exact R'
  | succ n ih =>
    intro i ep τ hn hi hp hl hit hD hne s R P' hP
    have hlt : i < kvs.length := ix1 hn
    have hlt' : i < ts.length := by rw [hp.1]; exact hlt
    refine codeAny_builtin entry_du_loop ?_
    rw [Around.under_plainId plain_du_loop _]
    show wpAny _ A.in1 (pyNext (.ref it) >>= _) _ _ s
    refine wpAny_bind (wpAny_mono (nextList (A := A.in1) (v := .ref ts[i]) (Q := fun r σ' => ∃ va, r = some va ∧ er va = .ref ts[i] ∧ σ' = upd τ it (LI lst (i + 1))) (E := fun _ _ => False) hl hit (by simp [hlt']) (fun va e => ⟨va, rfl, e, rfl⟩) s R) (fun r s' hq1 => ?_) fun v s' z => no5 z)
    obtain ⟨σ', R', va, hr, hva, hσ⟩ := hq1
    subst hr hσ
    have ht := hp.2 i ts[i] kvs[i] (List.getElem?_eq_getElem hlt') (List.getElem?_eq_getElem hlt)
    have hti : ts[i] ≠ it := fun z => by rw [z, hit] at ht; cases ht
    have htD : ts[i] ≠ D := fun z => by rw [z, hD] at ht; cases ht
    have ht' : upd τ it (LI lst (i + 1)) ts[i] = some (.tup [.byt kvs[i].1, .byt kvs[i].2]) := (upd_ne _ _ hti).trans ht
    obtain ⟨_, us, nn, ho, hus⟩ := R'.known _ _ ht'
    obtain ⟨u1, u2, eu, eu1, eu2⟩ := list2 hus
    obtain ⟨tk1, rfl⟩ := er_byt eu1
    rw [er_ref hva]
    show wpAny _ A.in1 (holding [.ref ts[i]] _ >>= _) _ _ s'
    refine wpAny_bind (wpAny_holding (wpAny_bind (wpAny_tryCatch ?_)))
    unfold Dict.pairItems
    refine wpAny_bind (wpAny_typeOf (T := "tuple") ⟨_, ho, rfl⟩ ?_)
    rw [if_pos (by decide)]
    refine wpAny_bind (wpAny_seqItems ho rfl (wpAny_pure ?_))
    show wpAny _ _ (match us.toList with | [k, v] => _ | l => _) _ _ _
    rw [eu]
    have hD' : upd τ it (LI lst (i + 1)) D = some (.dict (dB (kvs.take i)) ep) := (upd_ne _ _ hne).trans hD
    have hzt : (dB (kvs.take i)).length ≤ 1000000 := by unfold dB; rw [List.length_map, List.length_take]; omega
    refine wpAny_holding (wpAny_mono (dictSetW (A := A.in1) (E := fun _ _ => False) (Q := fun _ σ' => ∃ ep', σ' = upd (upd τ it (LI lst (i + 1))) D (.dict (setE (dB (kvs.take i)) kvs[i].1 (.byt kvs[i].2)) ep')) eu2 hzt hD' (fun ep' => ⟨ep', rfl⟩) s' R') (fun _ s₂ hq1 => ?_) fun v s' z => no5 z)
    obtain ⟨σ₂, R₂, ep', e⟩ := hq1
    subst e
    have hset : setE (dB (kvs.take i)) kvs[i].1 (.byt kvs[i].2) = dB (kvs.take (i + 1)) := by
      rw [setE_dB, setB_new, List.take_add_one, List.getElem?_eq_getElem hlt]
      · rfl
      · intro p hp' e
        have h1 : (kvs.map (·.1))[i]? = some kvs[i].1 := by rw [List.getElem?_map, List.getElem?_eq_getElem hlt]; rfl
        have := take_notin hkn h1
        rw [← List.map_take] at this
        exact this (e ▸ List.mem_map_of_mem (f := (·.1)) hp')
    rw [hset] at R₂
    refine wpAny_pure ⟨plainId_quiet plain_du_loop _, ?_⟩
    have hlD : lst ≠ D := fun z => by rw [z, hD] at hl; cases hl
    have hli : lst ≠ it := fun z => by rw [z, hit] at hl; cases hl
    refine ih (i + 1) ep' _ (ix2 hn) hlt ⟨hp.1, fun j t p h1 h2 => ?_⟩ ((upd_ne _ _ hlD).trans ((upd_ne _ _ hli).trans hl)) ((upd_ne _ _ hne.symm).trans uu) uu hne s₂ R₂ P' fun s'' ep'' R'' => hP s'' ep'' ?_
    · have := hp.2 j t p h1 h2
      have a1 : t ≠ it := fun z => by rw [z, hit] at this; cases this
      have a2 : t ≠ D := fun z => by rw [z, hD] at this; cases this
      rw [upd_ne _ _ a2, upd_ne _ _ a1]; exact this
    · have e : del (upd (upd (upd τ it (LI lst (i + 1))) D (.dict (dB (kvs.take (i + 1))) ep')) D (.dict (dB kvs) ep'')) it = del (upd τ D (.dict (dB kvs) ep'')) it := by
        funext b
        unfold del upd
        by_cases q : b = it
        · simp [q]
        · by_cases q2 : b = D <;> simp [q, q2]
      rw [e] at R''
      exact R''
theorem CL.dictOf {lst : Addr} {ts : List Addr} {kvs : DS} {Q : V → MS → Prop} (hh : A.handled = none) (hl : σ lst = some (.list (ts.map V.ref))) (hp : PairsAt σ ts kvs) (hz : kvs.length ≤ 1000) (hkn : (kvs.map (·.1)).Nodup)
    (h : ∀ D ep, σ D = none → B.get? D = none → Q (.ref D) (upd σ D (.dict (dB kvs) ep))) : CL w B os l A (.ty "dict") [.ref lst] Q E σ := fun vf vs hf hv s R => by
  obtain ⟨x, rfl, hx⟩ := list1 hv
  rw [er_ty hf, er_ref hx]
  refine callType_codes (Q₁ := fun obj s₁ => obj = .ref s.heap.objs.size ∧ s₁ = { s with heap := s.heap.push { cls := .type "dict", data := .dict #[] } }) F.kt_called_dict (F.kt_typeCall_dict_1 _) F.entry_dict_init (kt_code_dict_new _ ⟨rfl, rfl⟩) ?_
  rintro obj s₁ ⟨rfl, rfl⟩
  have hD : (s.heap.push { cls := .type "dict", data := .dict #[] }).DictOf (bytesKind pw w) s.heap.objs.size [] := Heap.DictOf.new s.heap
  obtain ⟨ep, hDA⟩ := hD.dictAt
  have R₁ := R.new (a := s.heap.objs.size) (o := .dict (dB []) ep) (h' := s.heap.push { cls := .type "dict", data := .dict #[] }) (fun b o e => Heap.get?_push_of_some _ e) (get_none s) ⟨[], hDA, rfl⟩ s.toks
  have fr := R.fresh
  refine ⟨hD.typeIs, F.args_dict_init_2 _ _, ?_⟩
  unfold Builtin.«dict.__init__»
  refine wpAny_bind ?_
  unfold Builtin.Dict.selfAndRest
  refine wpAny_bind (wpAny_notOrdered_dict hD.typeIs ?_)
  show wpAny _ _ (pure (s.heap.objs.size, [Value.ref lst])) _ _ _
  refine wpAny_pure ?_
  show wpAny _ _ (Builtin.Dict.updateFrom "dict.__init__" s.heap.objs.size (.ref lst) [] .none) _ _ _
  generalize s.heap.objs.size = D at R₁ fr ⊢
  have R₁' : Rel w B os l (upd σ D (.dict (dB []) ep)) { s with heap := s.heap.push { cls := .type "dict", data := .dict #[] } } := R₁
  generalize ({ s with heap := s.heap.push { cls := .type "dict", data := .dict #[] } } : Shared) = s₁ at R₁' ⊢
  have hlD : lst ≠ D := ne_of_none fr.1 hl
  have hl1 : upd σ D (.dict (dB []) ep) lst = some (.list (ts.map V.ref)) := (upd_ne _ _ hlD).trans hl
  obtain ⟨_, us, nn, ho, hus⟩ := R₁'.known _ _ hl1
  unfold Builtin.Dict.updateFrom
  refine wpAny_bind (wpAny_typeOf (T := "list") ⟨_, ho, rfl⟩ ?_)
  rw [if_pos (by decide)]
  refine wpAny_bind (getAttrQ_keys ho hh fun h' tk hk => ?_)
  rw [if_pos (by decide)]
  have R₂ := R₁'.grow hk tk
  refine wpAny_bind (wpAny_rule (wpAny_bind (wpAny_mono (iterList (A := A.in1.in1) (E := fun _ _ => False) (Q := fun itv σ' => ∃ it, itv = .ref it ∧ upd σ D (.dict (dB []) ep) it = none ∧ σ' = upd (upd σ D (.dict (dB []) ep)) it (LI lst 0)) hl1 (fun it h1 h2 => ⟨it, rfl, h1, rfl⟩) _ R₂) (fun itv s₃ hq1 => ?_) fun v s' z => no5 z)))
  obtain ⟨σ₃, R₃, it, hit, hi0, hσ⟩ := hq1
  subst hit hσ
  obtain ⟨hi1, hiD⟩ := nu hi0
  refine wpAny_pure ⟨plainId_quiet plain_du_loop _, ?_⟩
  refine duLoop (A := A.in1) hh hz hkn (kvs.length - 0) 0 ep _ rfl (Nat.zero_le _) ⟨hp.1, fun j t p h1 h2 => ?_⟩ (un hi0 hl1) uu ((upd_ne _ _ hiD.symm).trans uu) hiD.symm s₃ R₃ _ fun s₄ ep' R₄ => ⟨rfl, ?_⟩
  · have := hp.2 j t p h1 h2
    exact un hi0 (un fr.1 this)
  · refine ⟨_, R₄.less ?_, h D ep' fr.1 fr.2⟩
    intro b o e
    have hbi : b ≠ it := by
      rintro rfl
      rw [upd_ne _ _ hiD, hi1] at e; cases e
    rw [del_ne hbi]
    by_cases q : b = D
    · subst q; rw [upd_self] at e ⊢; exact e
    · rw [upd_ne _ _ q] at e
      rw [upd_ne _ _ q, upd_ne _ _ hbi, upd_ne _ _ q]; exact e
end
end Mine
end
section
open PySem PySem.W PySem.Calls PyProof.Rows PySem.Builtin
set_option maxHeartbeats 1000000
namespace Mine
section
variable {w : World} {B : Heap} {os : OsState} {l : List Env} {A : Around} {E : Value → MS → Prop} {env : Env} {s : Shared} {ds : DS}
variable {σ τ τ' : MS} {k R M L : Addr} {m : Str → Option V} {c3 : Option V}
theorem CL.sortedList {a : Addr} {ks : List (List UInt8)} {Q : V → MS → Prop} (hh : A.handled = none) (ha : σ a = some (.list (ks.map V.byt))) (hz : ks.length < 64) (h : ∀ (D : Addr) (ys : List (List UInt8)), ys.Perm ks → SortedB ys → σ D = none → B.get? D = none → Q (.ref D) (upd σ D (.list (ys.map V.byt)))) : CL w B os l A (.bi "sorted") [.ref a] Q E σ :=
  CL.sortedBy fun va hva s R => by
    rw [er_ref hva]
    obtain ⟨_, us, n, ho, hus⟩ := R.known _ _ ha
    have hul : us.size = ks.length := by have := congrArg List.length hus; simpa using this
    refine wpAny_collect_seq a (T := "list") (.inl rfl) ho rfl rfl fun h' hk => ⟨σ, ?_, ks, hus, hz, fun D ys q1 q2 q3 q4 => h D ys q1 q2 q3 q4⟩
    exact R.grow hk s.toks
theorem evOwnC {xn name : Str} {xp apos pos : Pos} {es : List Expr} {c f : Addr} {fd : FuncData} {body : List Stmt} {Q : V → MS → Prop} (G : BF w B) (hc : env.cells.lookup xn = some c) (hσ : σ c = some (CE (some (.ref k)))) (K : Kept σ k R ds) (hF : IsFn B f fd body)
    (h : SQ w B os l A env es (kCLm w B os l A E (.ref f) (.ref k) Q) E σ)
    (h1 : findIn (Kd w.params) (.ref 281) name = some (some (.ref f)) := by kernel_rfl!) (h2 : typeIn (Kd w.params) (.ref f) = some (.type "function") := by kernel_rfl!)
    (h3 : List.lookup name ([("_refs", V.ref R), ("_peeled", V.ref 0)] : List (Str × V)) = none := by rfl)
    (hs : backTo pos (starEach es env) = es.map (fun e => (false, eval e env)) := by rfl)
    (he : ∃ pl : Sem Bool, eval (.Call (.Attribute (.Name xn xp) name apos) es [] pos) env = (do
      let ov ← eval (.Name xn xp) env
      standAt apos.atName
      let (f, first) ← holding [ov] (getMethod ov name pl)
      callWith pos f first (backTo pos (starEach es env)) (backToKw pos (keywordEach [] env))) := by exact ⟨_, rfl⟩)
    (hk : env.scope.kind = .function := by rfl) (hl : env.kindOf xn = some .cell := by rfl) (hd : (xn == ("__debug__" : Str)) = false := by kernel_rfl!) : EV w B os l A env (.Call (.Attribute (.Name xn xp) name apos) es [] pos) Q E σ := by
  obtain ⟨dk, P, ep, k1, k2, k3⟩ := K
  refine EV.methOwn G (EV.cell hc hσ ⟨k, 281, dk, _, f, fd, rfl, k1, k2, ?_, hF.there, h, (find281 _).1, (find281 _).2, h1, h2⟩ hk hl hd) hs he
  simp only [List.lookup] at h3 ⊢
  split at h3
  · cases h3
  · split at h3
    · cases h3
    · rfl
end
end Mine
end
section
open PySem PySem.W PySem.Calls PyProof.Rows PySem.Builtin
set_option maxHeartbeats 4000000
namespace Mine
noncomputable def ifTest : List Stmt → Expr
  | .If t _ _ _ :: _ => t
  | _ => .Constant .none 0 ⟨0, 0, 0, 0⟩
theorem made_keysE {f : List UInt8 → Option (List UInt8)} : ∀ {ys : List (List UInt8)}, (madeOf f ys).map (·.1) = ys.filter fun x => (f x).isSome
  | [] => rfl
  | y :: ys => by
    have ih := made_keysE (f := f) (ys := ys)
    unfold madeOf at ih ⊢
    rw [List.filterMap_cons, List.filter_cons]
    cases h : f y with
    | none => simp only [Option.map_none, Option.isSome_none, Bool.false_eq_true, if_false]; exact ih
    | some v => simp only [Option.map_some, Option.isSome_some, if_true, List.map_cons]; rw [ih]
theorem made_nodup {f : List UInt8 → Option (List UInt8)} {ys : List (List UInt8)} (h : ys.Nodup) : ((madeOf f ys).map (·.1)).Nodup := by
  rw [made_keysE]; exact h.sublist List.filter_sublist
theorem made_perm {f : List UInt8 → Option (List UInt8)} {ys zs : List (List UInt8)} (h : ys.Perm zs) : (madeOf f ys).Perm (madeOf f zs) := h.filterMap _
theorem made_snoc {f : List UInt8 → Option (List UInt8)} {ys : List (List UInt8)} {i : Nat} {x : List UInt8} (hx : ys[i]? = some x) : madeOf f (ys.take (i + 1)) = madeOf f (ys.take i) ++ (match f x with | some v => [(x, v)] | none => []) := by
  unfold madeOf
  rw [List.take_add_one, hx, List.filterMap_append]
  cases h : f x <;> simp [h]
theorem byt_atoms (ys : List (List UInt8)) : ∀ x ∈ ys.map V.byt, atomV x = true := fun x h => by
  obtain ⟨y, _, rfl⟩ := List.mem_map.mp h; rfl
structure AK (σ : MS) (k R M L : Addr) (ds : DS) (epM : Nat) : Prop where
  a0 : A0 σ L
  kept : Kept σ k R ds
  model : σ M = some (.dict (dB ds) epM)
  good : Good ds
section
variable {w : World} {B : Heap} {os : OsState} {l : List Env} {A : Around} {E : Value → MS → Prop} {env : Env} {s : Shared} {ds : DS}
variable {σ τ τ' : MS} {k R M L : Addr} {m : Str → Option V} {c3 : Option V} {epM : Nat}
theorem AK.keptT (Z : AK σ k R M L ds epM) (D : A1 σ k M L m c3 τ) : Kept τ k R ds := by
  obtain ⟨dk, P, ep, h1, h2, h3⟩ := Z.kept
  obtain ⟨ps, hT⟩ := Z.a0.hT
  have np1 : ∀ C dx, PIN (tabObj ps) ≠ IN C dx := fun C dx z => by
    unfold PIN IN at z; injection z with z
    have := (congrFun z (tabObj ps)).mp rfl
    cases this
  have np2 : ∀ R P, PIN (tabObj ps) ≠ ID [("_refs", .ref R), ("_peeled", .ref P)] := fun R P z => by
    unfold PIN ID at z; injection z with z
    obtain ⟨arr, n, e, _⟩ := (congrFun z (tabObj ps)).mp rfl
    cases e
  exact ⟨dk, P, ep, D.keep _ _ (fun z => by rw [z, hT] at h1; exact np1 _ _ (Option.some.inj h1)) h1, D.keep _ _ (fun z => by rw [z, hT] at h2; exact np2 _ _ (Option.some.inj h2)) h2, D.keep _ _ (fun z => by rw [z, hT] at h3; cases h3) h3⟩
theorem AK.modelT (Z : AK σ k R M L ds epM) (D : A1 σ k M L m c3 τ) : τ M = some (.dict (dB ds) epM) := by
  obtain ⟨ps, hT⟩ := Z.a0.hT
  exact D.keep _ _ (fun z => by have := Z.model; rw [z, hT] at this; cases this) Z.model
theorem keys_at {i : Nat} {v : V} (h : ((dB ds).map fun p => V.byt p.1)[i]? = some v) : ∃ x, (keysB ds)[i]? = some x ∧ v = .byt x ∧ x ∈ keysB ds := by
  unfold dB at h
  rw [List.map_map, List.getElem?_map] at h
  obtain ⟨p, hp, rfl⟩ := Option.map_eq_some_iff.mp h
  exact ⟨p.1, by rw [List.getElem?_map, hp]; rfl, rfl, List.mem_map_of_mem (List.mem_of_getElem? hp)⟩
theorem Good.look {x : List UInt8} (g : Good ds) (h : x ∈ keysB ds) : ∃ v, lookB ds x = some v ∧ v ∈ okVals ∧ v.length ≤ 100 := by
  obtain ⟨p, hp, e⟩ := List.mem_map.mp h
  have hl := lookB_mem (k := x) (b := p.2) g.nodup (by rw [← e]; exact hp)
  exact ⟨p.2, hl, g.vals _ hp, (okVals_len _ (g.vals _ hp)).2⟩
theorem alike1 {n : Nat} {Q : Bool → MS → Prop} (G : BF w B) (hA : Ar A (callEnvC fd369 L 369 :: l) (n + 9)) (Z : AK σ k R M L ds epM) (D : A1 σ k M L m c3 τ) (h : ∀ τ', A1 σ k M L m c3 τ' → Q false τ') :
    TR w B os (callEnvC fd369 L 369 :: l) A (callEnvC fd369 L 369) (ifTest bd369) Q E τ := by
  have g := Z.good
  have hsz := g.size
  have hkl : (keysB ds).length < 64 := by rw [List.length_map]; omega
  have hu : A.units < cLine := by have := hA.units; omega
  refine TR.or <| TR.cmp <| EV.callBi (id := "sorted") G (by kernel_rfl!) (by kernel_rfl!) (by kernel_rfl!) <| SQ.cons <| evOwnC G (c := L + 1) rfl D.k1 (Z.keptT D) (is123 G) <| SQ.nil <| keys1_ (n := n + 7) hA G (Z.keptT D) g fun a ha haB => SQ.nil <| CL.sortedSet hA.handled uu hkl fun D1 ys hp hs hD1 hD1B => ?_
  rw [del_upd ha] at hD1 ⊢
  have hM1 : upd τ D1 (.list (ys.map V.byt)) M = some (.dict (dB ds) epM) := un hD1 (Z.modelT D)
  have Da := D.fresh (o := .list (ys.map V.byt)) hD1
  refine EV.callBi (id := "sorted") G (by kernel_rfl!) (by kernel_rfl!) (by kernel_rfl!) <| SQ.cons <| EV.cell (c := L + 2) rfl Da.k2 <| SQ.nil <| CL.sortedDict G hA.handled hM1 (by unfold dB; rw [List.length_map]; omega) fun D2 ys2 hp2 hs2 hD2 hD2B => ?_
  have e1 : (dB ds).map (·.1) = keysB ds := by unfold dB; rw [List.map_map]; rfl
  rw [e1] at hp2
  obtain rfl : ys2 = ys := sortedB_unique hs2 hs (hp2.trans hp.symm)
  have Db := Da.fresh (o := .list (ys2.map V.byt)) hD2
  refine CM.neList hu (un hD2 uu) uu (byt_atoms _) <| TU.bool ?_
  generalize upd (upd τ D1 (.list (ys2.map V.byt))) D2 (.list (ys2.map V.byt)) = τ1 at Db
  refine TR.or <| TR.cmp <| evOwnC G (c := L + 1) rfl Db.k1 (Z.keptT Db) (is201 G) <| SQ.nil <| getsym_ (n := n + 6) hA G (Z.keptT Db) g fun sd sep sys hsys hsd hsdB => ?_
  have Dc := Db.fresh (o := .dict (dB (madeOf (symOf ds) sys)) sep) hsd
  have hsd' : upd τ1 sd (.dict (dB (madeOf (symOf ds) sys)) sep) sd = some (.dict (dB (madeOf (symOf ds) sys)) sep) := uu
  generalize upd τ1 sd (.dict (dB (madeOf (symOf ds) sys)) sep) = τ2 at Dc hsd'
  have hM2 := Z.modelT Dc
  refine EV.callTy (id := "dict") G (by kernel_rfl!) (by kernel_rfl!) (by kernel_rfl!) <| SQ.cons ?_
  refine evComp (cl := [(Str.ofString "model", L + 2)]) rfl rfl (by decide +kernel) (by decide +kernel) ?_
  refine EV.cell (c := L + 2) rfl Dc.k2 ⟨_, _, _, Src.dict G hA.handled hM2, fun it Dl C hit hitB hDl hC e1 e2 e3 => ?_⟩
  have hMi : M ≠ it := ne_of_none hit hM2
  have hMD : M ≠ Dl := ne_of_none hDl hM2
  have hMC : M ≠ C := ne_of_none hC hM2
  refine ⟨fun i ys τ => Le τ2 τ ∧ τ it = some (KI M (dB ds).length epM i) ∧ τ Dl = some (.list ys) ∧ (∃ m, τ C = some (.ns m)) ∧ ∃ ts, ys = ts.map V.ref ∧ PairsAt τ ts (madeOf (symOf ds) ((keysB ds).take i)), ?_, ?_, ?_⟩
  · refine ⟨Le.over (Le.over (Le.fresh hit) hDl) hC, (upd_ne _ _ e2).trans ((upd_ne _ _ e1).trans uu), (upd_ne _ _ e3).trans uu, ⟨_, uu⟩, [], rfl, rfl, fun i t p h1 h2 => by simp at h1⟩
  · rintro i v τ3 ys ⟨h1, h2, h3, ⟨mc, h4⟩, ts, rfl, hpr⟩ hv
    obtain ⟨x, hx, rfl, hxk⟩ := keys_at hv
    obtain ⟨v, hlv, hvo, hvl⟩ := g.look hxk
    refine ⟨h1 _ _ hM2, h2, AS.at (L := C) ((upd_ne _ _ e2.symm).trans h4) ?_⟩
    have hle4 : ∀ o o', Le τ2 (upd (upd τ3 it o) C o') := fun o o' => Le.over (Le.over h1 hit) hC
    have hMc : ∀ o o', upd (upd τ3 it o) C o' M = some (.dict (dB ds) epM) := fun o o' => hle4 _ _ _ _ hM2
    have hcc : ∀ o o', upd (upd τ3 it o) C o' (L + 2) = some (CE (some (.ref M))) := fun o o' => hle4 _ _ _ _ Dc.k2
    have hge : getE (dB ds) x = some (.byt v) := by rw [getE_dB, hlv]; rfl
    have hD4 : ∀ o o', upd (upd τ3 it o) C o' Dl = some (.list (ts.map V.ref)) := fun o o' => by rw [upd_ne _ _ e3, upd_ne _ _ e1.symm]; exact h3
    have hp4 : ∀ o o', PairsAt (upd (upd τ3 it o) C o') ts (madeOf (symOf ds) ((keysB ds).take i)) := fun o o' => ⟨hpr.1, fun j t p j1 j2 => by
      have := hpr.2 j t p j1 j2
      have a1 : t ≠ it := fun z => by rw [z, h2] at this; cases this
      have a2 : t ≠ C := fun z => by rw [z, h4] at this; cases this
      rw [upd_ne _ _ a2, upd_ne _ _ a1]; exact this⟩
    have hms := made_snoc (f := symOf ds) hx
    refine TS.one <| TR.cmp <| EV.cut <| EV.sub <| EV.cell (c := L + 2) rfl (hcc _ _) <| EV.name uu rfl <| SI.dict (hMc _ _) hge ⟨v, rfl, by omega, ptN <| ptS <| EV.int ⟨5, rfl, ?_⟩⟩
    first | refine cutTo (show cutB v none (some 5) = v.take 5 from cut_to v 5) ?_ | rw [show cutB v none (some 5) = v.take 5 from cut_to v 5]
    refine EV.byt <| CM.eqB <| TU.bool ?_
    rw [show (v.take 5 == [114, 101, 102, 58, 32]) = symB.isPrefixOf v from take_prefix v]
    cases q : symB.isPrefixOf v with
    | false =>
      have hsn : symOf ds x = none := by unfold symOf; rw [hlv]; exact if_neg (by rw [q]; decide)
      rw [hsn, List.append_nil] at hms
      refine ⟨nb, fun _ => ?_⟩
      exact ⟨hle4 _ _, (upd_ne _ _ e2).trans uu, hD4 _ _, ⟨_, uu⟩, ts, rfl, by rw [hms]; exact hp4 _ _⟩
    | true =>
      have hsn : symOf ds x = some (v.drop 5) := by unfold symOf; rw [hlv]; exact if_pos q
      rw [hsn] at hms
      refine ⟨fun _ => ?_, nb⟩
      refine evTup <| SQ.cons <| EV.name uu rfl <| SQ.cons <| EV.cut <| EV.sub <| EV.cell (c := L + 2) rfl (hcc _ _) <| EV.name uu rfl <| SI.dict (hMc _ _) hge ⟨v, rfl, by omega, ptS <| EV.int ⟨5, rfl, ptN <| SQ.nil ⟨by simp, fun t ht htB => ?_⟩⟩⟩
      first | refine cutTo (show cutB v (some 5) none = v.drop 5 from cut_from v 5) ?_ | rw [show cutB v (some 5) none = v.drop 5 from cut_from v 5]
      have htD : Dl ≠ t := ne_of_none ht (hD4 _ _)
      have hti : it ≠ t := ne_of_none ht ((upd_ne _ _ e2).trans uu)
      have htC : C ≠ t := ne_of_none ht uu
      refine ⟨un ht (hD4 _ _), ?_, Le.over ((hle4 _ _).trans (Le.fresh ht)) hDl, (upd_ne _ _ e1).trans (un ht ((upd_ne _ _ e2).trans uu)), uu, ⟨_, (upd_ne _ _ e3.symm).trans (un ht uu)⟩, ts ++ [t], by simp, ?_, fun j t' p j1 j2 => ?_⟩
      · rw [List.length_map, hpr.1]
        have := made_len (f := symOf ds) (ys := (keysB ds).take i)
        rw [List.length_take] at this; omega
      · rw [hms, List.length_append, List.length_append, hpr.1]; rfl
      · rw [hms] at j2
        have hlen := hpr.1
        by_cases hj : j < ts.length
        · rw [List.getElem?_append_left hj] at j1
          rw [List.getElem?_append_left (by omega)] at j2
          have := (hp4 (KI M (dB ds).length epM (i + 1)) (.ns (put mc (Str.ofString "name") (.byt x)))).2 j t' p j1 j2
          have a1 : t' ≠ t := ne_of_none ht this
          have a2 : t' ≠ Dl := fun z => by rw [z, hD4] at this; cases this
          rw [upd_ne _ _ a2, upd_ne _ _ a1]; exact this
        · have hj' : j = ts.length := by
            have := (List.getElem?_eq_some_iff.mp j1).1
            simp at this; omega
          subst hj'
          rw [List.getElem?_append_right (Nat.le_refl _), Nat.sub_self] at j1
          rw [List.getElem?_append_right (by omega), hlen, Nat.sub_self] at j2
          cases j1; cases j2
          exact (upd_ne _ _ htD.symm).trans uu
  · rintro τ3 ys ⟨h1, h2, h3, ⟨mc, h4⟩, ts, rfl, hpr⟩
    have hlen : ((dB ds).map fun p => V.byt p.1).length = (dB ds).length := List.length_map ..
    have hlen2 : (keysB ds).take ((dB ds).map fun p => V.byt p.1).length = keysB ds := by
      rw [hlen]; unfold dB; rw [List.length_map, show ds.length = (keysB ds).length from (List.length_map ..).symm, List.take_length]
    rw [hlen2] at hpr
    rw [hlen] at h2
    refine ⟨h1 _ _ hM2, by rw [hlen]; exact h2, ⟨mc, h4⟩, SQ.nil ?_⟩
    have hle5 : Le τ2 (del (del τ3 it) C) := (h1.del hit).del hC
    refine CL.dictOf (kvs := madeOf (symOf ds) (keysB ds)) hA.handled (by rw [del_ne e3, del_ne e1.symm]; exact h3) ⟨hpr.1, fun j t p j1 j2 => ?_⟩ ?_ (made_nodup g.nodup) fun Dd epd hDd hDdB => ?_
    · have := hpr.2 j t p j1 j2
      have a1 : t ≠ it := fun z => by rw [z, h2] at this; cases this
      have a2 : t ≠ C := fun z => by rw [z, h4] at this; cases this
      rw [del_ne a2, del_ne a1]; exact this
    · have := made_len (f := symOf ds) (ys := keysB ds)
      rw [List.length_map] at this; omega
    · have hsd2 := hle5 _ _ hsd'
      refine CM.neDict G hu (un hDd hsd2) uu (made_perm hsys) (made_nodup g.nodup) <| TU.bool <| TR.or_nil <| h _ ?_
      exact (Dc.le hle5).fresh hDd
end
end Mine
end
section
open PySem PySem.W PySem.Calls PyProof.Rows PySem.Builtin
namespace Mine
section
variable (w : World) (B : Heap) (os : OsState) (l : List Env) (A : Around) (env : Env) (E : Value → MS → Prop)
noncomputable abbrev kFinA (L : Addr) (y : Str) (rest : List Stmt) (Q : Fl → MS → Prop) : Addr → Addr → Addr → MS → Prop := fun it D C τ => (∃ m, τ C = some (.ns m)) ∧ C ≠ L ∧ it ≠ L ∧ ∃ my, τ L = some (.ns my) ∧ SS w B os l A env rest Q E (upd (Mine.del (Mine.del τ it) C) L (.ns (put my y (.ref D))))
end
section
variable {w : World} {B : Heap} {os : OsState} {l : List Env} {A : Around} {σ : MS} {E : Value → MS → Prop} {env : Env}
theorem assignComp {elt target iter : Expr} {ifs : List Expr} {scope : Scope} {cl : List (Str × Addr)} {pos py spos : Pos} {y : Str} {L : Addr} {rest : List Stmt} {Q : Fl → MS → Prop}
    (hclos : closureFor scope env = pure cl) (hkind : scope.kind = .function) (hnames : ∀ y ∈ scope.names, y.2 = .local → scope.names.lookup y.1 = some .local) (hcell : ∀ y ∈ scope.names, y.2 ≠ .cell)
    (h : EV w B os l A env iter (kComp w B os l A env elt target ifs scope cl (kFinA w B os l A env E L y rest Q)) E σ)
    (hL : env.locals = L := by rfl) (hsw : swapsWith (.ListComp elt [⟨target, iter, ifs, 0⟩] scope pos) (some (.Name y py)) spos.line env = pure true := by rfl) (hyl : env.kindOf y = some .local := by rfl)
    (hyp : (env.scope.kind == .class || (env.scope.kind == .module && env.locals != env.globals)) = false := by rfl)
    (hs : ∀ x, foldedSetIterable iter env x = pure x := by intro _; rfl) (ht : ∀ it v, letOwnedTupleGo target it v = pure () := by intro _ _; rfl) :
    SS w B os l A env (.Assign [.Name y py] (.ListComp elt [⟨target, iter, ifs, 0⟩] scope pos) spos :: rest) Q E σ := by
  refine SS.consNx fun s R => ?_
  rw [exec_Assign_Name_used _ _ _ _ hsw]
  refine wpAny_bind (wpAny_standAt (wpAny_bind ?_))
  show wpAny _ A (do let _ ← comprehension (.ListComp elt [⟨target, iter, ifs, 0⟩] scope pos) scope env _ (newList []) false (eval iter env) (some (assign (.Name y py) env))) _ _ s
  refine wpAny_bind (wpAny_mono (compCore (QQ := fun _ s' => ∃ σ', Rel w B os l σ' s' ∧ nx w B os l A env rest Q E (erF .next) σ') hclos hkind hnames hcell h (fun it D C τ s₁ v hz d1 d3 d2 hCf R₁ => ?_) hs ht R) (fun _ s' hq => wpAny_pure (wpAny_pure hq)) fun _ _ e => e)
  obtain ⟨⟨m, z3⟩, zC, zit, my, zL, z4⟩ := hz
  have zL' : del τ it L = some (.ns my) := (del_ne zit.symm).trans zL
  show wpAny _ A (assign (.Name y py) env (.ref D)) _ _ s₁
  refine wpAny_mono (AS.at (Q := fun σ' => σ' = upd (del τ it) L (.ns (put my y (.ref D)))) (E := E) zL' rfl hL hyl hyp (.ref D) rfl s₁ R₁) (fun _ s₂ hq1 => ?_) fun v s' z => z
  obtain ⟨σ₂, R₂, hσ⟩ := hq1
  subst hσ
  have z3' : upd (del τ it) L (.ns (put my y (.ref D))) C = some (.ns m) := by rw [upd_ne _ _ zC, del_ne (Ne.symm d3)]; exact z3
  obtain ⟨hB, m', hm', _⟩ := R₂.known _ _ z3'
  have hle : Le (upd (del (del τ it) C) L (.ns (put my y (.ref D)))) (upd (del τ it) L (.ns (put my y (.ref D)))) := (del_le (del τ it) C).upd
  have hdC : upd (del (del τ it) C) L (.ns (put my y (.ref D))) C = none := by rw [upd_ne _ _ zC, del_self]
  exact ⟨m', hm', fun h' hs => ⟨_, (R₂.less hle).other hdC hB hCf (fun b o hb e => hs.extBut b o hb e) s₂.toks, z4⟩⟩
end
end Mine
end
section
open PySem PySem.W PySem.Calls PyProof.Rows PySem.Builtin
namespace Mine
noncomputable def ListB (B : Heap) (a : Addr) (xs : List V) : Prop := ∃ vs n, B.get? a = some { cls := .type "list", data := .seq vs n } ∧ vs.toList.map er = xs
section
variable {w : World} {B : Heap} {os : OsState} {l : List Env} {A : Around} {σ : MS} {E : Value → MS → Prop} {env : Env} {s : Shared}
theorem Src.listB {a : Addr} {xs : List V} (hh : A.handled = none) (ha : ListB B a xs) : Src w B os l A (.ref a) xs σ (LI a) (fun _ => True) where
  iter Q E h va hv := fun s R => by
    rw [er_ref hv]
    obtain ⟨vs, n, hl, rfl⟩ := ha
    exact wpAny_pyIter_list (IsL.isList (R.old _ _ hl)) ⟨_, R.new (o := LI a 0) (fun b o e => Heap.get?_push_of_some _ e) (get_none s) ⟨_, Heap.get?_push_size _ rfl, rfl, rfl⟩ _, h _ R.fresh.1 R.fresh.2⟩
  next it i x τ Q E hp hi hx h := fun s R => by
    obtain ⟨vs, n, hl, rfl⟩ := ha
    obtain ⟨_, o, ho, hc, hd⟩ := R.known _ _ hi
    rw [List.getElem?_map] at hx
    obtain ⟨x, hx', rfl⟩ := Option.map_eq_some_iff.mp hx
    refine wpAny_pyNext_list_item (l := a) (i := i) ⟨o, ho, hc, hd⟩ (IsL.isList (R.old _ _ hl)) (by simpa using hx') fun h' ⟨o', ho', hc', hd'⟩ hs => ⟨_, R.turn (o' := LI a (i + 1)) hi hs ⟨o', ho', hc', hd'⟩ _ (fun m e => by cases e), h _ rfl⟩
  self it i τ Q E hi h := fun s R => by
    obtain ⟨_, o, ho, hc, hd⟩ := R.known _ _ hi
    exact wpAny_pyIter_listiter (l := a) (i := i) ⟨o, ho, hc, hd⟩ ⟨τ, R, h⟩
  fin it τ Q E hp hi h := fun s R => by
    obtain ⟨vs, n, hl, rfl⟩ := ha
    obtain ⟨_, o, ho, hc, hd⟩ := R.known _ _ hi
    refine wpAny_pyNext_list_end (l := a) (i := (vs.toList.map er).length) hh ⟨o, ho, hc, hd⟩ (IsL.isList (R.old _ _ hl)) (by simp) fun h' hs => ⟨_, R.drop hi (fun m e => by cases e) hs _, h⟩
theorem EV.cutB {value upper : Expr} {p pos : Pos} {Q : V → MS → Prop}
    (h : EV w B os l A env value (fun a σ₁ => ∃ r xs, a = .ref r ∧ ListB B r xs ∧ xs.length ≤ 1000000 ∧ EV w B os l A env upper (fun u σ₂ => ∃ k : Nat, u = .int k ∧ ∀ d, σ₂ d = Option.none → B.get? d = Option.none → Q (.ref d) (upd σ₂ d (.list (xs.take k)))) E σ₁) E σ)
    (hs : ∀ o i, subscripted (.Slice Option.none (some upper) Option.none p) false o i = operate [i, o] (getItem o i) := by intro _ _; with_unfolding_all rfl) : EV w B os l A env (.Subscript value (.Slice Option.none (some upper) Option.none p) pos) Q E σ := fun s R => by
  refine Subscript_ (wpAny_mono (h s R) (fun a s₁ hq1 => ?_) fun _ _ x => x)
  obtain ⟨σ₁, R₁, r, xs, ha, hx, hz, h₁⟩ := hq1
  rw [er_ref ha]
  refine wpAny_Slice (wpAny_of_eq (t := evalPart Option.none env) (a := Value.none) rfl (wpAny_mono (h₁ s₁ R₁) (fun u s₂ hq1 => ?_) fun _ _ x => x))
  obtain ⟨σ₂, R₂, k, hu, h₂⟩ := hq1
  refine wpAny_of_eq (t := evalPart Option.none env) (a := Value.none) rfl ?_
  obtain ⟨t, rfl⟩ := er_int hu
  obtain ⟨us, n, ho, hus⟩ := hx
  have hl := IsL.isList (R₂.old _ _ ho)
  have hle : us.size = xs.length := by rw [← hus]; simp
  have hl' := hl.push { cls := .type "slice", data := .fields #[.none, .int k t, .none] }
  refine tail_any hl'.typeIs slot_list_getitem.lookup (wpAny_getItem_list_slice (lo := Option.none) (hi := some (k : Int)) (st := Option.none) hl' (Heap.IsSliceOf.new _ _ _ _) .none (.int _ _) .none (by simp) ?_ (by rw [hle, sizeLine_eq]; omega)) (hs _ _)
  have R₃ := R₂.grow (h' := s₂.heap.push { cls := .type "slice", data := .fields #[.none, .int k t, .none] }) (fun b o e => Heap.get?_push_of_some _ e) s₂.toks
  have e : (slicePick us Option.none (some (k : Int)) Option.none).toList.map er = xs.take k := by rw [pick_to, List.map_take, hus]
  exact ⟨_, R₃.newList (vs := (slicePick us Option.none (some (k : Int)) Option.none).toList) e s₂.toks, h₂ _ R₃.fresh.1 R₃.fresh.2⟩
end
end Mine
end
section
open PySem PySem.W PySem.Calls PyProof.Rows PySem.Builtin
set_option maxHeartbeats 4000000
namespace Mine
theorem heads_prefix (c : List UInt8) : (c.take 10 == headsB) = headsB.isPrefixOf c := by
  have e : headsB.isPrefixOf c = true ↔ headsB = c.take 10 := by
    rw [List.isPrefixOf_iff_prefix, List.prefix_iff_eq_take]; rfl
  cases q : headsB.isPrefixOf c with
  | true => rw [beq_iff_eq]; exact (e.mp q).symm
  | false =>
    rw [beq_eq_false_iff_ne]
    intro z
    rw [e.mpr z.symm] at q; cases q
theorem pick_len {ys : List (List UInt8)} : (pickB ys).length ≤ ys.length := by
  unfold pickB; rw [List.length_map]; exact List.length_filter_le _ _
section
variable {w : World} {B : Heap} {os : OsState} {l : List Env} {A : Around} {E : Value → MS → Prop} {env : Env} {s : Shared} {ds : DS}
variable {σ τ τ' : MS} {k R M L : Addr} {m : Str → Option V} {c3 : Option V} {epM : Nat}
theorem alike2 {n : Nat} {Q : Fl → MS → Prop} (G : BF w B) (hA : Ar A (callEnvC fd369 L 369 :: l) (n + 9)) (Z : AK σ k R M L ds epM) (D : A1 σ k M L m c3 τ)
    (h : ∀ τ' m', A1 σ k M L m' c3 τ' → SS w B os (callEnvC fd369 L 369 :: l) A (callEnvC fd369 L 369) (bd369.drop 3) Q E τ') :
    SS w B os (callEnvC fd369 L 369 :: l) A (callEnvC fd369 L 369) (bd369.drop 1) Q E τ := by
  have g := Z.good
  have hsz := g.size
  have hkl : (keysB ds).length < 64 := by rw [List.length_map]; omega
  have hu : A.units < cLine := by have := hA.units; omega
  have hM2 := Z.modelT D
  refine assignComp (cl := []) (L := L) rfl rfl (by decide +kernel) (by decide +kernel) ?_
  refine EV.cell (c := L + 2) rfl D.k2 ⟨_, _, _, Src.dict G hA.handled hM2, fun it Dl C hit hitB hDl hC e1 e2 e3 => ?_⟩
  refine ⟨fun i ys τ3 => Le τ τ3 ∧ τ3 it = some (KI M (dB ds).length epM i) ∧ τ3 Dl = some (.list ys) ∧ (∃ m, τ3 C = some (.ns m)) ∧ ys = (pickB ((keysB ds).take i)).map V.byt, ?_, ?_, ?_⟩
  · exact ⟨Le.over (Le.over (Le.fresh hit) hDl) hC, (upd_ne _ _ e2).trans ((upd_ne _ _ e1).trans uu), (upd_ne _ _ e3).trans uu, ⟨_, uu⟩, rfl⟩
  · rintro i v τ3 ys ⟨h1, h2, h3, ⟨mc, h4⟩, rfl⟩ hv
    obtain ⟨x, hx, rfl, hxk⟩ := keys_at hv
    have hxl := names_len x (by obtain ⟨p, hp, e⟩ := List.mem_map.mp hxk; rw [← e]; exact g.keys p hp)
    refine ⟨h1 _ _ hM2, h2, AS.at (L := C) ((upd_ne _ _ e2.symm).trans h4) ?_⟩
    have hle4 : ∀ o o', Le τ (upd (upd τ3 it o) C o') := fun o o' => Le.over (Le.over h1 hit) hC
    have hD4 : ∀ o o', upd (upd τ3 it o) C o' Dl = some (.list ((pickB ((keysB ds).take i)).map V.byt)) := fun o o' => by rw [upd_ne _ _ e3, upd_ne _ _ e1.symm]; exact h3
    have hpt := pick_take hx
    refine TS.one <| TR.cmp <| EV.cut <| EV.name uu rfl ⟨x, rfl, by omega, ptN <| ptS <| EV.int ⟨10, rfl, ?_⟩⟩
    first | refine cutTo (show cutB x none (some 10) = x.take 10 from cut_to x 10) ?_ | rw [show cutB x none (some 10) = x.take 10 from cut_to x 10]
    refine EV.byt <| CM.eqB <| TU.bool ?_
    rw [show (x.take 10 == [114, 101, 102, 115, 47, 104, 101, 97, 100, 115]) = headsB.isPrefixOf x from heads_prefix x]
    cases q : headsB.isPrefixOf x with
    | false =>
      rw [q, if_neg (by decide)] at hpt
      refine ⟨nb, fun _ => ⟨hle4 _ _, (upd_ne _ _ e2).trans uu, hD4 _ _, ⟨_, uu⟩, by rw [hpt]⟩⟩
    | true =>
      rw [q, if_pos rfl] at hpt
      refine ⟨fun _ => EV.cut <| EV.name uu rfl ⟨x, rfl, by omega, ptS <| EV.int ⟨11, rfl, ptN ?_⟩⟩, nb⟩
      first | refine cutTo (show cutB x (some 11) none = x.drop 11 from cut_from x 11) ?_ | rw [show cutB x (some 11) none = x.drop 11 from cut_from x 11]
      refine ⟨hD4 _ _, ?_, Le.over (hle4 _ _) hDl, (upd_ne _ _ e1).trans ((upd_ne _ _ e2).trans uu), uu, ⟨_, (upd_ne _ _ e3.symm).trans uu⟩, by rw [hpt, List.map_append]; rfl⟩
      rw [List.length_map]
      have := pick_len (ys := (keysB ds).take i)
      rw [List.length_take] at this; omega
  · rintro τ3 ys ⟨h1, h2, h3, ⟨mc, h4⟩, rfl⟩
    have hlen : ((dB ds).map fun p => V.byt p.1).length = (dB ds).length := List.length_map ..
    have hlen2 : (keysB ds).take ((dB ds).map fun p => V.byt p.1).length = keysB ds := by
      rw [hlen]; unfold dB; rw [List.length_map, show ds.length = (keysB ds).length from (List.length_map ..).symm, List.take_length]
    rw [hlen2] at h3
    rw [hlen] at h2
    have hle5 : Le τ (del (del τ3 it) C) := (h1.del hit).del hC
    have D5 := D.le hle5
    refine ⟨h1 _ _ hM2, by rw [hlen]; exact h2, ⟨mc, h4⟩, (fun z => by rw [z, D.fr] at hC; cases hC), (fun z => by rw [z, D.fr] at hit; cases hit), m, h1 _ _ D.fr, ?_⟩
    have hDL : Dl ≠ L := fun z => by rw [z, D.fr] at hDl; cases hDl
    have hbl : ∀ o, upd (del (del τ3 it) C) L o Dl = some (.list ((pickB (keysB ds)).map V.byt)) := fun o => by rw [upd_ne _ _ hDL, del_ne e3, del_ne e1.symm]; exact h3
    have D6 := D5.frame (m' := put m (Str.ofString "below") (.ref Dl)) Z.a0
    generalize hτ6 : upd (del (del τ3 it) C) L (.ns (put m (Str.ofString "below") (.ref Dl))) = τ6 at D6
    have hb6 : τ6 Dl = some (.list ((pickB (keysB ds)).map V.byt)) := by rw [← hτ6]; exact hbl _
    have hpl := pick_len (ys := keysB ds)
    refine SS.if <| TR.cmp <| EV.callBi (id := "sorted") G (by kernel_rfl!) (by kernel_rfl!) (by kernel_rfl!) <| SQ.cons <| evOwnC G (c := L + 1) rfl D6.k1 (Z.keptT D6) (is123 G) <| SQ.cons <| EV.byt <| SQ.nil <| keys2_ (n := n + 6) hA G (Z.keptT D6) g fun a ks hks ha haB => SQ.nil <| CL.sortedSet hA.handled uu (by rw [hks.length_eq]; omega) fun D1 ys hp hs hD1 hD1B => ?_
    rw [del_upd ha] at hD1 ⊢
    have D7 := D6.fresh (o := .list (ys.map V.byt)) hD1
    refine EV.callBi (id := "sorted") G (by kernel_rfl!) (by kernel_rfl!) (by kernel_rfl!) <| SQ.cons <| EV.name D7.fr rfl <| SQ.nil <| CL.sortedList hA.handled (un hD1 hb6) (by omega) fun D2 ys2 hp2 hs2 hD2 hD2B => ?_
    obtain rfl : ys2 = ys := sortedB_unique hs2 hs (hp2.trans (hks.symm.trans hp.symm))
    refine CM.neList hu (un hD2 uu) uu (byt_atoms _) <| TU.bool ⟨nb, fun _ => SS.nxt ?_⟩
    exact h _ _ (D7.fresh hD2)
theorem AK.more {x : Addr} {o : O} (Z : AK σ k R M L ds epM) (hx : σ x = none) (hL : ∀ i, i ≤ 3 → L + i ≠ x) : AK (upd σ x o) k R M L ds epM := by
  obtain ⟨ps, hT⟩ := Z.a0.hT
  have h366 : (366 : Addr) ≠ x := ne_of_none hx hT
  exact ⟨⟨fun i hi => (upd_ne _ _ (hL i hi)).trans (Z.a0.fresh i hi), ps, (upd_ne _ _ h366).trans hT⟩, Z.kept.fr hx, un hx Z.model, Z.good⟩
theorem A1.more {x : Addr} {o : O} (D : A1 σ k M L m c3 τ) (hx : τ x = some o) : A1 (upd σ x o) k M L m c3 τ :=
  ⟨fun a o' a1 e => by
    by_cases q : a = x
    · subst q; rw [upd_self] at e; cases e; exact hx
    · rw [upd_ne _ _ q] at e; exact D.keep a o' a1 e, D.tab, D.fr, D.k1, D.k2, D.k3⟩
theorem A1.not {x : Addr} {o : O} (D : A1 σ k M L m c3 τ) (hx : τ x = some o) (h1 : ∀ m, o ≠ .ns m) (h2 : ∀ v, o ≠ CE v) : ∀ i, i ≤ 3 → L + i ≠ x := by
  intro i hi z
  subst z
  match i, hi with
  | 0, _ => have := D.fr; rw [show τ L = some o from hx] at this; exact h1 _ (Option.some.inj this)
  | 1, _ => have := D.k1; rw [hx] at this; exact h2 _ (Option.some.inj this)
  | 2, _ => have := D.k2; rw [hx] at this; exact h2 _ (Option.some.inj this)
  | 3, _ => have := D.k3; rw [hx] at this; exact h2 _ (Option.some.inj this)
end
end Mine
end
section
open PySem PySem.W PySem.Calls PyProof.Rows PySem.Builtin
set_option maxHeartbeats 4000000
namespace Mine
section
variable {w : World} {B : Heap} {os : OsState} {l : List Env} {A : Around} {E : Value → MS → Prop} {env : Env} {s : Shared} {ds : DS}
variable {σ τ τ' : MS} {k R M L : Addr} {m : Str → Option V} {c3 : Option V} {epM : Nat}
noncomputable def forBody : List Stmt → List Stmt
  | .For _ _ b _ _ :: _ => b
  | _ => []
theorem turnN {n : Nat} {x : List UInt8} {Q : Fl → MS → Prop} (G : BF w B) (hA : Ar A (callEnvC fd369 L 369 :: l) (n + 9)) (Z : AK σ k R M L ds epM) (hx : x ∈ namesB) (D : A1 σ k M L m (some (.byt x)) τ)
    (h : ∀ τ' m', A1 σ k M L m' (some (.byt x)) τ' → (m' "leads" = m "leads") → Q .next τ') :
    SS w B os (callEnvC fd369 L 369 :: l) A (callEnvC fd369 L 369) (forBody (bd369.drop 4)) Q E τ := by
  have g := Z.good
  have hxl := names_len x hx
  have hu : A.units + 1 < cLine := by have := hA.units; omega
  have hiss : ∀ (c : Bool), (c != c) = false := fun c => by cases c <;> rfl
  have hnone : followB ds x = none → ∀ τ m', A1 σ k M L m' (some (.byt x)) τ → m' "way" = some .none → m' "leads" = m "leads" → SS w B os (callEnvC fd369 L 369 :: l) A (callEnvC fd369 L 369) ((forBody (bd369.drop 4)).drop 1) Q E τ := by
    intro hf τ m' D m1 m2
    refine assignAt (L := L) <| EV.ifexp <| TR.cmp <| EV.name D.fr m1 <| EV.none <| CM.isNone <| TU.bool ?_
    rw [show decide (V.none = V.none) = true from rfl]
    refine EV.str ⟨_, D.fr, ?_⟩
    have D := D.frame (m' := put m' (Str.ofString "due") (.str "loop")) Z.a0
    generalize upd τ L (.ns (put m' (Str.ofString "due") (.str "loop"))) = τ at D
    refine SS.if <| TR.or <| TR.cmp <| askA (n := n + 7) G hA Z.a0 D fun f c' L2 L3 A3 τ3 D3 hk3 hA3 => ?_
    refine evOwn G (c := L + 1) rfl D3.k1 (Z.keptT D3) (is166 G) <| SQ.cons <| EV.free (c := L + 3) rfl D3.k3 <| SQ.nil <| follow_ (n := n + 4) hA3 G (Z.keptT D3) g (by omega) (fun ns v p T hf' _ _ _ _ _ => by rw [hf] at hf'; cases hf') fun _ => ?_
    refine ⟨"loop", .inr (.inr (.inl ⟨rfl, rfl⟩)), EV.name D3.fr rfl <| CM.neA rfl <| TU.bool ?_⟩
    obtain ⟨dk, P, epk, kk1, kk2, kk3⟩ := Z.keptT D3
    refine TR.or <| TR.cmp <| EV.cmp <| EV.cell (c := L + 3) rfl D3.k3 <| EV.cell (c := L + 1) rfl D3.k1 <| CM.inOwn (f := 173) G kk1 kk2 <| contains_ (n := n + 6) hA G (Z.keptT D3) g <| TU.bool <| EV.cmp <| EV.cell (c := L + 3) rfl D3.k3 <| EV.cell (c := L + 2) rfl D3.k2 <| CM.inD G (Z.modelT D3) ?_
    rw [getE_dB, Option.isSome_map]
    refine CM.neBool <| TU.bool ?_
    rw [hiss]
    refine TR.or_nil ?_
    refine ⟨nb, fun _ => SS.nxt ?_⟩
    refine SS.if <| TR.cmp <| askA (n := n + 7) G hA Z.a0 D3 fun f c' L2 L3 A3 τ3 D4 hk4 hA4 => ?_
    obtain ⟨dk, P, epk, kk1, kk2, kk3⟩ := Z.keptT D4
    refine EV.sub <| EV.free (c := L + 1) rfl D4.k1 <| EV.free (c := L + 3) rfl D4.k3 <| SI.own (f := 180) G kk1 kk2 ?_
    refine getitem_ (n := n + 2) hA4.in1 G (Z.keptT D4) g (by omega) (fun ns v hf' => by rw [hf] at hf'; cases hf') (fun ns hf' => by rw [hf] at hf'; cases hf') fun _ => ?_
    refine ⟨"loop", .inr (.inr (.inl ⟨rfl, rfl⟩)), ?_⟩
    refine EV.ifexp <| TR.cmp <| EV.name D4.fr m1 <| EV.none <| CM.isNone <| TU.bool ?_
    rw [show decide (V.none = V.none) = true from rfl]
    refine EV.str <| CM.neA rfl <| TU.bool ⟨nb, fun _ => SS.nxt <| SS.nil <| h _ _ D4 m2⟩
  have hsome : ∀ ns v p T, followB ds x = some (ns, v) → ∀ τ m', A1 σ k M L m' (some (.byt x)) τ → m' "way" = some (.ref T) → m' "leads" = m "leads" → p ≠ 366 → T ≠ 366 → τ p = some (.list (ns.map V.byt)) → τ T = some (.tup [.ref p, vO v]) → SS w B os (callEnvC fd369 L 369 :: l) A (callEnvC fd369 L 369) ((forBody (bd369.drop 4)).drop 1) Q E τ := by
    intro ns v p T hf τ m' D m1 m2 hp6 hT6 hp hT
    have hne : ∀ a : Addr, (!decide (V.ref a = V.none)) = true ∧ decide (V.ref a = V.none) = false := fun a => by simp
    have hat : atomV (vO v) = true := by cases v <;> rfl
    refine assignAt (L := L) <| EV.ifexp <| TR.cmp <| EV.name D.fr m1 <| EV.none <| CM.isNone <| TU.bool ?_
    rw [(hne T).2]
    refine evTup <| SQ.cons <| EV.sub <| EV.name D.fr m1 <| EV.int <| SI.tup (j := 0) (v := .ref p) hT (by decide) (by decide) (by rfl) rfl <| SQ.cons <| EV.sub <| EV.name D.fr m1 <| EV.int <| SI.tup (j := 1) (v := vO v) hT (by decide) (by decide) (by rfl) rfl <| SQ.nil ⟨by simp, fun U hU hUB => ?_⟩
    have D := D.fresh (o := .tup [.ref p, vO v]) hU
    have hp := un (o' := .tup [.ref p, vO v]) hU hp
    have hT := un (o' := .tup [.ref p, vO v]) hU hT
    have hU1 : upd τ U (.tup [.ref p, vO v]) U = some (.tup [.ref p, vO v]) := uu
    generalize upd τ U (.tup [.ref p, vO v]) = τ at D hp hT hU1
    obtain ⟨psx, h366⟩ := Z.a0.hT
    have hU6 : U ≠ 366 := fun z => by
      obtain ⟨ps, t1, _⟩ := D.tab
      rw [z, t1] at hU1; cases hU1
    refine ⟨_, D.fr, ?_⟩
    have n1 : p ≠ L := fun z => by rw [z, D.fr] at hp; cases hp
    have n2 : T ≠ L := fun z => by rw [z, D.fr] at hT; cases hT
    have n3 : U ≠ L := fun z => by rw [z, D.fr] at hU1; cases hU1
    have D := D.frame (m' := put m' (Str.ofString "due") (.ref U)) Z.a0
    have hp := (upd_ne τ (.ns (put m' (Str.ofString "due") (.ref U))) n1).trans hp
    have hT := (upd_ne τ (.ns (put m' (Str.ofString "due") (.ref U))) n2).trans hT
    have hU1 := (upd_ne τ (.ns (put m' (Str.ofString "due") (.ref U))) n3).trans hU1
    generalize upd τ L (.ns (put m' (Str.ofString "due") (.ref U))) = τ at D hp hT hU1
    refine SS.if <| TR.or <| TR.cmp <| askA (n := n + 7) G hA Z.a0 D fun f c' L2 L3 A3 τ3 D3 hk3 hA3 => ?_
    refine evOwn G (c := L + 1) rfl D3.k1 (Z.keptT D3) (is166 G) <| SQ.cons <| EV.free (c := L + 3) rfl D3.k3 <| SQ.nil <| follow_ (n := n + 4) hA3 G (Z.keptT D3) g (by omega) (fun ns' v' p' T' hf' hp' hpB' hT' hTB' hne' => ?_) fun hf' => by rw [hf] at hf'; cases hf'
    rw [hf] at hf'
    cases hf'
    have hT2 : upd τ3 p' (.list (ns.map V.byt)) T' = none := by rw [upd_ne _ _ hne'.symm]; exact hT'
    have hle := (Le.fresh (o := .list (ns.map V.byt)) hp').trans (Le.fresh (o := .tup [.ref p', vO v]) hT2)
    have D4 := D3.le hle
    have hp4 := hle _ _ (hk3 _ _ hp6 hp)
    have hT4 := hle _ _ (hk3 _ _ hT6 hT)
    have hU4 := hle _ _ (hk3 _ _ hU6 hU1)
    have hpp : upd (upd τ3 p' (.list (ns.map V.byt))) T' (.tup [.ref p', vO v]) p' = some (.list (ns.map V.byt)) := (upd_ne _ _ hne').trans uu
    have hTT : upd (upd τ3 p' (.list (ns.map V.byt))) T' (.tup [.ref p', vO v]) T' = some (.tup [.ref p', vO v]) := uu
    generalize upd (upd τ3 p' (.list (ns.map V.byt))) T' (.tup [.ref p', vO v]) = τ4 at D4 hp4 hT4 hU4 hpp hTT
    refine EV.name D4.fr rfl <| CM.neTup hu hTT hU4 hpp hp4 (byt_atoms _) hat <| TU.bool ?_
    obtain ⟨dk, P, epk, kk1, kk2, kk3⟩ := Z.keptT D4
    refine TR.or <| TR.cmp <| EV.cmp <| EV.cell (c := L + 3) rfl D4.k3 <| EV.cell (c := L + 1) rfl D4.k1 <| CM.inOwn (f := 173) G kk1 kk2 <| contains_ (n := n + 6) hA G (Z.keptT D4) g <| TU.bool <| EV.cmp <| EV.cell (c := L + 3) rfl D4.k3 <| EV.cell (c := L + 2) rfl D4.k2 <| CM.inD G (Z.modelT D4) ?_
    rw [getE_dB, Option.isSome_map]
    refine CM.neBool <| TU.bool ?_
    rw [hiss]
    refine TR.or_nil ?_
    refine ⟨nb, fun _ => SS.nxt ?_⟩
    have hwhat : ∀ τ5, A1 σ k M L (put m' (Str.ofString "due") (.ref U)) (some (.byt x)) τ5 → τ5 T = some (.tup [.ref p, vO v]) → ∀ u, u = (match v with | some b => V.byt b | none => V.str "none") → 
        EV w B os (callEnvC fd369 L 369 :: l) A (callEnvC fd369 L 369) (match ((forBody (bd369.drop 4)).drop 3) with | .If (.Compare _ _ (e :: _) _) _ _ _ :: _ => e | _ => .Constant .none 0 ⟨0, 0, 0, 0⟩) (fun b σ₂ => CM w B os (callEnvC fd369 L 369 :: l) A .NotEq u b (fun c σ₃ => TU w B os (callEnvC fd369 L 369 :: l) A c (fun c σ₁ => (c = true → SS w B os (callEnvC fd369 L 369 :: l) A (callEnvC fd369 L 369) (ifBody ((forBody (bd369.drop 4)).drop 3)) (nx w B os (callEnvC fd369 L 369 :: l) A (callEnvC fd369 L 369) [] Q E) E σ₁) ∧ (c = false → SS w B os (callEnvC fd369 L 369 :: l) A (callEnvC fd369 L 369) [] (nx w B os (callEnvC fd369 L 369 :: l) A (callEnvC fd369 L 369) [] Q E) E σ₁)) E σ₃) E σ₂) E τ5 := by
      intro τ5 D5 hT5 u hu'
      subst hu'
      refine EV.ifexp <| TR.cmp <| EV.name D5.fr m1 <| EV.none <| CM.isNone <| TU.bool ?_
      rw [(hne T).2]
      refine EV.ifexp <| TR.cmp <| EV.sub <| EV.name D5.fr m1 <| EV.int <| SI.tup (j := 1) (v := vO v) hT5 (by decide) (by decide) (by rfl) rfl <| EV.none <| CM.isNone <| TU.bool ?_
      cases v with
      | none => exact EV.str <| CM.neA rfl <| TU.bool ⟨nb, fun _ => SS.nxt <| SS.nil <| h _ _ D5 m2⟩
      | some b =>
        rw [show decide (vO (some b) = V.none) = false by simp [vO]]
        exact EV.sub <| EV.name D5.fr m1 <| EV.int <| SI.tup (j := 1) (v := vO (some b)) hT5 (by decide) (by decide) (by rfl) rfl <| CM.neA rfl <| TU.bool ⟨nb, fun _ => SS.nxt <| SS.nil <| h _ _ D5 m2⟩
    refine SS.if <| TR.cmp <| askA (n := n + 7) G hA Z.a0 D4 fun f c' L2 L3 A3 τ5 D5 hk5 hA5 => ?_
    obtain ⟨dk, P, epk, kk1, kk2, kk3⟩ := Z.keptT D5
    refine EV.sub <| EV.free (c := L + 1) rfl D5.k1 <| EV.free (c := L + 3) rfl D5.k3 <| SI.own (f := 180) G kk1 kk2 ?_
    have hT5 := hk5 _ _ hT6 hT4
    refine getitem_ (n := n + 2) hA5.in1 G (Z.keptT D5) g (by omega) (fun ns' v' hf' => ?_) (fun ns' hf' => ?_) fun hf' => by rw [hf] at hf'; cases hf'
    · rw [hf] at hf'; cases hf'
      exact hwhat _ D5 hT5 _ rfl
    · rw [hf] at hf'; cases hf'
      exact ⟨"none", .inr (.inr (.inr ⟨rfl, rfl⟩)), hwhat _ D5 hT5 _ rfl⟩
  have hM := Z.modelT D
  refine assignAt (L := L) <| EV.callF G (is336 G) rfl <| SQ.cons <| EV.cell (c := L + 2) rfl D.k2 <| SQ.cons <| EV.cell (c := L + 3) rfl D.k3 <| SQ.nil <| way_ hA G hM g (by omega) (fun ns v p T hf hp hpB hT hTB hne => ?_) fun hf => ?_
  · have hT' : upd τ p (.list (ns.map V.byt)) T = none := by rw [upd_ne _ _ hne.symm]; exact hT
    have D' := (D.fresh (o := .list (ns.map V.byt)) hp).fresh (o := .tup [.ref p, vO v]) hT'
    refine ⟨_, D'.fr, ?_⟩
    have hpL : p ≠ L := fun z => by rw [z, D.fr] at hp; cases hp
    have hTL : T ≠ L := fun z => by rw [z, D.fr] at hT; cases hT
    obtain ⟨ps, t1, _⟩ := D.tab
    refine hsome ns v p T hf _ _ (D'.frame Z.a0) rfl rfl (fun z => by rw [z, t1] at hp; cases hp) (fun z => by rw [z, t1] at hT; cases hT) ?_ ?_
    · rw [upd_ne _ _ hpL, upd_ne _ _ hne]; exact uu
    · rw [upd_ne _ _ hTL]; exact uu
  · exact ⟨_, D.fr, hnone hf _ _ (D.frame Z.a0) rfl rfl⟩
end
end Mine
end
section
open PySem PySem.W PySem.Calls PyProof.Rows PySem.Builtin
set_option maxHeartbeats 4000000
namespace Mine
section
variable {w : World} {B : Heap} {os : OsState} {l : List Env} {A : Around} {E : Value → MS → Prop} {env : Env} {s : Shared} {ds : DS}
variable {σ τ τ' : MS} {k R M L : Addr} {m : Str → Option V} {c3 : Option V} {epM : Nat}
theorem pr_ce {P : Obj → Prop} {v : Option V} (ob : Obj) (h : P ob) (hd : ∀ ov, ob.data ≠ .cell ov) : O.pr P ≠ CE v := fun e => ce_ne ob h hd e.symm
theorem ki_ce {d : Addr} {n ep i : Nat} {v : Option V} : KI d n ep i ≠ CE v := pr_ce { cls := .type "dict_keyiterator", data := .fields #[.ref d, .int i 0, .int n 0, .int ep 0] } ⟨rfl, rfl⟩ (fun ov z => by cases z)
theorem ki_in {d : Addr} {n ep i : Nat} {C dx : Addr} : KI d n ep i ≠ IN C dx := fun z => by
  unfold KI IN at z; injection z with z
  have := (congrFun z { cls := .type "dict_keyiterator", data := .fields #[.ref d, .int i 0, .int n 0, .int ep 0] }).mp ⟨rfl, rfl⟩
  have e' := congrArg Obj.data this
  cases e'
theorem ki_id {d : Addr} {n ep i : Nat} {es : List (Str × V)} : KI d n ep i ≠ ID es := fun z => by
  unfold KI ID at z; injection z with z
  obtain ⟨arr, n, e, _⟩ := (congrFun z { cls := .type "dict_keyiterator", data := .fields #[.ref d, .int i 0, .int n 0, .int ep 0] }).mp ⟨rfl, rfl⟩
  have e' := congrArg Obj.data e
  cases e'
theorem ki_cr {d : Addr} {n ep i : Nat} {q : Str} : KI d n ep i ≠ CR q := fun z => by
  unfold KI CR at z; injection z with z
  obtain ⟨vs, t, e, e2⟩ := (congrFun z { cls := .type "dict_keyiterator", data := .fields #[.ref d, .int i 0, .int n 0, .int ep 0] }).mp ⟨rfl, rfl⟩
  cases e; cases e2
theorem ki_free {d it : Addr} {n ep i : Nat} (hi : τ it = some (KI d n ep i)) : Free τ it := fun o e => by
  rw [hi] at e; cases e
  exact ⟨fun _ => ki_cr, fun _ _ => ki_in, fun _ _ => ki_id⟩
theorem alikeEnd {n : Nat} {ld : Addr} {ep0 : Nat} {Q : Fl → MS → Prop} (G : BF w B) (hA : Ar A (callEnvC fd369 L 369 :: l) (n + 9)) (Z : AK σ k R M L ds epM) (D : A1 σ k M L m c3 τ) (m1 : m "leads" = some (.ref ld)) (hld : τ ld = some (.dict [] ep0)) (hσ : σ ld = none)
    (h : ∀ τ' m' c3', A1 σ k M L m' c3' τ' → Q (.ret (.bool true)) τ') :
    SS w B os (callEnvC fd369 L 369 :: l) A (callEnvC fd369 L 369) (bd369.drop 5) Q E τ := by
  have g := Z.good
  have hsz := g.size
  have hu : A.units < cLine := by have := hA.units; omega
  have hM := Z.modelT D
  refine SS.forG hA.frames rfl <| EV.cell (c := L + 2) rfl D.k2 ⟨_, _, _, Src.dict G hA.handled hM, fun it hit hitB => ?_⟩
  have hitσ : σ it = none := by
    cases q : σ it with
    | none => rfl
    | some o =>
      by_cases z : it = 366
      · obtain ⟨ps, t1, _⟩ := D.tab; rw [z, t1] at hit; cases hit
      · rw [D.keep _ _ z q] at hit; cases hit
  have hMi : M ≠ it := ne_of_none hit hM
  have hli : ld ≠ it := ne_of_none hit hld
  obtain ⟨ps0, t0, _⟩ := id D.tab
  have hi6 : it ≠ 366 := fun z => by rw [z, t0] at hit; cases hit
  have hl6 : ld ≠ 366 := fun z => by rw [z, t0] at hld; cases hld
  obtain ⟨J, hJ⟩ : ∃ J : Nat → MS → Prop, ∀ i τ, J i τ = (∃ m c3, A1 σ k M L m c3 τ ∧ m "leads" = some (.ref ld) ∧ (∃ ep, τ ld = some (.dict (dB (madeOf (leadOf ds) ((keysB ds).take i))) ep)) ∧ τ it = some (KI M (dB ds).length epM i)) := ⟨_, fun _ _ => rfl⟩
  refine ⟨J, ?_, ?_, ?_⟩
  · exact (hJ _ _).mpr ⟨m, c3, D.fresh hit, m1, ⟨ep0, (upd_ne _ _ hli).trans hld⟩, uu⟩
  · intro i v τ hI hv
    rw [hJ] at hI
    obtain ⟨m, c3, D, m1, ⟨ep, hld⟩, hi⟩ := hI
    obtain ⟨x, hx, rfl, hxk⟩ := keys_at hv
    have hxn : x ∈ namesB := by obtain ⟨p, hp, e⟩ := List.mem_map.mp hxk; rw [← e]; exact g.keys p hp
    have hxl := names_len x hxn
    have hfree := ki_free hi
    refine ⟨Z.modelT D, hi, ?_⟩
    have D1 := D.but (o := KI M (dB ds).length epM (i + 1)) hitσ hi6 hfree (fun m z => by rw [hi] at z; cases z) (fun v z => by rw [hi] at z; exact ki_ce (Option.some.inj z))
    refine AS.cell (c := L + 3) rfl D1.k3 ?_
    have hld1 : upd τ it (KI M (dB ds).length epM (i + 1)) ld = some (.dict (dB (madeOf (leadOf ds) ((keysB ds).take i))) ep) := (upd_ne _ _ hli).trans hld
    have hi1 : upd τ it (KI M (dB ds).length epM (i + 1)) it = some (KI M (dB ds).length epM (i + 1)) := uu
    generalize upd τ it (KI M (dB ds).length epM (i + 1)) = τ1 at D1 hld1 hi1
    have hl3 : ld ≠ L + 3 := fun z => by have := D1.k3; rw [← z, hld1] at this; cases this
    have hi3 : it ≠ L + 3 := fun z => by have := D1.k3; rw [← z, hi1] at this; exact ki_ce (Option.some.inj this)
    have hlL : ld ≠ L := fun z => by have := D1.fr; rw [← z, hld1] at this; cases this
    have hiL : it ≠ L := fun z => by have := D1.fr; rw [← z, hi1] at this; cases this
    have D2 := D1.cell3 (v := some (.byt x)) Z.a0
    have hld2 := (upd_ne τ1 (CE (some (.byt x))) hl3).trans hld1
    have hi2 := (upd_ne τ1 (CE (some (.byt x))) hi3).trans hi1
    generalize upd τ1 (L + 3) (CE (some (.byt x))) = τ2 at D2 hld2 hi2
    obtain ⟨t1, t2⟩ := made_take (f := leadOf ds) g.nodup hx
    have hM2 := Z.modelT D2
    refine assignAt (L := L) <| EV.callF G (is336 G) rfl <| SQ.cons <| EV.cell (c := L + 2) rfl D2.k2 <| SQ.cons <| EV.cell (c := L + 3) rfl D2.k3 <| SQ.nil <| way_ hA G hM2 g (by omega) (fun ns v p T hf hp hpB hT hTB hne => ?_) fun hf => ?_
    · have hT' : upd τ2 p (.list (ns.map V.byt)) T = none := by rw [upd_ne _ _ hne.symm]; exact hT
      have hle := (Le.fresh (o := .list (ns.map V.byt)) hp).trans (Le.fresh (o := .tup [.ref p, vO v]) hT')
      have D3 := D2.le hle
      have hld3 := hle _ _ hld2
      have hi3' := hle _ _ hi2
      have hTT : upd (upd τ2 p (.list (ns.map V.byt))) T (.tup [.ref p, vO v]) T = some (.tup [.ref p, vO v]) := uu
      generalize upd (upd τ2 p (.list (ns.map V.byt))) T (.tup [.ref p, vO v]) = τ3 at D3 hld3 hi3' hTT
      refine ⟨_, D3.fr, ?_⟩
      have hTL : T ≠ L := fun z => by rw [z, D3.fr] at hTT; cases hTT
      have D4 := D3.frame (m' := put m (Str.ofString "way") (.ref T)) Z.a0
      have hld4 := (upd_ne τ3 (.ns (put m (Str.ofString "way") (.ref T))) hlL).trans hld3
      have hi4 := (upd_ne τ3 (.ns (put m (Str.ofString "way") (.ref T))) hiL).trans hi3'
      have hT4 := (upd_ne τ3 (.ns (put m (Str.ofString "way") (.ref T))) hTL).trans hTT
      generalize upd τ3 L (.ns (put m (Str.ofString "way") (.ref T))) = τ4 at D4 hld4 hi4 hT4
      refine SS.if <| TR.and <| TR.cmp <| EV.name D4.fr rfl <| EV.none <| CM.isNotNone <| TU.bool ?_
      rw [show (!decide (V.ref T = V.none)) = true by simp]
      refine TR.and <| TR.cmp <| EV.sub <| EV.name D4.fr rfl <| EV.int <| SI.tup (j := 1) (v := vO v) hT4 (by decide) (by decide) (by rfl) rfl <| EV.none <| CM.isNotNone <| TU.bool ?_
      cases v with
      | none =>
        rw [show (!decide (vO none = V.none)) = false from rfl]
        refine ⟨nb, fun _ => SS.nxt <| SS.nil <| (hJ _ _).mpr ⟨_, _, D4, m1, ⟨ep, ?_⟩, hi4⟩⟩
        rw [← t2 (by unfold leadOf; rw [hf])]; exact hld4
      | some b =>
        rw [show (!decide (vO (some b) = V.none)) = true by simp [vO]]
        refine TR.and_nil ?_
        refine ⟨fun _ => ?_, nb⟩
        refine SS.assignSub <| EV.sub <| EV.name D4.fr rfl <| EV.int <| SI.tup (j := 1) (v := vO (some b)) hT4 (by decide) (by decide) (by rfl) rfl <| EV.name D4.fr m1 <| EV.cell (c := L + 3) rfl D4.k3 fun a b' c ha hb hc => setDict ha hb hc ?_ hld4 fun ep' => SS.nxt <| SS.nil ?_
        · unfold dB; rw [List.length_map]
          have := made_len (f := leadOf ds) (ys := (keysB ds).take i)
          rw [List.length_take, List.length_map] at this; omega
        · rw [show setE (dB (madeOf (leadOf ds) ((keysB ds).take i))) x (vO (some b)) = dB (setB (madeOf (leadOf ds) ((keysB ds).take i)) x b) from setE_dB _ _ _, t1 b (by unfold leadOf; rw [hf])]
          exact (hJ _ _).mpr ⟨_, _, D4.but hσ hl6 (free_dict hld4) (fun m z => by rw [hld4] at z; cases z) (fun v z => by rw [hld4] at z; cases z), m1, ⟨ep', uu⟩, (upd_ne _ _ hli.symm).trans hi4⟩
    · refine ⟨_, D2.fr, ?_⟩
      have D4 := D2.frame (m' := put m (Str.ofString "way") .none) Z.a0
      have hld4 := (upd_ne τ2 (.ns (put m (Str.ofString "way") .none)) hlL).trans hld2
      have hi4 := (upd_ne τ2 (.ns (put m (Str.ofString "way") .none)) hiL).trans hi2
      generalize upd τ2 L (.ns (put m (Str.ofString "way") .none)) = τ4 at D4 hld4 hi4
      refine SS.if <| TR.and <| TR.cmp <| EV.name D4.fr rfl <| EV.none <| CM.isNotNone <| TU.bool ?_
      rw [show (!decide (V.none = V.none)) = false from rfl]
      refine ⟨nb, fun _ => SS.nxt <| SS.nil <| (hJ _ _).mpr ⟨_, _, D4, m1, ⟨ep, ?_⟩, hi4⟩⟩
      rw [← t2 (by unfold leadOf; rw [hf])]; exact hld4
  · intro τ hI
    rw [hJ] at hI
    obtain ⟨m, c3, D, m1, ⟨ep, hld⟩, hi⟩ := hI
    clear hJ J
    have hlen : ((dB ds).map fun p => V.byt p.1).length = (dB ds).length := List.length_map ..
    have hlen2 : (keysB ds).take ((dB ds).map fun p => V.byt p.1).length = keysB ds := by
      rw [hlen]; unfold dB; rw [List.length_map, show ds.length = (keysB ds).length from (List.length_map ..).symm, List.take_length]
    rw [hlen2] at hld
    refine ⟨Z.modelT D, hi, ?_⟩
    rw [hlen] at hi
    have D1 : A1 σ k M L m c3 (del τ it) := by
      have h0 : L ≠ it := fun z => by have := D.fr; rw [z, hi] at this; cases this
      have h1 : L + 1 ≠ it := fun z => by have := D.k1; rw [z, hi] at this; exact ki_ce (Option.some.inj this)
      have h2 : L + 2 ≠ it := fun z => by have := D.k2; rw [z, hi] at this; exact ki_ce (Option.some.inj this)
      have h3 : L + 3 ≠ it := fun z => by have := D.k3; rw [z, hi] at this; exact ki_ce (Option.some.inj this)
      refine ⟨fun a o a1 e => (del_ne fun z => by rw [z, hitσ] at e; cases e).trans (D.keep a o a1 e), ?_, (del_ne h0).trans D.fr, (del_ne h1).trans D.k1, (del_ne h2).trans D.k2, (del_ne h3).trans D.k3⟩
      obtain ⟨ps, u1, u2, u3⟩ := D.tab
      refine ⟨ps, (del_ne hi6.symm).trans u1, u2, fun pos cv e => ?_⟩
      obtain ⟨c', j1, j2, j3⟩ := u3 pos cv e
      exact ⟨c', j1, j2, (del_ne fun z => by rw [z, hi] at j3; exact ki_cr (Option.some.inj j3)).trans j3⟩
    have hld1 : del τ it ld = some (.dict (dB (madeOf (leadOf ds) (keysB ds))) ep) := (del_ne hli).trans hld
    refine SS.ret <| EV.cmp <| evOwnC G (c := L + 1) rfl D1.k1 (Z.keptT D1) (is138 G) <| SQ.nil <| asdict_ (n := n + 3) hA G (Z.keptT D1) g fun a ep' ys hys ha haB => ?_
    have D2 := D1.fresh (o := .dict (dB (madeOf (leadOf ds) ys)) ep') ha
    exact EV.name D2.fr m1 <| CM.eqDict G hu uu (un ha hld1) (made_perm hys) (made_nodup g.nodup) <| h _ _ _ D2
end
end Mine
end
section
open PySem PySem.W PySem.Calls PyProof.Rows PySem.Builtin
set_option maxHeartbeats 4000000
namespace Mine
noncomputable abbrev liO (a : Addr) (i : Nat) : Obj := { cls := .type "list_iterator", data := .fields #[.ref a, .int i 0] }
theorem li_ce {a : Addr} {i : Nat} (v : Option V) : LI a i ≠ CE v := pr_ce (liO a i) ⟨rfl, rfl⟩ (fun ov z => by cases z)
theorem li_free {τ : MS} {it a : Addr} {i : Nat} (h : τ it = some (LI a i)) : Free τ it := fun o e => by
  rw [h] at e; cases e
  refine ⟨fun q z => ?_, fun C dx z => ?_, fun R P z => ?_⟩
  · unfold LI CR at z; injection z with z
    obtain ⟨vs, t, e, e2⟩ := (congrFun z (liO a i)).mp ⟨rfl, rfl⟩
    cases e; cases e2
  · unfold LI IN at z; injection z with z
    have e' := congrArg Obj.data ((congrFun z (liO a i)).mp ⟨rfl, rfl⟩)
    cases e'
  · unfold LI ID at z; injection z with z
    obtain ⟨arr, n, e, _⟩ := (congrFun z (liO a i)).mp ⟨rfl, rfl⟩
    have e' := congrArg Obj.data e
    cases e'
section
variable {w : World} {B : Heap} {os : OsState} {l : List Env} {A : Around} {E : Value → MS → Prop} {env : Env} {s : Shared} {ds : DS}
variable {σ ρ τ τ' : MS} {k R M L : Addr} {m : Str → Option V} {c3 : Option V} {epM : Nat}
theorem A1.less (D : A1 σ k M L m c3 τ) (h : Le ρ σ) : A1 ρ k M L m c3 τ := ⟨fun a o a1 e => D.keep a o a1 (h _ _ e), D.tab, D.fr, D.k1, D.k2, D.k3⟩
theorem A1.none {x : Addr} (D : A1 σ k M L m c3 τ) (h : τ x = Option.none) : σ x = Option.none ∧ x ≠ 366 := by
  have h6 : x ≠ 366 := fun z => by obtain ⟨ps, t1, _⟩ := D.tab; rw [z, t1] at h; cases h
  refine ⟨?_, h6⟩
  cases q : σ x with
  | none => rfl
  | some o => rw [D.keep _ _ h6 q] at h; cases h
theorem alike3 {n : Nat} {Q : Fl → MS → Prop} (G : BF w B) (hA : Ar A (callEnvC fd369 L 369 :: l) (n + 9)) (Z : AK σ k R M L ds epM) (D : A1 σ k M L m c3 τ)
    (h : ∀ τ' m' c3', A1 σ k M L m' c3' τ' → Q (.ret (.bool true)) τ') :
    SS w B os (callEnvC fd369 L 369 :: l) A (callEnvC fd369 L 369) (bd369.drop 3) Q E τ := by
  refine assignAt (L := L) <| evDict0 fun ld ep0 hld hldB => ?_
  obtain ⟨ls, l6⟩ := D.none hld
  have D1 := D.fresh (o := .dict [] ep0) hld
  have hld1 : upd τ ld (.dict [] ep0) ld = some (.dict [] ep0) := uu
  generalize upd τ ld (.dict [] ep0) = τ1 at D1 hld1
  refine ⟨_, D1.fr, ?_⟩
  have hlL : ld ≠ L := fun z => by have := D1.fr; rw [← z, hld1] at this; cases this
  have D2 := D1.frame (m' := put m (Str.ofString "leads") (.ref ld)) Z.a0
  have hld2 := (upd_ne τ1 (.ns (put m (Str.ofString "leads") (.ref ld))) hlL).trans hld1
  generalize upd τ1 L (.ns (put m (Str.ofString "leads") (.ref ld))) = τ2 at D2 hld2
  have hnot1 := D2.not hld2 (fun m z => by cases z) (fun v z => by cases z)
  have Z1 := Z.more (o := .dict [] ep0) ls hnot1
  have D3 := D2.more hld2
  refine SS.forG hA.frames rfl <| EV.cutL <| EV.callF G (is290 G) rfl <| SQ.nil <| names_ hA G fun na hna hnaB => ⟨na, _, rfl, uu, by decide, EV.int ⟨7, rfl, uu, fun lst hlst hlstB => ?_⟩⟩
  have D4 := (D3.fresh (o := .list (namesB.map V.byt)) hna).fresh (o := .list ((namesB.map V.byt).take 7)) hlst
  have hl4 : upd (upd τ2 na (.list (namesB.map V.byt))) lst (.list ((namesB.map V.byt).take 7)) lst = some (.list ((namesB.map V.byt).take 7)) := uu
  have hsl : upd σ ld (.dict [] ep0) lst = none ∧ lst ≠ 366 := (D3.fresh (o := .list (namesB.map V.byt)) hna).none hlst
  generalize upd (upd τ2 na (.list (namesB.map V.byt))) lst (.list ((namesB.map V.byt).take 7)) = τ4 at D4 hl4
  have hnot2 := D4.not hl4 (fun m z => by cases z) (fun v z => by cases z)
  have Z2 := Z1.more (o := .list ((namesB.map V.byt).take 7)) hsl.1 hnot2
  have D5 := D4.more hl4
  generalize hσ2 : upd (upd σ ld (.dict [] ep0)) lst (.list ((namesB.map V.byt).take 7)) = σ2 at Z2 D5
  have hσle : Le σ σ2 := by rw [← hσ2]; exact (Le.fresh ls).trans (Le.fresh hsl.1)
  have hσld : σ2 ld = some (.dict [] ep0) := by rw [← hσ2]; exact un hsl.1 uu
  have hσl : σ2 lst = some (.list ((namesB.map V.byt).take 7)) := by rw [← hσ2]; exact uu
  refine ⟨_, _, _, Src.list hA.handled hl4, fun it hit hitB => ?_⟩
  obtain ⟨is, i6⟩ := D5.none hit
  refine ⟨fun i τ => ∃ m c3, A1 σ2 k M L m c3 τ ∧ m "leads" = some (.ref ld) ∧ τ it = some (LI lst i), ?_, ?_, ?_⟩
  · exact ⟨_, _, D5.fresh hit, rfl, uu⟩
  · rintro i v τ ⟨m, c3, D, m1, hi⟩ hv
    rw [← List.map_take, List.getElem?_map] at hv
    obtain ⟨x, hx, rfl⟩ := Option.map_eq_some_iff.mp hv
    have hxn : x ∈ namesB := List.mem_of_mem_take (List.mem_of_getElem? hx)
    refine ⟨D.keep _ _ hsl.2 hσl, hi, ?_⟩
    have D1 := D.but (o := LI lst (i + 1)) is i6 (li_free hi) (fun m z => by rw [hi] at z; cases z) (fun v z => by rw [hi] at z; exact li_ce v (Option.some.inj z))
    have hi1 : upd τ it (LI lst (i + 1)) it = some (LI lst (i + 1)) := uu
    generalize upd τ it (LI lst (i + 1)) = τ1 at D1 hi1
    have hnot := D1.not hi1 (fun m z => by cases z) (fun v z => li_ce v z)
    have Z3 := Z2.more (o := LI lst (i + 1)) is hnot
    have D2 := D1.more hi1
    refine AS.cell (c := L + 3) rfl D2.k3 ?_
    refine turnN (n := n) G hA Z3 hxn (D2.cell3 (v := some (.byt x)) Z3.a0) fun τ' m' D' hm' => ?_
    exact ⟨m', _, D'.less (Le.fresh is), by rw [hm']; exact m1, D'.keep _ _ i6 uu⟩
  · rintro τ ⟨m, c3, D, m1, hi⟩
    rw [show ((namesB.map V.byt).take 7).length = 7 from rfl] at hi ⊢
    refine ⟨D.keep _ _ hsl.2 hσl, hi, ?_⟩
    have D1 := D.del is i6 (li_free hi) (fun m z => by rw [hi] at z; cases z) (fun v z => by rw [hi] at z; exact li_ce v (Option.some.inj z))
    exact alikeEnd (n := n) G hA Z (D1.less hσle) m1 (D1.keep _ _ l6 hσld) ls h
theorem alike_ {n : Nat} {Q : V → MS → Prop} (hA : Ar A l (n + 10)) (G : BF w B) (K : Kept σ k R ds) (hM : σ M = some (.dict (dB ds) epM)) (T : TabAt σ 366 qA) (g : Good ds)
    (h : ∀ σ', (∀ a o, a ≠ 366 → σ a = some o → σ' a = some o) → TabAt σ' 366 qA → Q (.bool true) σ') : CL w B os l A (.ref 369) [.ref k, .ref M] Q E σ := by
  refine call369 hA G fun L A' hL hLs hA' => ?_
  obtain ⟨ps, t1, _⟩ := id T
  have f1 := hLs (L + 1) (Nat.le_add_right _ _)
  have f2 := hLs (L + 2) (Nat.le_add_right _ _)
  have f3 := hLs (L + 3) (Nat.le_add_right _ _)
  have Z : AK σ k R M L ds epM := ⟨⟨fun i hi => hLs _ (Nat.le_add_right _ _), ps, t1⟩, K, hM, g⟩
  have hLe : ∀ o0 o1 o2 o3, Le σ (upd (upd (upd (upd σ L o0) (L + 1) o1) (L + 2) o2) (L + 3) o3) := fun _ _ _ _ => Le.over (Le.over (Le.over (Le.fresh hL) f1) f2) f3
  have D : A1 σ k M L (fr []) none (upd (upd (upd (upd σ L (.ns (fr []))) (L + 1) (CE (some (.ref k)))) (L + 2) (CE (some (.ref M)))) (L + 3) (CE none)) := by
    refine ⟨fun a o _ e => hLe _ _ _ _ _ _ e, T.le (hLe _ _ _ _), ?_, ?_, ?_, uu⟩
    · exact (upd_ne _ _ (an L 0 3 (by decide))).trans ((upd_ne _ _ (an L 0 2 (by decide))).trans ((upd_ne _ _ (an L 0 1 (by decide))).trans uu))
    · exact (upd_ne _ _ (an L 1 3 (by decide))).trans ((upd_ne _ _ (an L 1 2 (by decide))).trans uu)
    · exact (upd_ne _ _ (an L 2 3 (by decide))).trans uu
  generalize upd (upd (upd (upd σ L (.ns (fr []))) (L + 1) (CE (some (.ref k)))) (L + 2) (CE (some (.ref M)))) (L + 3) (CE none) = τ at D
  refine SS.if <| alike1 (n := n) G hA' Z D fun τ' D' => ⟨nb, fun _ => SS.nxt ?_⟩
  refine alike2 (n := n) G hA' Z D' fun τ2 m2 D2 => ?_
  exact alike3 (n := n) G hA' Z D2 fun τ3 m3 c3 D3 => Dn.of <| h τ3 D3.keep D3.tab
end
end Mine
end
section
open PySem PySem.W PySem.Calls PyProof.Rows PySem.Builtin
set_option maxHeartbeats 2000000
namespace Mine
noncomputable def partsL : List (List UInt8) := [[97], [47], [46], [64], [123], [46, 108, 111, 99, 107], [126], [32], [31], [98], [92], [42], [127], [233], [94], [58], [63], [91], [10]]
section
variable {w : World} {B : Heap} {os : OsState} {l : List Env} {A : Around} {σ : MS} {E : Value → MS → Prop} {env : Env} {s : Shared} {k R : Addr} {ds : DS}
theorem parts_at (G : BF w B) : ∃ vs n, B.get? 291 = some { cls := .type "list", data := .seq vs n } ∧ vs.toList.map er = partsL.map V.byt := by
  have h : B.get? 291 = some (o291 w.params) := G.ob 291 (o291 w.params) (by kernel_rfl!) (by decide) (by decide)
  exact ⟨_, _, h, rfl⟩
theorem CL.lenParts {Q : V → MS → Prop} (G : BF w B) (h : Q (.int 19) σ) : CL w B os l A (.bi "len") [.ref 291] Q E σ := fun vf vs hf hs s R => by
  obtain ⟨x, rfl, hx⟩ := list1 hs
  rw [er_bi hf, er_ref hx]
  obtain ⟨us, n, ho, hus⟩ := parts_at G
  have hl := IsL.isList (R.old _ _ ho)
  have e : (us.size : Int) = 19 := by have := congrArg List.length hus; simp at this; rw [this]; rfl
  refine call_len_list hl (by omega) ?_
  exact ⟨σ, R.toks _, by rw [← e] at h; exact h⟩
theorem SI.parts {x y : Expr} {i : Nat} {p : List UInt8} {Q : V → MS → Prop} (G : BF w B) (hp : partsL[i]? = some p) (h : Q (.byt p) σ)
    (hs : ∀ u, subscripted y false (.ref 291) (.int i u) = operate [.ref 291, .int i u] (getItem (.ref 291) (.int i u)) := by intro _; with_unfolding_all rfl) : SI w B os l A x y (.ref 291) (.int i) Q E σ := fun va vb ha' hb s R => by
  obtain ⟨u, rfl⟩ := er_int hb
  rw [er_ref ha']
  obtain ⟨vs, n, ho, hus⟩ := parts_at G
  have hl := IsL.isList (R.old _ _ ho)
  have hi := (List.getElem?_eq_some_iff.mp hp).1
  have hx : (vs.toList.map er)[i]? = some (.byt p) := by rw [hus, List.getElem?_map, hp]; rfl
  rw [List.getElem?_map] at hx
  obtain ⟨v', hv', e⟩ := Option.map_eq_some_iff.mp hx
  refine tail_any hl.typeIs slot_list_getitem.lookup (wpAny_getItem_list hl (by omega) (by have : partsL.length = 19 := rfl; omega) (x := v') (by rw [Int.toNat_natCast]; simpa using hv') ⟨σ, R, by show Q (er v') σ; rw [e]; exact h⟩) (hs u)
noncomputable def absM (z : Int) : Int := (if z < 0 then -z else z).fmod 997
theorem state_ {n : Nat} {src : Addr} {ns : List Int} {Q : V → MS → Prop} (hA : Ar A l (n + 1)) (G : BF w B) (hs : ListB B src (ns.map V.int)) (hz : ns.length ≤ 63)
    (h : ∀ scr st q, σ scr = none → B.get? scr = none → σ st = none → B.get? st = none → scr ≠ st → Q (.ref st) (upd (upd σ scr (.list ((ns.take 60).map V.int))) st (stL scr 0 q))) : CL w B os l A (.ref 303) [.ref src] Q E σ := by
  refine call303 hA G fun L A' hL hA' => ?_
  refine SS.ret <| evList <| SQ.cons <| EV.cutB <| EV.name uu rfl ⟨src, _, rfl, hs, by simp; omega, EV.int ⟨60, rfl, fun scr hscr hscrB => ?_⟩⟩
  obtain ⟨hscr1, hscrL⟩ := nu hscr
  have hτL : upd (upd σ L (.ns (fr [(Str.ofString "script", .ref src)]))) scr (.list ((ns.map V.int).take 60)) L = some (.ns (fr [(Str.ofString "script", .ref src)])) := un hscr uu
  have hle0 : Le (upd σ scr (.list ((ns.map V.int).take 60))) (upd (upd σ L (.ns (fr [(Str.ofString "script", .ref src)]))) scr (.list ((ns.map V.int).take 60))) := Le.upd (Le.fresh hL)
  generalize upd (upd σ L (.ns (fr [(Str.ofString "script", .ref src)]))) scr (.list ((ns.map V.int).take 60)) = τ at hτL hle0
  refine SQ.cons <| EV.int <| SQ.cons <| EV.binop <| EV.callBi (id := "sum") G (by kernel_rfl!) (by kernel_rfl!) (by kernel_rfl!) <| SQ.cons ?_
  refine evComp (cl := []) rfl rfl (by decide +kernel) (by decide +kernel) ?_
  refine EV.name hτL rfl ⟨_, _, _, Src.listB hA'.handled hs, fun it Dl C hit hitB hDl hC e1 e2 e3 => ?_⟩
  refine ⟨fun i ys τ3 => Le τ τ3 ∧ τ3 it = some (LI src i) ∧ τ3 Dl = some (.list ys) ∧ (∃ m, τ3 C = some (.ns m)) ∧ ys = ((ns.take i).map absM).map V.int, ?_, ?_, ?_⟩
  · exact ⟨Le.over (Le.over (Le.fresh hit) hDl) hC, (upd_ne _ _ e2).trans ((upd_ne _ _ e1).trans uu), (upd_ne _ _ e3).trans uu, ⟨_, uu⟩, rfl⟩
  · rintro i v τ3 ys ⟨h1, h2, h3, ⟨mc, h4⟩, rfl⟩ hv
    rw [List.getElem?_map] at hv
    obtain ⟨z, hz', rfl⟩ := Option.map_eq_some_iff.mp hv
    refine ⟨trivial, h2, AS.at (L := C) ((upd_ne _ _ e2.symm).trans h4) <| TS.nil ⟨fun _ => ?_, nb⟩⟩
    refine EV.binop <| EV.callBi (id := "abs") G (by kernel_rfl!) (by kernel_rfl!) (by kernel_rfl!) <| SQ.cons <| EV.name uu rfl <| SQ.nil <| CL.abs <| EV.int <| BN.modI hA'.handled (by decide) ?_
    refine ⟨by rw [upd_ne _ _ e3, upd_ne _ _ e1.symm]; exact h3, ?_, Le.over (Le.over (Le.over h1 hit) hC) hDl, (upd_ne _ _ e1).trans ((upd_ne _ _ e2).trans uu), uu, ⟨_, (upd_ne _ _ e3.symm).trans uu⟩, ?_⟩
    · rw [List.length_map, List.length_map, List.length_take]; omega
    · rw [List.take_add_one, hz', List.map_append, List.map_append]; rfl
  · rintro τ3 ys ⟨h1, h2, h3, ⟨mc, h4⟩, rfl⟩
    rw [List.length_map] at h2 h3 ⊢
    rw [List.take_length] at h3
    refine ⟨trivial, h2, ⟨mc, h4⟩, SQ.nil ?_⟩
    have hle5 : Le τ (del (del τ3 it) C) := (h1.del hit).del hC
    refine CL.sum (ns := ns.map absM) hA'.handled (by rw [del_ne e3, del_ne e1.symm]; exact h3) <| EV.int <| BN.modI hA'.handled (by decide) <| SQ.nil ⟨by simp, fun st hst hstB => ?_⟩
    have hle6 := hle0.trans hle5
    have hst1 : upd σ scr (.list ((ns.map V.int).take 60)) st = none := snd_none hle6 hst
    obtain ⟨hst2, hst3⟩ := nu hst1
    have := h scr st ((ns.map absM).sum.fmod 997) hscr1 hscrB hst2 hstB hst3.symm
    rw [List.map_take] at this
    exact ⟨_, Le.upd hle6, this⟩
theorem initD_ {n : Nat} {x dx R : Addr} {Q : V → MS → Prop} (hA : Ar A l (n + 1)) (G : BF w B) (hx : σ x = some (IX 281 dx .plain)) (hd : σ dx = some (ID [])) (hne : x ≠ dx)
    (h : ∀ P ep, σ P = none → Q .none (upd (upd σ P (.dict [] ep)) dx (ID [("_refs", .ref R), ("_peeled", .ref P)]))) : CC w B os l A (.ref 222) [.ref x, .ref R] Q E σ := by
  refine CC.forget (CC.def (bs := [("self", .ref x), ("refs", .ref R)]) (rbs := [("refs", .ref R), ("self", .ref x)]) hA G (is222 G) (fun vs s hv _ => by
    obtain ⟨v0, v1, rfl, h0, h1⟩ := list2 hv
    exact ⟨[("self", v0), ("refs", v1)], BindsTo.of_eq (by kernel_rfl!), by rw [← h0, ← h1]; rfl⟩) (by decide +kernel) (locs ["self", "refs"] (by rfl) (by decide +kernel)) rfl fun L A' hL hA' => ?_)
  have hxL := ne_of_none hL hx
  have hdL := ne_of_none hL hd
  refine SS.assignAttrX G <| EV.name uu rfl <| EV.name uu rfl ⟨x, 281, dx, .plain, [], rfl, rfl, un hL hx, un hL hd, rfl, Nat.zero_le _, (stores281 _).1, ?_⟩
  rw [upd_comm hdL.symm]
  refine SS.assignAttrX G <| evDict0 fun P ep hP hPB => ?_
  obtain ⟨hP1, hPL⟩ := nu hP
  obtain ⟨hP2, hPd⟩ := nu hP1
  have hPx : x ≠ P := fun z => by rw [← z, hx] at hP2; cases hP2
  refine EV.name (un hP uu) rfl ⟨x, 281, dx, .plain, [("_refs", .ref R)], rfl, rfl, ?_, ?_, rfl, Nat.le_of_ble_eq_true rfl, (stores281 _).2, SS.nil ?_⟩
  · rw [upd_ne _ _ hPx, upd_ne _ _ hxL, upd_ne _ _ hne]; exact hx
  · rw [upd_ne _ _ (Ne.symm hPd), upd_ne _ _ hdL]; exact uu
  · refine ⟨_, ?_, h P ep hP2⟩
    intro b o e
    by_cases q : b = dx
    · subst q; rw [upd_self] at e ⊢; exact e
    · rw [upd_ne _ _ q] at e ⊢
      by_cases q2 : b = P
      · subst q2; rw [upd_self] at e ⊢; exact e
      · rw [upd_ne _ _ q2] at e ⊢
        have q3 : b ≠ L := ne_of_none hL e
        rw [upd_ne _ _ q3, upd_ne _ _ q]; exact e
theorem evMake {n : Nat} {xn : Str} {np cpos : Pos} {es : List Expr} {Q : V → MS → Prop} (hA : Ar A l (n + 2)) (G : BF w B) (hn : NameIs w B env (.Name xn np) (.ref 281))
    (h : SQ w B os l A env es (fun xs σ₁ => ∃ R ep, xs = [.ref R] ∧ σ₁ R = some (.dict [] ep) ∧ ∀ k dk P ep', σ₁ k = none → B.get? k = none → σ₁ dk = none → σ₁ P = none → k ≠ dk → k ≠ P → dk ≠ P → Q (.ref k) (upd (upd (upd (upd σ₁ dk (ID [])) k (IN 281 dk)) P (.dict [] ep')) dk (ID [("_refs", .ref R), ("_peeled", .ref P)]))) E σ)
    (hs : backTo cpos (starEach es env) = es.map (fun e => (false, eval e env)) := by rfl) : EV w B os l A env (.Call (.Name xn np) es [] cpos) Q E σ := fun s R => by
  refine wpAny_Call_NameR (hn A s _ _ R.old ?_)
  rw [hs]
  refine callWith_of (P := fun hp => (Kd w.params).In hp) (by rw [plain_any]; rfl) (fun hp X => keeps_K (K := Kd w.params) (by kernel_rfl!) hp X) (wpAny_mono (h.args s R) (fun a s₂ hq => ?_) fun _ _ x => x)
  obtain ⟨σ₂, R₂, vs, ha, RR, ep, hxs, hR, h₂⟩ := hq
  refine ⟨G.kd.keeps R₂.old, ?_⟩
  subst ha
  show wpAny _ _ (call (.ref 281) vs) _ _ _
  refine CL.make (C := 281) (fI := 222) (xs := [.ref RR]) (n := n + 1) (Q := Q) G hA (fun x dx A' hx hxB hdx hdxB hne hA' => ?_) (by kernel_rfl!) (by kernel_rfl!) (by kernel_rfl!) (.ref 281) vs rfl hxs s₂ R₂
  refine initD_ (n := n) (R := RR) hA' G uu ((upd_ne _ _ hne.symm).trans uu) hne fun P ep' hP => ⟨rfl, ?_⟩
  obtain ⟨hP1, hPx⟩ := nu hP
  obtain ⟨hP2, hPd⟩ := nu hP1
  exact h₂ x dx P ep' hx hxB hdx hP2 hne hPx.symm hPd.symm
end
end Mine
end
section
open PySem PySem.W PySem.Calls PyProof.Rows PySem.Builtin
namespace Mine
theorem part_eq (p : List UInt8) : partOk p = part2Ok p := by
  unfold partOk part2Ok
  have e1 : (p != []) = !p.isEmpty := by cases p <;> rfl
  have e2 : (p.take 1 != [46]) = !([46].isPrefixOf p) := by
    cases p with
    | nil => rfl
    | cons c r => simp [List.isPrefixOf, bne, Bool.beq_comm]
  have e3 : (lastB p 5 != [46, 108, 111, 99, 107]) = !([46, 108, 111, 99, 107].isSuffixOf p) := by
    have : List.isSuffixOf [46, 108, 111, 99, 107] p = true ↔ lastB p 5 = [46, 108, 111, 99, 107] := by
      rw [List.isSuffixOf_iff_suffix, List.suffix_iff_eq_drop]
      unfold lastB
      exact eq_comm
    cases q : List.isSuffixOf [46, 108, 111, 99, 107] p with
    | true => rw [this.mp q]; rfl
    | false =>
      have : lastB p 5 ≠ [46, 108, 111, 99, 107] := fun z => by rw [this.mpr z] at q; cases q
      simp [this]
  rw [e1, e2, e3]
theorem cut_slash : ∀ (x acc : List UInt8), (∀ p ∈ cutAt 47 acc x, p ≠ []) → ∀ i, (x.drop i).take 2 ≠ [47, 47]
  | [], acc, h, i => by simp
  | c :: r, acc, h, i => by
    unfold cutAt at h
    by_cases hc : c = 47
    · rw [if_pos hc] at h
      cases i with
      | zero =>
        intro z
        cases r with
        | nil => simp at z
        | cons d r' =>
          simp at z
          obtain ⟨_, rfl⟩ := z
          have := h [] (by unfold cutAt; simp)
          exact this rfl
      | succ i =>
        rw [List.drop_succ_cons]
        exact cut_slash r [] (fun p hp => h p (.tail _ hp)) i
    · rw [if_neg hc] at h
      cases i with
      | zero =>
        intro z
        cases r with
        | nil => simp at z
        | cons d r' => simp at z; exact hc z.1
      | succ i =>
        rw [List.drop_succ_cons]
        exact cut_slash r _ h i
theorem has2 {a b : UInt8} {x : List UInt8} : hasB [a, b] x = true ↔ ∃ i, (x.drop i).take 2 = [a, b] := by
  rw [hasB_iff]
  constructor
  · rintro ⟨i, _, h⟩
    exact ⟨i, by rw [List.prefix_iff_eq_take] at h; exact h.symm⟩
  · rintro ⟨i, h⟩
    have hl := congrArg List.length h
    rw [List.length_take, List.length_drop] at hl
    refine ⟨i, by simp at hl; omega, ?_⟩
    rw [List.prefix_iff_eq_take]; exact h.symm
theorem has1 {a : UInt8} {x : List UInt8} : hasB [a] x = true ↔ a ∈ x := by
  rw [hasB_iff]
  constructor
  · rintro ⟨i, _, h⟩
    exact List.mem_of_mem_drop (h.subset (.head _))
  · intro h
    obtain ⟨i, hi, e⟩ := List.getElem_of_mem h
    refine ⟨i, by omega, ?_⟩
    rw [List.drop_eq_getElem_cons hi, e]
    exact ⟨_, rfl⟩
theorem last1 {x : List UInt8} (h : x ≠ []) : lastB x 1 = [x.getLastD 0] := by
  unfold lastB
  have hl : 0 < x.length := List.length_pos_iff.mpr h
  rw [List.drop_eq_getElem_cons (by omega), List.drop_of_length_le (by omega), List.getLastD_eq_getLast?, List.getLast?_eq_getElem?, List.getElem?_eq_getElem (by omega)]
  rfl
theorem at_all (x : List UInt8) : ((List.range x.length).all fun i => atOk x i) = true ↔ (∀ c ∈ x, signOk c = true ∧ c ≠ 92) ∧ ∀ i, (x.drop i).take 2 ∉ bad2 := by
  rw [List.all_eq_true]
  have hat : ∀ i, i < x.length → (atOk x i = true ↔ (signOk (x.getD i 0) = true ∧ x.getD i 0 ≠ 92) ∧ (x.drop i).take 2 ∉ bad2) := by
    intro i hi
    have hd : (x.drop i).take 1 = [x.getD i 0] := by
      rw [List.drop_eq_getElem_cons hi, List.getD_eq_getElem?_getD, List.getElem?_eq_getElem hi]; rfl
    unfold atOk signOk
    rw [hd]
    generalize x.getD i 0 = c
    generalize (x.drop i).take 2 = t
    simp only [Bool.and_eq_true, Bool.not_eq_true', List.any_eq_false, beq_iff_eq, decide_eq_false_iff_not]
    constructor
    · rintro ⟨⟨h1, h2⟩, h3⟩
      refine ⟨⟨⟨h1, ?_⟩, ?_⟩, fun hm => h3 t hm rfl⟩
      · rw [List.contains_eq_any_beq, List.any_eq_false]
        intro d hd' hcd
        have hcd' : c = d := by simpa using hcd
        subst hcd'
        refine h2 [c] ?_ rfl
        simp only [List.mem_cons, List.not_mem_nil, or_false] at hd'
        unfold bad9
        rcases hd' with rfl | rfl | rfl | rfl | rfl | rfl | rfl | rfl <;> simp
      · rintro rfl; exact h2 [92] (by unfold bad9; simp) rfl
    · rintro ⟨⟨⟨h1, h2⟩, h3⟩, h4⟩
      refine ⟨⟨h1, fun y hy e => ?_⟩, fun y hy e => h4 (e ▸ hy)⟩
      subst e
      unfold bad9 at hy
      simp only [List.mem_cons, List.not_mem_nil, or_false, List.cons.injEq, and_true] at hy
      rcases hy with rfl | rfl | rfl | rfl | rfl | rfl | rfl | rfl | rfl
      all_goals first | exact absurd h2 (by decide) | exact h3 rfl
  constructor
  · intro h
    refine ⟨fun c hc => ?_, fun i => ?_⟩
    · obtain ⟨i, hi, e⟩ := List.getElem_of_mem hc
      have := ((hat i hi).mp (h i (List.mem_range.mpr hi))).1
      rw [List.getD_eq_getElem?_getD, List.getElem?_eq_getElem hi] at this
      rw [← e]; exact this
    · by_cases hi : i < x.length
      · exact ((hat i hi).mp (h i (List.mem_range.mpr hi))).2
      · rw [List.drop_of_length_le (by omega)]; decide
  · rintro ⟨h1, h2⟩ i hi
    have hi := List.mem_range.mp hi
    refine (hat i hi).mpr ⟨?_, h2 i⟩
    have := h1 _ (List.getElem_mem hi)
    rw [List.getD_eq_getElem?_getD, List.getElem?_eq_getElem hi]; exact this
theorem check_may (x : List UInt8) : checkB x = mayB x := by
  have hp : (splitB 47 x).all partOk = (splitB 47 x).all part2Ok := by congr 1; funext p; exact part_eq p
  unfold checkB mayB
  rw [hp]
  cases q1 : x == [64] with
  | true => rfl
  | false =>
  cases q2 : hasB [47] x with
  | false => rfl
  | true =>
  have hx := hasB_ne q2
  rw [last1 hx]
  have q3 : ([47, 46].contains (x.getLastD 0)) = ([[47], [46]].any (· == [x.getLastD 0])) := by
    generalize x.getLastD 0 = c
    by_cases h1 : c = 47
    · subst h1; rfl
    · by_cases h2 : c = 46
      · subst h2; rfl
      · simp [h1, h2, Ne.symm h1, Ne.symm h2]
  rw [← q3]
  cases q4 : [47, 46].contains (x.getLastD 0) with
  | true => simp
  | false =>
  cases q5 : (splitB 47 x).all part2Ok with
  | false => simp
  | true =>
  have hne : ∀ p ∈ cutAt 47 [] x, p ≠ [] := fun p hp z => by
    have := List.all_eq_true.mp q5 p hp
    rw [z] at this; cases this
  have hs := cut_slash x [] hne
  simp only [Bool.not_false, Bool.true_and, Bool.and_true]
  rw [Bool.eq_iff_iff, at_all]
  simp only [Bool.and_eq_true, Bool.not_eq_true', List.all_eq_true]
  constructor
  · rintro ⟨⟨⟨h1, h2⟩, h3⟩, h4⟩
    refine ⟨fun c hc => ⟨h2 c hc, fun z => ?_⟩, fun i hm => ?_⟩
    · subst z
      rw [has1.mpr hc] at h4; cases h4
    · unfold bad2 at hm
      simp only [List.mem_cons, List.not_mem_nil, or_false] at hm
      rcases hm with hm | hm | hm
      · rw [has2.mpr ⟨i, hm⟩] at h1; cases h1
      · rw [has2.mpr ⟨i, hm⟩] at h3; cases h3
      · exact hs i hm
  · rintro ⟨h1, h2⟩
    have hno : ∀ a b, [a, b] ∈ bad2 → hasB [a, b] x = false := fun a b hm => by
      cases q : hasB [a, b] x with
      | false => rfl
      | true =>
        obtain ⟨i, hi⟩ := has2.mp q
        exact absurd (hi ▸ hm) (h2 i)
    refine ⟨⟨⟨hno 46 46 (by decide), fun c hc => (h1 c hc).1⟩, hno 64 123 (by decide)⟩, ?_⟩
    cases q : hasB [92] x with
    | false => rfl
    | true => exact absurd rfl (h1 92 (has1.mp q)).2
end Mine
end
section
open PySem PySem.W PySem.Calls PyProof.Rows PySem.Builtin
set_option maxHeartbeats 4000000
namespace Mine
theorem cr_pin {q : Str} {ob : Obj} : CR q ≠ PIN ob := fun z => by
  unfold CR PIN at z
  injection z with z
  have h1 := (congrFun z { cls := .none, data := .fields #[.none, .str q 0] }).mp ⟨_, 0, rfl, rfl⟩
  have h2 := (congrFun z { cls := .type "code", data := .fields #[.none, .str q 0] }).mp ⟨_, 0, rfl, rfl⟩
  have := congrArg Obj.cls (h1.trans h2.symm)
  cases this
structure LB (k R M L st scr : Addr) (ns : List Int) (q : Int) (p : Nat) (ds : DS) (m : Str → Option V) (τ : MS) : Prop where
  fr : τ L = some (.ns m)
  c1 : τ (L + 1) = some (CE (some (.ref st)))
  st : τ st = some (stL scr p q)
  scr : τ scr = some (.list (ns.map V.int))
  kept : Kept τ k R ds
  model : ∃ ep, τ M = some (.dict (dB ds) ep)
  t1 : TabAt τ 359 qD
  t2 : TabAt τ 366 qA
section
variable {σ τ τ' : MS} {k R M L st scr : Addr} {ns : List Int} {q : Int} {p : Nat} {ds : DS} {m : Str → Option V}
theorem LB.le (D : LB k R M L st scr ns q p ds m τ) (h : Le τ τ') : LB k R M L st scr ns q p ds m τ' :=
  ⟨h _ _ D.fr, h _ _ D.c1, h _ _ D.st, h _ _ D.scr, D.kept.le h, let ⟨ep, e⟩ := D.model; ⟨ep, h _ _ e⟩, D.t1.le h, D.t2.le h⟩
theorem tab_ne {P b : Addr} {qq : Str} {o : O} (T : TabAt τ P qq) (h : τ b = some o) (ho : ∀ ob, o ≠ PIN ob) : b ≠ P := fun z => by
  obtain ⟨ps, t, _⟩ := T
  rw [z, t] at h; exact ho _ (Option.some.inj h).symm
theorem LB.frame {m' : Str → Option V} (D : LB k R M L st scr ns q p ds m τ) : LB k R M L st scr ns q p ds m' (upd τ L (.ns m')) := by
  have hf := free_ns D.fr
  obtain ⟨ep, e⟩ := D.model
  obtain ⟨_, _, epk, _, _, ek⟩ := id D.kept
  exact ⟨uu, (upd_ne _ _ (an L 1 0 (by decide))).trans D.c1, (upd_ne _ _ fun z => by have := D.st; rw [z, D.fr] at this; cases this).trans D.st, (upd_ne _ _ fun z => by have := D.scr; rw [z, D.fr] at this; cases this).trans D.scr,
    D.kept.but (fun z => by rw [← z, D.fr] at ek; cases ek) hf, ⟨ep, (upd_ne _ _ fun z => by rw [z, D.fr] at e; cases e).trans e⟩, D.t1.but (tab_ne D.t1 D.fr fun ob z => by cases z) hf, D.t2.but (tab_ne D.t2 D.fr fun ob z => by cases z) hf⟩
theorem LB.setSt {p' : Nat} (D : LB k R M L st scr ns q p ds m τ) : LB k R M L st scr ns q p' ds m (upd τ st (stL scr p' q)) := by
  have hf := free_list D.st
  obtain ⟨ep, e⟩ := D.model
  obtain ⟨_, _, epk, _, _, ek⟩ := id D.kept
  exact ⟨(upd_ne _ _ fun z => by have := D.fr; rw [z, D.st] at this; cases this).trans D.fr, (upd_ne _ _ fun z => by have := D.c1; rw [z, D.st] at this; cases this).trans D.c1, uu, (upd_ne _ _ (scr_ne D.st D.scr)).trans D.scr,
    D.kept.but (fun z => by rw [← z, D.st] at ek; cases ek) hf, ⟨ep, (upd_ne _ _ fun z => by rw [z, D.st] at e; cases e).trans e⟩, D.t1.but (tab_ne D.t1 D.st fun ob z => by cases z) hf, D.t2.but (tab_ne D.t2 D.st fun ob z => by cases z) hf⟩
theorem LB.deed {p' : Nat} {ds' : DS} (D : LB k R M L st scr ns q p ds m τ) (hk : ∀ a o, a ≠ st → a ≠ R → a ≠ M → a ≠ 359 → τ a = some o → τ' a = some o) (h1 : τ' st = some (stL scr p' q)) (h2 : Kept τ' k R ds') (h3 : ∃ ep, τ' M = some (.dict (dB ds') ep)) (h4 : TabAt τ' 359 qD) :
    LB k R M L st scr ns q p' ds' m τ' := by
  obtain ⟨ep, e⟩ := D.model
  obtain ⟨_, _, epk, _, _, ek⟩ := id D.kept
  obtain ⟨ps, u1, u2, u3⟩ := D.t1
  have keep : ∀ a o, (∀ xs, o ≠ .list xs) → (∀ es ep, o ≠ .dict es ep) → (∀ ob, o ≠ PIN ob) → τ a = some o → τ' a = some o := fun a o n1 n2 n3 ea =>
    hk a o (fun z => by rw [z, D.st] at ea; exact n1 _ (Option.some.inj ea).symm) (fun z => by rw [z, ek] at ea; exact n2 _ _ (Option.some.inj ea).symm) (fun z => by rw [z, e] at ea; exact n2 _ _ (Option.some.inj ea).symm)
      (fun z => by rw [z, u1] at ea; exact n3 _ (Option.some.inj ea).symm) ea
  refine ⟨keep _ _ (fun _ z => by cases z) (fun _ _ z => by cases z) (fun _ z => by cases z) D.fr, keep _ _ (fun _ z => by cases z) (fun _ _ z => by cases z) (fun ob z => ?_) D.c1, h1,
    hk _ _ (scr_ne D.st D.scr) (fun z => by have := D.scr; rw [z, ek] at this; cases this) (fun z => by have := D.scr; rw [z, e] at this; cases this) (fun z => by have := D.scr; rw [z, u1] at this; cases this) D.scr, h2, h3, h4, ?_⟩
  · unfold CE PIN at z; injection z with z
    have h1 := (congrFun z { cls := .none, data := .cell (some (.ref st)) }).mp ⟨_, rfl, rfl⟩
    have h2 := (congrFun z { cls := .type "cell", data := .cell (some (.ref st)) }).mp ⟨_, rfl, rfl⟩
    have := congrArg Obj.cls (h1.trans h2.symm)
    cases this
  · obtain ⟨ps2, v1, v2, v3⟩ := D.t2
    refine ⟨ps2, hk _ _ (fun z => by rw [z, D.st] at v1; cases v1) (fun z => by rw [z, ek] at v1; cases v1) (fun z => by rw [z, e] at v1; cases v1) (by decide) v1, v2, fun pos cv ec => ?_⟩
    obtain ⟨c', w1, w2, w3⟩ := v3 pos cv ec
    exact ⟨c', w1, w2, keep _ _ (fun _ z => by cases z) (fun _ _ z => by cases z) (fun ob => cr_pin) w3⟩
end
section
variable {σ τ τ' : MS} {k R M L st scr it : Addr} {ns : List Int} {q a b c : Int} {p : Nat} {ds : DS} {m : Str → Option V}
theorem ri_free {τ : MS} (hi : τ it = some (RI a b c)) : Free τ it := fun o e => by
  rw [hi] at e; cases e
  refine ⟨fun q z => ?_, fun C dx z => ?_, fun R P z => ?_⟩
  · unfold RI CR at z; injection z with z
    obtain ⟨vs, t, e, e2⟩ := (congrFun z _).mp rfl
    cases e; cases e2
  · unfold RI IN at z; injection z with z
    have e' := congrArg Obj.data ((congrFun z _).mp rfl)
    cases e'
  · unfold RI ID at z; injection z with z
    obtain ⟨arr, n, e, _⟩ := (congrFun z _).mp rfl
    have e' := congrArg Obj.data e
    cases e'
theorem ri_pin {ob : Obj} {ps : Array Value} : RI a b c ≠ PIN (tabObj ps) := fun t => by
  unfold RI PIN at t; injection t with t
  have := congrArg Obj.cls ((congrFun t _).mp rfl)
  cases this
theorem LB.iter (D : LB k R M L st scr ns q p ds m τ) (hi : τ it = some (RI a b c)) (o : O) : LB k R M L st scr ns q p ds m (upd τ it o) := by
  have hfree := ri_free hi
  have hitL : it ≠ L := fun z => by rw [z, D.fr] at hi; cases hi
  have hits : it ≠ st := fun z => by rw [z, D.st] at hi; cases hi
  have hitsc : it ≠ scr := fun z => by rw [z, D.scr] at hi; cases hi
  have hit1 : it ≠ L + 1 := fun z => by
    have hc := D.c1
    rw [← z, hi] at hc
    have hc := Option.some.inj hc
    unfold RI CE at hc; injection hc with hc
    obtain ⟨ov, e, _⟩ := (congrFun hc _).mp rfl
    cases e
  have hitT : ∀ P q, TabAt τ P q → it ≠ P := fun P q T z => by
    obtain ⟨ps, t, _⟩ := T
    rw [← z, hi] at t
    exact ri_pin (ob := tabObj ps) (Option.some.inj t)
  obtain ⟨ep, e⟩ := D.model
  obtain ⟨_, _, epk, _, _, ek⟩ := id D.kept
  exact ⟨(upd_ne _ _ hitL.symm).trans D.fr, (upd_ne _ _ hit1.symm).trans D.c1, (upd_ne _ _ hits.symm).trans D.st, (upd_ne _ _ hitsc.symm).trans D.scr, D.kept.but (fun z => by rw [← z, hi] at ek; cases ek) hfree, ⟨ep, (upd_ne _ _ fun z => by rw [z, hi] at e; cases e).trans e⟩, D.t1.but (hitT _ _ D.t1) hfree, D.t2.but (hitT _ _ D.t2) hfree⟩
theorem LB.itDel (D : LB k R M L st scr ns q p ds m τ) (hi : τ it = some (RI a b c)) : LB k R M L st scr ns q p ds m (del τ it) := by
  have hfree := ri_free hi
  have hitL : it ≠ L := fun z => by rw [z, D.fr] at hi; cases hi
  have hits : it ≠ st := fun z => by rw [z, D.st] at hi; cases hi
  have hitsc : it ≠ scr := fun z => by rw [z, D.scr] at hi; cases hi
  have hit1 : it ≠ L + 1 := fun z => by
    have hc := D.c1
    rw [← z, hi] at hc
    have hc := Option.some.inj hc
    unfold RI CE at hc; injection hc with hc
    obtain ⟨ov, e, _⟩ := (congrFun hc _).mp rfl
    cases e
  have kt : ∀ P qq, TabAt τ P qq → TabAt (del τ it) P qq := fun P qq ⟨ps, v1, v2, v3⟩ => ⟨ps, (del_ne fun z => by rw [z, hi] at v1; exact ri_pin (ob := tabObj ps) (Option.some.inj v1)).trans v1, v2, fun pos cv ec => by
    obtain ⟨c', w1, w2, w3⟩ := v3 pos cv ec
    exact ⟨c', w1, w2, (del_ne fun z => (hfree _ (z ▸ w3)).1 _ rfl).trans w3⟩⟩
  obtain ⟨ep, e⟩ := D.model
  obtain ⟨dk, P, epk, ka, kb, ek⟩ := id D.kept
  exact ⟨(del_ne hitL.symm).trans D.fr, (del_ne hit1.symm).trans D.c1, (del_ne hits.symm).trans D.st, (del_ne hitsc.symm).trans D.scr, ⟨dk, P, epk, (del_ne fun z => (hfree _ (z ▸ ka)).2.1 _ _ rfl).trans ka, (del_ne fun z => (hfree _ (z ▸ kb)).2.2 _ _ rfl).trans kb, (del_ne fun z => by rw [z, hi] at ek; cases ek).trans ek⟩,
    ⟨ep, (del_ne fun z => by rw [z, hi] at e; cases e).trans e⟩, kt _ _ D.t1, kt _ _ D.t2⟩
end
section
variable {w : World} {B : Heap} {os : OsState} {l : List Env} {A : Around} {E : Value → MS → Prop} {env : Env} {s : Shared}
variable {σ τ τ' : MS} {k R M L st scr : Addr} {ns : List Int} {q : Int} {p : Nat} {ds : DS} {m : Str → Option V}
theorem call374 {n : Nat} {x0 : V} {Q : V → MS → Prop} (hA : Ar A l (n + 1)) (G : BF w B)
    (h : ∀ L A', σ L = none → (∀ c, L ≤ c → σ c = none) → Ar A' (callEnvC fd374 L 374 :: l) n → SS w B os (callEnvC fd374 L 374 :: l) A' (callEnvC fd374 L 374) bd374 (kBody Q) (kDn E)
      (upd (upd σ L (.ns (fr [("script", x0)]))) (L + 1) (CE none))) :
    CL w B os l A (.ref 374) [x0] Q E σ := by
  refine CL.defC (m := fr [("script", x0)]) (cm := fr []) hA G (is374 G) rfl (fun vs hv => ?_) (fun L n c h => ?_) h
  · obtain ⟨v0, rfl, rfl⟩ := list1 hv
    refine ⟨[("script", v0)], by kernel_rfl!, fun L x hx => ?_, fun L x => ?_, fun L x => rfl⟩
    · rw [List.mem_singleton] at hx; subst hx
      exact .inl (by show fd374.scope.names.lookup (Str.ofString "script") = _; decide +kernel)
    · show Option.map er (if x = Str.ofString "script" then some v0 else none) = _
      exact fr_ite rfl
  · have e : cellsFrom (L + 1) fd374.scope.names [] = [(Str.ofString "state", L + 1)] := by rfl
    rw [e] at h ⊢
    rw [List.mem_singleton] at h; cases h
    simp
end
end Mine
end
section
open PySem PySem.W PySem.Calls PyProof.Rows PySem.Builtin
set_option maxHeartbeats 4000000
namespace Mine
theorem parts_len : ∀ p ∈ partsL, p.length ≤ 5 := by decide +kernel
theorem flat_len : ∀ (ps : List (List UInt8)), (∀ p ∈ ps, p.length ≤ 5) → ps.flatten.length ≤ 5 * ps.length
  | [], _ => by simp
  | p :: ps, h => by
    have := flat_len ps fun q hq => h q (.tail _ hq)
    have := h p (.head _)
    rw [List.flatten_cons, List.length_append, List.length_cons]; omega
section
variable {w : World} {B : Heap} {os : OsState} {l : List Env} {A : Around} {E : Value → MS → Prop} {env : Env} {s : Shared}
variable {σ τ τ' : MS} {k R M L st scr : Addr} {ns : List Int} {q : Int} {p : Nat} {ds : DS} {m : Str → Option V}
theorem range1n (v : Nat) : ((1 : Int) + (v : Nat)) = ((1 + v : Nat) : Int) := by push_cast; rfl
theorem lawNames {n : Nat} {Q : Fl → MS → Prop} (G : BF w B) (hA : Ar A (callEnvC fd374 L 374 :: l) (n + 12)) (hns : ns.length ≤ 60) (hp : p < 700000) (D : LB k R M L st scr ns q p ds m τ) (h : ∀ τ', TabAt τ' 359 qD → TabAt τ' 366 qA → Q (.ret (.bool true)) τ') :
    SS w B os (callEnvC fd374 L 374 :: l) A (callEnvC fd374 L 374) (bd374.drop 5) Q E τ := by
  refine SS.forG hA.frames rfl <| EV.callTy (id := "range") G (by kernel_rfl!) (by kernel_rfl!) (by kernel_rfl!) <| SQ.cons <| EV.int <| SQ.nil <| CL.range1 fun r hr hrB => ?_
  refine ⟨_, _, _, Src.range (n := 3) hA.handled uu (by decide) (by decide), fun it hit hitB => ?_⟩
  obtain ⟨hi1, hir⟩ := nu hit
  obtain ⟨J, hJ⟩ : ∃ J : Nat → MS → Prop, ∀ i τ, J i τ = (∃ (p' : Nat) (m' : Str → Option V), p' ≤ p + 7 * i ∧ LB k R M L st scr ns q p' ds m' τ ∧ τ it = some (RI (0 + (i : Nat) * 1) ((3 : Nat) - (i : Nat)) 1)) := ⟨_, fun _ _ => rfl⟩
  refine ⟨J, ?_, ?_, ?_⟩
  · exact (hJ _ _).mpr ⟨p, m, by omega, (D.le (Le.fresh hr)).le (Le.fresh hit), uu⟩
  · intro i v τ hI hv
    rw [hJ] at hI
    obtain ⟨p', m', hp', D, hi⟩ := hI
    obtain ⟨hi3, rfl⟩ := range_at hv
    refine ⟨trivial, hi, ?_⟩
    have hitL : it ≠ L := fun z => by rw [z, D.fr] at hi; cases hi
    have hits : it ≠ st := fun z => by rw [z, D.st] at hi; cases hi
    have D2 := D.iter hi (RI (0 + ((i + 1 : Nat) : Int) * 1) ((3 : Nat) - ((i + 1 : Nat) : Int)) 1)
    refine AS.at (L := L) D2.fr ?_
    have hi4 : upd (upd τ it (RI (0 + ((i + 1 : Nat) : Int) * 1) ((3 : Nat) - ((i + 1 : Nat) : Int)) 1)) L (.ns (put m' (Str.ofString "turn") (.int (0 + (i : Nat) * 1)))) it = some (RI (0 + ((i + 1 : Nat) : Int) * 1) ((3 : Nat) - ((i + 1 : Nat) : Int)) 1) := (upd_ne _ _ hitL).trans uu
    have D3 := D2.frame (m' := put m' (Str.ofString "turn") (.int (0 + (i : Nat) * 1)))
    generalize upd (upd τ it (RI (0 + ((i + 1 : Nat) : Int) * 1) ((3 : Nat) - ((i + 1 : Nat) : Int)) 1)) L (.ns (put m' (Str.ofString "turn") (.int (0 + (i : Nat) * 1)))) = τ3 at D3 hi4
    refine assignAt (L := L) <| EV.meth mf_b_join <| EV.byt ⟨tyByt, SQ.cons ?_⟩
    refine evComp (cl := [(Str.ofString "state", L + 1)]) rfl rfl (by decide +kernel) (by decide +kernel) ?_
    refine EV.callTy (id := "range") G (by kernel_rfl!) (by kernel_rfl!) (by kernel_rfl!) <| SQ.cons <| EV.binop <| EV.int <| EV.callF G (is298 G) rfl <| SQ.cons <| EV.cell (c := L + 1) rfl D3.c1 <| SQ.cons <| EV.int <| SQ.nil <| nextN_ (size := 5) hA G D3.st D3.scr (by omega) hns (by decide) fun v hv5 => BN.addI <| SQ.nil ?_
    have hi5 : upd τ3 st (stL scr (p' + 1) q) it = some (RI (0 + ((i + 1 : Nat) : Int) * 1) ((3 : Nat) - ((i + 1 : Nat) : Int)) 1) := (upd_ne _ _ hits).trans hi4
    have D4 := D3.setSt (p' := p' + 1)
    generalize upd τ3 st (stL scr (p' + 1) q) = τ4 at D4 hi5
    rw [range1n]
    refine CL.range1 fun r2 hr2 hr2B => ?_
    have D5 := D4.le (Le.fresh (o := RG 0 ((1 + v : Nat) : Int) 1) hr2)
    have hi6 := un (o' := RG 0 ((1 + v : Nat) : Int) 1) hr2 hi5
    have hr2' : upd τ4 r2 (RG 0 ((1 + v : Nat) : Int) 1) r2 = some (RG 0 ((1 + v : Nat) : Int) 1) := uu
    generalize upd τ4 r2 (RG 0 ((1 + v : Nat) : Int) 1) = τ5 at D5 hi6 hr2'
    refine ⟨_, _, _, Src.range (n := 1 + v) hA.handled hr2' (range1_small _ (by omega)) (range1_size _), fun it2 Dl C hit2 hit2B hDl hC e1 e2 e3 => ?_⟩
    have nst : ∀ a, τ5 a = none → a ≠ st := fun a ha z => by rw [z, D5.st] at ha; cases ha
    obtain ⟨J2, hJ2⟩ : ∃ J2 : Nat → List V → MS → Prop, ∀ j ys τ, J2 j ys τ = (∃ (p2 : Nat) (ps : List (List UInt8)), p2 ≤ p' + 1 + j ∧ ys = ps.map V.byt ∧ (∀ x ∈ ps, x.length ≤ 5) ∧ ps.length = j ∧ (∀ a o, a ≠ st → τ5 a = some o → τ a = some o) ∧ τ st = some (stL scr p2 q) ∧ τ it2 = some (RI (0 + (j : Nat) * 1) (((1 + v : Nat) : Int) - (j : Nat)) 1) ∧ τ Dl = some (.list ys) ∧ ∃ m, τ C = some (.ns m)) := ⟨_, fun _ _ _ => rfl⟩
    refine ⟨J2, ?_, ?_, ?_⟩
    · refine (hJ2 _ _ _).mpr ⟨p' + 1, [], by omega, rfl, (fun x hx => by cases hx), rfl, (fun a o _ e => ((Le.fresh hit2).over hDl |>.over hC) _ _ e), ?_, ?_, ?_, _, uu⟩
      · exact ((Le.fresh hit2).over hDl |>.over hC) _ _ D5.st
      · exact (upd_ne _ _ e2).trans ((upd_ne _ _ e1).trans uu)
      · exact (upd_ne _ _ e3).trans uu
    · intro j vj τ6 ys hI2 hvj
      rw [hJ2] at hI2
      obtain ⟨p2, ps, hp2, rfl, hps, hpl, hkeep, hst6, hit6, hD6, mc, hC6⟩ := hI2
      obtain ⟨hj, rfl⟩ := range_at hvj
      refine ⟨trivial, hit6, AS.at (L := C) ((upd_ne _ _ e2.symm).trans hC6) <| TS.nil ⟨fun _ => ?_, nb⟩⟩
      have hsti : st ≠ it2 := Ne.symm (nst _ hit2)
      have hstC : st ≠ C := Ne.symm (nst _ hC)
      have hstD : st ≠ Dl := Ne.symm (nst _ hDl)
      have hk7 : ∀ o o', (∀ a b, a ≠ st → τ5 a = some b → upd (upd τ6 it2 o) C o' a = some b) := fun o o' a b ha e => by
        rw [upd_ne _ _ (ne_of_none hC e), upd_ne _ _ (ne_of_none hit2 e)]; exact hkeep a b ha e
      have hst7 : ∀ o o', upd (upd τ6 it2 o) C o' st = some (stL scr p2 q) := fun o o' => by rw [upd_ne _ _ hstC, upd_ne _ _ hsti]; exact hst6
      have hL1s : L + 1 ≠ st := fun z => by have := D5.c1; rw [z, D5.st] at this; cases this
      have hscs : scr ≠ st := scr_ne D5.st D5.scr
      refine EV.sub <| EV.glob (v := .ref 291) G rfl <| EV.callF G (is298 G) rfl <| SQ.cons <| EV.cell (c := L + 1) rfl (hk7 _ _ _ _ hL1s D5.c1) <| SQ.cons <| EV.callBi G gl_len.1 gl_len.2 boot_len <| SQ.cons <| EV.glob (v := .ref 291) G rfl <| SQ.nil <| CL.lenParts G <| SQ.nil <|
        nextN_ (size := 19) hA G (hst7 _ _) (hk7 _ _ _ _ hscs D5.scr) (by omega) hns (by decide) fun u hu => ?_
      obtain ⟨y, hy⟩ : ∃ y, partsL[u]? = some y := ⟨_, List.getElem?_eq_getElem (show u < partsL.length from hu)⟩
      have hym := parts_len y (List.mem_of_getElem? hy)
      refine SI.parts G hy ⟨?_, ?_, (hJ2 _ _ _).mpr ⟨p2 + 1, ps ++ [y], by omega, by simp, fun x hx => ?_, by simp [hpl], fun a b ha e => ?_, ?_, ?_, uu, _, (upd_ne _ _ e3.symm).trans ((upd_ne _ _ hstC.symm).trans uu)⟩⟩
      · rw [upd_ne _ _ hstD.symm, upd_ne _ _ e3, upd_ne _ _ e1.symm]; exact hD6
      · rw [List.length_map, hpl]; omega
      · rcases List.mem_append.mp hx with hx | hx
        · exact hps x hx
        · rw [List.mem_singleton] at hx; rw [hx]; exact hym
      · rw [upd_ne _ _ (ne_of_none hDl e), upd_ne _ _ ha]; exact hk7 _ _ a b ha e
      · rw [upd_ne _ _ hstD]; exact uu
      · rw [upd_ne _ _ e1, upd_ne _ _ hsti.symm, upd_ne _ _ e2]; exact uu
    · intro τ6 ys hI2
      rw [hJ2] at hI2
      obtain ⟨p2, ps, hp2, rfl, hps, hpl, hkeep, hst6, hit6, hD6, mc, hC6⟩ := hI2
      clear hJ2 J2
      unfold rangeXs at hp2 hpl hit6 ⊢
      rw [List.length_map, List.length_range] at hp2 hpl hit6 ⊢
      refine ⟨trivial, hit6, ⟨mc, hC6⟩, SQ.nil ?_⟩
      have hfl := flat_len ps hps
      have hk8 : ∀ a b, a ≠ st → τ5 a = some b → del (del τ6 it2) C a = some b := fun a b ha e => by
        rw [del_ne (ne_of_none hC e), del_ne (ne_of_none hit2 e)]; exact hkeep a b ha e
      have hst8 : del (del τ6 it2) C st = some (stL scr p2 q) := by
        rw [del_ne (Ne.symm (nst _ hC)), del_ne (Ne.symm (nst _ hit2))]; exact hst6
      refine CL.join (ps := ps) (by rw [del_ne e3, del_ne e1.symm]; exact hD6) (by omega) ?_
      have D6 : LB k R M L st scr ns q p2 ds (put m' (Str.ofString "turn") (.int (0 + (i : Nat) * 1))) (del (del τ6 it2) C) := by
        obtain ⟨ep, e⟩ := D5.model
        obtain ⟨dk, P, epk, ka, kb, ek⟩ := id D5.kept
        have kp : ∀ a o, (∀ xs, o ≠ .list xs) → τ5 a = some o → del (del τ6 it2) C a = some o := fun a o ho ea => hk8 a o (fun z => by rw [z, D5.st] at ea; exact ho _ (Option.some.inj ea).symm) ea
        have kt : ∀ P qq, TabAt τ5 P qq → TabAt (del (del τ6 it2) C) P qq := fun P qq ⟨ps, v1, v2, v3⟩ => ⟨ps, kp _ _ (fun _ z => by cases z) v1, v2, fun pos cv ec => by
          obtain ⟨c', w1, w2, w3⟩ := v3 pos cv ec
          exact ⟨c', w1, w2, kp _ _ (fun _ z => by cases z) w3⟩⟩
        exact ⟨kp _ _ (fun _ z => by cases z) D5.fr, kp _ _ (fun _ z => by cases z) D5.c1, hst8, hk8 _ _ (scr_ne D5.st D5.scr) D5.scr, ⟨dk, P, epk, kp _ _ (fun _ z => by cases z) ka, kp _ _ (fun _ z => by cases z) kb, kp _ _ (fun _ z => by cases z) ek⟩, ⟨ep, kp _ _ (fun _ z => by cases z) e⟩, kt _ _ D5.t1, kt _ _ D5.t2⟩
      have hi7 : del (del τ6 it2) C it = some (RI (0 + ((i + 1 : Nat) : Int) * 1) ((3 : Nat) - ((i + 1 : Nat) : Int)) 1) := hk8 _ _ hits hi6
      generalize del (del τ6 it2) C = τ7 at D6 hi7
      refine ⟨_, D6.fr, ?_⟩
      have D7 := D6.frame (m' := put (put m' (Str.ofString "turn") (.int (0 + (i : Nat) * 1))) (Str.ofString "name") (.byt ps.flatten))
      have hi8 := (upd_ne τ7 (.ns (put (put m' (Str.ofString "turn") (.int (0 + (i : Nat) * 1))) (Str.ofString "name") (.byt ps.flatten))) hitL).trans hi7
      generalize upd τ7 L (.ns (put (put m' (Str.ofString "turn") (.int (0 + (i : Nat) * 1))) (Str.ofString "name") (.byt ps.flatten))) = τ8 at D7 hi8
      refine SS.if <| TR.cmp <| EV.callF G (is101 G) rfl <| SQ.cons <| EV.name D7.fr rfl <| SQ.nil <| check_ hA G (by omega) <| EV.callF G (is315 G) rfl <| SQ.cons <| EV.name D7.fr rfl <| SQ.nil <| may_ hA G (by omega) <| CM.neBool <| TU.bool ?_
      rw [check_may, show ∀ c : Bool, (c != c) = false from fun c => by cases c <;> rfl]
      refine ⟨nb, fun _ => SS.nxt <| SS.nil ?_⟩
      exact (hJ _ _).mpr ⟨p2, _, by omega, D7, hi8⟩
  · intro τ hI
    rw [hJ] at hI
    obtain ⟨p', m', hp', D, hi⟩ := hI
    unfold rangeXs at hi ⊢
    rw [List.length_map, List.length_range] at hi ⊢
    exact ⟨trivial, hi, SS.ret <| EV.bool <| h _ (D.itDel hi).t1 (D.itDel hi).t2⟩
end
end Mine
end
section
open PySem PySem.W PySem.Calls PyProof.Rows PySem.Builtin
set_option maxHeartbeats 4000000
namespace Mine
section
variable {σ τ τ' : MS} {k R M L st scr it : Addr} {ns : List Int} {q a b c : Int} {p : Nat} {ds : DS} {m : Str → Option V}
theorem ce_pin {v : V} {ob : Obj} (hv : ∃ va, er va = v) : CE (some v) ≠ PIN ob := fun z => by
  obtain ⟨va, rfl⟩ := hv
  unfold CE PIN at z; injection z with z
  have h1 := (congrFun z { cls := .none, data := .cell (some va) }).mp ⟨_, rfl, rfl⟩
  have h2 := (congrFun z { cls := .type "cell", data := .cell (some va) }).mp ⟨_, rfl, rfl⟩
  have := congrArg Obj.cls (h1.trans h2.symm)
  cases this
theorem in_pin {C dx : Addr} {ps : Array Value} : IN C dx ≠ PIN (tabObj ps) := fun z => by
  unfold PIN IN at z; injection z with z
  have e' := congrArg Obj.data ((congrFun z (tabObj ps)).mpr rfl)
  cases e'
theorem id_pin {R P : Addr} {ps : Array Value} : ID [("_refs", .ref R), ("_peeled", .ref P)] ≠ PIN (tabObj ps) := fun z => by
  unfold PIN ID at z; injection z with z
  obtain ⟨arr, n, e, _⟩ := (congrFun z (tabObj ps)).mpr rfl
  have e' := congrArg Obj.data e
  cases e'
theorem LB.alike (D : LB k R M L st scr ns q p ds m τ) (hk : ∀ a o, a ≠ 366 → τ a = some o → τ' a = some o) (T : TabAt τ' 366 qA) : LB k R M L st scr ns q p ds m τ' := by
  obtain ⟨ps, t1, _⟩ := id D.t2
  have kp : ∀ a o, o ≠ PIN (tabObj ps) → τ a = some o → τ' a = some o := fun a o ho ea => hk a o (fun z => by rw [z, t1] at ea; exact ho (Option.some.inj ea).symm) ea
  obtain ⟨ep, e⟩ := D.model
  obtain ⟨dk, P, epk, ka, kb, ek⟩ := id D.kept
  obtain ⟨ps2, v1, v2, v3⟩ := id D.t1
  exact ⟨kp _ _ (fun z => by cases z) D.fr, kp _ _ (ce_pin ⟨.ref st, rfl⟩) D.c1, kp _ _ (fun z => by cases z) D.st, kp _ _ (fun z => by cases z) D.scr, ⟨dk, P, epk, kp _ _ in_pin ka, kp _ _ id_pin kb, kp _ _ (fun z => by cases z) ek⟩, ⟨ep, kp _ _ (fun z => by cases z) e⟩,
    ⟨ps2, hk _ _ (by decide) v1, v2, fun pos cv ec => by
      obtain ⟨c', w1, w2, w3⟩ := v3 pos cv ec
      exact ⟨c', w1, w2, kp _ _ cr_pin w3⟩⟩, T⟩
theorem Good.nil : Good [] := ⟨List.nodup_nil, (fun p h => by cases h), (fun p h => by cases h)⟩
end
section
variable {w : World} {B : Heap} {os : OsState} {l : List Env} {A : Around} {E : Value → MS → Prop} {env : Env} {s : Shared}
variable {σ τ τ' : MS} {k R M L st scr : Addr} {ns : List Int} {q : Int} {p : Nat} {ds : DS} {m : Str → Option V}
theorem lawDeeds {n : Nat} {Q : Fl → MS → Prop} (G : BF w B) (hA : Ar A (callEnvC fd374 L 374 :: l) (n + 12)) (hns : ns.length ≤ 60) (hRM : R ≠ M) (D : LB k R M L st scr ns q 0 [] m τ) (m1 : m "kept" = some (.ref k)) (m2 : m "model" = some (.ref M)) (h : ∀ τ', TabAt τ' 359 qD → TabAt τ' 366 qA → Q (.ret (.bool true)) τ') :
    SS w B os (callEnvC fd374 L 374 :: l) A (callEnvC fd374 L 374) (bd374.drop 3) Q E τ := by
  refine SS.forG hA.frames rfl <| EV.callTy (id := "range") G (by kernel_rfl!) (by kernel_rfl!) (by kernel_rfl!) <| SQ.cons <| EV.binop <| EV.int <| EV.callF G (is298 G) rfl <| SQ.cons <| EV.cell (c := L + 1) rfl D.c1 <| SQ.cons <| EV.int <| SQ.nil <| nextN_ (size := 6) hA G D.st D.scr (by omega) hns (by decide) fun v hv6 => BN.addI <| SQ.nil ?_
  have D1 := D.setSt (p' := 0 + 1)
  rw [range1n]
  refine CL.range1 fun r hr hrB => ?_
  refine ⟨_, _, _, Src.range (n := 1 + v) hA.handled uu (range1_small _ (by omega)) (range1_size _), fun it hit hitB => ?_⟩
  obtain ⟨J, hJ⟩ : ∃ J : Nat → MS → Prop, ∀ i τ, J i τ = (∃ (p' : Nat) (ds' : DS) (m' : Str → Option V), p' ≤ 1 + 7 * i ∧ Good ds' ∧ LB k R M L st scr ns q p' ds' m' τ ∧ m' "kept" = some (.ref k) ∧ m' "model" = some (.ref M) ∧ τ it = some (RI (0 + (i : Nat) * 1) (((1 + v : Nat) : Int) - (i : Nat)) 1)) := ⟨_, fun _ _ => rfl⟩
  refine ⟨J, ?_, ?_, ?_⟩
  · exact (hJ _ _).mpr ⟨1, [], m, by omega, Good.nil, (D1.le (Le.fresh hr)).le (Le.fresh hit), m1, m2, uu⟩
  · intro i vv τ hI hvv
    rw [hJ] at hI
    obtain ⟨p', ds', m', hp', g, D, m1, m2, hi⟩ := hI
    obtain ⟨hi3, rfl⟩ := range_at hvv
    refine ⟨trivial, hi, ?_⟩
    have D2 := D.iter hi (RI (0 + ((i + 1 : Nat) : Int) * 1) (((1 + v : Nat) : Int) - ((i + 1 : Nat) : Int)) 1)
    have hitL : it ≠ L := fun z => by rw [z, D.fr] at hi; cases hi
    refine AS.at (L := L) D2.fr ?_
    have D3 := D2.frame (m' := put m' (Str.ofString "turn") (.int (0 + (i : Nat) * 1)))
    have hi3 : upd (upd τ it (RI (0 + ((i + 1 : Nat) : Int) * 1) (((1 + v : Nat) : Int) - ((i + 1 : Nat) : Int)) 1)) L (.ns (put m' (Str.ofString "turn") (.int (0 + (i : Nat) * 1)))) it = some (RI (0 + ((i + 1 : Nat) : Int) * 1) (((1 + v : Nat) : Int) - ((i + 1 : Nat) : Int)) 1) := (upd_ne _ _ hitL).trans uu
    generalize upd (upd τ it (RI (0 + ((i + 1 : Nat) : Int) * 1) (((1 + v : Nat) : Int) - ((i + 1 : Nat) : Int)) 1)) L (.ns (put m' (Str.ofString "turn") (.int (0 + (i : Nat) * 1)))) = τ3 at D3 hi3
    refine SS.if <| TR.not <| TR.plain <| EV.callF G (is364 G) rfl <| SQ.cons <| EV.cell (c := L + 1) rfl D3.c1 <| SQ.cons <| EV.name D3.fr m1 <| SQ.cons <| EV.name D3.fr m2 <| SQ.nil <|
      deed_ (n := n + 2) hA G D3.st D3.scr D3.kept D3.model D3.t1 hRM g (by omega) hns fun τ4 ds4 p4 g4 hp4 hk hst hK hM hT => TU.bool ⟨nb, fun _ => SS.nxt <| SS.nil ?_⟩
    have D4 := D3.deed hk hst hK hM hT
    obtain ⟨ep, e⟩ := D3.model
    obtain ⟨_, _, epk, _, _, ek⟩ := id D3.kept
    obtain ⟨ps, t1, _⟩ := id D3.t1
    refine (hJ _ _).mpr ⟨p4, ds4, _, by omega, g4, D4, m1, m2, hk it _ (fun z => by have := D3.st; rw [← z, hi3] at this; cases this) (fun z => by rw [← z, hi3] at ek; cases ek) (fun z => by rw [← z, hi3] at e; cases e) (fun z => by rw [← z, hi3] at t1; exact ri_pin (ob := tabObj ps) (Option.some.inj t1)) hi3⟩
  · intro τ hI
    rw [hJ] at hI
    obtain ⟨p', ds', m', hp', g, D, m1, m2, hi⟩ := hI
    clear hJ J
    unfold rangeXs at hp' hi ⊢
    rw [List.length_map, List.length_range] at hp' hi ⊢
    refine ⟨trivial, hi, ?_⟩
    have D1 := D.itDel hi
    generalize del τ it = τ1 at D1
    obtain ⟨epM, hM⟩ := D1.model
    refine SS.if <| TR.not <| TR.plain <| EV.callF G (is369 G) rfl <| SQ.cons <| EV.name D1.fr m1 <| SQ.cons <| EV.name D1.fr m2 <| SQ.nil <| alike_ (n := n + 2) hA G D1.kept hM D1.t2 g fun τ2 hk hT2 => TU.bool ⟨nb, fun _ => SS.nxt ?_⟩
    exact lawNames (n := n) G hA hns (by omega) (D1.alike hk hT2) h
theorem law_ {n : Nat} {src : Addr} {ns0 : List Int} {Q : V → MS → Prop} (hA : Ar A l (n + 13)) (G : BF w B) (hs : ListB B src (ns0.map V.int)) (hz : ns0.length ≤ 63) (T1 : TabAt σ 359 qD) (T2 : TabAt σ 366 qA) (h : ∀ σ', TabAt σ' 359 qD → TabAt σ' 366 qA → Q (.bool true) σ') : CL w B os l A (.ref 374) [.ref src] Q E σ := by
  refine call374 hA G fun L A' hL hLs hA' => ?_
  have f1 := hLs (L + 1) (Nat.le_succ L)
  have hle : ∀ o o', Le σ (upd (upd σ L o) (L + 1) o') := fun o o' => Le.over (Le.fresh hL) f1
  have hfr : upd (upd σ L (.ns (fr [("script", .ref src)]))) (L + 1) (CE none) L = some (.ns (fr [("script", .ref src)])) := (upd_ne _ _ (an L 0 1 (by decide))).trans uu
  have hc1 : upd (upd σ L (.ns (fr [("script", .ref src)]))) (L + 1) (CE none) (L + 1) = some (CE none) := uu
  have hle0 := hle (.ns (fr [("script", .ref src)])) (CE none)
  generalize upd (upd σ L (.ns (fr [("script", .ref src)]))) (L + 1) (CE none) = τ at hfr hc1 hle0
  refine SS.assignC (c := L + 1) rfl <| EV.callF G (is303 G) rfl <| SQ.cons <| EV.name hfr rfl <| SQ.nil <| state_ hA' G hs hz fun scr st q hscr hscrB hst hstB hne => ?_
  have hst1 : upd τ scr (.list ((ns0.take 60).map V.int)) st = none := by rw [upd_ne _ _ hne.symm]; exact hst
  have hle1 : Le τ (upd (upd τ scr (.list ((ns0.take 60).map V.int))) st (stL scr 0 q)) := (Le.fresh hscr).trans (Le.fresh hst1)
  have hS : upd (upd τ scr (.list ((ns0.take 60).map V.int))) st (stL scr 0 q) st = some (stL scr 0 q) := uu
  have hSc : upd (upd τ scr (.list ((ns0.take 60).map V.int))) st (stL scr 0 q) scr = some (.list ((ns0.take 60).map V.int)) := (upd_ne _ _ hne).trans uu
  generalize upd (upd τ scr (.list ((ns0.take 60).map V.int))) st (stL scr 0 q) = τ1 at hle1 hS hSc
  have hc1' := hle1 _ _ hc1
  have hfr' := hle1 _ _ hfr
  have hle01 := hle0.trans hle1
  refine ⟨none, hc1', ?_⟩
  have n1 : st ≠ L + 1 := fun z => by rw [z, hc1'] at hS; cases hS
  have n2 : scr ≠ L + 1 := fun z => by rw [z, hc1'] at hSc; cases hSc
  have T1a : TabAt (upd τ1 (L + 1) (CE (some (.ref st)))) 359 qD := (T1.le hle01).but (fun z => by obtain ⟨ps, t, _⟩ := T1; rw [← z, f1] at t; cases t) (free_ce hc1')
  have T2a : TabAt (upd τ1 (L + 1) (CE (some (.ref st)))) 366 qA := (T2.le hle01).but (fun z => by obtain ⟨ps, t, _⟩ := T2; rw [← z, f1] at t; cases t) (free_ce hc1')
  have hfr2 := (upd_ne τ1 (CE (some (.ref st))) (an L 0 1 (by decide))).trans hfr'
  have hS2 := (upd_ne τ1 (CE (some (.ref st))) n1).trans hS
  have hSc2 := (upd_ne τ1 (CE (some (.ref st))) n2).trans hSc
  have hC2 : upd τ1 (L + 1) (CE (some (.ref st))) (L + 1) = some (CE (some (.ref st))) := uu
  generalize upd τ1 (L + 1) (CE (some (.ref st))) = τ2 at T1a T2a hfr2 hS2 hSc2 hC2
  have hfr2 : τ2 L = some (.ns (fr [("script", .ref src)])) := hfr2
  refine assignAt (L := L) <| evMake (n := n + 10) hA' G (nameIs_glob G rfl) <| SQ.cons <| evDict0 fun R ep hR hRB => SQ.nil ⟨R, ep, rfl, uu, fun k dk P ep' hk hkB hdk hP x1 x2 x3 => ?_⟩
  have hRk := ne_of_none hk uu
  have hRd := ne_of_none hdk uu
  have hRP := ne_of_none hP uu
  have hle2 : Le τ2 (upd (upd (upd (upd (upd τ2 R (.dict [] ep)) dk (ID [])) k (IN 281 dk)) P (.dict [] ep')) dk (ID [("_refs", .ref R), ("_peeled", .ref P)])) := by
    obtain ⟨a1, a2⟩ := nu hk
    obtain ⟨b1, b2⟩ := nu hdk
    obtain ⟨c1, c2⟩ := nu hP
    exact Le.over (Le.over (Le.over (Le.over (Le.fresh hR) b1) a1) c1) b1
  have hKept : Kept (upd (upd (upd (upd (upd τ2 R (.dict [] ep)) dk (ID [])) k (IN 281 dk)) P (.dict [] ep')) dk (ID [("_refs", .ref R), ("_peeled", .ref P)])) k R [] := by
    refine ⟨dk, P, ep, ?_, uu, ?_⟩
    · rw [upd_ne _ _ x1, upd_ne _ _ x2]; exact uu
    · rw [upd_ne _ _ hRd, upd_ne _ _ hRP, upd_ne _ _ hRk, upd_ne _ _ hRd]; exact uu
  generalize upd (upd (upd (upd (upd τ2 R (.dict [] ep)) dk (ID [])) k (IN 281 dk)) P (.dict [] ep')) dk (ID [("_refs", .ref R), ("_peeled", .ref P)]) = τ3 at hle2 hKept
  refine ⟨_, hle2 _ _ hfr2, ?_⟩
  have hfr3 := hle2 _ _ hfr2
  have hff := free_ns hfr3
  obtain ⟨_, _, epk, ka, kb, ek⟩ := id hKept
  have K4 : Kept (upd τ3 L (.ns (put (fr [("script", .ref src)]) (Str.ofString "kept") (.ref k)))) k R [] := hKept.but (fun z => by rw [← z, hfr3] at ek; cases ek) hff
  have T14 := (T1a.le hle2).but (o := .ns (put (fr [("script", .ref src)]) (Str.ofString "kept") (.ref k))) (tab_ne (T1a.le hle2) hfr3 fun ob z => by cases z) hff
  have T24 := (T2a.le hle2).but (o := .ns (put (fr [("script", .ref src)]) (Str.ofString "kept") (.ref k))) (tab_ne (T2a.le hle2) hfr3 fun ob z => by cases z) hff
  have hS4 := (upd_ne τ3 (.ns (put (fr [("script", .ref src)]) (Str.ofString "kept") (.ref k))) (fun z : st = L => by have := hle2 _ _ hS2; rw [z, hfr3] at this; cases this)).trans (hle2 _ _ hS2)
  have hSc4 := (upd_ne τ3 (.ns (put (fr [("script", .ref src)]) (Str.ofString "kept") (.ref k))) (fun z : scr = L => by have := hle2 _ _ hSc2; rw [z, hfr3] at this; cases this)).trans (hle2 _ _ hSc2)
  have hC4 := (upd_ne τ3 (.ns (put (fr [("script", .ref src)]) (Str.ofString "kept") (.ref k))) (an L 1 0 (by decide))).trans (hle2 _ _ hC2)
  have hfr4 : upd τ3 L (.ns (put (fr [("script", .ref src)]) (Str.ofString "kept") (.ref k))) L = some (.ns (put (fr [("script", .ref src)]) (Str.ofString "kept") (.ref k))) := uu
  generalize upd τ3 L (.ns (put (fr [("script", .ref src)]) (Str.ofString "kept") (.ref k))) = τ4 at K4 T14 T24 hS4 hSc4 hC4 hfr4
  refine assignAt (L := L) <| evDict0 fun M epM hM hMB => ⟨_, un hM hfr4, ?_⟩
  obtain ⟨_, _, epk4, ka4, kb4, ek4⟩ := id K4
  have D : LB k R M L st scr (ns0.take 60) q 0 [] (put (fr [("script", .ref src)]) (Str.ofString "kept") (.ref k)) (upd τ4 M (.dict [] epM)) :=
    ⟨un hM hfr4, un hM hC4, un hM hS4, un hM hSc4, K4.fr hM, ⟨epM, uu⟩, T14.le (Le.fresh hM), T24.le (Le.fresh hM)⟩
  exact lawDeeds (n := n) G hA' (by rw [List.length_take]; omega) (ne_of_none hM ek4) (D.frame (m' := put (put (fr [("script", .ref src)]) (Str.ofString "kept") (.ref k)) (Str.ofString "model") (.ref M))) rfl rfl fun τ' t1 t2 => Dn.of (h τ' t1 t2)
end
end Mine
end
section
open PySem PySem.W PySem.Calls PyProof.Rows PySem.Builtin
set_option maxHeartbeats 1000000
namespace Mine
noncomputable abbrev es3 (P : Params) : Array DictEntry := match (o3 P).data with | .dict es _ => es | _ => #[]
theorem es3_all (P : Params) : (gtab.all fun p => decide ((nsFind (es3 P) p.1).map er = some p.2)) = true := by kernel_rfl!
theorem es3_keys (P : Params) : ((es3 P).toList.all fun e => match e.key with | .str y _ => (gtab.lookup y).isSome || gmore.contains y | _ => false) = true := by kernel_rfl!
theorem ns_hide {h : Heap} {a : Addr} {m : Str → Option Value} {l : List Addr} (hn : h.Ns a m) (ha : a ∉ l) : (hideAll h l).Ns a m :=
  let ⟨o, es, ep, e, r⟩ := hn; ⟨o, es, ep, hideAll_get _ e ha, r⟩
theorem bf_of {w : World} {h : Heap} {mg mb : Str → Option Value} (KK : ∀ a o, (K w.params).lookup a = some o → h.get? a = some o) (Tg : h.Ns mainGlobals mg) (Tb : h.Ns builtinsNs mb) (Tl : h.NoLimit) (Ti : ∀ x : Str, x ≠ "__name__" → mb x = bootBuiltins x) : BF w (hideAll h [359, 366]) := by
  have h3 : h.get? 3 = some (o3 w.params) := KK 3 _ (by kernel_rfl!)
  obtain ⟨o, es, ep, ho, hd, hk, hf⟩ := id Tg
  rw [show h.get? mainGlobals = some (o3 w.params) from h3] at ho
  cases ho
  have e3 : es3 w.params = es := by
    show (match (o3 w.params).data with | .dict es _ => es | _ => #[]) = es
    rw [hd]
  refine ⟨?_, ⟨mg, mb, ns_hide Tg (by decide), ns_hide Tb (by decide), fun x v hv => ?_, fun x h1 h2 => ?_, Ti⟩, fun a o e n1 n2 => hideAll_get _ (KK a o e) (by simp [n1, n2])⟩
  · obtain ⟨mc, q1, q2⟩ := Tl
    exact ⟨mc, ns_hide q1 (by decide), q2⟩
  · have := List.all_eq_true.mp (es3_all w.params) (x, v) (mem_of_lookup_some hv)
    have := of_decide_eq_true this
    rw [e3, hf x] at this
    obtain ⟨v', q1, q2⟩ := Option.map_eq_some_iff.mp this
    exact ⟨v', q1, q2⟩
  · rw [← hf x]
    unfold nsFind findBy
    rw [Option.map_eq_none_iff, Array.find?_eq_none]
    intro e he hs
    have := List.all_eq_true.mp (es3_keys w.params) e (by rw [e3]; exact Array.mem_def.mp he)
    split at this
    · rename_i y t hy
      rw [hy] at hs
      have hxy : y = x := by simpa [Value.isStr] using hs
      subst hxy
      rw [h1, h2] at this
      cases this
    · cases this
theorem finish {w : World} {s₁ : Shared} {mg mb : Str → Option Value} {src : Addr} {vs : List Value} {ns : List Int} (KK : ∀ a o, (K w.params).lookup a = some o → s₁.heap.get? a = some o) (Tg : s₁.heap.Ns mainGlobals mg) (Tb : s₁.heap.Ns builtinsNs mb) (Tl : s₁.heap.NoLimit) (Ti : ∀ x : Str, x ≠ "__name__" → mb x = bootBuiltins x)
    (hsrc : s₁.heap.get? src = some { cls := .type "list", data := .seq vs.toArray }) (hI : vs.map er = ns.map V.int) (hns : ns.length ≤ 63) (hg : s₁.gens = #[]) (h1 : src ≠ 359) (h2 : src ≠ 366) :
    wpAny (model pw w) callerA (call (.ref 374) [.ref src]) (fun v s' => v = .bool true ∧ OldK s₁.heap s'.heap ∧ s'.os = s₁.os ∧ s'.gens = #[]) (fun _ _ => False) s₁ := by
  have G := bf_of (w := w) KK Tg Tb Tl Ti
  have k1 : s₁.heap.get? 359 = some (tabObj #[]) := KK 359 (o359 w.params) (by kernel_rfl!)
  have k2 : s₁.heap.get? 366 = some (tabObj #[]) := KK 366 (o366 w.params) (by kernel_rfl!)
  have k3 : s₁.heap.get? 363 = some (o363 w.params) := KK 363 (o363 w.params) (by kernel_rfl!)
  have k4 : s₁.heap.get? 368 = some (o368 w.params) := KK 368 (o368 w.params) (by kernel_rfl!)
  have R : Rel w (hideAll s₁.heap [359, 366]) s₁.os [] (upd (upd (fun _ => none) 359 (PIN (tabObj #[]))) 366 (PIN (tabObj #[]))) s₁ := by
    refine ⟨hg, rfl, fun b o e => of_hideAll _ e, fun a o e => ?_, trivial, fun a o e hm => by cases hm⟩
    by_cases q : a = 366
    · subst q; rw [upd_self] at e; cases e; exact ⟨hideAll_none _ (by decide), _, k2, rfl⟩
    · rw [upd_ne _ _ q] at e
      by_cases q2 : a = 359
      · subst q2; rw [upd_self] at e; cases e; exact ⟨hideAll_none _ (by decide), _, k1, rfl⟩
      · rw [upd_ne _ _ q2] at e; cases e
  have T1 : TabAt (upd (upd (fun _ => none) 359 (PIN (tabObj #[]))) 366 (PIN (tabObj #[]))) 359 qD := ⟨#[], (upd_ne _ _ (by decide)).trans uu, trivial, fun pos cv e => by cases e⟩
  have T2 : TabAt (upd (upd (fun _ => none) 359 (PIN (tabObj #[]))) 366 (PIN (tabObj #[]))) 366 qA := ⟨#[], uu, trivial, fun pos cv e => by cases e⟩
  have hA : Ar callerA [] (0 + 13) := ⟨rfl, rfl, by decide +kernel, by decide +kernel⟩
  have hL : ListB (hideAll s₁.heap [359, 366]) src (ns.map V.int) := ⟨vs.toArray, 0, hideAll_get _ hsrc (by simp [h1, h2]), hI⟩
  refine wpAny_mono (law_ (n := 0) (Q := fun v σ' => v = .bool true ∧ TabAt σ' 359 qD ∧ TabAt σ' 366 qA) (E := fun _ _ => False) hA G hL hns T1 T2 (fun σ' t1 t2 => ⟨rfl, t1, t2⟩) (.ref 374) [.ref src] rfl rfl s₁ R) (fun v s' hq1 => ?_) fun v s' ⟨_, _, _, _, _, z⟩ => z
  obtain ⟨σ', R', hv, ⟨p1, u1, _⟩, p2, u2, _⟩ := hq1
  refine ⟨er_bool hv, ?_, R'.os, R'.gens⟩
  obtain ⟨_, _, g1, rfl⟩ := R'.known _ _ u1
  obtain ⟨_, _, g2, rfl⟩ := R'.known _ _ u2
  have i1 : isCodeTable s₁.heap 359 := Heap.TableAt.isCodeTable (c := 363) (ps := #[]) ⟨⟨_, _, k3, rfl, rfl, rfl⟩, k1⟩
  have i2 : isCodeTable s₁.heap 366 := Heap.TableAt.isCodeTable (c := 368) (ps := #[]) ⟨⟨_, _, k4, rfl, rfl, rfl⟩, k2⟩
  refine ⟨fun b o e => ?_, fun b o e => ?_⟩
  · by_cases q : b = 359
    · subst q; rw [k1] at e; cases e
      exact .inr (.inl ⟨i1, rfl, #[], p1, rfl, by rw [g1, Array.empty_append]⟩)
    · by_cases q2 : b = 366
      · subst q2; rw [k2] at e; cases e
        exact .inr (.inl ⟨i2, rfl, #[], p2, rfl, by rw [g2, Array.empty_append]⟩)
      · exact .inl (R'.old _ _ (hideAll_get _ e (by simp [q, q2])))
  · by_cases q : b = 359
    · subst q; exact ⟨_, g1⟩
    · by_cases q2 : b = 366
      · subst q2; exact ⟨_, g2⟩
      · exact ⟨o, R'.old _ _ (hideAll_get _ e (by simp [q, q2]))⟩
end Mine
end
section
open PySem PySem.W PySem.W.X PyProof.Rows
set_option maxHeartbeats 0
theorem Mine.ints_er : ∀ {vs : List Value} {ns : List Int}, IntsAre vs ns → vs.map Mine.er = ns.map Mine.V.int := by
  intro vs ns h
  induction h with
  | nil => rfl
  | cons n t _ ih => rw [List.map_cons, List.map_cons, ih]; rfl
theorem Mine.law_at (P : Params) : nsFind (Mine.es3 P) (Str.ofString "law") = some (.ref 374) := by kernel_rfl!
theorem Mine.as_eq (P : Params) : Mine.as = (Mine.K P).map (·.1) := by kernel_rfl!
theorem Mine.k3_at (P : Params) : (Mine.K P).lookup 3 = some (Mine.o3 P) := by kernel_rfl!
theorem Mine.post_true (ns : List Int) : PySem.Challenge.rw_jg0026_01.row.claim.post [ofPy (PyData.list (ns.map PyData.int))] (.bool true) [ofPy (PyData.list (ns.map PyData.int))] = true := by
  wrow_post
theorem Mine.raises_false (args : List WData) (cls : ExcName) : PySem.Challenge.rw_jg0026_01.row.claim.raises args cls = false := rfl
theorem Mine.fa_at {w : World} {h : Heap} {mg : Str → Option Value} {fa : Addr} (KK : ∀ a o, (Mine.K w.params).lookup a = some o → h.get? a = some o) (Tg : h.Ns mainGlobals mg) (hmg : mg (Str.ofString "law") = some (.ref fa)) : fa = 374 := by
  obtain ⟨o', es, ep, ho', hd', hk', hf'⟩ := Tg
  rw [show h.get? mainGlobals = some (Mine.o3 w.params) from KK 3 _ (Mine.k3_at _)] at ho'
  cases ho'
  have e3 : Mine.es3 w.params = es := by
    show (match (Mine.o3 w.params).data with | .dict es _ => es | _ => #[]) = es
    rw [hd']
  have h1 := Mine.law_at w.params
  rw [e3, hf'] at h1
  have h2 := h1.symm.trans hmg
  injection h2 with h2
  injection h2 with h2
  exact h2.symm
theorem Mine.good_end {w : World} {s₁ s' : Shared} {cl : Str → Option Addr} {mean : ExcName → Option Value} {ns : List Int} {v : Value} (hv : v = .bool true) (hK : OldK s₁.heap s'.heap) (hos : s'.os = s₁.os) (hg : s'.gens = #[]) :
    GoodWG PySem.Challenge.rw_jg0026_01.row.claim cl mean [ofPy (PyData.list (ns.map PyData.int))] s₁ (.ok (.ret v)) s' := by
  subst hv
  exact ⟨.inl ⟨_, .bool true, [], rfl, fun cls => Mine.raises_false _ cls, .bool true, Mine.post_true ns, fun z => ⟨List.nodup_nil, fun a h => by cases h⟩⟩, hK, hos, .of_eq hg⟩
theorem Mine.walk_end {w : World} {s₀ s₁ : Shared} {mg mb : Str → Option Value} {fa src : Addr} {ns : List Int} {vs : List Value} {as : List Addr} {cl : Str → Option Addr} {mean : ExcName → Option Value} (y : obsZ Mine.as s₀ = valZ Mine.K 375 683 w)
    (L : Laid PySem.Challenge.rw_jg0026_01.row.records w s₀ s₁ [ofPy (PyData.list (ns.map PyData.int))] [.ref src] as) (Tg : s₁.heap.Ns mainGlobals mg) (Tb : s₁.heap.Ns builtinsNs mb) (Tl : s₁.heap.NoLimit) (Ti : ∀ x : Str, x ≠ "__name__" → mb x = bootBuiltins x)
    (hmg : mg (Str.ofString "law") = some (.ref fa)) (hg : s₁.gens = #[]) (hL : s₁.heap.IsList src vs.toArray) (hI : IntsAre vs ns) (hz : ¬ ((63 : Nat) : Int) < (ns.length : Int)) :
    wpAny (model Mine.pw w) callerA (PySem.call (.ref fa) [.ref src]) (fun v s' => GoodWG PySem.Challenge.rw_jg0026_01.row.claim cl mean [ofPy (PyData.list (ns.map PyData.int))] s₁ (.ok (.ret v)) s')
      (fun e s' => GoodWG PySem.Challenge.rw_jg0026_01.row.claim cl mean [ofPy (PyData.list (ns.map PyData.int))] s₁ (.error e) s') s₁ := by
  obtain ⟨hat, hsz⟩ := script_at L
  have hf := z_facts (K := Mine.K) (as := Mine.as) Mine.as_eq y
  have KK : ∀ a o, (Mine.K w.params).lookup a = some o → s₁.heap.get? a = some o := fun a o e => L.keeps _ _ (hf.2.1 a o e)
  have hfa := Mine.fa_at KK Tg hmg
  subst hfa
  have hsrc : src = 375 := by rw [hat, hf.2.2.1]
  have n1 : src ≠ 359 := by rw [hsrc]; decide
  have n2 : src ≠ 366 := by rw [hsrc]; decide
  exact wpAny_mono (Mine.finish (w := w) KK Tg Tb Tl Ti (script_obj L hL) (Mine.ints_er hI) (by omega) hg n1 n2) (fun v s' ⟨hv, hK, hos, hgens⟩ => Mine.good_end (w := w) hv hK hos hgens) fun v s' z => z.elim
theorem Mine.walk {d : DefRec} {kwd : List (Str × Expr)} (hn : d.name = Str.ofString "law") : WalkX Mine.q Mine.loose (XL Mine.q []) (obsZ Mine.as) (valZ Mine.K 375 683) PySem.Challenge.rw_jg0026_01.row.toRowW d kwd (fun f vs => PySem.call f vs) := by
  intro w s₀ s₁ mg mb G y fa o pm cd doc dV kV ho hd hcd hD hmg hg args vals as L hpre hlay hrd hwl hlo
  have T := G.T
  rw [hn] at hmg
  clear hD hd hcd hn
  wrow_args hpre hlay hrd hwl hlo
  all_goals
    rename_i ns q1 q2 q3 q4 q5 l4 l3 src vs l0 hL ra w1 r0 hI hr hc1 hc2
    exact Mine.walk_end y L T.g T.b T.nolimit T.builtins hmg hg hL hI hc1
end
open PySem PySem.W PySem.W.X PyProof.Rows
set_option maxHeartbeats 0
theorem PySem.Challenge.cw_jg0026_01_holds : PySem.Challenge.rw_jg0026_01.Holds := by
  w_on
  refine holds_law Mine.lawSaid fun said => ?_
  refine holds_openX (q := Mine.q) (loose := Mine.loose) (Xt := fun s => xlAt Mine.q [] s && recOk PySem.Challenge.rw_jg0026_01.row.records s) (XP := XL Mine.q []) (Yf := obsZ Mine.as) (Ya := valZ Mine.K 375 683) (N := 4732) Mine.left (fun s e => xl_of s (Bool.and_eq_true_iff.mp e).1) XL.keeps (by rfl) (by rfl) (by rfl) (fun s e => recFacts_of (Bool.and_eq_true_iff.mp e).2) (by rfl) (by first | assumption | decide +kernel) (by decide +kernel) ⟨rfl, rfl, rfl, rfl, rfl, by decide +kernel⟩ ?hw (Mine.walk rfl)
  case hw => w_witness2
