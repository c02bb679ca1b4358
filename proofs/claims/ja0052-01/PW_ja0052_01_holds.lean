import PyProof.Rows.All
import Wide.All
import OpenK.AllK
import Wide.FinOn
import KE.KStar
import PyProof.TupleOfSeq
import PyProof.TupleCall
import PyProof.EqAt
import PyProof.EqKinds
import PyProof.NeKinds
import PyProof.Rows.DictListFold
import Lean
import PySem.Challenge.RW_ja0052_01
set_option Elab.async false
set_option compiler.extract_closed false
set_option rowWalk.seconds 0
set_option linter.all false
namespace Mine
section
open PySem PySem.W PyProof.Rows
set_option maxRecDepth 100000
set_option maxHeartbeats 0
namespace H
abbrev pw : Program := PySem.Challenge.pw_ja0052_01
noncomputable abbrev S (x : String) : PySem.Str := PySem.Str.ofString x
noncomputable abbrev s (x : String) (t : Nat) : Value := .str (PySem.Str.ofString x) t
noncomputable abbrev I (x : Int) (t : Nat) : Value := .int x t
noncomputable abbrev T (x : String) : Value := .type x
noncomputable abbrev b (x : String) : Value := .builtin x
noncomputable abbrev r (a : Nat) : Value := .ref a
noncomputable abbrev e (P : Params) (k : String) (t : Nat) (v : Value) : DictEntry := ⟨PyData.keyHash P (PySem.Str.ofString k), .str (PySem.Str.ofString k) t, v⟩
noncomputable abbrev O (c : Value) (d : Data) : Obj := ⟨c, none, d, ⟨[]⟩⟩
noncomputable abbrev N := BT.node
noncomputable abbrev Z := BT.nil
noncomputable def stT (i : Nat) : Stmt := (pw.main.body[i]?).getD (.Pass ⟨0, 0, 0, 0⟩)
noncomputable def clsB : Stmt → List Stmt
  | .ClassDef _ _ _ b _ _ _ _ _ _ _ => b
  | _ => []
noncomputable def stC (i j : Nat) : Stmt := ((clsB (stT i))[j]?).getD (.Pass ⟨0, 0, 0, 0⟩)
noncomputable def fdK (k : Arguments → List Stmt → Scope → FuncData) : Stmt → FuncData
  | .FunctionDef _ a b _ _ _ s _ _ _ => k a b s
  | _ => default
noncomputable def f0 (st : Stmt) (nm qn : String) (g : Nat) (cl : List (PySem.Str × Addr)) (dv kv doc pm : Value) (an : Option Nat) (cd ct : Value) (bi : Nat) : FuncData :=
  fdK (fun a b sc => ⟨S nm, S qn, a, .stmts b, sc, g, cl, dv, kv, doc, pm, an, cd, ct, bi⟩) st
noncomputable def f1 (i : Nat) := f0 (stT i)
noncomputable def f2 (i j : Nat) := f0 (stC i j)
noncomputable def o11 : Obj := O (T "tuple") (.seq ⟨[]⟩ 0)
noncomputable def o12 : Obj := O .none (.fields ⟨[]⟩)
noncomputable def o13 : Obj := O (T "code") (.fields ⟨[(s "<module>" 182), (s "<module>" 183), (s "/claim/cut.py" 184), (I 1 0), (I 0 0), (I 0 0), (I 0 0), (I 0 0), (r 11), (.bool false), (I 181 0), (r 12), .none, .none, .none, .none, (I 185 0), (I 1 0), (s "/claim/cut.py" 186)]⟩)
noncomputable def o14 : Obj := ⟨(T "frame"), none, .plain, ⟨[(some (r 13)), (some (r 3)), (some (r 3)), none, (some (s "__main__" 164)), none, (some (r 0))]⟩⟩
noncomputable def tA (P : Params) : BT := (N (boot_o_0 P) (N (boot_o_1 P) (N (boot_o_3 P) (N (boot_o_7 P) Z Z) (N o11 Z Z)) (N (boot_o_5 P) (N (boot_o_9 P) Z Z) (N o13 Z Z))) (N (boot_o_2 P) (N (boot_o_4 P) (N (boot_o_8 P) Z Z) (N o12 Z Z)) (N (boot_o_6 P) (N (boot_o_10 P) Z Z) (N o14 Z Z))))
noncomputable def o2 (P : Params) : Obj := O .none (.dict ⟨[(e P "type.__subclasses__.Exception.0" 260 (I 50 0)), (e P "type.__subclasses__.Exception.n" 261 (I 1 0))]⟩ 2)
noncomputable def o3 (P : Params) : Obj := O (T "dict") (.dict ⟨[(e P "__name__" 165 (s "shamir_mnemonic.wordlist" 302)), (e P "__doc__" 166 .none), (e P "__package__" 167 .none), (e P "__loader__" 168 (b "__main__.__loader__#opaque")), (e P "__spec__" 169 .none), (e P "__annotations__" 170 (r 6)), (e P "__builtins__" 171 (r 4)), (e P "__file__" 173 (s "/claim/cut.py" 172)), (e P "__cached__" 174 .none), (e P "_wall" 193 (r 21)), (e P "RADIX_BITS" 195 (I 10 194)), (e P "RADIX" 197 (I 1024 196)), (e P "EXTENDABLE_FLAG_LENGTH_BITS" 199 (I 1 198)), (e P "ITERATION_EXP_LENGTH_BITS" 201 (I 4 200)), (e P "ID_EXP_LENGTH_WORDS" 203 (I 2 202)), (e P "CHECKSUM_LENGTH_WORDS" 205 (I 3 204)), (e P "CUSTOMIZATION_STRING_ORIG" 207 (.bytes ⟨[115, 104, 97, 109, 105, 114]⟩ 206)), (e P "CUSTOMIZATION_STRING_EXTENDABLE" 209 (.bytes ⟨[115, 104, 97, 109, 105, 114, 95, 101, 120, 116, 101, 110, 100, 97, 98, 108, 101]⟩ 208)), (e P "METADATA_LENGTH_WORDS" 211 (I 7 210)), (e P "MIN_MNEMONIC_LENGTH_WORDS" 213 (I 20 212)), (e P "_polymod" 227 (r 28)), (e P "create_checksum" 233 (r 33)), (e P "verify_checksum" 241 (r 40)), (e P "MnemonicError" 263 (r 50)), (e P "_round_bits" 272 (r 60)), (e P "bits_to_bytes" 280 (r 67)), (e P "bits_to_words" 288 (r 74)), (e P "int_to_indices" 301 (r 81)), (e P "_OUTER" 305 (s "bdfghjklmnprstvz" 304)), (e P "_INNER" 307 (s "aiou" 306))]⟩ 30)
noncomputable def o12v1 : Obj := O .none (.fields ⟨[(I 1 0), (I 0 0), (r 20), (I 15 0), (I 0 0), (r 27), (I 24 0), (I 0 0), (r 32), (I 28 0), (I 0 0), (r 39), (I 31 0), (I 0 0), (r 46), (I 33 0), (I 0 0), (r 59), (I 36 0), (I 0 0), (r 66), (I 39 0), (I 0 0), (r 73), (I 42 0), (I 0 0), (r 80)]⟩)
noncomputable def o15 : Obj := O (T "tuple") (.seq ⟨[]⟩ 0)
noncomputable def o16 : Obj := O .none (.fields ⟨[]⟩)
noncomputable def o17 : Obj := O (T "tuple") (.seq ⟨[(s "k" 190)]⟩ 0)
noncomputable def o18 : Obj := O (T "tuple") (.seq ⟨[]⟩ 0)
noncomputable def o19 : Obj := O .none (.func (f1 0 "_wall" "_wall" 0 [] .none .none .none .none none .none .none 0))
noncomputable def o20 : Obj := O (T "code") (.fields ⟨[(s "_wall" 187), (s "_wall" 188), (s "/claim/cut.py" 189), (I 1 0), (I 1 0), (I 0 0), (I 0 0), (I 3 0), (r 15), (.bool true), (I 181 0), (r 16), .none, (r 17), (r 18), (r 19), (I 191 0), (I 1 0), (s "/claim/cut.py" 192)]⟩)
noncomputable def o21 : Obj := O (T "function") (.func (f1 0 "_wall" "_wall" 3 [] .none .none .none (s "__main__" 164) none (r 20) .none 0))
noncomputable def o22 : Obj := O (T "tuple") (.seq ⟨[]⟩ 0)
noncomputable def o23 : Obj := O .none (.fields ⟨[]⟩)
noncomputable def o24 : Obj := O (T "tuple") (.seq ⟨[(s "values" 219), (s "GEN" 220), (s "chk" 221), (s "v" 222), (s "b" 223), (s "i" 224)]⟩ 0)
noncomputable def o25 : Obj := O (T "tuple") (.seq ⟨[]⟩ 0)
noncomputable def o26 : Obj := O .none (.func (f1 12 "_polymod" "_polymod" 0 [] .none .none .none .none none .none .none 0))
noncomputable def o27 : Obj := O (T "code") (.fields ⟨[(s "_polymod" 216), (s "_polymod" 217), (s "/claim/cut.py" 218), (I 15 0), (I 1 0), (I 0 0), (I 0 0), (I 3 0), (r 22), (.bool true), (I 181 0), (r 23), .none, (r 24), (r 25), (r 26), (I 225 0), (I 15 0), (s "/claim/cut.py" 226)]⟩)
noncomputable def o28 : Obj := O (T "function") (.func (f1 12 "_polymod" "_polymod" 3 [] .none .none .none (s "shamir_mnemonic.rs1024" 214) none (r 27) .none 0))
noncomputable def o29 : Obj := O (T "tuple") (.seq ⟨[]⟩ 0)
noncomputable def o30 : Obj := O .none (.fields ⟨[]⟩)
noncomputable def o31 : Obj := O .none (.func (f1 13 "create_checksum" "create_checksum" 0 [] .none .none .none .none none .none .none 0))
noncomputable def o32 : Obj := O (T "code") (.fields ⟨[(s "create_checksum" 228), (s "create_checksum" 229), (s "/claim/cut.py" 230), (I 24 0), (I 2 0), (I 0 0), (I 0 0), (I 3 0), (r 29), (.bool true), (I 181 0), (r 30), .none, .none, .none, (r 31), (I 231 0), (I 24 0), (s "/claim/cut.py" 232)]⟩)
noncomputable def o33 : Obj := O (T "function") (.func (f1 13 "create_checksum" "create_checksum" 3 [] .none .none .none (s "shamir_mnemonic.rs1024" 214) none (r 32) .none 0))
noncomputable def o34 : Obj := O (T "tuple") (.seq ⟨[]⟩ 0)
noncomputable def o35 : Obj := O .none (.fields ⟨[]⟩)
noncomputable def o36 : Obj := O (T "tuple") (.seq ⟨[(s "data" 237), (s "customization_string" 238)]⟩ 0)
noncomputable def o37 : Obj := O (T "tuple") (.seq ⟨[]⟩ 0)
noncomputable def o38 : Obj := O .none (.func (f1 14 "verify_checksum" "verify_checksum" 0 [] .none .none .none .none none .none .none 0))
noncomputable def o39 : Obj := O (T "code") (.fields ⟨[(s "verify_checksum" 234), (s "verify_checksum" 235), (s "/claim/cut.py" 236), (I 28 0), (I 2 0), (I 0 0), (I 0 0), (I 3 0), (r 34), (.bool true), (I 181 0), (r 35), .none, (r 36), (r 37), (r 38), (I 239 0), (I 28 0), (s "/claim/cut.py" 240)]⟩)
noncomputable def o40 : Obj := O (T "function") (.func (f1 14 "verify_checksum" "verify_checksum" 3 [] .none .none .none (s "shamir_mnemonic.rs1024" 214) none (r 39) .none 0))
noncomputable def o41 : Obj := O (T "tuple") (.seq ⟨[(T "Exception")]⟩ 0)
noncomputable def o42 : Obj := O (T "builtin_function_or_method") (.fields ⟨[(b "type.__prepare__"), (T "type")]⟩)
noncomputable def o43 (P : Params) : Obj := O (T "dict") (.dict ⟨[(e P "__module__" 251 (s "shamir_mnemonic.utils" 242)), (e P "__qualname__" 253 (s "MnemonicError" 252)), (e P "__firstlineno__" 255 (I 31 254)), (e P "__static_attributes__" 256 (r 48))]⟩ 4)
noncomputable def o44 : Obj := O (T "tuple") (.seq ⟨[]⟩ 0)
noncomputable def o45 : Obj := O .none (.fields ⟨[]⟩)
noncomputable def o46 : Obj := O (T "code") (.fields ⟨[(s "MnemonicError" 246), (s "MnemonicError" 247), (s "/claim/cut.py" 248), (I 31 0), (I 0 0), (I 0 0), (I 0 0), (I 0 0), (r 44), (.bool false), (I 181 0), (r 45), .none, .none, .none, .none, (I 249 0), (I 31 0), (s "/claim/cut.py" 250)]⟩)
noncomputable def o47 : Obj := ⟨(T "frame"), none, .plain, ⟨[(some (r 46)), (some (r 3)), (some (r 43)), none, (some (s "shamir_mnemonic.utils" 242)), none, (some (r 0))]⟩⟩
noncomputable def o48 : Obj := O (T "tuple") (.seq ⟨[]⟩ 0)
noncomputable def o49 (P : Params) : Obj := O (T "dict") (.dict ⟨[(e P "__module__" 251 (s "shamir_mnemonic.utils" 242)), (e P "__firstlineno__" 255 (I 31 254)), (e P "__static_attributes__" 256 (r 48)), (e P "__weakref__" 258 (r 51)), (e P "__doc__" 259 .none)]⟩ 3)
noncomputable def o50 : Obj := ⟨(T "type"), none, (.cls ⟨S "MnemonicError", [(T "Exception")], [(r 50), (T "Exception"), (T "BaseException"), (T "object")], 49, S "MnemonicError", true, [], [], false, none, false⟩), ⟨[(some (r 41)), none, (some (s "MnemonicError" 244)), (some (s "MnemonicError" 252)), (some (b "Exception.__new__")), (some (.bool true))]⟩⟩
noncomputable def o51 : Obj := O (T "getset_descriptor") (.fields ⟨[(s "__weakref__" 257), (r 50), (b "ExceptionGroup.__weakref__"), .none]⟩)
noncomputable def o52 : Obj := O (T "super") (.fields ⟨[(r 50), (r 50), (r 50)]⟩)
noncomputable def o53 : Obj := O (T "builtin_function_or_method") (.fields ⟨[(b "object.__init_subclass__"), (r 50)]⟩)
noncomputable def o54 : Obj := O (T "tuple") (.seq ⟨[]⟩ 0)
noncomputable def o55 : Obj := O .none (.fields ⟨[]⟩)
noncomputable def o56 : Obj := O (T "tuple") (.seq ⟨[(s "n" 267), (s "radix_bits" 268)]⟩ 0)
noncomputable def o57 : Obj := O (T "tuple") (.seq ⟨[]⟩ 0)
noncomputable def o58 : Obj := O .none (.func (f1 17 "_round_bits" "_round_bits" 0 [] .none .none .none .none none .none .none 0))
noncomputable def o59 : Obj := O (T "code") (.fields ⟨[(s "_round_bits" 264), (s "_round_bits" 265), (s "/claim/cut.py" 266), (I 33 0), (I 2 0), (I 0 0), (I 0 0), (I 3 0), (r 54), (.bool true), (I 181 0), (r 55), .none, (r 56), (r 57), (r 58), (I 269 0), (I 33 0), (s "/claim/cut.py" 270)]⟩)
noncomputable def o60 : Obj := O (T "function") (.func (f1 17 "_round_bits" "_round_bits" 3 [] .none .none (s "Get the number of `radix_bits`-sized digits required to store a `n`-bit value." 271) (s "shamir_mnemonic.utils" 242) none (r 59) .none 0))
noncomputable def o61 : Obj := O (T "tuple") (.seq ⟨[]⟩ 0)
noncomputable def o62 : Obj := O .none (.fields ⟨[]⟩)
noncomputable def o63 : Obj := O (T "tuple") (.seq ⟨[(s "n" 276)]⟩ 0)
noncomputable def o64 : Obj := O (T "tuple") (.seq ⟨[]⟩ 0)
noncomputable def o65 : Obj := O .none (.func (f1 18 "bits_to_bytes" "bits_to_bytes" 0 [] .none .none .none .none none .none .none 0))
noncomputable def o66 : Obj := O (T "code") (.fields ⟨[(s "bits_to_bytes" 273), (s "bits_to_bytes" 274), (s "/claim/cut.py" 275), (I 36 0), (I 1 0), (I 0 0), (I 0 0), (I 3 0), (r 61), (.bool true), (I 181 0), (r 62), .none, (r 63), (r 64), (r 65), (I 277 0), (I 36 0), (s "/claim/cut.py" 278)]⟩)
noncomputable def o67 : Obj := O (T "function") (.func (f1 18 "bits_to_bytes" "bits_to_bytes" 3 [] .none .none (s "Round up bit count to whole bytes." 279) (s "shamir_mnemonic.utils" 242) none (r 66) .none 0))
noncomputable def o68 : Obj := O (T "tuple") (.seq ⟨[]⟩ 0)
noncomputable def o69 : Obj := O .none (.fields ⟨[]⟩)
noncomputable def o70 : Obj := O (T "tuple") (.seq ⟨[(s "n" 284)]⟩ 0)
noncomputable def o71 : Obj := O (T "tuple") (.seq ⟨[]⟩ 0)
noncomputable def o72 : Obj := O .none (.func (f1 19 "bits_to_words" "bits_to_words" 0 [] .none .none .none .none none .none .none 0))
noncomputable def o73 : Obj := O (T "code") (.fields ⟨[(s "bits_to_words" 281), (s "bits_to_words" 282), (s "/claim/cut.py" 283), (I 39 0), (I 1 0), (I 0 0), (I 0 0), (I 3 0), (r 68), (.bool true), (I 181 0), (r 69), .none, (r 70), (r 71), (r 72), (I 285 0), (I 39 0), (s "/claim/cut.py" 286)]⟩)
noncomputable def o74 : Obj := O (T "function") (.func (f1 19 "bits_to_words" "bits_to_words" 3 [] .none .none (s "Round up bit count to a multiple of word size." 287) (s "shamir_mnemonic.utils" 242) none (r 73) .none 0))
noncomputable def o75 : Obj := O (T "tuple") (.seq ⟨[]⟩ 0)
noncomputable def o76 : Obj := O .none (.fields ⟨[]⟩)
noncomputable def o77 : Obj := O (T "tuple") (.seq ⟨[(s "value" 292), (s "length" 293), (s "radix_bits" 294)]⟩ 0)
noncomputable def o78 : Obj := O (T "tuple") (.seq ⟨[(s "value" 295), (s "radix_bits" 296), (s "mask" 297)]⟩ 0)
noncomputable def o79 : Obj := O .none (.func (f1 20 "int_to_indices" "int_to_indices" 0 [] .none .none .none .none none .none .none 0))
noncomputable def o80 : Obj := O (T "code") (.fields ⟨[(s "int_to_indices" 289), (s "int_to_indices" 290), (s "/claim/cut.py" 291), (I 42 0), (I 3 0), (I 0 0), (I 0 0), (I 3 0), (r 75), (.bool true), (I 181 0), (r 76), .none, (r 77), (r 78), (r 79), (I 298 0), (I 42 0), (s "/claim/cut.py" 299)]⟩)
noncomputable def o81 : Obj := O (T "function") (.func (f1 20 "int_to_indices" "int_to_indices" 3 [] .none .none (s "Convert an integer value to indices in big endian order." 300) (s "shamir_mnemonic.utils" 242) none (r 80) .none 0))
noncomputable def t23 (P : Params) : BT := (N (boot_o_0 P) (N (boot_o_1 P) (N (o3 P) (N (boot_o_7 P) (N o15 (N o31 (N o63 Z Z) Z) (N o47 (N o79 Z Z) Z)) (N o23 (N o39 (N o71 Z Z) Z) (N o55 Z Z))) (N o11 (N o19 (N o35 (N o67 Z Z) Z) (N o51 Z Z)) (N o27 (N (o43 P) (N o75 Z Z) Z) (N o59 Z Z)))) (N (boot_o_5 P) (N (boot_o_9 P) (N o17 (N o33 (N o65 Z Z) Z) (N (o49 P) (N o81 Z Z) Z)) (N o25 (N o41 (N o73 Z Z) Z) (N o57 Z Z))) (N o13 (N o21 (N o37 (N o69 Z Z) Z) (N o53 Z Z)) (N o29 (N o45 (N o77 Z Z) Z) (N o61 Z Z))))) (N (o2 P) (N (boot_o_4 P) (N (boot_o_8 P) (N o16 (N o32 (N o64 Z Z) Z) (N o48 (N o80 Z Z) Z)) (N o24 (N o40 (N o72 Z Z) Z) (N o56 Z Z))) (N o12v1 (N o20 (N o36 (N o68 Z Z) Z) (N o52 Z Z)) (N o28 (N o44 (N o76 Z Z) Z) (N o60 Z Z)))) (N (boot_o_6 P) (N (boot_o_10 P) (N o18 (N o34 (N o66 Z Z) Z) (N o50 Z Z)) (N o26 (N o42 (N o74 Z Z) Z) (N o58 Z Z))) (N o14 (N o22 (N o38 (N o70 Z Z) Z) (N o54 Z Z)) (N o30 (N o46 (N o78 Z Z) Z) (N o62 Z Z))))))
noncomputable def o3v1 (P : Params) : Obj := O (T "dict") (.dict ⟨[(e P "__name__" 165 (s "shamir_mnemonic.wordlist" 302)), (e P "__doc__" 166 .none), (e P "__package__" 167 .none), (e P "__loader__" 168 (b "__main__.__loader__#opaque")), (e P "__spec__" 169 .none), (e P "__annotations__" 170 (r 6)), (e P "__builtins__" 171 (r 4)), (e P "__file__" 173 (s "/claim/cut.py" 172)), (e P "__cached__" 174 .none), (e P "_wall" 193 (r 21)), (e P "RADIX_BITS" 195 (I 10 194)), (e P "RADIX" 197 (I 1024 196)), (e P "EXTENDABLE_FLAG_LENGTH_BITS" 199 (I 1 198)), (e P "ITERATION_EXP_LENGTH_BITS" 201 (I 4 200)), (e P "ID_EXP_LENGTH_WORDS" 203 (I 2 202)), (e P "CHECKSUM_LENGTH_WORDS" 205 (I 3 204)), (e P "CUSTOMIZATION_STRING_ORIG" 207 (.bytes ⟨[115, 104, 97, 109, 105, 114]⟩ 206)), (e P "CUSTOMIZATION_STRING_EXTENDABLE" 209 (.bytes ⟨[115, 104, 97, 109, 105, 114, 95, 101, 120, 116, 101, 110, 100, 97, 98, 108, 101]⟩ 208)), (e P "METADATA_LENGTH_WORDS" 211 (I 7 210)), (e P "MIN_MNEMONIC_LENGTH_WORDS" 213 (I 20 212)), (e P "_polymod" 227 (r 28)), (e P "create_checksum" 233 (r 33)), (e P "verify_checksum" 241 (r 40)), (e P "MnemonicError" 263 (r 50)), (e P "_round_bits" 272 (r 60)), (e P "bits_to_bytes" 280 (r 67)), (e P "bits_to_words" 288 (r 74)), (e P "int_to_indices" 301 (r 81)), (e P "_OUTER" 305 (s "bdfghjklmnprstvz" 304)), (e P "_INNER" 307 (s "aiou" 306)), (e P "_OUTER_INDEX_MAP" 356 (r 82)), (e P "_INNER_INDEX_MAP" 369 (r 83))]⟩ 32)
noncomputable def o82 (P : Params) : Obj := O (T "dict") (.dict ⟨[(e P "b" 308 (I 0 309)), (e P "d" 311 (I 1 312)), (e P "f" 314 (I 2 315)), (e P "g" 317 (I 3 318)), (e P "h" 320 (I 4 321)), (e P "j" 323 (I 5 324)), (e P "k" 326 (I 6 327)), (e P "l" 329 (I 7 330)), (e P "m" 332 (I 8 333)), (e P "n" 335 (I 9 336)), (e P "p" 338 (I 10 339)), (e P "r" 341 (I 11 342)), (e P "s" 344 (I 12 345)), (e P "t" 347 (I 13 348)), (e P "v" 350 (I 14 351)), (e P "z" 353 (I 15 354))]⟩ 16)
noncomputable def o83 (P : Params) : Obj := O (T "dict") (.dict ⟨[(e P "a" 357 (I 0 358)), (e P "i" 359 (I 1 360)), (e P "o" 361 (I 2 362)), (e P "u" 363 (I 3 364))]⟩ 4)
noncomputable def t25 (P : Params) : BT := (N (boot_o_0 P) (N (boot_o_1 P) (N (o3v1 P) (N (boot_o_7 P) (N o15 (N o31 (N o63 Z Z) Z) (N o47 (N o79 Z Z) Z)) (N o23 (N o39 (N o71 Z Z) Z) (N o55 Z Z))) (N o11 (N o19 (N o35 (N o67 Z Z) Z) (N o51 (N (o83 P) Z Z) Z)) (N o27 (N (o43 P) (N o75 Z Z) Z) (N o59 Z Z)))) (N (boot_o_5 P) (N (boot_o_9 P) (N o17 (N o33 (N o65 Z Z) Z) (N (o49 P) (N o81 Z Z) Z)) (N o25 (N o41 (N o73 Z Z) Z) (N o57 Z Z))) (N o13 (N o21 (N o37 (N o69 Z Z) Z) (N o53 Z Z)) (N o29 (N o45 (N o77 Z Z) Z) (N o61 Z Z))))) (N (o2 P) (N (boot_o_4 P) (N (boot_o_8 P) (N o16 (N o32 (N o64 Z Z) Z) (N o48 (N o80 Z Z) Z)) (N o24 (N o40 (N o72 Z Z) Z) (N o56 Z Z))) (N o12v1 (N o20 (N o36 (N o68 Z Z) Z) (N o52 Z Z)) (N o28 (N o44 (N o76 Z Z) Z) (N o60 Z Z)))) (N (boot_o_6 P) (N (boot_o_10 P) (N o18 (N o34 (N o66 Z Z) Z) (N o50 (N (o82 P) Z Z) Z)) (N o26 (N o42 (N o74 Z Z) Z) (N o58 Z Z))) (N o14 (N o22 (N o38 (N o70 Z Z) Z) (N o54 Z Z)) (N o30 (N o46 (N o78 Z Z) Z) (N o62 Z Z))))))
noncomputable def o3v2 (P : Params) : Obj := O (T "dict") (.dict ⟨[(e P "__name__" 165 (s "shamir_mnemonic.share" 397)), (e P "__doc__" 166 .none), (e P "__package__" 167 .none), (e P "__loader__" 168 (b "__main__.__loader__#opaque")), (e P "__spec__" 169 .none), (e P "__annotations__" 170 (r 6)), (e P "__builtins__" 171 (r 4)), (e P "__file__" 173 (s "/claim/cut.py" 172)), (e P "__cached__" 174 .none), (e P "_wall" 193 (r 21)), (e P "RADIX_BITS" 195 (I 10 194)), (e P "RADIX" 197 (I 1024 196)), (e P "EXTENDABLE_FLAG_LENGTH_BITS" 199 (I 1 198)), (e P "ITERATION_EXP_LENGTH_BITS" 201 (I 4 200)), (e P "ID_EXP_LENGTH_WORDS" 203 (I 2 202)), (e P "CHECKSUM_LENGTH_WORDS" 205 (I 3 204)), (e P "CUSTOMIZATION_STRING_ORIG" 207 (.bytes ⟨[115, 104, 97, 109, 105, 114]⟩ 206)), (e P "CUSTOMIZATION_STRING_EXTENDABLE" 209 (.bytes ⟨[115, 104, 97, 109, 105, 114, 95, 101, 120, 116, 101, 110, 100, 97, 98, 108, 101]⟩ 208)), (e P "METADATA_LENGTH_WORDS" 211 (I 7 210)), (e P "MIN_MNEMONIC_LENGTH_WORDS" 213 (I 20 212)), (e P "_polymod" 227 (r 28)), (e P "create_checksum" 233 (r 33)), (e P "verify_checksum" 241 (r 40)), (e P "MnemonicError" 263 (r 50)), (e P "_round_bits" 272 (r 60)), (e P "bits_to_bytes" 280 (r 67)), (e P "bits_to_words" 288 (r 74)), (e P "int_to_indices" 301 (r 81)), (e P "_OUTER" 305 (s "bdfghjklmnprstvz" 304)), (e P "_INNER" 307 (s "aiou" 306)), (e P "_OUTER_INDEX_MAP" 356 (r 82)), (e P "_INNER_INDEX_MAP" 369 (r 83)), (e P "_word" 376 (r 90)), (e P "_index" 383 (r 97)), (e P "words_from_indices" 390 (r 104)), (e P "mnemonic_to_indices" 396 (r 109)), (e P "_tuplegetter" 455 (r 148)), (e P "_int_to_word_indices" 464 (r 159)), (e P "_int_from_word_indices" 474 (r 166)), (e P "_customization_string" 481 (r 173))]⟩ 40)
noncomputable def o12v2 : Obj := O .none (.fields ⟨[(I 1 0), (I 0 0), (r 20), (I 15 0), (I 0 0), (r 27), (I 24 0), (I 0 0), (r 32), (I 28 0), (I 0 0), (r 39), (I 31 0), (I 0 0), (r 46), (I 33 0), (I 0 0), (r 59), (I 36 0), (I 0 0), (r 66), (I 39 0), (I 0 0), (r 73), (I 42 0), (I 0 0), (r 80), (I 51 0), (I 0 0), (r 89), (I 53 0), (I 0 0), (r 96), (I 57 0), (I 0 0), (r 103), (I 59 0), (I 0 0), (r 108), (I 65 0), (I 0 0), (r 115), (I 83 0), (I 0 0), (r 158), (I 86 0), (I 0 0), (r 165), (I 92 0), (I 0 0), (r 172)]⟩)
noncomputable def o84 : Obj := O (T "tuple") (.seq ⟨[]⟩ 0)
noncomputable def o85 : Obj := O .none (.fields ⟨[]⟩)
noncomputable def o86 : Obj := O (T "tuple") (.seq ⟨[(s "i" 373)]⟩ 0)
noncomputable def o87 : Obj := O (T "tuple") (.seq ⟨[]⟩ 0)
noncomputable def o88 : Obj := O .none (.func (f1 26 "_word" "_word" 0 [] .none .none .none .none none .none .none 0))
noncomputable def o89 : Obj := O (T "code") (.fields ⟨[(s "_word" 370), (s "_word" 371), (s "/claim/cut.py" 372), (I 51 0), (I 1 0), (I 0 0), (I 0 0), (I 3 0), (r 84), (.bool true), (I 181 0), (r 85), .none, (r 86), (r 87), (r 88), (I 374 0), (I 51 0), (s "/claim/cut.py" 375)]⟩)
noncomputable def o90 : Obj := O (T "function") (.func (f1 26 "_word" "_word" 3 [] .none .none .none (s "shamir_mnemonic.wordlist" 302) none (r 89) .none 0))
noncomputable def o91 : Obj := O (T "tuple") (.seq ⟨[]⟩ 0)
noncomputable def o92 : Obj := O .none (.fields ⟨[]⟩)
noncomputable def o93 : Obj := O (T "tuple") (.seq ⟨[(s "word" 380)]⟩ 0)
noncomputable def o94 : Obj := O (T "tuple") (.seq ⟨[]⟩ 0)
noncomputable def o95 : Obj := O .none (.func (f1 27 "_index" "_index" 0 [] .none .none .none .none none .none .none 0))
noncomputable def o96 : Obj := O (T "code") (.fields ⟨[(s "_index" 377), (s "_index" 378), (s "/claim/cut.py" 379), (I 53 0), (I 1 0), (I 0 0), (I 0 0), (I 3 0), (r 91), (.bool true), (I 181 0), (r 92), .none, (r 93), (r 94), (r 95), (I 381 0), (I 53 0), (s "/claim/cut.py" 382)]⟩)
noncomputable def o97 : Obj := O (T "function") (.func (f1 27 "_index" "_index" 3 [] .none .none .none (s "shamir_mnemonic.wordlist" 302) none (r 96) .none 0))
noncomputable def o98 : Obj := O (T "tuple") (.seq ⟨[]⟩ 0)
noncomputable def o99 : Obj := O .none (.fields ⟨[]⟩)
noncomputable def o100 : Obj := O (T "tuple") (.seq ⟨[(s "indices" 387)]⟩ 0)
noncomputable def o101 : Obj := O (T "tuple") (.seq ⟨[]⟩ 0)
noncomputable def o102 : Obj := O .none (.func (f1 28 "words_from_indices" "words_from_indices" 0 [] .none .none .none .none none .none .none 0))
noncomputable def o103 : Obj := O (T "code") (.fields ⟨[(s "words_from_indices" 384), (s "words_from_indices" 385), (s "/claim/cut.py" 386), (I 57 0), (I 1 0), (I 0 0), (I 0 0), (I 3 0), (r 98), (.bool true), (I 181 0), (r 99), .none, (r 100), (r 101), (r 102), (I 388 0), (I 57 0), (s "/claim/cut.py" 389)]⟩)
noncomputable def o104 : Obj := O (T "function") (.func (f1 28 "words_from_indices" "words_from_indices" 3 [] .none .none .none (s "shamir_mnemonic.wordlist" 302) none (r 103) .none 0))
noncomputable def o105 : Obj := O (T "tuple") (.seq ⟨[]⟩ 0)
noncomputable def o106 : Obj := O .none (.fields ⟨[]⟩)
noncomputable def o107 : Obj := O .none (.func (f1 29 "mnemonic_to_indices" "mnemonic_to_indices" 0 [] .none .none .none .none none .none .none 0))
noncomputable def o108 : Obj := O (T "code") (.fields ⟨[(s "mnemonic_to_indices" 391), (s "mnemonic_to_indices" 392), (s "/claim/cut.py" 393), (I 59 0), (I 1 0), (I 0 0), (I 0 0), (I 3 0), (r 105), (.bool true), (I 181 0), (r 106), .none, .none, .none, (r 107), (I 394 0), (I 59 0), (s "/claim/cut.py" 395)]⟩)
noncomputable def o109 : Obj := O (T "function") (.func (f1 29 "mnemonic_to_indices" "mnemonic_to_indices" 3 [] .none .none .none (s "shamir_mnemonic.wordlist" 302) none (r 108) .none 0))
noncomputable def o110 : Obj := O (T "tuple") (.seq ⟨[]⟩ 0)
noncomputable def o111 : Obj := O (T "builtin_function_or_method") (.fields ⟨[(b "type.__prepare__"), (T "type")]⟩)
noncomputable def o112 (P : Params) : Obj := O (T "dict") (.dict ⟨[(e P "__module__" 406 (s "shamir_mnemonic.share" 397)), (e P "__qualname__" 408 (s "_tuplegetter" 407)), (e P "__firstlineno__" 410 (I 65 409)), (e P "__init__" 419 (r 123)), (e P "__get__" 428 (r 131)), (e P "__set__" 437 (r 138)), (e P "__delete__" 445 (r 145)), (e P "__static_attributes__" 448 (r 146))]⟩ 8)
noncomputable def o113 : Obj := O (T "tuple") (.seq ⟨[]⟩ 0)
noncomputable def o114 : Obj := O .none (.fields ⟨[(I 67 0), (I 4 0), (r 122), (I 71 0), (I 4 0), (r 130), (I 78 0), (I 4 0), (r 137), (I 81 0), (I 4 0), (r 144)]⟩)
noncomputable def o115 : Obj := O (T "code") (.fields ⟨[(s "_tuplegetter" 401), (s "_tuplegetter" 402), (s "/claim/cut.py" 403), (I 65 0), (I 0 0), (I 0 0), (I 0 0), (I 0 0), (r 113), (.bool false), (I 181 0), (r 114), .none, .none, .none, .none, (I 404 0), (I 65 0), (s "/claim/cut.py" 405)]⟩)
noncomputable def o116 : Obj := ⟨(T "frame"), none, .plain, ⟨[(some (r 115)), (some (r 3)), (some (r 112)), none, (some (s "shamir_mnemonic.share" 397)), none, (some (r 0))]⟩⟩
noncomputable def o117 : Obj := O (T "tuple") (.seq ⟨[]⟩ 0)
noncomputable def o118 : Obj := O .none (.fields ⟨[]⟩)
noncomputable def o119 : Obj := O (T "tuple") (.seq ⟨[(s "self" 414), (s "index" 415), (s "doc" 416)]⟩ 0)
noncomputable def o120 : Obj := O (T "tuple") (.seq ⟨[]⟩ 0)
noncomputable def o121 : Obj := O .none (.func (f2 31 0 "__init__" "_tuplegetter.__init__" 0 [] .none .none .none .none none .none .none 0))
noncomputable def o122 : Obj := O (T "code") (.fields ⟨[(s "__init__" 411), (s "_tuplegetter.__init__" 412), (s "/claim/cut.py" 413), (I 67 0), (I 3 0), (I 0 0), (I 0 0), (I 3 0), (r 117), (.bool true), (I 181 0), (r 118), .none, (r 119), (r 120), (r 121), (I 417 0), (I 67 0), (s "/claim/cut.py" 418)]⟩)
noncomputable def o123 : Obj := O (T "function") (.func (f2 31 0 "__init__" "_tuplegetter.__init__" 3 [] .none .none .none (s "shamir_mnemonic.share" 397) none (r 122) .none 0))
noncomputable def o124 : Obj := O (T "tuple") (.seq ⟨[.none]⟩ 0)
noncomputable def o125 : Obj := O (T "tuple") (.seq ⟨[]⟩ 0)
noncomputable def o126 : Obj := O .none (.fields ⟨[]⟩)
noncomputable def o127 : Obj := O (T "tuple") (.seq ⟨[(s "self" 423), (s "obj" 424), (s "objtype" 425)]⟩ 0)
noncomputable def o128 : Obj := O (T "tuple") (.seq ⟨[]⟩ 0)
noncomputable def o129 : Obj := O .none (.func (f2 31 1 "__get__" "_tuplegetter.__get__" 0 [] .none .none .none .none none .none .none 0))
noncomputable def o130 : Obj := O (T "code") (.fields ⟨[(s "__get__" 420), (s "_tuplegetter.__get__" 421), (s "/claim/cut.py" 422), (I 71 0), (I 3 0), (I 0 0), (I 0 0), (I 3 0), (r 125), (.bool true), (I 181 0), (r 126), .none, (r 127), (r 128), (r 129), (I 426 0), (I 71 0), (s "/claim/cut.py" 427)]⟩)
noncomputable def o131 : Obj := O (T "function") (.func (f2 31 1 "__get__" "_tuplegetter.__get__" 3 [] (r 124) .none .none (s "shamir_mnemonic.share" 397) none (r 130) .none 0))
noncomputable def o132 : Obj := O (T "tuple") (.seq ⟨[]⟩ 0)
noncomputable def o133 : Obj := O .none (.fields ⟨[]⟩)
noncomputable def o134 : Obj := O (T "tuple") (.seq ⟨[(s "self" 432), (s "obj" 433), (s "value" 434)]⟩ 0)
noncomputable def o135 : Obj := O (T "tuple") (.seq ⟨[]⟩ 0)
noncomputable def o136 : Obj := O .none (.func (f2 31 2 "__set__" "_tuplegetter.__set__" 0 [] .none .none .none .none none .none .none 0))
noncomputable def o137 : Obj := O (T "code") (.fields ⟨[(s "__set__" 429), (s "_tuplegetter.__set__" 430), (s "/claim/cut.py" 431), (I 78 0), (I 3 0), (I 0 0), (I 0 0), (I 3 0), (r 132), (.bool true), (I 181 0), (r 133), .none, (r 134), (r 135), (r 136), (I 435 0), (I 78 0), (s "/claim/cut.py" 436)]⟩)
noncomputable def o138 : Obj := O (T "function") (.func (f2 31 2 "__set__" "_tuplegetter.__set__" 3 [] .none .none .none (s "shamir_mnemonic.share" 397) none (r 137) .none 0))
noncomputable def o139 : Obj := O (T "tuple") (.seq ⟨[]⟩ 0)
noncomputable def o140 : Obj := O .none (.fields ⟨[]⟩)
noncomputable def o141 : Obj := O (T "tuple") (.seq ⟨[(s "self" 441), (s "obj" 442)]⟩ 0)
noncomputable def o142 : Obj := O (T "tuple") (.seq ⟨[]⟩ 0)
noncomputable def o143 : Obj := O .none (.func (f2 31 3 "__delete__" "_tuplegetter.__delete__" 0 [] .none .none .none .none none .none .none 0))
noncomputable def o144 : Obj := O (T "code") (.fields ⟨[(s "__delete__" 438), (s "_tuplegetter.__delete__" 439), (s "/claim/cut.py" 440), (I 81 0), (I 2 0), (I 0 0), (I 0 0), (I 3 0), (r 139), (.bool true), (I 181 0), (r 140), .none, (r 141), (r 142), (r 143), (I 443 0), (I 81 0), (s "/claim/cut.py" 444)]⟩)
noncomputable def o145 : Obj := O (T "function") (.func (f2 31 3 "__delete__" "_tuplegetter.__delete__" 3 [] .none .none .none (s "shamir_mnemonic.share" 397) none (r 144) .none 0))
noncomputable def o146 : Obj := O (T "tuple") (.seq ⟨[(s "__doc__" 446), (s "index" 447)]⟩ 0)
noncomputable def o147 (P : Params) : Obj := O (T "dict") (.dict ⟨[(e P "__module__" 406 (s "shamir_mnemonic.share" 397)), (e P "__firstlineno__" 410 (I 65 409)), (e P "__init__" 419 (r 123)), (e P "__get__" 428 (r 131)), (e P "__set__" 437 (r 138)), (e P "__delete__" 445 (r 145)), (e P "__static_attributes__" 448 (r 146)), (e P "__dict__" 450 (r 149)), (e P "__weakref__" 452 (r 150)), (e P "__doc__" 453 .none)]⟩ 4)
noncomputable def o148 : Obj := ⟨(T "type"), none, (.cls ⟨S "_tuplegetter", [(T "object")], [(r 148), (T "object")], 147, S "_tuplegetter", true, [], [], false, none, false⟩), ⟨[none, none, (some (s "_tuplegetter" 399)), (some (s "_tuplegetter" 407)), (some (b "object.__new__")), (some (.bool true))]⟩⟩
noncomputable def o149 : Obj := O (T "getset_descriptor") (.fields ⟨[(s "__dict__" 449), (r 148), (b "function.__dict__"), (b "function.__dict__#set")]⟩)
noncomputable def o150 : Obj := O (T "getset_descriptor") (.fields ⟨[(s "__weakref__" 451), (r 148), (b "ExceptionGroup.__weakref__"), .none]⟩)
noncomputable def o151 : Obj := O (T "super") (.fields ⟨[(r 148), (r 148), (r 148)]⟩)
noncomputable def o152 : Obj := O (T "builtin_function_or_method") (.fields ⟨[(b "object.__init_subclass__"), (r 148)]⟩)
noncomputable def o153 : Obj := O (T "tuple") (.seq ⟨[]⟩ 0)
noncomputable def o154 : Obj := O .none (.fields ⟨[]⟩)
noncomputable def o155 : Obj := O (T "tuple") (.seq ⟨[(s "value" 459), (s "length" 460)]⟩ 0)
noncomputable def o156 : Obj := O (T "tuple") (.seq ⟨[]⟩ 0)
noncomputable def o157 : Obj := O .none (.func (f1 32 "_int_to_word_indices" "_int_to_word_indices" 0 [] .none .none .none .none none .none .none 0))
noncomputable def o158 : Obj := O (T "code") (.fields ⟨[(s "_int_to_word_indices" 456), (s "_int_to_word_indices" 457), (s "/claim/cut.py" 458), (I 83 0), (I 2 0), (I 0 0), (I 0 0), (I 3 0), (r 153), (.bool true), (I 181 0), (r 154), .none, (r 155), (r 156), (r 157), (I 461 0), (I 83 0), (s "/claim/cut.py" 462)]⟩)
noncomputable def o159 : Obj := O (T "function") (.func (f1 32 "_int_to_word_indices" "_int_to_word_indices" 3 [] .none .none (s "Converts an integer value to a list of base 1024 indices in big endian order." 463) (s "shamir_mnemonic.share" 397) none (r 158) .none 0))
noncomputable def o160 : Obj := O (T "tuple") (.seq ⟨[]⟩ 0)
noncomputable def o161 : Obj := O .none (.fields ⟨[]⟩)
noncomputable def o162 : Obj := O (T "tuple") (.seq ⟨[(s "indices" 468), (s "value" 469), (s "index" 470)]⟩ 0)
noncomputable def o163 : Obj := O (T "tuple") (.seq ⟨[]⟩ 0)
noncomputable def o164 : Obj := O .none (.func (f1 33 "_int_from_word_indices" "_int_from_word_indices" 0 [] .none .none .none .none none .none .none 0))
noncomputable def o165 : Obj := O (T "code") (.fields ⟨[(s "_int_from_word_indices" 465), (s "_int_from_word_indices" 466), (s "/claim/cut.py" 467), (I 86 0), (I 1 0), (I 0 0), (I 0 0), (I 3 0), (r 160), (.bool true), (I 181 0), (r 161), .none, (r 162), (r 163), (r 164), (I 471 0), (I 86 0), (s "/claim/cut.py" 472)]⟩)
noncomputable def o166 : Obj := O (T "function") (.func (f1 33 "_int_from_word_indices" "_int_from_word_indices" 3 [] .none .none (s "Converts a list of base 1024 indices in big endian order to an integer value." 473) (s "shamir_mnemonic.share" 397) none (r 165) .none 0))
noncomputable def o167 : Obj := O (T "tuple") (.seq ⟨[]⟩ 0)
noncomputable def o168 : Obj := O .none (.fields ⟨[]⟩)
noncomputable def o169 : Obj := O (T "tuple") (.seq ⟨[(s "extendable" 478)]⟩ 0)
noncomputable def o170 : Obj := O (T "tuple") (.seq ⟨[]⟩ 0)
noncomputable def o171 : Obj := O .none (.func (f1 34 "_customization_string" "_customization_string" 0 [] .none .none .none .none none .none .none 0))
noncomputable def o172 : Obj := O (T "code") (.fields ⟨[(s "_customization_string" 475), (s "_customization_string" 476), (s "/claim/cut.py" 477), (I 92 0), (I 1 0), (I 0 0), (I 0 0), (I 3 0), (r 167), (.bool true), (I 181 0), (r 168), .none, (r 169), (r 170), (r 171), (I 479 0), (I 92 0), (s "/claim/cut.py" 480)]⟩)
noncomputable def o173 : Obj := O (T "function") (.func (f1 34 "_customization_string" "_customization_string" 3 [] .none .none .none (s "shamir_mnemonic.share" 397) none (r 172) .none 0))
noncomputable def t34 (P : Params) : BT := (N (boot_o_0 P) (N (boot_o_1 P) (N (o3v2 P) (N (boot_o_7 P) (N o15 (N o31 (N o63 (N o127 Z Z) Z) (N o95 (N o159 Z Z) Z)) (N o47 (N o79 (N o143 Z Z) Z) (N o111 Z Z))) (N o23 (N o39 (N o71 (N o135 Z Z) Z) (N o103 (N o167 Z Z) Z)) (N o55 (N o87 (N o151 Z Z) Z) (N o119 Z Z)))) (N o11 (N o19 (N o35 (N o67 (N o131 Z Z) Z) (N o99 (N o163 Z Z) Z)) (N o51 (N (o83 P) (N (o147 P) Z Z) Z) (N o115 Z Z))) (N o27 (N (o43 P) (N o75 (N o139 Z Z) Z) (N o107 (N o171 Z Z) Z)) (N o59 (N o91 (N o155 Z Z) Z) (N o123 Z Z))))) (N (boot_o_5 P) (N (boot_o_9 P) (N o17 (N o33 (N o65 (N o129 Z Z) Z) (N o97 (N o161 Z Z) Z)) (N (o49 P) (N o81 (N o145 Z Z) Z) (N o113 Z Z))) (N o25 (N o41 (N o73 (N o137 Z Z) Z) (N o105 (N o169 Z Z) Z)) (N o57 (N o89 (N o153 Z Z) Z) (N o121 Z Z)))) (N o13 (N o21 (N o37 (N o69 (N o133 Z Z) Z) (N o101 (N o165 Z Z) Z)) (N o53 (N o85 (N o149 Z Z) Z) (N o117 Z Z))) (N o29 (N o45 (N o77 (N o141 Z Z) Z) (N o109 (N o173 Z Z) Z)) (N o61 (N o93 (N o157 Z Z) Z) (N o125 Z Z)))))) (N (o2 P) (N (boot_o_4 P) (N (boot_o_8 P) (N o16 (N o32 (N o64 (N o128 Z Z) Z) (N o96 (N o160 Z Z) Z)) (N o48 (N o80 (N o144 Z Z) Z) (N (o112 P) Z Z))) (N o24 (N o40 (N o72 (N o136 Z Z) Z) (N o104 (N o168 Z Z) Z)) (N o56 (N o88 (N o152 Z Z) Z) (N o120 Z Z)))) (N o12v2 (N o20 (N o36 (N o68 (N o132 Z Z) Z) (N o100 (N o164 Z Z) Z)) (N o52 (N o84 (N o148 Z Z) Z) (N o116 Z Z))) (N o28 (N o44 (N o76 (N o140 Z Z) Z) (N o108 (N o172 Z Z) Z)) (N o60 (N o92 (N o156 Z Z) Z) (N o124 Z Z))))) (N (boot_o_6 P) (N (boot_o_10 P) (N o18 (N o34 (N o66 (N o130 Z Z) Z) (N o98 (N o162 Z Z) Z)) (N o50 (N (o82 P) (N o146 Z Z) Z) (N o114 Z Z))) (N o26 (N o42 (N o74 (N o138 Z Z) Z) (N o106 (N o170 Z Z) Z)) (N o58 (N o90 (N o154 Z Z) Z) (N o122 Z Z)))) (N o14 (N o22 (N o38 (N o70 (N o134 Z Z) Z) (N o102 (N o166 Z Z) Z)) (N o54 (N o86 (N o150 Z Z) Z) (N o118 Z Z))) (N o30 (N o46 (N o78 (N o142 Z Z) Z) (N o110 Z Z)) (N o62 (N o94 (N o158 Z Z) Z) (N o126 Z Z)))))))
noncomputable def o3v3 (P : Params) : Obj := O (T "dict") (.dict ⟨[(e P "__name__" 165 (s "shamir_mnemonic.share" 397)), (e P "__doc__" 166 .none), (e P "__package__" 167 .none), (e P "__loader__" 168 (b "__main__.__loader__#opaque")), (e P "__spec__" 169 .none), (e P "__annotations__" 170 (r 6)), (e P "__builtins__" 171 (r 4)), (e P "__file__" 173 (s "/claim/cut.py" 172)), (e P "__cached__" 174 .none), (e P "_wall" 193 (r 21)), (e P "RADIX_BITS" 195 (I 10 194)), (e P "RADIX" 197 (I 1024 196)), (e P "EXTENDABLE_FLAG_LENGTH_BITS" 199 (I 1 198)), (e P "ITERATION_EXP_LENGTH_BITS" 201 (I 4 200)), (e P "ID_EXP_LENGTH_WORDS" 203 (I 2 202)), (e P "CHECKSUM_LENGTH_WORDS" 205 (I 3 204)), (e P "CUSTOMIZATION_STRING_ORIG" 207 (.bytes ⟨[115, 104, 97, 109, 105, 114]⟩ 206)), (e P "CUSTOMIZATION_STRING_EXTENDABLE" 209 (.bytes ⟨[115, 104, 97, 109, 105, 114, 95, 101, 120, 116, 101, 110, 100, 97, 98, 108, 101]⟩ 208)), (e P "METADATA_LENGTH_WORDS" 211 (I 7 210)), (e P "MIN_MNEMONIC_LENGTH_WORDS" 213 (I 20 212)), (e P "_polymod" 227 (r 28)), (e P "create_checksum" 233 (r 33)), (e P "verify_checksum" 241 (r 40)), (e P "MnemonicError" 263 (r 50)), (e P "_round_bits" 272 (r 60)), (e P "bits_to_bytes" 280 (r 67)), (e P "bits_to_words" 288 (r 74)), (e P "int_to_indices" 301 (r 81)), (e P "_OUTER" 305 (s "bdfghjklmnprstvz" 304)), (e P "_INNER" 307 (s "aiou" 306)), (e P "_OUTER_INDEX_MAP" 356 (r 82)), (e P "_INNER_INDEX_MAP" 369 (r 83)), (e P "_word" 376 (r 90)), (e P "_index" 383 (r 97)), (e P "words_from_indices" 390 (r 104)), (e P "mnemonic_to_indices" 396 (r 109)), (e P "_tuplegetter" 455 (r 148)), (e P "_int_to_word_indices" 464 (r 159)), (e P "_int_from_word_indices" 474 (r 166)), (e P "_customization_string" 481 (r 173)), (e P "ShareCommonParameters" 635 (r 250))]⟩ 41)
noncomputable def o12v3 : Obj := O .none (.fields ⟨[(I 1 0), (I 0 0), (r 20), (I 15 0), (I 0 0), (r 27), (I 24 0), (I 0 0), (r 32), (I 28 0), (I 0 0), (r 39), (I 31 0), (I 0 0), (r 46), (I 33 0), (I 0 0), (r 59), (I 36 0), (I 0 0), (r 66), (I 39 0), (I 0 0), (r 73), (I 42 0), (I 0 0), (r 80), (I 51 0), (I 0 0), (r 89), (I 53 0), (I 0 0), (r 96), (I 57 0), (I 0 0), (r 103), (I 59 0), (I 0 0), (r 108), (I 65 0), (I 0 0), (r 115), (I 83 0), (I 0 0), (r 158), (I 86 0), (I 0 0), (r 165), (I 92 0), (I 0 0), (r 172), (I 97 0), (I 0 0), (r 180)]⟩)
noncomputable def o174 : Obj := O (T "tuple") (.seq ⟨[(T "tuple")]⟩ 0)
noncomputable def o175 : Obj := O (T "builtin_function_or_method") (.fields ⟨[(b "type.__prepare__"), (T "type")]⟩)
noncomputable def o176 (P : Params) : Obj := O (T "dict") (.dict ⟨[(e P "__module__" 489 (s "shamir_mnemonic.share" 397)), (e P "__qualname__" 491 (s "ShareCommonParameters" 490)), (e P "__firstlineno__" 493 (I 97 492)), (e P "__doc__" 495 (s "ShareCommonParameters(identifier, extendable, iteration_exponent, group_threshold, group_count)" 494)), (e P "__slots__" 497 (r 182)), (e P "_fields" 503 (r 183)), (e P "_field_defaults" 504 (r 184)), (e P "__new__" 517 (r 191)), (e P "_make" 539 (r 200)), (e P "_replace" 550 (r 209)), (e P "__replace__" 551 (r 209)), (e P "__repr__" 559 (r 216)), (e P "_asdict" 566 (r 223)), (e P "__getnewargs__" 574 (r 230)), (e P "__match_args__" 580 (r 231)), (e P "identifier" 590 (r 233)), (e P "extendable" 600 (r 236)), (e P "iteration_exponent" 610 (r 239)), (e P "group_threshold" 620 (r 242)), (e P "group_count" 630 (r 245)), (e P "__static_attributes__" 631 (r 247)), (e P "__classcell__" 632 (r 177))]⟩ 22)
noncomputable def o177 : Obj := O (T "cell") (.cell (some (r 250)))
noncomputable def o178 : Obj := O (T "tuple") (.seq ⟨[]⟩ 0)
noncomputable def o179 : Obj := O .none (.fields ⟨[(I 103 0), (I 4 0), (r 190), (I 108 0), (I 4 0), (r 197), (I 115 0), (I 4 0), (r 208), (I 126 0), (I 4 0), (r 215), (I 130 0), (I 4 0), (r 222), (I 133 0), (I 4 0), (r 229)]⟩)
noncomputable def o180 : Obj := O (T "code") (.fields ⟨[(s "ShareCommonParameters" 484), (s "ShareCommonParameters" 485), (s "/claim/cut.py" 486), (I 97 0), (I 0 0), (I 0 0), (I 0 0), (I 0 0), (r 178), (.bool false), (I 181 0), (r 179), .none, .none, .none, .none, (I 487 0), (I 97 0), (s "/claim/cut.py" 488)]⟩)
noncomputable def o181 : Obj := ⟨(T "frame"), none, .plain, ⟨[(some (r 180)), (some (r 3)), (some (r 176)), none, (some (s "shamir_mnemonic.share" 397)), none, (some (r 0))]⟩⟩
noncomputable def o182 : Obj := O (T "tuple") (.seq ⟨[]⟩ 0)
noncomputable def o183 : Obj := O (T "tuple") (.seq ⟨[(s "identifier" 498), (s "extendable" 499), (s "iteration_exponent" 500), (s "group_threshold" 501), (s "group_count" 502)]⟩ 0)
noncomputable def o184 : Obj := O (T "dict") (.dict ⟨[]⟩ 0)
noncomputable def o185 : Obj := O (T "tuple") (.seq ⟨[]⟩ 0)
noncomputable def o186 : Obj := O .none (.fields ⟨[]⟩)
noncomputable def o187 : Obj := O (T "tuple") (.seq ⟨[(s "_cls" 508), (s "identifier" 509), (s "extendable" 510), (s "iteration_exponent" 511), (s "group_threshold" 512), (s "group_count" 513)]⟩ 0)
noncomputable def o188 : Obj := O (T "tuple") (.seq ⟨[]⟩ 0)
noncomputable def o189 : Obj := O .none (.func (f2 35 4 "__new__" "ShareCommonParameters.__new__" 0 [] .none .none .none .none none .none .none 0))
noncomputable def o190 : Obj := O (T "code") (.fields ⟨[(s "__new__" 505), (s "ShareCommonParameters.__new__" 506), (s "/claim/cut.py" 507), (I 103 0), (I 6 0), (I 0 0), (I 0 0), (I 3 0), (r 185), (.bool true), (I 181 0), (r 186), .none, (r 187), (r 188), (r 189), (I 514 0), (I 103 0), (s "/claim/cut.py" 515)]⟩)
noncomputable def o191 : Obj := O (T "function") (.func (f2 35 4 "__new__" "ShareCommonParameters.__new__" 3 [] .none .none (s "Create new instance of ShareCommonParameters(identifier, extendable, iteration_exponent, group_threshold, group_count)" 516) (s "shamir_mnemonic.share" 397) none (r 190) .none 0))
noncomputable def o192 : Obj := O (T "tuple") (.seq ⟨[]⟩ 0)
noncomputable def o193 : Obj := O .none (.fields ⟨[]⟩)
noncomputable def o194 : Obj := O (T "tuple") (.seq ⟨[(s "cls" 521), (s "iterable" 522), (s "result" 523)]⟩ 0)
noncomputable def o195 : Obj := O (T "tuple") (.seq ⟨[]⟩ 0)
noncomputable def o196 : Obj := O .none (.func (f2 35 5 "_make" "ShareCommonParameters._make" 0 [] .none .none .none .none none .none .none 0))
noncomputable def o197 : Obj := O (T "code") (.fields ⟨[(s "_make" 518), (s "ShareCommonParameters._make" 519), (s "/claim/cut.py" 520), (I 107 0), (I 2 0), (I 0 0), (I 0 0), (I 3 0), (r 192), (.bool true), (I 181 0), (r 193), .none, (r 194), (r 195), (r 196), (I 524 0), (I 107 0), (s "/claim/cut.py" 525)]⟩)
noncomputable def o198 : Obj := O (T "function") (.func (f2 35 5 "_make" "ShareCommonParameters._make" 3 [] .none .none (s "Make a new ShareCommonParameters object from a sequence or iterable" 526) (s "shamir_mnemonic.share" 397) (some 201) (r 197) .none 0))
noncomputable def o199 (P : Params) : Obj := O (T "dict") (.dict ⟨[(e P "__module__" 528 (s "shamir_mnemonic.share" 397)), (e P "__name__" 531 (s "_make" 530)), (e P "__qualname__" 534 (s "ShareCommonParameters._make" 533)), (e P "__doc__" 536 (s "Make a new ShareCommonParameters object from a sequence or iterable" 526)), (e P "__annotations__" 538 (r 201))]⟩ 5)
noncomputable def o200 : Obj := ⟨(T "classmethod"), (some 199), (.fields ⟨[(r 198), (.bool false)]⟩), ⟨[]⟩⟩
noncomputable def o201 : Obj := O (T "dict") (.dict ⟨[]⟩ 0)
noncomputable def o202 : Obj := O (T "tuple") (.seq ⟨[(r 177)]⟩ 0)
noncomputable def o203 : Obj := O (T "tuple") (.seq ⟨[(s "__class__" 543)]⟩ 0)
noncomputable def o204 : Obj := O .none (.fields ⟨[]⟩)
noncomputable def o205 : Obj := O (T "tuple") (.seq ⟨[(s "self" 544), (s "kwds" 545), (s "result" 546)]⟩ 0)
noncomputable def o206 : Obj := O (T "tuple") (.seq ⟨[]⟩ 0)
noncomputable def o207 : Obj := O .none (.func (f2 35 6 "_replace" "ShareCommonParameters._replace" 0 [] .none .none .none .none none .none .none 0))
noncomputable def o208 : Obj := O (T "code") (.fields ⟨[(s "_replace" 540), (s "ShareCommonParameters._replace" 541), (s "/claim/cut.py" 542), (I 115 0), (I 1 0), (I 1 0), (I 0 0), (I 11 0), (r 203), (.bool true), (I 181 0), (r 204), .none, (r 205), (r 206), (r 207), (I 547 0), (I 115 0), (s "/claim/cut.py" 548)]⟩)
noncomputable def o209 : Obj := O (T "function") (.func (f2 35 6 "_replace" "ShareCommonParameters._replace" 3 [(S "__class__", 177)] .none .none (s "Return a new ShareCommonParameters object replacing specified fields with new values" 549) (s "shamir_mnemonic.share" 397) none (r 208) (r 202) 0))
noncomputable def o210 : Obj := O (T "tuple") (.seq ⟨[]⟩ 0)
noncomputable def o211 : Obj := O .none (.fields ⟨[]⟩)
noncomputable def o212 : Obj := O (T "tuple") (.seq ⟨[(s "self" 555)]⟩ 0)
noncomputable def o213 : Obj := O (T "tuple") (.seq ⟨[]⟩ 0)
noncomputable def o214 : Obj := O .none (.func (f2 35 8 "__repr__" "ShareCommonParameters.__repr__" 0 [] .none .none .none .none none .none .none 0))
noncomputable def o215 : Obj := O (T "code") (.fields ⟨[(s "__repr__" 552), (s "ShareCommonParameters.__repr__" 553), (s "/claim/cut.py" 554), (I 126 0), (I 1 0), (I 0 0), (I 0 0), (I 3 0), (r 210), (.bool true), (I 181 0), (r 211), .none, (r 212), (r 213), (r 214), (I 556 0), (I 126 0), (s "/claim/cut.py" 557)]⟩)
noncomputable def o216 : Obj := O (T "function") (.func (f2 35 8 "__repr__" "ShareCommonParameters.__repr__" 3 [] .none .none (s "Return a nicely formatted representation string" 558) (s "shamir_mnemonic.share" 397) none (r 215) .none 0))
noncomputable def o217 : Obj := O (T "tuple") (.seq ⟨[]⟩ 0)
noncomputable def o218 : Obj := O .none (.fields ⟨[]⟩)
noncomputable def o219 : Obj := O (T "tuple") (.seq ⟨[(s "self" 563)]⟩ 0)
noncomputable def o220 : Obj := O (T "tuple") (.seq ⟨[]⟩ 0)
noncomputable def o221 : Obj := O .none (.func (f2 35 9 "_asdict" "ShareCommonParameters._asdict" 0 [] .none .none .none .none none .none .none 0))
noncomputable def o222 : Obj := O (T "code") (.fields ⟨[(s "_asdict" 560), (s "ShareCommonParameters._asdict" 561), (s "/claim/cut.py" 562), (I 130 0), (I 1 0), (I 0 0), (I 0 0), (I 3 0), (r 217), (.bool true), (I 181 0), (r 218), .none, (r 219), (r 220), (r 221), (I 564 0), (I 130 0), (s "/claim/cut.py" 565)]⟩)
noncomputable def o223 : Obj := O (T "function") (.func (f2 35 9 "_asdict" "ShareCommonParameters._asdict" 3 [] .none .none .none (s "shamir_mnemonic.share" 397) none (r 222) .none 0))
noncomputable def o224 : Obj := O (T "tuple") (.seq ⟨[]⟩ 0)
noncomputable def o225 : Obj := O .none (.fields ⟨[]⟩)
noncomputable def o226 : Obj := O (T "tuple") (.seq ⟨[(s "self" 570)]⟩ 0)
noncomputable def o227 : Obj := O (T "tuple") (.seq ⟨[]⟩ 0)
noncomputable def o228 : Obj := O .none (.func (f2 35 10 "__getnewargs__" "ShareCommonParameters.__getnewargs__" 0 [] .none .none .none .none none .none .none 0))
noncomputable def o229 : Obj := O (T "code") (.fields ⟨[(s "__getnewargs__" 567), (s "ShareCommonParameters.__getnewargs__" 568), (s "/claim/cut.py" 569), (I 133 0), (I 1 0), (I 0 0), (I 0 0), (I 3 0), (r 224), (.bool true), (I 181 0), (r 225), .none, (r 226), (r 227), (r 228), (I 571 0), (I 133 0), (s "/claim/cut.py" 572)]⟩)
noncomputable def o230 : Obj := O (T "function") (.func (f2 35 10 "__getnewargs__" "ShareCommonParameters.__getnewargs__" 3 [] .none .none (s "Return self as a plain tuple.  Used by copy and pickle." 573) (s "shamir_mnemonic.share" 397) none (r 229) .none 0))
noncomputable def o231 : Obj := O (T "tuple") (.seq ⟨[(s "identifier" 575), (s "extendable" 576), (s "iteration_exponent" 577), (s "group_threshold" 578), (s "group_count" 579)]⟩ 0)
noncomputable def o232 (P : Params) : Obj := O (T "dict") (.dict ⟨[(e P "index" 587 (I 0 581)), (e P "__doc__" 589 (s "Alias for field number 0" 582))]⟩ 2)
noncomputable def o233 : Obj := ⟨(r 148), (some 232), .plain, ⟨[]⟩⟩
noncomputable def o234 (P : Params) : Obj := O (T "frame") (.dict ⟨[(e P "self" 583 (r 233)), (e P "index" 584 (I 0 581)), (e P "doc" 585 (s "Alias for field number 0" 582))]⟩ 3)
noncomputable def o235 (P : Params) : Obj := O (T "dict") (.dict ⟨[(e P "index" 597 (I 1 591)), (e P "__doc__" 599 (s "Alias for field number 1" 592))]⟩ 2)
noncomputable def o236 : Obj := ⟨(r 148), (some 235), .plain, ⟨[]⟩⟩
noncomputable def o237 (P : Params) : Obj := O (T "frame") (.dict ⟨[(e P "self" 593 (r 236)), (e P "index" 594 (I 1 591)), (e P "doc" 595 (s "Alias for field number 1" 592))]⟩ 3)
noncomputable def o238 (P : Params) : Obj := O (T "dict") (.dict ⟨[(e P "index" 607 (I 2 601)), (e P "__doc__" 609 (s "Alias for field number 2" 602))]⟩ 2)
noncomputable def o239 : Obj := ⟨(r 148), (some 238), .plain, ⟨[]⟩⟩
noncomputable def o240 (P : Params) : Obj := O (T "frame") (.dict ⟨[(e P "self" 603 (r 239)), (e P "index" 604 (I 2 601)), (e P "doc" 605 (s "Alias for field number 2" 602))]⟩ 3)
noncomputable def o241 (P : Params) : Obj := O (T "dict") (.dict ⟨[(e P "index" 617 (I 3 611)), (e P "__doc__" 619 (s "Alias for field number 3" 612))]⟩ 2)
noncomputable def o242 : Obj := ⟨(r 148), (some 241), .plain, ⟨[]⟩⟩
noncomputable def o243 (P : Params) : Obj := O (T "frame") (.dict ⟨[(e P "self" 613 (r 242)), (e P "index" 614 (I 3 611)), (e P "doc" 615 (s "Alias for field number 3" 612))]⟩ 3)
noncomputable def o244 (P : Params) : Obj := O (T "dict") (.dict ⟨[(e P "index" 627 (I 4 621)), (e P "__doc__" 629 (s "Alias for field number 4" 622))]⟩ 2)
noncomputable def o245 : Obj := ⟨(r 148), (some 244), .plain, ⟨[]⟩⟩
noncomputable def o246 (P : Params) : Obj := O (T "frame") (.dict ⟨[(e P "self" 623 (r 245)), (e P "index" 624 (I 4 621)), (e P "doc" 625 (s "Alias for field number 4" 622))]⟩ 3)
noncomputable def o247 : Obj := O (T "tuple") (.seq ⟨[]⟩ 0)
noncomputable def o248 : Obj := O (T "list") (.seq ⟨[]⟩ 0)
noncomputable def o249 (P : Params) : Obj := O (T "dict") (.dict ⟨[(e P "__module__" 489 (s "shamir_mnemonic.share" 397)), (e P "__firstlineno__" 493 (I 97 492)), (e P "__doc__" 495 (s "ShareCommonParameters(identifier, extendable, iteration_exponent, group_threshold, group_count)" 494)), (e P "__slots__" 497 (r 182)), (e P "_fields" 503 (r 183)), (e P "_field_defaults" 504 (r 184)), (e P "__new__" 517 (r 251)), (e P "_make" 539 (r 200)), (e P "_replace" 550 (r 209)), (e P "__replace__" 551 (r 209)), (e P "__repr__" 559 (r 216)), (e P "_asdict" 566 (r 223)), (e P "__getnewargs__" 574 (r 230)), (e P "__match_args__" 580 (r 231)), (e P "identifier" 590 (r 233)), (e P "extendable" 600 (r 236)), (e P "iteration_exponent" 610 (r 239)), (e P "group_threshold" 620 (r 242)), (e P "group_count" 630 (r 245)), (e P "__static_attributes__" 631 (r 247))]⟩ 2)
noncomputable def o250 : Obj := ⟨(T "type"), none, (.cls ⟨S "ShareCommonParameters", [(T "tuple")], [(r 250), (T "tuple"), (T "object")], 249, S "ShareCommonParameters", false, [], [], false, none, false⟩), ⟨[(some (r 174)), none, (some (s "ShareCommonParameters" 482)), (some (s "ShareCommonParameters" 490)), (some .none), (some (.bool false))]⟩⟩
noncomputable def o251 : Obj := O (T "staticmethod") (.fields ⟨[(r 191)]⟩)
noncomputable def o252 : Obj := O (T "super") (.fields ⟨[(r 250), (r 250), (r 250)]⟩)
noncomputable def o253 : Obj := O (T "builtin_function_or_method") (.fields ⟨[(b "object.__init_subclass__"), (r 250)]⟩)
noncomputable def t35 (P : Params) : BT := (N (boot_o_0 P) (N (boot_o_1 P) (N (o3v3 P) (N (boot_o_7 P) (N o15 (N o31 (N o63 (N o127 Z Z) (N o191 Z Z)) (N o95 (N o159 Z Z) (N o223 Z Z))) (N o47 (N o79 (N o143 Z Z) (N o207 Z Z)) (N o111 (N o175 Z Z) (N o239 Z Z)))) (N o23 (N o39 (N o71 (N o135 Z Z) (N (o199 P) Z Z)) (N o103 (N o167 Z Z) (N o231 Z Z))) (N o55 (N o87 (N o151 Z Z) (N o215 Z Z)) (N o119 (N o183 Z Z) (N o247 Z Z))))) (N o11 (N o19 (N o35 (N o67 (N o131 Z Z) (N o195 Z Z)) (N o99 (N o163 Z Z) (N o227 Z Z))) (N o51 (N (o83 P) (N (o147 P) Z Z) (N o211 Z Z)) (N o115 (N o179 Z Z) (N (o243 P) Z Z)))) (N o27 (N (o43 P) (N o75 (N o139 Z Z) (N o203 Z Z)) (N o107 (N o171 Z Z) (N (o235 P) Z Z))) (N o59 (N o91 (N o155 Z Z) (N o219 Z Z)) (N o123 (N o187 Z Z) (N o251 Z Z)))))) (N (boot_o_5 P) (N (boot_o_9 P) (N o17 (N o33 (N o65 (N o129 Z Z) (N o193 Z Z)) (N o97 (N o161 Z Z) (N o225 Z Z))) (N (o49 P) (N o81 (N o145 Z Z) (N o209 Z Z)) (N o113 (N o177 Z Z) (N (o241 P) Z Z)))) (N o25 (N o41 (N o73 (N o137 Z Z) (N o201 Z Z)) (N o105 (N o169 Z Z) (N o233 Z Z))) (N o57 (N o89 (N o153 Z Z) (N o217 Z Z)) (N o121 (N o185 Z Z) (N (o249 P) Z Z))))) (N o13 (N o21 (N o37 (N o69 (N o133 Z Z) (N o197 Z Z)) (N o101 (N o165 Z Z) (N o229 Z Z))) (N o53 (N o85 (N o149 Z Z) (N o213 Z Z)) (N o117 (N o181 Z Z) (N o245 Z Z)))) (N o29 (N o45 (N o77 (N o141 Z Z) (N o205 Z Z)) (N o109 (N o173 Z Z) (N (o237 P) Z Z))) (N o61 (N o93 (N o157 Z Z) (N o221 Z Z)) (N o125 (N o189 Z Z) (N o253 Z Z))))))) (N (o2 P) (N (boot_o_4 P) (N (boot_o_8 P) (N o16 (N o32 (N o64 (N o128 Z Z) (N o192 Z Z)) (N o96 (N o160 Z Z) (N o224 Z Z))) (N o48 (N o80 (N o144 Z Z) (N o208 Z Z)) (N (o112 P) (N (o176 P) Z Z) (N (o240 P) Z Z)))) (N o24 (N o40 (N o72 (N o136 Z Z) (N o200 Z Z)) (N o104 (N o168 Z Z) (N (o232 P) Z Z))) (N o56 (N o88 (N o152 Z Z) (N o216 Z Z)) (N o120 (N o184 Z Z) (N o248 Z Z))))) (N o12v3 (N o20 (N o36 (N o68 (N o132 Z Z) (N o196 Z Z)) (N o100 (N o164 Z Z) (N o228 Z Z))) (N o52 (N o84 (N o148 Z Z) (N o212 Z Z)) (N o116 (N o180 Z Z) (N (o244 P) Z Z)))) (N o28 (N o44 (N o76 (N o140 Z Z) (N o204 Z Z)) (N o108 (N o172 Z Z) (N o236 Z Z))) (N o60 (N o92 (N o156 Z Z) (N o220 Z Z)) (N o124 (N o188 Z Z) (N o252 Z Z)))))) (N (boot_o_6 P) (N (boot_o_10 P) (N o18 (N o34 (N o66 (N o130 Z Z) (N o194 Z Z)) (N o98 (N o162 Z Z) (N o226 Z Z))) (N o50 (N (o82 P) (N o146 Z Z) (N o210 Z Z)) (N o114 (N o178 Z Z) (N o242 Z Z)))) (N o26 (N o42 (N o74 (N o138 Z Z) (N o202 Z Z)) (N o106 (N o170 Z Z) (N (o234 P) Z Z))) (N o58 (N o90 (N o154 Z Z) (N o218 Z Z)) (N o122 (N o186 Z Z) (N o250 Z Z))))) (N o14 (N o22 (N o38 (N o70 (N o134 Z Z) (N o198 Z Z)) (N o102 (N o166 Z Z) (N o230 Z Z))) (N o54 (N o86 (N o150 Z Z) (N o214 Z Z)) (N o118 (N o182 Z Z) (N (o246 P) Z Z)))) (N o30 (N o46 (N o78 (N o142 Z Z) (N o206 Z Z)) (N o110 (N o174 Z Z) (N (o238 P) Z Z))) (N o62 (N o94 (N o158 Z Z) (N o222 Z Z)) (N o126 (N o190 Z Z) Z)))))))
noncomputable def o3v4 (P : Params) : Obj := O (T "dict") (.dict ⟨[(e P "__name__" 165 (s "shamir_mnemonic.share" 397)), (e P "__doc__" 166 .none), (e P "__package__" 167 .none), (e P "__loader__" 168 (b "__main__.__loader__#opaque")), (e P "__spec__" 169 .none), (e P "__annotations__" 170 (r 6)), (e P "__builtins__" 171 (r 4)), (e P "__file__" 173 (s "/claim/cut.py" 172)), (e P "__cached__" 174 .none), (e P "_wall" 193 (r 21)), (e P "RADIX_BITS" 195 (I 10 194)), (e P "RADIX" 197 (I 1024 196)), (e P "EXTENDABLE_FLAG_LENGTH_BITS" 199 (I 1 198)), (e P "ITERATION_EXP_LENGTH_BITS" 201 (I 4 200)), (e P "ID_EXP_LENGTH_WORDS" 203 (I 2 202)), (e P "CHECKSUM_LENGTH_WORDS" 205 (I 3 204)), (e P "CUSTOMIZATION_STRING_ORIG" 207 (.bytes ⟨[115, 104, 97, 109, 105, 114]⟩ 206)), (e P "CUSTOMIZATION_STRING_EXTENDABLE" 209 (.bytes ⟨[115, 104, 97, 109, 105, 114, 95, 101, 120, 116, 101, 110, 100, 97, 98, 108, 101]⟩ 208)), (e P "METADATA_LENGTH_WORDS" 211 (I 7 210)), (e P "MIN_MNEMONIC_LENGTH_WORDS" 213 (I 20 212)), (e P "_polymod" 227 (r 28)), (e P "create_checksum" 233 (r 33)), (e P "verify_checksum" 241 (r 40)), (e P "MnemonicError" 263 (r 50)), (e P "_round_bits" 272 (r 60)), (e P "bits_to_bytes" 280 (r 67)), (e P "bits_to_words" 288 (r 74)), (e P "int_to_indices" 301 (r 81)), (e P "_OUTER" 305 (s "bdfghjklmnprstvz" 304)), (e P "_INNER" 307 (s "aiou" 306)), (e P "_OUTER_INDEX_MAP" 356 (r 82)), (e P "_INNER_INDEX_MAP" 369 (r 83)), (e P "_word" 376 (r 90)), (e P "_index" 383 (r 97)), (e P "words_from_indices" 390 (r 104)), (e P "mnemonic_to_indices" 396 (r 109)), (e P "_tuplegetter" 455 (r 148)), (e P "_int_to_word_indices" 464 (r 159)), (e P "_int_from_word_indices" 474 (r 166)), (e P "_customization_string" 481 (r 173)), (e P "ShareCommonParameters" 635 (r 250)), (e P "ShareGroupParameters" 815 (r 336))]⟩ 42)
noncomputable def o12v4 : Obj := O .none (.fields ⟨[(I 1 0), (I 0 0), (r 20), (I 15 0), (I 0 0), (r 27), (I 24 0), (I 0 0), (r 32), (I 28 0), (I 0 0), (r 39), (I 31 0), (I 0 0), (r 46), (I 33 0), (I 0 0), (r 59), (I 36 0), (I 0 0), (r 66), (I 39 0), (I 0 0), (r 73), (I 42 0), (I 0 0), (r 80), (I 51 0), (I 0 0), (r 89), (I 53 0), (I 0 0), (r 96), (I 57 0), (I 0 0), (r 103), (I 59 0), (I 0 0), (r 108), (I 65 0), (I 0 0), (r 115), (I 83 0), (I 0 0), (r 158), (I 86 0), (I 0 0), (r 165), (I 92 0), (I 0 0), (r 172), (I 97 0), (I 0 0), (r 180), (I 142 0), (I 0 0), (r 260)]⟩)
noncomputable def o254 : Obj := O (T "tuple") (.seq ⟨[(T "tuple")]⟩ 0)
noncomputable def o255 : Obj := O (T "builtin_function_or_method") (.fields ⟨[(b "type.__prepare__"), (T "type")]⟩)
noncomputable def o256 (P : Params) : Obj := O (T "dict") (.dict ⟨[(e P "__module__" 643 (s "shamir_mnemonic.share" 397)), (e P "__qualname__" 645 (s "ShareGroupParameters" 644)), (e P "__firstlineno__" 647 (I 142 646)), (e P "__doc__" 649 (s "ShareGroupParameters(identifier, extendable, iteration_exponent, group_index, group_threshold, group_count, member_threshold)" 648)), (e P "__slots__" 651 (r 262)), (e P "_fields" 659 (r 263)), (e P "_field_defaults" 660 (r 264)), (e P "__new__" 675 (r 271)), (e P "_make" 697 (r 280)), (e P "_replace" 708 (r 289)), (e P "__replace__" 709 (r 289)), (e P "__repr__" 717 (r 296)), (e P "_asdict" 724 (r 303)), (e P "__getnewargs__" 732 (r 310)), (e P "__match_args__" 740 (r 311)), (e P "identifier" 750 (r 313)), (e P "extendable" 760 (r 316)), (e P "iteration_exponent" 770 (r 319)), (e P "group_index" 780 (r 322)), (e P "group_threshold" 790 (r 325)), (e P "group_count" 800 (r 328)), (e P "member_threshold" 810 (r 331)), (e P "__static_attributes__" 811 (r 333)), (e P "__classcell__" 812 (r 257))]⟩ 24)
noncomputable def o257 : Obj := O (T "cell") (.cell (some (r 336)))
noncomputable def o258 : Obj := O (T "tuple") (.seq ⟨[]⟩ 0)
noncomputable def o259 : Obj := O .none (.fields ⟨[(I 148 0), (I 4 0), (r 270), (I 153 0), (I 4 0), (r 277), (I 160 0), (I 4 0), (r 288), (I 171 0), (I 4 0), (r 295), (I 175 0), (I 4 0), (r 302), (I 178 0), (I 4 0), (r 309)]⟩)
noncomputable def o260 : Obj := O (T "code") (.fields ⟨[(s "ShareGroupParameters" 638), (s "ShareGroupParameters" 639), (s "/claim/cut.py" 640), (I 142 0), (I 0 0), (I 0 0), (I 0 0), (I 0 0), (r 258), (.bool false), (I 181 0), (r 259), .none, .none, .none, .none, (I 641 0), (I 142 0), (s "/claim/cut.py" 642)]⟩)
noncomputable def o261 : Obj := ⟨(T "frame"), none, .plain, ⟨[(some (r 260)), (some (r 3)), (some (r 256)), none, (some (s "shamir_mnemonic.share" 397)), none, (some (r 0))]⟩⟩
noncomputable def o262 : Obj := O (T "tuple") (.seq ⟨[]⟩ 0)
noncomputable def o263 : Obj := O (T "tuple") (.seq ⟨[(s "identifier" 652), (s "extendable" 653), (s "iteration_exponent" 654), (s "group_index" 655), (s "group_threshold" 656), (s "group_count" 657), (s "member_threshold" 658)]⟩ 0)
noncomputable def o264 : Obj := O (T "dict") (.dict ⟨[]⟩ 0)
noncomputable def o265 : Obj := O (T "tuple") (.seq ⟨[]⟩ 0)
noncomputable def o266 : Obj := O .none (.fields ⟨[]⟩)
noncomputable def o267 : Obj := O (T "tuple") (.seq ⟨[(s "_cls" 664), (s "identifier" 665), (s "extendable" 666), (s "iteration_exponent" 667), (s "group_index" 668), (s "group_threshold" 669), (s "group_count" 670), (s "member_threshold" 671)]⟩ 0)
noncomputable def o268 : Obj := O (T "tuple") (.seq ⟨[]⟩ 0)
noncomputable def o269 : Obj := O .none (.func (f2 36 4 "__new__" "ShareGroupParameters.__new__" 0 [] .none .none .none .none none .none .none 0))
noncomputable def o270 : Obj := O (T "code") (.fields ⟨[(s "__new__" 661), (s "ShareGroupParameters.__new__" 662), (s "/claim/cut.py" 663), (I 148 0), (I 8 0), (I 0 0), (I 0 0), (I 3 0), (r 265), (.bool true), (I 181 0), (r 266), .none, (r 267), (r 268), (r 269), (I 672 0), (I 148 0), (s "/claim/cut.py" 673)]⟩)
noncomputable def o271 : Obj := O (T "function") (.func (f2 36 4 "__new__" "ShareGroupParameters.__new__" 3 [] .none .none (s "Create new instance of ShareGroupParameters(identifier, extendable, iteration_exponent, group_index, group_threshold, group_count, member_threshold)" 674) (s "shamir_mnemonic.share" 397) none (r 270) .none 0))
noncomputable def o272 : Obj := O (T "tuple") (.seq ⟨[]⟩ 0)
noncomputable def o273 : Obj := O .none (.fields ⟨[]⟩)
noncomputable def o274 : Obj := O (T "tuple") (.seq ⟨[(s "cls" 679), (s "iterable" 680), (s "result" 681)]⟩ 0)
noncomputable def o275 : Obj := O (T "tuple") (.seq ⟨[]⟩ 0)
noncomputable def o276 : Obj := O .none (.func (f2 36 5 "_make" "ShareGroupParameters._make" 0 [] .none .none .none .none none .none .none 0))
noncomputable def o277 : Obj := O (T "code") (.fields ⟨[(s "_make" 676), (s "ShareGroupParameters._make" 677), (s "/claim/cut.py" 678), (I 152 0), (I 2 0), (I 0 0), (I 0 0), (I 3 0), (r 272), (.bool true), (I 181 0), (r 273), .none, (r 274), (r 275), (r 276), (I 682 0), (I 152 0), (s "/claim/cut.py" 683)]⟩)
noncomputable def o278 : Obj := O (T "function") (.func (f2 36 5 "_make" "ShareGroupParameters._make" 3 [] .none .none (s "Make a new ShareGroupParameters object from a sequence or iterable" 684) (s "shamir_mnemonic.share" 397) (some 281) (r 277) .none 0))
noncomputable def o279 (P : Params) : Obj := O (T "dict") (.dict ⟨[(e P "__module__" 686 (s "shamir_mnemonic.share" 397)), (e P "__name__" 689 (s "_make" 688)), (e P "__qualname__" 692 (s "ShareGroupParameters._make" 691)), (e P "__doc__" 694 (s "Make a new ShareGroupParameters object from a sequence or iterable" 684)), (e P "__annotations__" 696 (r 281))]⟩ 5)
noncomputable def o280 : Obj := ⟨(T "classmethod"), (some 279), (.fields ⟨[(r 278), (.bool false)]⟩), ⟨[]⟩⟩
noncomputable def o281 : Obj := O (T "dict") (.dict ⟨[]⟩ 0)
noncomputable def o282 : Obj := O (T "tuple") (.seq ⟨[(r 257)]⟩ 0)
noncomputable def o283 : Obj := O (T "tuple") (.seq ⟨[(s "__class__" 701)]⟩ 0)
noncomputable def o284 : Obj := O .none (.fields ⟨[]⟩)
noncomputable def o285 : Obj := O (T "tuple") (.seq ⟨[(s "self" 702), (s "kwds" 703), (s "result" 704)]⟩ 0)
noncomputable def o286 : Obj := O (T "tuple") (.seq ⟨[]⟩ 0)
noncomputable def o287 : Obj := O .none (.func (f2 36 6 "_replace" "ShareGroupParameters._replace" 0 [] .none .none .none .none none .none .none 0))
noncomputable def o288 : Obj := O (T "code") (.fields ⟨[(s "_replace" 698), (s "ShareGroupParameters._replace" 699), (s "/claim/cut.py" 700), (I 160 0), (I 1 0), (I 1 0), (I 0 0), (I 11 0), (r 283), (.bool true), (I 181 0), (r 284), .none, (r 285), (r 286), (r 287), (I 705 0), (I 160 0), (s "/claim/cut.py" 706)]⟩)
noncomputable def o289 : Obj := O (T "function") (.func (f2 36 6 "_replace" "ShareGroupParameters._replace" 3 [(S "__class__", 257)] .none .none (s "Return a new ShareGroupParameters object replacing specified fields with new values" 707) (s "shamir_mnemonic.share" 397) none (r 288) (r 282) 0))
noncomputable def o290 : Obj := O (T "tuple") (.seq ⟨[]⟩ 0)
noncomputable def o291 : Obj := O .none (.fields ⟨[]⟩)
noncomputable def o292 : Obj := O (T "tuple") (.seq ⟨[(s "self" 713)]⟩ 0)
noncomputable def o293 : Obj := O (T "tuple") (.seq ⟨[]⟩ 0)
noncomputable def o294 : Obj := O .none (.func (f2 36 8 "__repr__" "ShareGroupParameters.__repr__" 0 [] .none .none .none .none none .none .none 0))
noncomputable def o295 : Obj := O (T "code") (.fields ⟨[(s "__repr__" 710), (s "ShareGroupParameters.__repr__" 711), (s "/claim/cut.py" 712), (I 171 0), (I 1 0), (I 0 0), (I 0 0), (I 3 0), (r 290), (.bool true), (I 181 0), (r 291), .none, (r 292), (r 293), (r 294), (I 714 0), (I 171 0), (s "/claim/cut.py" 715)]⟩)
noncomputable def o296 : Obj := O (T "function") (.func (f2 36 8 "__repr__" "ShareGroupParameters.__repr__" 3 [] .none .none (s "Return a nicely formatted representation string" 716) (s "shamir_mnemonic.share" 397) none (r 295) .none 0))
noncomputable def o297 : Obj := O (T "tuple") (.seq ⟨[]⟩ 0)
noncomputable def o298 : Obj := O .none (.fields ⟨[]⟩)
noncomputable def o299 : Obj := O (T "tuple") (.seq ⟨[(s "self" 721)]⟩ 0)
noncomputable def o300 : Obj := O (T "tuple") (.seq ⟨[]⟩ 0)
noncomputable def o301 : Obj := O .none (.func (f2 36 9 "_asdict" "ShareGroupParameters._asdict" 0 [] .none .none .none .none none .none .none 0))
noncomputable def o302 : Obj := O (T "code") (.fields ⟨[(s "_asdict" 718), (s "ShareGroupParameters._asdict" 719), (s "/claim/cut.py" 720), (I 175 0), (I 1 0), (I 0 0), (I 0 0), (I 3 0), (r 297), (.bool true), (I 181 0), (r 298), .none, (r 299), (r 300), (r 301), (I 722 0), (I 175 0), (s "/claim/cut.py" 723)]⟩)
noncomputable def o303 : Obj := O (T "function") (.func (f2 36 9 "_asdict" "ShareGroupParameters._asdict" 3 [] .none .none .none (s "shamir_mnemonic.share" 397) none (r 302) .none 0))
noncomputable def o304 : Obj := O (T "tuple") (.seq ⟨[]⟩ 0)
noncomputable def o305 : Obj := O .none (.fields ⟨[]⟩)
noncomputable def o306 : Obj := O (T "tuple") (.seq ⟨[(s "self" 728)]⟩ 0)
noncomputable def o307 : Obj := O (T "tuple") (.seq ⟨[]⟩ 0)
noncomputable def o308 : Obj := O .none (.func (f2 36 10 "__getnewargs__" "ShareGroupParameters.__getnewargs__" 0 [] .none .none .none .none none .none .none 0))
noncomputable def o309 : Obj := O (T "code") (.fields ⟨[(s "__getnewargs__" 725), (s "ShareGroupParameters.__getnewargs__" 726), (s "/claim/cut.py" 727), (I 178 0), (I 1 0), (I 0 0), (I 0 0), (I 3 0), (r 304), (.bool true), (I 181 0), (r 305), .none, (r 306), (r 307), (r 308), (I 729 0), (I 178 0), (s "/claim/cut.py" 730)]⟩)
noncomputable def o310 : Obj := O (T "function") (.func (f2 36 10 "__getnewargs__" "ShareGroupParameters.__getnewargs__" 3 [] .none .none (s "Return self as a plain tuple.  Used by copy and pickle." 731) (s "shamir_mnemonic.share" 397) none (r 309) .none 0))
noncomputable def o311 : Obj := O (T "tuple") (.seq ⟨[(s "identifier" 733), (s "extendable" 734), (s "iteration_exponent" 735), (s "group_index" 736), (s "group_threshold" 737), (s "group_count" 738), (s "member_threshold" 739)]⟩ 0)
noncomputable def o312 (P : Params) : Obj := O (T "dict") (.dict ⟨[(e P "index" 747 (I 0 741)), (e P "__doc__" 749 (s "Alias for field number 0" 742))]⟩ 2)
noncomputable def o313 : Obj := ⟨(r 148), (some 312), .plain, ⟨[]⟩⟩
noncomputable def o314 (P : Params) : Obj := O (T "frame") (.dict ⟨[(e P "self" 743 (r 313)), (e P "index" 744 (I 0 741)), (e P "doc" 745 (s "Alias for field number 0" 742))]⟩ 3)
noncomputable def o315 (P : Params) : Obj := O (T "dict") (.dict ⟨[(e P "index" 757 (I 1 751)), (e P "__doc__" 759 (s "Alias for field number 1" 752))]⟩ 2)
noncomputable def o316 : Obj := ⟨(r 148), (some 315), .plain, ⟨[]⟩⟩
noncomputable def o317 (P : Params) : Obj := O (T "frame") (.dict ⟨[(e P "self" 753 (r 316)), (e P "index" 754 (I 1 751)), (e P "doc" 755 (s "Alias for field number 1" 752))]⟩ 3)
noncomputable def o318 (P : Params) : Obj := O (T "dict") (.dict ⟨[(e P "index" 767 (I 2 761)), (e P "__doc__" 769 (s "Alias for field number 2" 762))]⟩ 2)
noncomputable def o319 : Obj := ⟨(r 148), (some 318), .plain, ⟨[]⟩⟩
noncomputable def o320 (P : Params) : Obj := O (T "frame") (.dict ⟨[(e P "self" 763 (r 319)), (e P "index" 764 (I 2 761)), (e P "doc" 765 (s "Alias for field number 2" 762))]⟩ 3)
noncomputable def o321 (P : Params) : Obj := O (T "dict") (.dict ⟨[(e P "index" 777 (I 3 771)), (e P "__doc__" 779 (s "Alias for field number 3" 772))]⟩ 2)
noncomputable def o322 : Obj := ⟨(r 148), (some 321), .plain, ⟨[]⟩⟩
noncomputable def o323 (P : Params) : Obj := O (T "frame") (.dict ⟨[(e P "self" 773 (r 322)), (e P "index" 774 (I 3 771)), (e P "doc" 775 (s "Alias for field number 3" 772))]⟩ 3)
noncomputable def o324 (P : Params) : Obj := O (T "dict") (.dict ⟨[(e P "index" 787 (I 4 781)), (e P "__doc__" 789 (s "Alias for field number 4" 782))]⟩ 2)
noncomputable def o325 : Obj := ⟨(r 148), (some 324), .plain, ⟨[]⟩⟩
noncomputable def o326 (P : Params) : Obj := O (T "frame") (.dict ⟨[(e P "self" 783 (r 325)), (e P "index" 784 (I 4 781)), (e P "doc" 785 (s "Alias for field number 4" 782))]⟩ 3)
noncomputable def o327 (P : Params) : Obj := O (T "dict") (.dict ⟨[(e P "index" 797 (I 5 791)), (e P "__doc__" 799 (s "Alias for field number 5" 792))]⟩ 2)
noncomputable def o328 : Obj := ⟨(r 148), (some 327), .plain, ⟨[]⟩⟩
noncomputable def o329 (P : Params) : Obj := O (T "frame") (.dict ⟨[(e P "self" 793 (r 328)), (e P "index" 794 (I 5 791)), (e P "doc" 795 (s "Alias for field number 5" 792))]⟩ 3)
noncomputable def o330 (P : Params) : Obj := O (T "dict") (.dict ⟨[(e P "index" 807 (I 6 801)), (e P "__doc__" 809 (s "Alias for field number 6" 802))]⟩ 2)
noncomputable def o331 : Obj := ⟨(r 148), (some 330), .plain, ⟨[]⟩⟩
noncomputable def o332 (P : Params) : Obj := O (T "frame") (.dict ⟨[(e P "self" 803 (r 331)), (e P "index" 804 (I 6 801)), (e P "doc" 805 (s "Alias for field number 6" 802))]⟩ 3)
noncomputable def o333 : Obj := O (T "tuple") (.seq ⟨[]⟩ 0)
noncomputable def o334 : Obj := O (T "list") (.seq ⟨[]⟩ 0)
noncomputable def o335 (P : Params) : Obj := O (T "dict") (.dict ⟨[(e P "__module__" 643 (s "shamir_mnemonic.share" 397)), (e P "__firstlineno__" 647 (I 142 646)), (e P "__doc__" 649 (s "ShareGroupParameters(identifier, extendable, iteration_exponent, group_index, group_threshold, group_count, member_threshold)" 648)), (e P "__slots__" 651 (r 262)), (e P "_fields" 659 (r 263)), (e P "_field_defaults" 660 (r 264)), (e P "__new__" 675 (r 337)), (e P "_make" 697 (r 280)), (e P "_replace" 708 (r 289)), (e P "__replace__" 709 (r 289)), (e P "__repr__" 717 (r 296)), (e P "_asdict" 724 (r 303)), (e P "__getnewargs__" 732 (r 310)), (e P "__match_args__" 740 (r 311)), (e P "identifier" 750 (r 313)), (e P "extendable" 760 (r 316)), (e P "iteration_exponent" 770 (r 319)), (e P "group_index" 780 (r 322)), (e P "group_threshold" 790 (r 325)), (e P "group_count" 800 (r 328)), (e P "member_threshold" 810 (r 331)), (e P "__static_attributes__" 811 (r 333))]⟩ 2)
noncomputable def o336 : Obj := ⟨(T "type"), none, (.cls ⟨S "ShareGroupParameters", [(T "tuple")], [(r 336), (T "tuple"), (T "object")], 335, S "ShareGroupParameters", false, [], [], false, none, false⟩), ⟨[(some (r 254)), none, (some (s "ShareGroupParameters" 636)), (some (s "ShareGroupParameters" 644)), (some .none), (some (.bool false))]⟩⟩
noncomputable def o337 : Obj := O (T "staticmethod") (.fields ⟨[(r 271)]⟩)
noncomputable def o338 : Obj := O (T "super") (.fields ⟨[(r 336), (r 336), (r 336)]⟩)
noncomputable def o339 : Obj := O (T "builtin_function_or_method") (.fields ⟨[(b "object.__init_subclass__"), (r 336)]⟩)
noncomputable def t36 (P : Params) : BT := (N (boot_o_0 P) (N (boot_o_1 P) (N (o3v4 P) (N (boot_o_7 P) (N o15 (N o31 (N o63 (N o127 (N o255 Z Z) Z) (N o191 (N o319 Z Z) Z)) (N o95 (N o159 (N o287 Z Z) Z) (N o223 Z Z))) (N o47 (N o79 (N o143 (N o271 Z Z) Z) (N o207 (N (o335 P) Z Z) Z)) (N o111 (N o175 (N o303 Z Z) Z) (N o239 Z Z)))) (N o23 (N o39 (N o71 (N o135 (N o263 Z Z) Z) (N (o199 P) (N (o327 P) Z Z) Z)) (N o103 (N o167 (N o295 Z Z) Z) (N o231 Z Z))) (N o55 (N o87 (N o151 (N (o279 P) Z Z) Z) (N o215 Z Z)) (N o119 (N o183 (N o311 Z Z) Z) (N o247 Z Z))))) (N o11 (N o19 (N o35 (N o67 (N o131 (N o259 Z Z) Z) (N o195 (N (o323 P) Z Z) Z)) (N o99 (N o163 (N o291 Z Z) Z) (N o227 Z Z))) (N o51 (N (o83 P) (N (o147 P) (N o275 Z Z) Z) (N o211 (N o339 Z Z) Z)) (N o115 (N o179 (N o307 Z Z) Z) (N (o243 P) Z Z)))) (N o27 (N (o43 P) (N o75 (N o139 (N o267 Z Z) Z) (N o203 (N o331 Z Z) Z)) (N o107 (N o171 (N o299 Z Z) Z) (N (o235 P) Z Z))) (N o59 (N o91 (N o155 (N o283 Z Z) Z) (N o219 Z Z)) (N o123 (N o187 (N (o315 P) Z Z) Z) (N o251 Z Z)))))) (N (boot_o_5 P) (N (boot_o_9 P) (N o17 (N o33 (N o65 (N o129 (N o257 Z Z) Z) (N o193 (N (o321 P) Z Z) Z)) (N o97 (N o161 (N o289 Z Z) Z) (N o225 Z Z))) (N (o49 P) (N o81 (N o145 (N o273 Z Z) Z) (N o209 (N o337 Z Z) Z)) (N o113 (N o177 (N o305 Z Z) Z) (N (o241 P) Z Z)))) (N o25 (N o41 (N o73 (N o137 (N o265 Z Z) Z) (N o201 (N (o329 P) Z Z) Z)) (N o105 (N o169 (N o297 Z Z) Z) (N o233 Z Z))) (N o57 (N o89 (N o153 (N o281 Z Z) Z) (N o217 Z Z)) (N o121 (N o185 (N o313 Z Z) Z) (N (o249 P) Z Z))))) (N o13 (N o21 (N o37 (N o69 (N o133 (N o261 Z Z) Z) (N o197 (N o325 Z Z) Z)) (N o101 (N o165 (N o293 Z Z) Z) (N o229 Z Z))) (N o53 (N o85 (N o149 (N o277 Z Z) Z) (N o213 Z Z)) (N o117 (N o181 (N o309 Z Z) Z) (N o245 Z Z)))) (N o29 (N o45 (N o77 (N o141 (N o269 Z Z) Z) (N o205 (N o333 Z Z) Z)) (N o109 (N o173 (N o301 Z Z) Z) (N (o237 P) Z Z))) (N o61 (N o93 (N o157 (N o285 Z Z) Z) (N o221 Z Z)) (N o125 (N o189 (N (o317 P) Z Z) Z) (N o253 Z Z))))))) (N (o2 P) (N (boot_o_4 P) (N (boot_o_8 P) (N o16 (N o32 (N o64 (N o128 (N (o256 P) Z Z) Z) (N o192 (N (o320 P) Z Z) Z)) (N o96 (N o160 (N o288 Z Z) Z) (N o224 Z Z))) (N o48 (N o80 (N o144 (N o272 Z Z) Z) (N o208 (N o336 Z Z) Z)) (N (o112 P) (N (o176 P) (N o304 Z Z) Z) (N (o240 P) Z Z)))) (N o24 (N o40 (N o72 (N o136 (N o264 Z Z) Z) (N o200 (N o328 Z Z) Z)) (N o104 (N o168 (N o296 Z Z) Z) (N (o232 P) Z Z))) (N o56 (N o88 (N o152 (N o280 Z Z) Z) (N o216 Z Z)) (N o120 (N o184 (N (o312 P) Z Z) Z) (N o248 Z Z))))) (N o12v4 (N o20 (N o36 (N o68 (N o132 (N o260 Z Z) Z) (N o196 (N (o324 P) Z Z) Z)) (N o100 (N o164 (N o292 Z Z) Z) (N o228 Z Z))) (N o52 (N o84 (N o148 (N o276 Z Z) Z) (N o212 Z Z)) (N o116 (N o180 (N o308 Z Z) Z) (N (o244 P) Z Z)))) (N o28 (N o44 (N o76 (N o140 (N o268 Z Z) Z) (N o204 (N (o332 P) Z Z) Z)) (N o108 (N o172 (N o300 Z Z) Z) (N o236 Z Z))) (N o60 (N o92 (N o156 (N o284 Z Z) Z) (N o220 Z Z)) (N o124 (N o188 (N o316 Z Z) Z) (N o252 Z Z)))))) (N (boot_o_6 P) (N (boot_o_10 P) (N o18 (N o34 (N o66 (N o130 (N o258 Z Z) Z) (N o194 (N o322 Z Z) Z)) (N o98 (N o162 (N o290 Z Z) Z) (N o226 Z Z))) (N o50 (N (o82 P) (N o146 (N o274 Z Z) Z) (N o210 (N o338 Z Z) Z)) (N o114 (N o178 (N o306 Z Z) Z) (N o242 Z Z)))) (N o26 (N o42 (N o74 (N o138 (N o266 Z Z) Z) (N o202 (N (o330 P) Z Z) Z)) (N o106 (N o170 (N o298 Z Z) Z) (N (o234 P) Z Z))) (N o58 (N o90 (N o154 (N o282 Z Z) Z) (N o218 Z Z)) (N o122 (N o186 (N (o314 P) Z Z) Z) (N o250 Z Z))))) (N o14 (N o22 (N o38 (N o70 (N o134 (N o262 Z Z) Z) (N o198 (N (o326 P) Z Z) Z)) (N o102 (N o166 (N o294 Z Z) Z) (N o230 Z Z))) (N o54 (N o86 (N o150 (N o278 Z Z) Z) (N o214 Z Z)) (N o118 (N o182 (N o310 Z Z) Z) (N (o246 P) Z Z)))) (N o30 (N o46 (N o78 (N o142 (N o270 Z Z) Z) (N o206 (N o334 Z Z) Z)) (N o110 (N o174 (N o302 Z Z) Z) (N (o238 P) Z Z))) (N o62 (N o94 (N o158 (N o286 Z Z) Z) (N o222 Z Z)) (N o126 (N o190 (N (o318 P) Z Z) Z) (N o254 Z Z))))))))
noncomputable def o3v5 (P : Params) : Obj := O (T "dict") (.dict ⟨[(e P "__name__" 165 (s "law_ja0052_01" 1087)), (e P "__doc__" 166 .none), (e P "__package__" 167 .none), (e P "__loader__" 168 (b "__main__.__loader__#opaque")), (e P "__spec__" 169 .none), (e P "__annotations__" 170 (r 6)), (e P "__builtins__" 171 (r 4)), (e P "__file__" 173 (s "/claim/cut.py" 172)), (e P "__cached__" 174 .none), (e P "_wall" 193 (r 21)), (e P "RADIX_BITS" 195 (I 10 194)), (e P "RADIX" 197 (I 1024 196)), (e P "EXTENDABLE_FLAG_LENGTH_BITS" 199 (I 1 198)), (e P "ITERATION_EXP_LENGTH_BITS" 201 (I 4 200)), (e P "ID_EXP_LENGTH_WORDS" 203 (I 2 202)), (e P "CHECKSUM_LENGTH_WORDS" 205 (I 3 204)), (e P "CUSTOMIZATION_STRING_ORIG" 207 (.bytes ⟨[115, 104, 97, 109, 105, 114]⟩ 206)), (e P "CUSTOMIZATION_STRING_EXTENDABLE" 209 (.bytes ⟨[115, 104, 97, 109, 105, 114, 95, 101, 120, 116, 101, 110, 100, 97, 98, 108, 101]⟩ 208)), (e P "METADATA_LENGTH_WORDS" 211 (I 7 210)), (e P "MIN_MNEMONIC_LENGTH_WORDS" 213 (I 20 212)), (e P "_polymod" 227 (r 28)), (e P "create_checksum" 233 (r 33)), (e P "verify_checksum" 241 (r 40)), (e P "MnemonicError" 263 (r 50)), (e P "_round_bits" 272 (r 60)), (e P "bits_to_bytes" 280 (r 67)), (e P "bits_to_words" 288 (r 74)), (e P "int_to_indices" 301 (r 81)), (e P "_OUTER" 305 (s "bdfghjklmnprstvz" 304)), (e P "_INNER" 307 (s "aiou" 306)), (e P "_OUTER_INDEX_MAP" 356 (r 82)), (e P "_INNER_INDEX_MAP" 369 (r 83)), (e P "_word" 376 (r 90)), (e P "_index" 383 (r 97)), (e P "words_from_indices" 390 (r 104)), (e P "mnemonic_to_indices" 396 (r 109)), (e P "_tuplegetter" 455 (r 148)), (e P "_int_to_word_indices" 464 (r 159)), (e P "_int_from_word_indices" 474 (r 166)), (e P "_customization_string" 481 (r 173)), (e P "ShareCommonParameters" 635 (r 250)), (e P "ShareGroupParameters" 815 (r 336)), (e P "Share" 964 (r 415)), (e P "ShareGroup" 1074 (r 513)), (e P "decode_mnemonics" 1086 (r 524)), (e P "_law_feed" 1097 (r 531)), (e P "_law_draw" 1105 (r 538)), (e P "_law_octets" 1116 (r 545)), (e P "law" 1122 (r 550))]⟩ 49)
noncomputable def o12v5 : Obj := O .none (.fields ⟨[(I 1 0), (I 0 0), (r 20), (I 15 0), (I 0 0), (r 27), (I 24 0), (I 0 0), (r 32), (I 28 0), (I 0 0), (r 39), (I 31 0), (I 0 0), (r 46), (I 33 0), (I 0 0), (r 59), (I 36 0), (I 0 0), (r 66), (I 39 0), (I 0 0), (r 73), (I 42 0), (I 0 0), (r 80), (I 51 0), (I 0 0), (r 89), (I 53 0), (I 0 0), (r 96), (I 57 0), (I 0 0), (r 103), (I 59 0), (I 0 0), (r 108), (I 65 0), (I 0 0), (r 115), (I 83 0), (I 0 0), (r 158), (I 86 0), (I 0 0), (r 165), (I 92 0), (I 0 0), (r 172), (I 97 0), (I 0 0), (r 180), (I 142 0), (I 0 0), (r 260), (I 189 0), (I 0 0), (r 345), (I 276 0), (I 0 0), (r 425), (I 317 0), (I 0 0), (r 523), (I 330 0), (I 0 0), (r 530), (I 335 0), (I 0 0), (r 537), (I 340 0), (I 0 0), (r 544), (I 352 0), (I 0 0), (r 549)]⟩)
noncomputable def o340 : Obj := O (T "tuple") (.seq ⟨[]⟩ 0)
noncomputable def o341 : Obj := O (T "builtin_function_or_method") (.fields ⟨[(b "type.__prepare__"), (T "type")]⟩)
noncomputable def o342 (P : Params) : Obj := O (T "dict") (.dict ⟨[(e P "__module__" 823 (s "shamir_mnemonic.share" 397)), (e P "__qualname__" 825 (s "Share" 824)), (e P "__firstlineno__" 827 (I 189 826)), (e P "__doc__" 829 (s "Represents a single mnemonic share and its metadata" 828)), (e P "__init__" 846 (r 353)), (e P "__eq__" 854 (r 360)), (e P "common_parameters" 862 (r 367)), (e P "group_parameters" 870 (r 374)), (e P "_encode_id_exp" 878 (r 381)), (e P "_encode_share_params" 886 (r 388)), (e P "words" 899 (r 395)), (e P "mnemonic" 907 (r 402)), (e P "from_mnemonic" 947 (r 411)), (e P "__static_attributes__" 957 (r 413))]⟩ 14)
noncomputable def o343 : Obj := O (T "tuple") (.seq ⟨[]⟩ 0)
noncomputable def o344 : Obj := O .none (.fields ⟨[(I 192 0), (I 4 0), (r 352), (I 203 0), (I 4 0), (r 359), (I 206 0), (I 4 0), (r 366), (I 210 0), (I 4 0), (r 373), (I 214 0), (I 4 0), (r 380), (I 220 0), (I 4 0), (r 387), (I 232 0), (I 4 0), (r 394), (I 241 0), (I 4 0), (r 401), (I 246 0), (I 4 0), (r 408)]⟩)
noncomputable def o345 : Obj := O (T "code") (.fields ⟨[(s "Share" 818), (s "Share" 819), (s "/claim/cut.py" 820), (I 189 0), (I 0 0), (I 0 0), (I 0 0), (I 0 0), (r 343), (.bool false), (I 181 0), (r 344), .none, .none, .none, .none, (I 821 0), (I 189 0), (s "/claim/cut.py" 822)]⟩)
noncomputable def o346 : Obj := ⟨(T "frame"), none, .plain, ⟨[(some (r 345)), (some (r 3)), (some (r 342)), none, (some (s "shamir_mnemonic.share" 397)), none, (some (r 0))]⟩⟩
noncomputable def o347 : Obj := O (T "tuple") (.seq ⟨[]⟩ 0)
noncomputable def o348 : Obj := O .none (.fields ⟨[]⟩)
noncomputable def o349 : Obj := O (T "tuple") (.seq ⟨[(s "self" 834), (s "identifier" 835), (s "extendable" 836), (s "iteration_exponent" 837), (s "group_index" 838), (s "group_threshold" 839), (s "group_count" 840), (s "index" 841), (s "member_threshold" 842), (s "value" 843)]⟩ 0)
noncomputable def o350 : Obj := O (T "tuple") (.seq ⟨[]⟩ 0)
noncomputable def o351 : Obj := O .none (.func (f2 37 1 "__init__" "Share.__init__" 0 [] .none .none .none .none none .none .none 0))
noncomputable def o352 : Obj := O (T "code") (.fields ⟨[(s "__init__" 831), (s "Share.__init__" 832), (s "/claim/cut.py" 833), (I 192 0), (I 10 0), (I 0 0), (I 0 0), (I 3 0), (r 347), (.bool true), (I 181 0), (r 348), .none, (r 349), (r 350), (r 351), (I 844 0), (I 192 0), (s "/claim/cut.py" 845)]⟩)
noncomputable def o353 : Obj := O (T "function") (.func (f2 37 1 "__init__" "Share.__init__" 3 [] .none .none .none (s "shamir_mnemonic.share" 397) none (r 352) .none 0))
noncomputable def o354 : Obj := O (T "tuple") (.seq ⟨[]⟩ 0)
noncomputable def o355 : Obj := O .none (.fields ⟨[]⟩)
noncomputable def o356 : Obj := O (T "tuple") (.seq ⟨[(s "self" 850), (s "other" 851)]⟩ 0)
noncomputable def o357 : Obj := O (T "tuple") (.seq ⟨[]⟩ 0)
noncomputable def o358 : Obj := O .none (.func (f2 37 2 "__eq__" "Share.__eq__" 0 [] .none .none .none .none none .none .none 0))
noncomputable def o359 : Obj := O (T "code") (.fields ⟨[(s "__eq__" 847), (s "Share.__eq__" 848), (s "/claim/cut.py" 849), (I 203 0), (I 2 0), (I 0 0), (I 0 0), (I 3 0), (r 354), (.bool true), (I 181 0), (r 355), .none, (r 356), (r 357), (r 358), (I 852 0), (I 203 0), (s "/claim/cut.py" 853)]⟩)
noncomputable def o360 : Obj := O (T "function") (.func (f2 37 2 "__eq__" "Share.__eq__" 3 [] .none .none .none (s "shamir_mnemonic.share" 397) none (r 359) .none 0))
noncomputable def o361 : Obj := O (T "tuple") (.seq ⟨[]⟩ 0)
noncomputable def o362 : Obj := O .none (.fields ⟨[]⟩)
noncomputable def o363 : Obj := O (T "tuple") (.seq ⟨[(s "self" 858)]⟩ 0)
noncomputable def o364 : Obj := O (T "tuple") (.seq ⟨[]⟩ 0)
noncomputable def o365 : Obj := O .none (.func (f2 37 3 "common_parameters" "Share.common_parameters" 0 [] .none .none .none .none none .none .none 0))
noncomputable def o366 : Obj := O (T "code") (.fields ⟨[(s "common_parameters" 855), (s "Share.common_parameters" 856), (s "/claim/cut.py" 857), (I 206 0), (I 1 0), (I 0 0), (I 0 0), (I 3 0), (r 361), (.bool true), (I 181 0), (r 362), .none, (r 363), (r 364), (r 365), (I 859 0), (I 206 0), (s "/claim/cut.py" 860)]⟩)
noncomputable def o367 : Obj := O (T "function") (.func (f2 37 3 "common_parameters" "Share.common_parameters" 3 [] .none .none (s "Return values that uniquely identify a matching set of shares." 861) (s "shamir_mnemonic.share" 397) none (r 366) .none 0))
noncomputable def o368 : Obj := O (T "tuple") (.seq ⟨[]⟩ 0)
noncomputable def o369 : Obj := O .none (.fields ⟨[]⟩)
noncomputable def o370 : Obj := O (T "tuple") (.seq ⟨[(s "self" 866)]⟩ 0)
noncomputable def o371 : Obj := O (T "tuple") (.seq ⟨[]⟩ 0)
noncomputable def o372 : Obj := O .none (.func (f2 37 4 "group_parameters" "Share.group_parameters" 0 [] .none .none .none .none none .none .none 0))
noncomputable def o373 : Obj := O (T "code") (.fields ⟨[(s "group_parameters" 863), (s "Share.group_parameters" 864), (s "/claim/cut.py" 865), (I 210 0), (I 1 0), (I 0 0), (I 0 0), (I 3 0), (r 368), (.bool true), (I 181 0), (r 369), .none, (r 370), (r 371), (r 372), (I 867 0), (I 210 0), (s "/claim/cut.py" 868)]⟩)
noncomputable def o374 : Obj := O (T "function") (.func (f2 37 4 "group_parameters" "Share.group_parameters" 3 [] .none .none (s "Return values that uniquely identify shares belonging to the same group." 869) (s "shamir_mnemonic.share" 397) none (r 373) .none 0))
noncomputable def o375 : Obj := O (T "tuple") (.seq ⟨[]⟩ 0)
noncomputable def o376 : Obj := O .none (.fields ⟨[]⟩)
noncomputable def o377 : Obj := O (T "tuple") (.seq ⟨[(s "self" 874), (s "id_exp_int" 875)]⟩ 0)
noncomputable def o378 : Obj := O (T "tuple") (.seq ⟨[]⟩ 0)
noncomputable def o379 : Obj := O .none (.func (f2 37 5 "_encode_id_exp" "Share._encode_id_exp" 0 [] .none .none .none .none none .none .none 0))
noncomputable def o380 : Obj := O (T "code") (.fields ⟨[(s "_encode_id_exp" 871), (s "Share._encode_id_exp" 872), (s "/claim/cut.py" 873), (I 214 0), (I 1 0), (I 0 0), (I 0 0), (I 3 0), (r 375), (.bool true), (I 181 0), (r 376), .none, (r 377), (r 378), (r 379), (I 876 0), (I 214 0), (s "/claim/cut.py" 877)]⟩)
noncomputable def o381 : Obj := O (T "function") (.func (f2 37 5 "_encode_id_exp" "Share._encode_id_exp" 3 [] .none .none .none (s "shamir_mnemonic.share" 397) none (r 380) .none 0))
noncomputable def o382 : Obj := O (T "tuple") (.seq ⟨[]⟩ 0)
noncomputable def o383 : Obj := O .none (.fields ⟨[]⟩)
noncomputable def o384 : Obj := O (T "tuple") (.seq ⟨[(s "self" 882), (s "val" 883)]⟩ 0)
noncomputable def o385 : Obj := O (T "tuple") (.seq ⟨[]⟩ 0)
noncomputable def o386 : Obj := O .none (.func (f2 37 6 "_encode_share_params" "Share._encode_share_params" 0 [] .none .none .none .none none .none .none 0))
noncomputable def o387 : Obj := O (T "code") (.fields ⟨[(s "_encode_share_params" 879), (s "Share._encode_share_params" 880), (s "/claim/cut.py" 881), (I 220 0), (I 1 0), (I 0 0), (I 0 0), (I 3 0), (r 382), (.bool true), (I 181 0), (r 383), .none, (r 384), (r 385), (r 386), (I 884 0), (I 220 0), (s "/claim/cut.py" 885)]⟩)
noncomputable def o388 : Obj := O (T "function") (.func (f2 37 6 "_encode_share_params" "Share._encode_share_params" 3 [] .none .none .none (s "shamir_mnemonic.share" 397) none (r 387) .none 0))
noncomputable def o389 : Obj := O (T "tuple") (.seq ⟨[]⟩ 0)
noncomputable def o390 : Obj := O .none (.fields ⟨[]⟩)
noncomputable def o391 : Obj := O (T "tuple") (.seq ⟨[(s "self" 890), (s "value_word_count" 891), (s "value_int" 892), (s "value_data" 893), (s "share_data" 894), (s "checksum" 895)]⟩ 0)
noncomputable def o392 : Obj := O (T "tuple") (.seq ⟨[]⟩ 0)
noncomputable def o393 : Obj := O .none (.func (f2 37 7 "words" "Share.words" 0 [] .none .none .none .none none .none .none 0))
noncomputable def o394 : Obj := O (T "code") (.fields ⟨[(s "words" 887), (s "Share.words" 888), (s "/claim/cut.py" 889), (I 232 0), (I 1 0), (I 0 0), (I 0 0), (I 3 0), (r 389), (.bool true), (I 181 0), (r 390), .none, (r 391), (r 392), (r 393), (I 896 0), (I 232 0), (s "/claim/cut.py" 897)]⟩)
noncomputable def o395 : Obj := O (T "function") (.func (f2 37 7 "words" "Share.words" 3 [] .none .none (s "Convert share data to a share mnemonic." 898) (s "shamir_mnemonic.share" 397) none (r 394) .none 0))
noncomputable def o396 : Obj := O (T "tuple") (.seq ⟨[]⟩ 0)
noncomputable def o397 : Obj := O .none (.fields ⟨[]⟩)
noncomputable def o398 : Obj := O (T "tuple") (.seq ⟨[(s "self" 903)]⟩ 0)
noncomputable def o399 : Obj := O (T "tuple") (.seq ⟨[]⟩ 0)
noncomputable def o400 : Obj := O .none (.func (f2 37 8 "mnemonic" "Share.mnemonic" 0 [] .none .none .none .none none .none .none 0))
noncomputable def o401 : Obj := O (T "code") (.fields ⟨[(s "mnemonic" 900), (s "Share.mnemonic" 901), (s "/claim/cut.py" 902), (I 241 0), (I 1 0), (I 0 0), (I 0 0), (I 3 0), (r 396), (.bool true), (I 181 0), (r 397), .none, (r 398), (r 399), (r 400), (I 904 0), (I 241 0), (s "/claim/cut.py" 905)]⟩)
noncomputable def o402 : Obj := O (T "function") (.func (f2 37 8 "mnemonic" "Share.mnemonic" 3 [] .none .none (s "Convert share data to a share mnemonic." 906) (s "shamir_mnemonic.share" 397) none (r 401) .none 0))
noncomputable def o403 : Obj := O (T "tuple") (.seq ⟨[]⟩ 0)
noncomputable def o404 : Obj := O .none (.fields ⟨[]⟩)
noncomputable def o405 : Obj := O (T "tuple") (.seq ⟨[(s "cls" 911), (s "mnemonic" 912), (s "mnemonic_data" 913), (s "padding_len" 914), (s "id_exp_data" 915), (s "id_exp_int" 916), (s "identifier" 917), (s "extendable" 918), (s "iteration_exponent" 919), (s "share_params_data" 920), (s "share_params_int" 921), (s "share_params" 922), (s "group_index" 923), (s "group_threshold" 924), (s "group_count" 925), (s "index" 926), (s "member_threshold" 927), (s "value_data" 928), (s "value_byte_count" 929), (s "value_int" 930), (s "value" 931)]⟩ 0)
noncomputable def o406 : Obj := O (T "tuple") (.seq ⟨[]⟩ 0)
noncomputable def o407 : Obj := O .none (.func (f2 37 9 "from_mnemonic" "Share.from_mnemonic" 0 [] .none .none .none .none none .none .none 0))
noncomputable def o408 : Obj := O (T "code") (.fields ⟨[(s "from_mnemonic" 908), (s "Share.from_mnemonic" 909), (s "/claim/cut.py" 910), (I 245 0), (I 2 0), (I 0 0), (I 0 0), (I 3 0), (r 403), (.bool true), (I 181 0), (r 404), .none, (r 405), (r 406), (r 407), (I 932 0), (I 245 0), (s "/claim/cut.py" 933)]⟩)
noncomputable def o409 : Obj := O (T "function") (.func (f2 37 9 "from_mnemonic" "Share.from_mnemonic" 3 [] .none .none (s "Convert a share mnemonic to share data." 934) (s "shamir_mnemonic.share" 397) (some 412) (r 408) .none 0))
noncomputable def o410 (P : Params) : Obj := O (T "dict") (.dict ⟨[(e P "__module__" 936 (s "shamir_mnemonic.share" 397)), (e P "__name__" 939 (s "from_mnemonic" 938)), (e P "__qualname__" 942 (s "Share.from_mnemonic" 941)), (e P "__doc__" 944 (s "Convert a share mnemonic to share data." 934)), (e P "__annotations__" 946 (r 412))]⟩ 5)
noncomputable def o411 : Obj := ⟨(T "classmethod"), (some 410), (.fields ⟨[(r 409), (.bool false)]⟩), ⟨[]⟩⟩
noncomputable def o412 : Obj := O (T "dict") (.dict ⟨[]⟩ 0)
noncomputable def o413 : Obj := O (T "tuple") (.seq ⟨[(s "extendable" 948), (s "group_count" 949), (s "group_index" 950), (s "group_threshold" 951), (s "identifier" 952), (s "index" 953), (s "iteration_exponent" 954), (s "member_threshold" 955), (s "value" 956)]⟩ 0)
noncomputable def o414 (P : Params) : Obj := O (T "dict") (.dict ⟨[(e P "__module__" 823 (s "shamir_mnemonic.share" 397)), (e P "__firstlineno__" 827 (I 189 826)), (e P "__doc__" 829 (s "Represents a single mnemonic share and its metadata" 828)), (e P "__init__" 846 (r 353)), (e P "__eq__" 854 (r 360)), (e P "common_parameters" 862 (r 367)), (e P "group_parameters" 870 (r 374)), (e P "_encode_id_exp" 878 (r 381)), (e P "_encode_share_params" 886 (r 388)), (e P "words" 899 (r 395)), (e P "mnemonic" 907 (r 402)), (e P "from_mnemonic" 947 (r 411)), (e P "__static_attributes__" 957 (r 413)), (e P "__dict__" 959 (r 416)), (e P "__weakref__" 961 (r 417)), (e P "__hash__" 962 .none)]⟩ 4)
noncomputable def o415 : Obj := ⟨(T "type"), none, (.cls ⟨S "Share", [(T "object")], [(r 415), (T "object")], 414, S "Share", true, [], [], false, none, false⟩), ⟨[none, none, (some (s "Share" 816)), (some (s "Share" 824)), (some (b "object.__new__")), (some (.bool true))]⟩⟩
noncomputable def o416 : Obj := O (T "getset_descriptor") (.fields ⟨[(s "__dict__" 958), (r 415), (b "function.__dict__"), (b "function.__dict__#set")]⟩)
noncomputable def o417 : Obj := O (T "getset_descriptor") (.fields ⟨[(s "__weakref__" 960), (r 415), (b "ExceptionGroup.__weakref__"), .none]⟩)
noncomputable def o418 : Obj := O (T "super") (.fields ⟨[(r 415), (r 415), (r 415)]⟩)
noncomputable def o419 : Obj := O (T "builtin_function_or_method") (.fields ⟨[(b "object.__init_subclass__"), (r 415)]⟩)
noncomputable def o420 : Obj := O (T "tuple") (.seq ⟨[]⟩ 0)
noncomputable def o421 : Obj := O (T "builtin_function_or_method") (.fields ⟨[(b "type.__prepare__"), (T "type")]⟩)
noncomputable def o422 (P : Params) : Obj := O (T "dict") (.dict ⟨[(e P "__module__" 974 (s "shamir_mnemonic.shamir" 965)), (e P "__qualname__" 976 (s "ShareGroup" 975)), (e P "__firstlineno__" 978 (I 276 977)), (e P "__init__" 985 (r 433)), (e P "__iter__" 993 (r 440)), (e P "__len__" 1000 (r 447)), (e P "__bool__" 1007 (r 454)), (e P "__contains__" 1015 (r 461)), (e P "add" 1023 (r 468)), (e P "to_raw_shares" 1030 (r 475)), (e P "get_minimal_group" 1037 (r 482)), (e P "common_parameters" 1044 (r 489)), (e P "group_parameters" 1051 (r 496)), (e P "member_threshold" 1058 (r 503)), (e P "is_complete" 1065 (r 510)), (e P "__static_attributes__" 1067 (r 511))]⟩ 16)
noncomputable def o423 : Obj := O (T "tuple") (.seq ⟨[]⟩ 0)
noncomputable def o424 : Obj := O .none (.fields ⟨[(I 278 0), (I 4 0), (r 432), (I 281 0), (I 4 0), (r 439), (I 285 0), (I 4 0), (r 446), (I 288 0), (I 4 0), (r 453), (I 291 0), (I 4 0), (r 460), (I 294 0), (I 4 0), (r 467), (I 300 0), (I 4 0), (r 474), (I 303 0), (I 4 0), (r 481), (I 306 0), (I 4 0), (r 488), (I 309 0), (I 4 0), (r 495), (I 312 0), (I 4 0), (r 502), (I 315 0), (I 4 0), (r 509)]⟩)
noncomputable def o425 : Obj := O (T "code") (.fields ⟨[(s "ShareGroup" 969), (s "ShareGroup" 970), (s "/claim/cut.py" 971), (I 276 0), (I 0 0), (I 0 0), (I 0 0), (I 0 0), (r 423), (.bool false), (I 181 0), (r 424), .none, .none, .none, .none, (I 972 0), (I 276 0), (s "/claim/cut.py" 973)]⟩)
noncomputable def o426 : Obj := ⟨(T "frame"), none, .plain, ⟨[(some (r 425)), (some (r 3)), (some (r 422)), none, (some (s "shamir_mnemonic.shamir" 965)), none, (some (r 0))]⟩⟩
noncomputable def o427 : Obj := O (T "tuple") (.seq ⟨[]⟩ 0)
noncomputable def o428 : Obj := O .none (.fields ⟨[]⟩)
noncomputable def o429 : Obj := O (T "tuple") (.seq ⟨[(s "self" 982)]⟩ 0)
noncomputable def o430 : Obj := O (T "tuple") (.seq ⟨[]⟩ 0)
noncomputable def o431 : Obj := O .none (.func (f2 39 0 "__init__" "ShareGroup.__init__" 0 [] .none .none .none .none none .none .none 0))
noncomputable def o432 : Obj := O (T "code") (.fields ⟨[(s "__init__" 979), (s "ShareGroup.__init__" 980), (s "/claim/cut.py" 981), (I 278 0), (I 1 0), (I 0 0), (I 0 0), (I 3 0), (r 427), (.bool true), (I 181 0), (r 428), .none, (r 429), (r 430), (r 431), (I 983 0), (I 278 0), (s "/claim/cut.py" 984)]⟩)
noncomputable def o433 : Obj := O (T "function") (.func (f2 39 0 "__init__" "ShareGroup.__init__" 3 [] .none .none .none (s "shamir_mnemonic.shamir" 965) none (r 432) .none 0))
noncomputable def o434 : Obj := O (T "tuple") (.seq ⟨[]⟩ 0)
noncomputable def o435 : Obj := O .none (.fields ⟨[]⟩)
noncomputable def o436 : Obj := O (T "tuple") (.seq ⟨[(s "self" 989), (s "share" 990)]⟩ 0)
noncomputable def o437 : Obj := O (T "tuple") (.seq ⟨[]⟩ 0)
noncomputable def o438 : Obj := O .none (.func (f2 39 1 "__iter__" "ShareGroup.__iter__" 0 [] .none .none .none .none none .none .none 0))
noncomputable def o439 : Obj := O (T "code") (.fields ⟨[(s "__iter__" 986), (s "ShareGroup.__iter__" 987), (s "/claim/cut.py" 988), (I 281 0), (I 1 0), (I 0 0), (I 0 0), (I 35 0), (r 434), (.bool true), (I 181 0), (r 435), .none, (r 436), (r 437), (r 438), (I 991 0), (I 281 0), (s "/claim/cut.py" 992)]⟩)
noncomputable def o440 : Obj := O (T "function") (.func (f2 39 1 "__iter__" "ShareGroup.__iter__" 3 [] .none .none .none (s "shamir_mnemonic.shamir" 965) none (r 439) .none 0))
noncomputable def o441 : Obj := O (T "tuple") (.seq ⟨[]⟩ 0)
noncomputable def o442 : Obj := O .none (.fields ⟨[]⟩)
noncomputable def o443 : Obj := O (T "tuple") (.seq ⟨[(s "self" 997)]⟩ 0)
noncomputable def o444 : Obj := O (T "tuple") (.seq ⟨[]⟩ 0)
noncomputable def o445 : Obj := O .none (.func (f2 39 2 "__len__" "ShareGroup.__len__" 0 [] .none .none .none .none none .none .none 0))
noncomputable def o446 : Obj := O (T "code") (.fields ⟨[(s "__len__" 994), (s "ShareGroup.__len__" 995), (s "/claim/cut.py" 996), (I 285 0), (I 1 0), (I 0 0), (I 0 0), (I 3 0), (r 441), (.bool true), (I 181 0), (r 442), .none, (r 443), (r 444), (r 445), (I 998 0), (I 285 0), (s "/claim/cut.py" 999)]⟩)
noncomputable def o447 : Obj := O (T "function") (.func (f2 39 2 "__len__" "ShareGroup.__len__" 3 [] .none .none .none (s "shamir_mnemonic.shamir" 965) none (r 446) .none 0))
noncomputable def o448 : Obj := O (T "tuple") (.seq ⟨[]⟩ 0)
noncomputable def o449 : Obj := O .none (.fields ⟨[]⟩)
noncomputable def o450 : Obj := O (T "tuple") (.seq ⟨[(s "self" 1004)]⟩ 0)
noncomputable def o451 : Obj := O (T "tuple") (.seq ⟨[]⟩ 0)
noncomputable def o452 : Obj := O .none (.func (f2 39 3 "__bool__" "ShareGroup.__bool__" 0 [] .none .none .none .none none .none .none 0))
noncomputable def o453 : Obj := O (T "code") (.fields ⟨[(s "__bool__" 1001), (s "ShareGroup.__bool__" 1002), (s "/claim/cut.py" 1003), (I 288 0), (I 1 0), (I 0 0), (I 0 0), (I 3 0), (r 448), (.bool true), (I 181 0), (r 449), .none, (r 450), (r 451), (r 452), (I 1005 0), (I 288 0), (s "/claim/cut.py" 1006)]⟩)
noncomputable def o454 : Obj := O (T "function") (.func (f2 39 3 "__bool__" "ShareGroup.__bool__" 3 [] .none .none .none (s "shamir_mnemonic.shamir" 965) none (r 453) .none 0))
noncomputable def o455 : Obj := O (T "tuple") (.seq ⟨[]⟩ 0)
noncomputable def o456 : Obj := O .none (.fields ⟨[]⟩)
noncomputable def o457 : Obj := O (T "tuple") (.seq ⟨[(s "self" 1011), (s "obj" 1012)]⟩ 0)
noncomputable def o458 : Obj := O (T "tuple") (.seq ⟨[]⟩ 0)
noncomputable def o459 : Obj := O .none (.func (f2 39 4 "__contains__" "ShareGroup.__contains__" 0 [] .none .none .none .none none .none .none 0))
noncomputable def o460 : Obj := O (T "code") (.fields ⟨[(s "__contains__" 1008), (s "ShareGroup.__contains__" 1009), (s "/claim/cut.py" 1010), (I 291 0), (I 2 0), (I 0 0), (I 0 0), (I 3 0), (r 455), (.bool true), (I 181 0), (r 456), .none, (r 457), (r 458), (r 459), (I 1013 0), (I 291 0), (s "/claim/cut.py" 1014)]⟩)
noncomputable def o461 : Obj := O (T "function") (.func (f2 39 4 "__contains__" "ShareGroup.__contains__" 3 [] .none .none .none (s "shamir_mnemonic.shamir" 965) none (r 460) .none 0))
noncomputable def o462 : Obj := O (T "tuple") (.seq ⟨[]⟩ 0)
noncomputable def o463 : Obj := O .none (.fields ⟨[]⟩)
noncomputable def o464 : Obj := O (T "tuple") (.seq ⟨[(s "self" 1019), (s "share" 1020)]⟩ 0)
noncomputable def o465 : Obj := O (T "tuple") (.seq ⟨[]⟩ 0)
noncomputable def o466 : Obj := O .none (.func (f2 39 5 "add" "ShareGroup.add" 0 [] .none .none .none .none none .none .none 0))
noncomputable def o467 : Obj := O (T "code") (.fields ⟨[(s "add" 1016), (s "ShareGroup.add" 1017), (s "/claim/cut.py" 1018), (I 294 0), (I 2 0), (I 0 0), (I 0 0), (I 3 0), (r 462), (.bool true), (I 181 0), (r 463), .none, (r 464), (r 465), (r 466), (I 1021 0), (I 294 0), (s "/claim/cut.py" 1022)]⟩)
noncomputable def o468 : Obj := O (T "function") (.func (f2 39 5 "add" "ShareGroup.add" 3 [] .none .none .none (s "shamir_mnemonic.shamir" 965) none (r 467) .none 0))
noncomputable def o469 : Obj := O (T "tuple") (.seq ⟨[]⟩ 0)
noncomputable def o470 : Obj := O .none (.fields ⟨[]⟩)
noncomputable def o471 : Obj := O (T "tuple") (.seq ⟨[(s "self" 1027)]⟩ 0)
noncomputable def o472 : Obj := O (T "tuple") (.seq ⟨[]⟩ 0)
noncomputable def o473 : Obj := O .none (.func (f2 39 6 "to_raw_shares" "ShareGroup.to_raw_shares" 0 [] .none .none .none .none none .none .none 0))
noncomputable def o474 : Obj := O (T "code") (.fields ⟨[(s "to_raw_shares" 1024), (s "ShareGroup.to_raw_shares" 1025), (s "/claim/cut.py" 1026), (I 300 0), (I 1 0), (I 0 0), (I 0 0), (I 3 0), (r 469), (.bool true), (I 181 0), (r 470), .none, (r 471), (r 472), (r 473), (I 1028 0), (I 300 0), (s "/claim/cut.py" 1029)]⟩)
noncomputable def o475 : Obj := O (T "function") (.func (f2 39 6 "to_raw_shares" "ShareGroup.to_raw_shares" 3 [] .none .none .none (s "shamir_mnemonic.shamir" 965) none (r 474) .none 0))
noncomputable def o476 : Obj := O (T "tuple") (.seq ⟨[]⟩ 0)
noncomputable def o477 : Obj := O .none (.fields ⟨[]⟩)
noncomputable def o478 : Obj := O (T "tuple") (.seq ⟨[(s "self" 1034)]⟩ 0)
noncomputable def o479 : Obj := O (T "tuple") (.seq ⟨[]⟩ 0)
noncomputable def o480 : Obj := O .none (.func (f2 39 7 "get_minimal_group" "ShareGroup.get_minimal_group" 0 [] .none .none .none .none none .none .none 0))
noncomputable def o481 : Obj := O (T "code") (.fields ⟨[(s "get_minimal_group" 1031), (s "ShareGroup.get_minimal_group" 1032), (s "/claim/cut.py" 1033), (I 303 0), (I 1 0), (I 0 0), (I 0 0), (I 3 0), (r 476), (.bool true), (I 181 0), (r 477), .none, (r 478), (r 479), (r 480), (I 1035 0), (I 303 0), (s "/claim/cut.py" 1036)]⟩)
noncomputable def o482 : Obj := O (T "function") (.func (f2 39 7 "get_minimal_group" "ShareGroup.get_minimal_group" 3 [] .none .none .none (s "shamir_mnemonic.shamir" 965) none (r 481) .none 0))
noncomputable def o483 : Obj := O (T "tuple") (.seq ⟨[]⟩ 0)
noncomputable def o484 : Obj := O .none (.fields ⟨[]⟩)
noncomputable def o485 : Obj := O (T "tuple") (.seq ⟨[(s "self" 1041)]⟩ 0)
noncomputable def o486 : Obj := O (T "tuple") (.seq ⟨[]⟩ 0)
noncomputable def o487 : Obj := O .none (.func (f2 39 8 "common_parameters" "ShareGroup.common_parameters" 0 [] .none .none .none .none none .none .none 0))
noncomputable def o488 : Obj := O (T "code") (.fields ⟨[(s "common_parameters" 1038), (s "ShareGroup.common_parameters" 1039), (s "/claim/cut.py" 1040), (I 306 0), (I 1 0), (I 0 0), (I 0 0), (I 3 0), (r 483), (.bool true), (I 181 0), (r 484), .none, (r 485), (r 486), (r 487), (I 1042 0), (I 306 0), (s "/claim/cut.py" 1043)]⟩)
noncomputable def o489 : Obj := O (T "function") (.func (f2 39 8 "common_parameters" "ShareGroup.common_parameters" 3 [] .none .none .none (s "shamir_mnemonic.shamir" 965) none (r 488) .none 0))
noncomputable def o490 : Obj := O (T "tuple") (.seq ⟨[]⟩ 0)
noncomputable def o491 : Obj := O .none (.fields ⟨[]⟩)
noncomputable def o492 : Obj := O (T "tuple") (.seq ⟨[(s "self" 1048)]⟩ 0)
noncomputable def o493 : Obj := O (T "tuple") (.seq ⟨[]⟩ 0)
noncomputable def o494 : Obj := O .none (.func (f2 39 9 "group_parameters" "ShareGroup.group_parameters" 0 [] .none .none .none .none none .none .none 0))
noncomputable def o495 : Obj := O (T "code") (.fields ⟨[(s "group_parameters" 1045), (s "ShareGroup.group_parameters" 1046), (s "/claim/cut.py" 1047), (I 309 0), (I 1 0), (I 0 0), (I 0 0), (I 3 0), (r 490), (.bool true), (I 181 0), (r 491), .none, (r 492), (r 493), (r 494), (I 1049 0), (I 309 0), (s "/claim/cut.py" 1050)]⟩)
noncomputable def o496 : Obj := O (T "function") (.func (f2 39 9 "group_parameters" "ShareGroup.group_parameters" 3 [] .none .none .none (s "shamir_mnemonic.shamir" 965) none (r 495) .none 0))
noncomputable def o497 : Obj := O (T "tuple") (.seq ⟨[]⟩ 0)
noncomputable def o498 : Obj := O .none (.fields ⟨[]⟩)
noncomputable def o499 : Obj := O (T "tuple") (.seq ⟨[(s "self" 1055)]⟩ 0)
noncomputable def o500 : Obj := O (T "tuple") (.seq ⟨[]⟩ 0)
noncomputable def o501 : Obj := O .none (.func (f2 39 10 "member_threshold" "ShareGroup.member_threshold" 0 [] .none .none .none .none none .none .none 0))
noncomputable def o502 : Obj := O (T "code") (.fields ⟨[(s "member_threshold" 1052), (s "ShareGroup.member_threshold" 1053), (s "/claim/cut.py" 1054), (I 312 0), (I 1 0), (I 0 0), (I 0 0), (I 3 0), (r 497), (.bool true), (I 181 0), (r 498), .none, (r 499), (r 500), (r 501), (I 1056 0), (I 312 0), (s "/claim/cut.py" 1057)]⟩)
noncomputable def o503 : Obj := O (T "function") (.func (f2 39 10 "member_threshold" "ShareGroup.member_threshold" 3 [] .none .none .none (s "shamir_mnemonic.shamir" 965) none (r 502) .none 0))
noncomputable def o504 : Obj := O (T "tuple") (.seq ⟨[]⟩ 0)
noncomputable def o505 : Obj := O .none (.fields ⟨[]⟩)
noncomputable def o506 : Obj := O (T "tuple") (.seq ⟨[(s "self" 1062)]⟩ 0)
noncomputable def o507 : Obj := O (T "tuple") (.seq ⟨[]⟩ 0)
noncomputable def o508 : Obj := O .none (.func (f2 39 11 "is_complete" "ShareGroup.is_complete" 0 [] .none .none .none .none none .none .none 0))
noncomputable def o509 : Obj := O (T "code") (.fields ⟨[(s "is_complete" 1059), (s "ShareGroup.is_complete" 1060), (s "/claim/cut.py" 1061), (I 315 0), (I 1 0), (I 0 0), (I 0 0), (I 3 0), (r 504), (.bool true), (I 181 0), (r 505), .none, (r 506), (r 507), (r 508), (I 1063 0), (I 315 0), (s "/claim/cut.py" 1064)]⟩)
noncomputable def o510 : Obj := O (T "function") (.func (f2 39 11 "is_complete" "ShareGroup.is_complete" 3 [] .none .none .none (s "shamir_mnemonic.shamir" 965) none (r 509) .none 0))
noncomputable def o511 : Obj := O (T "tuple") (.seq ⟨[(s "shares" 1066)]⟩ 0)
noncomputable def o512 (P : Params) : Obj := O (T "dict") (.dict ⟨[(e P "__module__" 974 (s "shamir_mnemonic.shamir" 965)), (e P "__firstlineno__" 978 (I 276 977)), (e P "__init__" 985 (r 433)), (e P "__iter__" 993 (r 440)), (e P "__len__" 1000 (r 447)), (e P "__bool__" 1007 (r 454)), (e P "__contains__" 1015 (r 461)), (e P "add" 1023 (r 468)), (e P "to_raw_shares" 1030 (r 475)), (e P "get_minimal_group" 1037 (r 482)), (e P "common_parameters" 1044 (r 489)), (e P "group_parameters" 1051 (r 496)), (e P "member_threshold" 1058 (r 503)), (e P "is_complete" 1065 (r 510)), (e P "__static_attributes__" 1067 (r 511)), (e P "__dict__" 1069 (r 514)), (e P "__weakref__" 1071 (r 515)), (e P "__doc__" 1072 .none)]⟩ 4)
noncomputable def o513 : Obj := ⟨(T "type"), none, (.cls ⟨S "ShareGroup", [(T "object")], [(r 513), (T "object")], 512, S "ShareGroup", true, [], [], false, none, false⟩), ⟨[none, none, (some (s "ShareGroup" 967)), (some (s "ShareGroup" 975)), (some (b "object.__new__")), (some (.bool true))]⟩⟩
noncomputable def o514 : Obj := O (T "getset_descriptor") (.fields ⟨[(s "__dict__" 1068), (r 513), (b "function.__dict__"), (b "function.__dict__#set")]⟩)
noncomputable def o515 : Obj := O (T "getset_descriptor") (.fields ⟨[(s "__weakref__" 1070), (r 513), (b "ExceptionGroup.__weakref__"), .none]⟩)
noncomputable def o516 : Obj := O (T "super") (.fields ⟨[(r 513), (r 513), (r 513)]⟩)
noncomputable def o517 : Obj := O (T "builtin_function_or_method") (.fields ⟨[(b "object.__init_subclass__"), (r 513)]⟩)
noncomputable def o518 : Obj := O (T "tuple") (.seq ⟨[]⟩ 0)
noncomputable def o519 : Obj := O .none (.fields ⟨[]⟩)
noncomputable def o520 : Obj := O (T "tuple") (.seq ⟨[(s "mnemonics" 1078), (s "common_params" 1079), (s "groups" 1080), (s "mnemonic" 1081), (s "share" 1082), (s "group" 1083)]⟩ 0)
noncomputable def o521 : Obj := O (T "tuple") (.seq ⟨[]⟩ 0)
noncomputable def o522 : Obj := O .none (.func (f1 40 "decode_mnemonics" "decode_mnemonics" 0 [] .none .none .none .none none .none .none 0))
noncomputable def o523 : Obj := O (T "code") (.fields ⟨[(s "decode_mnemonics" 1075), (s "decode_mnemonics" 1076), (s "/claim/cut.py" 1077), (I 317 0), (I 1 0), (I 0 0), (I 0 0), (I 3 0), (r 518), (.bool true), (I 181 0), (r 519), .none, (r 520), (r 521), (r 522), (I 1084 0), (I 317 0), (s "/claim/cut.py" 1085)]⟩)
noncomputable def o524 : Obj := O (T "function") (.func (f1 40 "decode_mnemonics" "decode_mnemonics" 3 [] .none .none .none (s "shamir_mnemonic.shamir" 965) none (r 523) .none 0))
noncomputable def o525 : Obj := O (T "tuple") (.seq ⟨[]⟩ 0)
noncomputable def o526 : Obj := O .none (.fields ⟨[]⟩)
noncomputable def o527 : Obj := O (T "tuple") (.seq ⟨[(s "script" 1092), (s "seed" 1093), (s "number" 1094)]⟩ 0)
noncomputable def o528 : Obj := O (T "tuple") (.seq ⟨[]⟩ 0)
noncomputable def o529 : Obj := O .none (.func (f1 42 "_law_feed" "_law_feed" 0 [] .none .none .none .none none .none .none 0))
noncomputable def o530 : Obj := O (T "code") (.fields ⟨[(s "_law_feed" 1089), (s "_law_feed" 1090), (s "/claim/cut.py" 1091), (I 330 0), (I 1 0), (I 0 0), (I 0 0), (I 3 0), (r 525), (.bool true), (I 181 0), (r 526), .none, (r 527), (r 528), (r 529), (I 1095 0), (I 330 0), (s "/claim/cut.py" 1096)]⟩)
noncomputable def o531 : Obj := O (T "function") (.func (f1 42 "_law_feed" "_law_feed" 3 [] .none .none .none (s "law_ja0052_01" 1087) none (r 530) .none 0))
noncomputable def o532 : Obj := O (T "tuple") (.seq ⟨[]⟩ 0)
noncomputable def o533 : Obj := O .none (.fields ⟨[]⟩)
noncomputable def o534 : Obj := O (T "tuple") (.seq ⟨[(s "feed" 1101), (s "many" 1102)]⟩ 0)
noncomputable def o535 : Obj := O (T "tuple") (.seq ⟨[]⟩ 0)
noncomputable def o536 : Obj := O .none (.func (f1 43 "_law_draw" "_law_draw" 0 [] .none .none .none .none none .none .none 0))
noncomputable def o537 : Obj := O (T "code") (.fields ⟨[(s "_law_draw" 1098), (s "_law_draw" 1099), (s "/claim/cut.py" 1100), (I 335 0), (I 2 0), (I 0 0), (I 0 0), (I 3 0), (r 532), (.bool true), (I 181 0), (r 533), .none, (r 534), (r 535), (r 536), (I 1103 0), (I 335 0), (s "/claim/cut.py" 1104)]⟩)
noncomputable def o538 : Obj := O (T "function") (.func (f1 43 "_law_draw" "_law_draw" 3 [] .none .none .none (s "law_ja0052_01" 1087) none (r 537) .none 0))
noncomputable def o539 : Obj := O (T "tuple") (.seq ⟨[]⟩ 0)
noncomputable def o540 : Obj := O .none (.fields ⟨[]⟩)
noncomputable def o541 : Obj := O (T "tuple") (.seq ⟨[(s "feed" 1109), (s "size" 1110), (s "number" 1111), (s "found" 1112), (s "k" 1113)]⟩ 0)
noncomputable def o542 : Obj := O (T "tuple") (.seq ⟨[]⟩ 0)
noncomputable def o543 : Obj := O .none (.func (f1 44 "_law_octets" "_law_octets" 0 [] .none .none .none .none none .none .none 0))
noncomputable def o544 : Obj := O (T "code") (.fields ⟨[(s "_law_octets" 1106), (s "_law_octets" 1107), (s "/claim/cut.py" 1108), (I 340 0), (I 2 0), (I 0 0), (I 0 0), (I 3 0), (r 539), (.bool true), (I 181 0), (r 540), .none, (r 541), (r 542), (r 543), (I 1114 0), (I 340 0), (s "/claim/cut.py" 1115)]⟩)
noncomputable def o545 : Obj := O (T "function") (.func (f1 44 "_law_octets" "_law_octets" 3 [] .none .none .none (s "law_ja0052_01" 1087) none (r 544) .none 0))
noncomputable def o546 : Obj := O (T "tuple") (.seq ⟨[]⟩ 0)
noncomputable def o547 : Obj := O .none (.fields ⟨[]⟩)
noncomputable def o548 : Obj := O .none (.func (f1 45 "law" "law" 0 [] .none .none .none .none none .none .none 0))
noncomputable def o549 : Obj := O (T "code") (.fields ⟨[(s "law" 1117), (s "law" 1118), (s "/claim/cut.py" 1119), (I 352 0), (I 1 0), (I 0 0), (I 0 0), (I 3 0), (r 546), (.bool true), (I 181 0), (r 547), .none, .none, .none, (r 548), (I 1120 0), (I 352 0), (s "/claim/cut.py" 1121)]⟩)
noncomputable def o550 : Obj := O (T "function") (.func (f1 45 "law" "law" 3 [] .none .none .none (s "law_ja0052_01" 1087) none (r 549) .none 0))
noncomputable def t45 (P : Params) : BT := (N (boot_o_0 P) (N (boot_o_1 P) (N (o3v5 P) (N (boot_o_7 P) (N o15 (N o31 (N o63 (N o127 (N o255 (N o511 Z Z) Z) (N o383 Z Z)) (N o191 (N o319 Z Z) (N o447 Z Z))) (N o95 (N o159 (N o287 (N o543 Z Z) Z) (N o415 Z Z)) (N o223 (N o351 Z Z) (N o479 Z Z)))) (N o47 (N o79 (N o143 (N o271 (N o527 Z Z) Z) (N o399 Z Z)) (N o207 (N (o335 P) Z Z) (N o463 Z Z))) (N o111 (N o175 (N o303 Z Z) (N o431 Z Z)) (N o239 (N o367 Z Z) (N o495 Z Z))))) (N o23 (N o39 (N o71 (N o135 (N o263 (N o519 Z Z) Z) (N o391 Z Z)) (N (o199 P) (N (o327 P) Z Z) (N o455 Z Z))) (N o103 (N o167 (N o295 Z Z) (N o423 Z Z)) (N o231 (N o359 Z Z) (N o487 Z Z)))) (N o55 (N o87 (N o151 (N (o279 P) (N o535 Z Z) Z) (N o407 Z Z)) (N o215 (N o343 Z Z) (N o471 Z Z))) (N o119 (N o183 (N o311 Z Z) (N o439 Z Z)) (N o247 (N o375 Z Z) (N o503 Z Z)))))) (N o11 (N o19 (N o35 (N o67 (N o131 (N o259 (N o515 Z Z) Z) (N o387 Z Z)) (N o195 (N (o323 P) Z Z) (N o451 Z Z))) (N o99 (N o163 (N o291 (N o547 Z Z) Z) (N o419 Z Z)) (N o227 (N o355 Z Z) (N o483 Z Z)))) (N o51 (N (o83 P) (N (o147 P) (N o275 (N o531 Z Z) Z) (N o403 Z Z)) (N o211 (N o339 Z Z) (N o467 Z Z))) (N o115 (N o179 (N o307 Z Z) (N o435 Z Z)) (N (o243 P) (N o371 Z Z) (N o499 Z Z))))) (N o27 (N (o43 P) (N o75 (N o139 (N o267 (N o523 Z Z) Z) (N o395 Z Z)) (N o203 (N o331 Z Z) (N o459 Z Z))) (N o107 (N o171 (N o299 Z Z) (N o427 Z Z)) (N (o235 P) (N o363 Z Z) (N o491 Z Z)))) (N o59 (N o91 (N o155 (N o283 (N o539 Z Z) Z) (N o411 Z Z)) (N o219 (N o347 Z Z) (N o475 Z Z))) (N o123 (N o187 (N (o315 P) Z Z) (N o443 Z Z)) (N o251 (N o379 Z Z) (N o507 Z Z))))))) (N (boot_o_5 P) (N (boot_o_9 P) (N o17 (N o33 (N o65 (N o129 (N o257 (N o513 Z Z) Z) (N o385 Z Z)) (N o193 (N (o321 P) Z Z) (N o449 Z Z))) (N o97 (N o161 (N o289 (N o545 Z Z) Z) (N o417 Z Z)) (N o225 (N o353 Z Z) (N o481 Z Z)))) (N (o49 P) (N o81 (N o145 (N o273 (N o529 Z Z) Z) (N o401 Z Z)) (N o209 (N o337 Z Z) (N o465 Z Z))) (N o113 (N o177 (N o305 Z Z) (N o433 Z Z)) (N (o241 P) (N o369 Z Z) (N o497 Z Z))))) (N o25 (N o41 (N o73 (N o137 (N o265 (N o521 Z Z) Z) (N o393 Z Z)) (N o201 (N (o329 P) Z Z) (N o457 Z Z))) (N o105 (N o169 (N o297 Z Z) (N o425 Z Z)) (N o233 (N o361 Z Z) (N o489 Z Z)))) (N o57 (N o89 (N o153 (N o281 (N o537 Z Z) Z) (N o409 Z Z)) (N o217 (N o345 Z Z) (N o473 Z Z))) (N o121 (N o185 (N o313 Z Z) (N o441 Z Z)) (N (o249 P) (N o377 Z Z) (N o505 Z Z)))))) (N o13 (N o21 (N o37 (N o69 (N o133 (N o261 (N o517 Z Z) Z) (N o389 Z Z)) (N o197 (N o325 Z Z) (N o453 Z Z))) (N o101 (N o165 (N o293 (N o549 Z Z) Z) (N o421 Z Z)) (N o229 (N o357 Z Z) (N o485 Z Z)))) (N o53 (N o85 (N o149 (N o277 (N o533 Z Z) Z) (N o405 Z Z)) (N o213 (N o341 Z Z) (N o469 Z Z))) (N o117 (N o181 (N o309 Z Z) (N o437 Z Z)) (N o245 (N o373 Z Z) (N o501 Z Z))))) (N o29 (N o45 (N o77 (N o141 (N o269 (N o525 Z Z) Z) (N o397 Z Z)) (N o205 (N o333 Z Z) (N o461 Z Z))) (N o109 (N o173 (N o301 Z Z) (N o429 Z Z)) (N (o237 P) (N o365 Z Z) (N o493 Z Z)))) (N o61 (N o93 (N o157 (N o285 (N o541 Z Z) Z) (N o413 Z Z)) (N o221 (N o349 Z Z) (N o477 Z Z))) (N o125 (N o189 (N (o317 P) Z Z) (N o445 Z Z)) (N o253 (N o381 Z Z) (N o509 Z Z)))))))) (N (o2 P) (N (boot_o_4 P) (N (boot_o_8 P) (N o16 (N o32 (N o64 (N o128 (N (o256 P) (N (o512 P) Z Z) Z) (N o384 Z Z)) (N o192 (N (o320 P) Z Z) (N o448 Z Z))) (N o96 (N o160 (N o288 (N o544 Z Z) Z) (N o416 Z Z)) (N o224 (N o352 Z Z) (N o480 Z Z)))) (N o48 (N o80 (N o144 (N o272 (N o528 Z Z) Z) (N o400 Z Z)) (N o208 (N o336 Z Z) (N o464 Z Z))) (N (o112 P) (N (o176 P) (N o304 Z Z) (N o432 Z Z)) (N (o240 P) (N o368 Z Z) (N o496 Z Z))))) (N o24 (N o40 (N o72 (N o136 (N o264 (N o520 Z Z) Z) (N o392 Z Z)) (N o200 (N o328 Z Z) (N o456 Z Z))) (N o104 (N o168 (N o296 Z Z) (N o424 Z Z)) (N (o232 P) (N o360 Z Z) (N o488 Z Z)))) (N o56 (N o88 (N o152 (N o280 (N o536 Z Z) Z) (N o408 Z Z)) (N o216 (N o344 Z Z) (N o472 Z Z))) (N o120 (N o184 (N (o312 P) Z Z) (N o440 Z Z)) (N o248 (N o376 Z Z) (N o504 Z Z)))))) (N o12v5 (N o20 (N o36 (N o68 (N o132 (N o260 (N o516 Z Z) Z) (N o388 Z Z)) (N o196 (N (o324 P) Z Z) (N o452 Z Z))) (N o100 (N o164 (N o292 (N o548 Z Z) Z) (N o420 Z Z)) (N o228 (N o356 Z Z) (N o484 Z Z)))) (N o52 (N o84 (N o148 (N o276 (N o532 Z Z) Z) (N o404 Z Z)) (N o212 (N o340 Z Z) (N o468 Z Z))) (N o116 (N o180 (N o308 Z Z) (N o436 Z Z)) (N (o244 P) (N o372 Z Z) (N o500 Z Z))))) (N o28 (N o44 (N o76 (N o140 (N o268 (N o524 Z Z) Z) (N o396 Z Z)) (N o204 (N (o332 P) Z Z) (N o460 Z Z))) (N o108 (N o172 (N o300 Z Z) (N o428 Z Z)) (N o236 (N o364 Z Z) (N o492 Z Z)))) (N o60 (N o92 (N o156 (N o284 (N o540 Z Z) Z) (N o412 Z Z)) (N o220 (N o348 Z Z) (N o476 Z Z))) (N o124 (N o188 (N o316 Z Z) (N o444 Z Z)) (N o252 (N o380 Z Z) (N o508 Z Z))))))) (N (boot_o_6 P) (N (boot_o_10 P) (N o18 (N o34 (N o66 (N o130 (N o258 (N o514 Z Z) Z) (N o386 Z Z)) (N o194 (N o322 Z Z) (N o450 Z Z))) (N o98 (N o162 (N o290 (N o546 Z Z) Z) (N o418 Z Z)) (N o226 (N o354 Z Z) (N o482 Z Z)))) (N o50 (N (o82 P) (N o146 (N o274 (N o530 Z Z) Z) (N o402 Z Z)) (N o210 (N o338 Z Z) (N o466 Z Z))) (N o114 (N o178 (N o306 Z Z) (N o434 Z Z)) (N o242 (N o370 Z Z) (N o498 Z Z))))) (N o26 (N o42 (N o74 (N o138 (N o266 (N o522 Z Z) Z) (N o394 Z Z)) (N o202 (N (o330 P) Z Z) (N o458 Z Z))) (N o106 (N o170 (N o298 Z Z) (N o426 Z Z)) (N (o234 P) (N o362 Z Z) (N o490 Z Z)))) (N o58 (N o90 (N o154 (N o282 (N o538 Z Z) Z) (N (o410 P) Z Z)) (N o218 (N o346 Z Z) (N o474 Z Z))) (N o122 (N o186 (N (o314 P) Z Z) (N o442 Z Z)) (N o250 (N o378 Z Z) (N o506 Z Z)))))) (N o14 (N o22 (N o38 (N o70 (N o134 (N o262 (N o518 Z Z) Z) (N o390 Z Z)) (N o198 (N (o326 P) Z Z) (N o454 Z Z))) (N o102 (N o166 (N o294 (N o550 Z Z) Z) (N (o422 P) Z Z)) (N o230 (N o358 Z Z) (N o486 Z Z)))) (N o54 (N o86 (N o150 (N o278 (N o534 Z Z) Z) (N o406 Z Z)) (N o214 (N (o342 P) Z Z) (N o470 Z Z))) (N o118 (N o182 (N o310 Z Z) (N o438 Z Z)) (N (o246 P) (N o374 Z Z) (N o502 Z Z))))) (N o30 (N o46 (N o78 (N o142 (N o270 (N o526 Z Z) Z) (N o398 Z Z)) (N o206 (N o334 Z Z) (N o462 Z Z))) (N o110 (N o174 (N o302 Z Z) (N o430 Z Z)) (N (o238 P) (N o366 Z Z) (N o494 Z Z)))) (N o62 (N o94 (N o158 (N o286 (N o542 Z Z) Z) (N (o414 P) Z Z)) (N o222 (N o350 Z Z) (N o478 Z Z))) (N o126 (N o190 (N (o318 P) Z Z) (N o446 Z Z)) (N o254 (N o382 Z Z) (N o510 Z Z)))))))))
noncomputable def hF (P : Params) : Heap := ⟨⟨[(boot_o_0 P), (boot_o_1 P), (o2 P), (o3v5 P), (boot_o_4 P), (boot_o_5 P), (boot_o_6 P), (boot_o_7 P), (boot_o_8 P), (boot_o_9 P), (boot_o_10 P), o11, o12v5, o13, o14, o15, o16, o17, o18, o19, o20, o21, o22, o23, o24, o25, o26, o27, o28, o29, o30, o31, o32, o33, o34, o35, o36, o37, o38, o39, o40, o41, o42, (o43 P), o44, o45, o46, o47, o48, (o49 P), o50, o51, o52, o53, o54, o55, o56, o57, o58, o59, o60, o61, o62, o63, o64, o65, o66, o67, o68, o69, o70, o71, o72, o73, o74, o75, o76, o77, o78, o79, o80, o81, (o82 P), (o83 P), o84, o85, o86, o87, o88, o89, o90, o91, o92, o93, o94, o95, o96, o97, o98, o99, o100, o101, o102, o103, o104, o105, o106, o107, o108, o109, o110, o111, (o112 P), o113, o114, o115, o116, o117, o118, o119, o120, o121, o122, o123, o124, o125, o126, o127, o128, o129, o130, o131, o132, o133, o134, o135, o136, o137, o138, o139, o140, o141, o142, o143, o144, o145, o146, (o147 P), o148, o149, o150, o151, o152, o153, o154, o155, o156, o157, o158, o159, o160, o161, o162, o163, o164, o165, o166, o167, o168, o169, o170, o171, o172, o173, o174, o175, (o176 P), o177, o178, o179, o180, o181, o182, o183, o184, o185, o186, o187, o188, o189, o190, o191, o192, o193, o194, o195, o196, o197, o198, (o199 P), o200, o201, o202, o203, o204, o205, o206, o207, o208, o209, o210, o211, o212, o213, o214, o215, o216, o217, o218, o219, o220, o221, o222, o223, o224, o225, o226, o227, o228, o229, o230, o231, (o232 P), o233, (o234 P), (o235 P), o236, (o237 P), (o238 P), o239, (o240 P), (o241 P), o242, (o243 P), (o244 P), o245, (o246 P), o247, o248, (o249 P), o250, o251, o252, o253, o254, o255, (o256 P), o257, o258, o259, o260, o261, o262, o263, o264, o265, o266, o267, o268, o269, o270, o271, o272, o273, o274, o275, o276, o277, o278, (o279 P), o280, o281, o282, o283, o284, o285, o286, o287, o288, o289, o290, o291, o292, o293, o294, o295, o296, o297, o298, o299, o300, o301, o302, o303, o304, o305, o306, o307, o308, o309, o310, o311, (o312 P), o313, (o314 P), (o315 P), o316, (o317 P), (o318 P), o319, (o320 P), (o321 P), o322, (o323 P), (o324 P), o325, (o326 P), (o327 P), o328, (o329 P), (o330 P), o331, (o332 P), o333, o334, (o335 P), o336, o337, o338, o339, o340, o341, (o342 P), o343, o344, o345, o346, o347, o348, o349, o350, o351, o352, o353, o354, o355, o356, o357, o358, o359, o360, o361, o362, o363, o364, o365, o366, o367, o368, o369, o370, o371, o372, o373, o374, o375, o376, o377, o378, o379, o380, o381, o382, o383, o384, o385, o386, o387, o388, o389, o390, o391, o392, o393, o394, o395, o396, o397, o398, o399, o400, o401, o402, o403, o404, o405, o406, o407, o408, o409, (o410 P), o411, o412, o413, (o414 P), o415, o416, o417, o418, o419, o420, o421, (o422 P), o423, o424, o425, o426, o427, o428, o429, o430, o431, o432, o433, o434, o435, o436, o437, o438, o439, o440, o441, o442, o443, o444, o445, o446, o447, o448, o449, o450, o451, o452, o453, o454, o455, o456, o457, o458, o459, o460, o461, o462, o463, o464, o465, o466, o467, o468, o469, o470, o471, o472, o473, o474, o475, o476, o477, o478, o479, o480, o481, o482, o483, o484, o485, o486, o487, o488, o489, o490, o491, o492, o493, o494, o495, o496, o497, o498, o499, o500, o501, o502, o503, o504, o505, o506, o507, o508, o509, o510, o511, (o512 P), o513, o514, o515, o516, o517, o518, o519, o520, o521, o522, o523, o524, o525, o526, o527, o528, o529, o530, o531, o532, o533, o534, o535, o536, o537, o538, o539, o540, o541, o542, o543, o544, o545, o546, o547, o548, o549, o550]⟩, {}⟩
end H
end
section
open PySem PySem.W PyProof.Rows
set_option maxRecDepth 100000
set_option maxHeartbeats 0
namespace H
noncomputable def envE : Env := { scope := pw.main.scope, locals := mainNs, globals := mainNs, cells := [], code := .ref 13, frame := some 14 }
noncomputable def bE : List Stmt := behindTheImports pw
noncomputable def cE : Code := .body bE envE
abbrev ps (a b c d : Nat) : Pos := ⟨a, b, c, d⟩
noncomputable abbrev BB : List Frame := [topFrame ⟨0, 0, 0, 0⟩]
noncomputable def sg (i n : Nat) : List Stmt := (pw.main.body.drop i).take n
noncomputable abbrev stt (t : BT) (n k : Nat) (os : OsState) : SharedT := ⟨t, n, {}, ⟨[]⟩, {}, k, os⟩
end H
end
section
open PySem PySem.W PyProof.Rows
set_option maxRecDepth 100000
set_option maxHeartbeats 0
namespace H
theorem s0 (w : World) (os : OsState) : topGo treeTable pw w 11 (some (.ref 6)) 12 ⟨boot_heap w.params, ⟨[]⟩, boot_drawn, boot_toks, os⟩ (topStub pw) = some ((stt (tA w.params) 15 187 os).abs, ⟨denote treeTable cE, cE, ⟨0, 0, 0, 0⟩, BB⟩) := by kernel_rfl
theorem sX (w : World) (os : OsState) : segRun treeTable pw w 11 (some (.ref 6)) 1 1 (stt (tA w.params) 15 187 os).abs (blockOf bE envE cE ⟨0, 0, 0, 0⟩ BB) = some (.next, (stt (tA w.params) 15 187 os).abs, cE, ⟨0, 0, 0, 0⟩) := by kernel_rfl
theorem sZ (w : World) (os : OsState) : topRun treeTable pw w 11 (some (.ref 6)) 2 (stt (t45 w.params) 551 1123 os).abs ⟨doneF .next, cE, ⟨352, 0, 401, 15⟩, BB⟩ = some ⟨hF w.params, ⟨[]⟩, {}, 1123, os⟩ := by kernel_rfl
theorem sS : bE = sg 0 24 ++ (sg 24 2 ++ (sg 26 9 ++ (sg 35 1 ++ (sg 36 1 ++ (sg 37 9 ++ []))))) := by kernel_rfl
end H
end
section
open PySem PySem.W PyProof.Rows
set_option maxRecDepth 100000
set_option maxHeartbeats 0
namespace H
theorem sA (w : World) (os : OsState) : (segRunT treeTable pw w 11 (some (.ref 6)) 1 577 (stt (tA w.params) 15 187 os) (piecesOf (sg 0 24) envE cE ⟨0, 0, 0, 0⟩ BB)) = some (.next, stt (t23 w.params) 82 308 os, cE, ⟨48, 0, 48, 6⟩) := by kernel_rfl
end H
end
section
open PySem PySem.W PyProof.Rows
set_option maxRecDepth 100000
set_option maxHeartbeats 0
namespace H
theorem sBf (w : World) : (fun os => (segRunT treeTable pw (w.withFollow "special-get-raises" false) 11 (some (.ref 6)) 1 322 (stt (t23 (w.withFollow "special-get-raises" false).params) 82 308 os) (piecesOf (sg 24 2) envE cE ⟨48, 0, 48, 6⟩ BB))) = fun os => some (.next, stt (t25 (w.withFollow "special-get-raises" false).params) 84 370 os, cE, ⟨50, 0, 50, 16⟩) := by kernel_rfl
theorem sBt (w : World) : (fun os => (segRunT treeTable pw (w.withFollow "special-get-raises" true) 11 (some (.ref 6)) 1 322 (stt (t23 (w.withFollow "special-get-raises" true).params) 82 308 os) (piecesOf (sg 24 2) envE cE ⟨48, 0, 48, 6⟩ BB))) = fun os => some (.next, stt (t25 (w.withFollow "special-get-raises" true).params) 84 370 os, cE, ⟨50, 0, 50, 16⟩) := by kernel_rfl
theorem sB (w : World) (os : OsState) : (segRunT treeTable pw w 11 (some (.ref 6)) 1 322 (stt (t23 w.params) 82 308 os) (piecesOf (sg 24 2) envE cE ⟨48, 0, 48, 6⟩ BB)) = some (.next, stt (t25 w.params) 84 370 os, cE, ⟨50, 0, 50, 16⟩) :=
  congrFun (byRow2 "special-get-raises" (P := fun w => (fun os => (segRunT treeTable pw w 11 (some (.ref 6)) 1 322 (stt (t23 w.params) 82 308 os) (piecesOf (sg 24 2) envE cE ⟨48, 0, 48, 6⟩ BB))) = fun os => some (.next, stt (t25 w.params) 84 370 os, cE, ⟨50, 0, 50, 16⟩)) sBf sBt w) os
end H
end
section
open PySem PySem.W PyProof.Rows
set_option maxRecDepth 100000
set_option maxHeartbeats 0
namespace H
theorem sC (w : World) (os : OsState) : (segRunT treeTable pw w 11 (some (.ref 6)) 1 538 (stt (t25 w.params) 84 370 os) (piecesOf (sg 26 9) envE cE ⟨50, 0, 50, 16⟩ BB)) = some (.next, stt (t34 w.params) 174 482 os, cE, ⟨92, 0, 96, 40⟩) := by kernel_rfl
end H
end
section
open PySem PySem.W PyProof.Rows
set_option maxRecDepth 100000
set_option maxHeartbeats 0
namespace H
theorem sD (w : World) (os : OsState) : (segRunT treeTable pw w 11 (some (.ref 6)) 1 1341 (stt (t34 w.params) 174 482 os) (piecesOf (sg 35 1) envE cE ⟨92, 0, 96, 40⟩ BB)) = some (.next, stt (t35 w.params) 254 636 os, cE, ⟨97, 0, 141, 61⟩) := by kernel_rfl
end H
end
section
open PySem PySem.W PyProof.Rows
set_option maxRecDepth 100000
set_option maxHeartbeats 0
namespace H
theorem sE (w : World) (os : OsState) : (segRunT treeTable pw w 11 (some (.ref 6)) 1 1635 (stt (t35 w.params) 254 636 os) (piecesOf (sg 36 1) envE cE ⟨97, 0, 141, 61⟩ BB)) = some (.next, stt (t36 w.params) 340 816 os, cE, ⟨142, 0, 188, 66⟩) := by kernel_rfl
end H
end
section
open PySem PySem.W PyProof.Rows
set_option maxRecDepth 100000
set_option maxHeartbeats 0
namespace H
theorem sF' (w : World) (os : OsState) : (segRunT treeTable pw w 11 (some (.ref 6)) 1 1399 (stt (t36 w.params) 340 816 os) (piecesOf (sg 37 9) envE cE ⟨142, 0, 188, 66⟩ BB)) = some (.next, stt (t45 w.params) 551 1123 os, cE, ⟨352, 0, 401, 15⟩) := by kernel_rfl
end H
end
section
open PySem PySem.W PyProof.Rows
set_option maxRecDepth 100000
set_option maxHeartbeats 0
namespace H
noncomputable def qv : Program := view pw [0, 1, 2, 3, 4, 5, 6, 7, 8, 9, 10, 12, 13, 14, 16, 17, 18, 19, 20, 22, 23, 24, 25, 26, 27, 28, 29, 31, 32, 33, 34, 35, 36, 37, 39, 40, 42, 43, 44, 45]
noncomputable def lo : List PySem.Str := [S "_OUTER_INDEX_MAP", S "_INNER_INDEX_MAP", S "_tuplegetter", S "ShareCommonParameters", S "ShareGroupParameters", S "Share"]
noncomputable def XtF : Shared → Bool := fun s => xlAt qv [] s && recOk (RowW.records (OpenRow.toRowW (OpenLaw.row PySem.Challenge.rw_ja0052_01))) s
noncomputable abbrev sF (w : World) (os : OsState) : Shared := ⟨hF w.params, ⟨[]⟩, {}, 1123, os⟩
theorem L0 (w : World) : ((boot_heap w.params).isNs mainGlobals && (Array.mk ([] : List GenState)).size == 0, (boot_heap w.params).objs.size, (boot_heap w.params).nsMap mainGlobals "__annotations__") = (true, 11, some (.ref 6)) := by kernel_rfl
theorem L1 (w : World) (os : OsState) : (staticsOk (importedModules pw.main.body) (boot_heap w.params) (hF w.params) && namesBound pw (hF w.params) && gensDone (sF w os) && laidKept (boot_heap w.params) (hF w.params)) = true := by kernel_rfl
theorem O1 : opening pw = plainProg pw.main.scope.names := by kernel_rfl
theorem O2 (s : Shared) : fenceModules? pw s = some s := by kernel_rfl
end H
end
section
open PySem PySem.W PyProof.Rows
set_option maxRecDepth 100000
set_option maxHeartbeats 0
namespace H
theorem L2 (w : World) (os : OsState) : openSeen qv lo (importedModules pw.main.body) XtF true (sF w os) = openGood qv lo := by kernel_rfl
end H
end
section
open PySem PySem.W PyProof.Rows
set_option maxRecDepth 100000
set_option maxHeartbeats 400000
namespace H
section
variable {tb : String → Option Builtin} {p : Program} {w : World} {n₀ : Nat} {ann : Option Value} {env : Env} {q : Pos}
theorem chain {n1 n2 n3 n4 n5 n6 N1 N2 N3 : Nat} {sa s1 s2 s3 s4 s5 s6 : SharedT} {b l1 l2 l3 l4 l5 l6 : List Stmt} {c : Code} {p0 p1 p2 p3 p4 p5 p6 : Pos} {r S : Shared} {t : Thread}
    (h0 : topGo tb p w n₀ ann N1 S t = some (sa.abs, ⟨denote tb (.body b env), c, p0, [topFrame q]⟩))
    (hb : segRun tb p w n₀ ann 1 N2 sa.abs (blockOf b env c p0 [topFrame q]) = some (.next, sa.abs, c, p0))
    (h1 : segRunT tb p w n₀ ann 1 n1 sa (piecesOf l1 env c p0 [topFrame q]) = some (.next, s1, c, p1))
    (h2 : segRunT tb p w n₀ ann 1 n2 s1 (piecesOf l2 env c p1 [topFrame q]) = some (.next, s2, c, p2))
    (h3 : segRunT tb p w n₀ ann 1 n3 s2 (piecesOf l3 env c p2 [topFrame q]) = some (.next, s3, c, p3))
    (h4 : segRunT tb p w n₀ ann 1 n4 s3 (piecesOf l4 env c p3 [topFrame q]) = some (.next, s4, c, p4))
    (h5 : segRunT tb p w n₀ ann 1 n5 s4 (piecesOf l5 env c p4 [topFrame q]) = some (.next, s5, c, p5))
    (h6 : segRunT tb p w n₀ ann 1 n6 s5 (piecesOf l6 env c p5 [topFrame q]) = some (.next, s6, c, p6))
    (hf : topRun tb p w n₀ ann N3 s6.abs ⟨doneF .next, c, p6, [topFrame q]⟩ = some r)
    (hl : b = l1 ++ (l2 ++ (l3 ++ (l4 ++ (l5 ++ (l6 ++ []))))))  :
    topRun tb p w n₀ ann (N1 + (N2 + (n1 + (n2 + (n3 + (n4 + (n5 + (n6 + N3)))))))) S t = some r := by
  refine go_top h0 (piece_block hb ?_)
  rw [hl]
  exact piece_app (segRun_of h1) (piece_app (segRun_of h2) (piece_app (segRun_of h3) (piece_app (segRun_of h4) (piece_app (segRun_of h5) (piece_app (segRun_of h6) (piece_nil hf))))))
end
theorem runAll (w : World) (os : OsState) : topRun treeTable pw w 11 (some (.ref 6)) (12 + (1 + (577 + (322 + (538 + (1341 + (1635 + (1399 + 2)))))))) ⟨boot_heap w.params, ⟨[]⟩, boot_drawn, boot_toks, os⟩ (topStub pw) = some (sF w os) :=
  chain (b := bE) (env := envE) (c := cE) (q := ⟨0, 0, 0, 0⟩) (s0 w os) (sX w os) (sA w os) (sB w os) (sC w os) (sD w os) (sE w os) (sF' w os) (sZ w os) sS
theorem triple {α β γ : Type} {a a' : α} {b b' : β} {c c' : γ} (h1 : a = a') (h2 : b = b') (h3 : c = c') : (a, b, c) = (a', b', c') := by subst h1 h2 h3; rfl
theorem left {α : Type} {Yf : Shared → α} {Ya : World → α} (L3 : ∀ w os, Yf (sF w os) = Ya w) : LeftO pw qv lo XtF Yf Ya 12000 true :=
  LeftO.of_pieces (boot_open O1 rfl O2) L0 runAll rfl fun w => funext fun os => triple (L1 w os) (L2 w os) (L3 w os)
end H
end
section
theorem offHd : True := by w_top off; trivial
open PySem PySem.W PyProof.Rows
set_option maxRecDepth 100000
set_option maxHeartbeats 0
local macro_rules | `(tactic| o_law) => `(tactic| refine holds_law (by decide +kernel) fun said => ?_)
local macro_rules | `(tactic| o_head $H) => `(tactic| (
  refine holds_open (q := H.qv) (loose := H.lo) (Xt := H.XtF) (XP := XL H.qv []) (Yf := Hook.obs $H) (Ya := Hook.val $H) (YP := Hook.says $H) (N := 12000) (H.left fun w os => by kernel_rfl) (Hook.of $H) (Hook.keeps $H) (fun s e => xl_of s (Bool.and_eq_true_iff.mp e).1) XL.keeps (by rfl) (by rfl) (by rfl) (fun s e => recFacts_of (Bool.and_eq_true_iff.mp e).2) (by rfl) (by first | assumption | decide +kernel) (by decide +kernel) ⟨rfl, rfl, rfl, rfl, rfl, by decide +kernel⟩ ?hw ?hc))
open_top hd for PySem.Challenge.rw_ja0052_01
end
section
open PySem PySem.W PySem.Calls PyProof.Rows PySem.Builtin
set_option maxRecDepth 100000
set_option maxHeartbeats 4000000
/-- a class over tuple with its own `__new__` -/
def ntIn (K : Frag) (C : Addr) : Bool := match K.lookup C with
  | some ⟨_, _, .cls cd, sl⟩ => !cd.abstract && !cd.hasDel && (sl.toList[4]?).join == some .none && cd.mro == [.ref C, .type "tuple", .type "object"] && cd.bases == [.type "tuple"] &&
      specialIn K (.ref C) "__call__" == some (some (.builtin "type.__call__")) && instIn K (.ref C) (.type "type") == some true && findIn K (.ref C) "__init__" == some (some (.builtin "object.__init__"))
  | _ => false
structure Nt (M : Model) (h : Heap) (C : Addr) : Prop where
  obj : ∃ oc od cd sl, h.get? C = some ⟨oc, od, .cls cd, sl⟩ ∧ cd.hasDel = false
  mro : Looks M h (mroOf (.ref C)) [.ref C, .type "tuple", .type "object"]
  made : Looks M h (Bind.madeBy (.ref C)) none
  base : Looks M h (Bind.staticBase (.ref C)) (.type "tuple")
  self : Looks M h (isSubtype (.ref C) (.ref C)) true
  tup : Looks M h (isSubtype (.ref C) (.type "tuple")) true
  top : Looks M h (isSubtype (.ref C) (.type "object")) true
  call : Looks M h (specialOf (.ref C) "__call__") (some (.builtin "type.__call__"))
  typ : Looks M h (isInstance (.ref C) (.type "type")) true
  init : Looks M h (typeLookup (.ref C) "__init__") (some (.builtin "object.__init__"))
theorem nt_of {K : Frag} {M : Model} {h : Heap} (X : K.In h) {C : Addr} (e : ntIn K C = true) : Nt M h C := by
  unfold ntIn at e
  split at e
  · rename_i oc od cd sl ho
    simp only [Bool.and_eq_true, Bool.not_eq_true', beq_iff_eq] at e
    obtain ⟨⟨⟨⟨⟨⟨⟨e1, e2⟩, e3⟩, e4⟩, e5⟩, e6⟩, e7⟩, e8⟩ := e
    have hc : clsIn K C = some cd := by unfold clsIn; rw [ho]
    have hm : Looks M h (mroOf (.ref C)) cd.mro := (looks_clsIn X hc).andThen .now
    have made : Looks M h (Bind.madeBy (.ref C)) none := by
      intro A Q E s k q
      unfold Bind.madeBy
      refine wpAny_bind (hm A _ E s k ?_)
      rw [e4, List.forIn_cons]
      refine wpAny_bind (wpAny_bind (wpAny_bind (wpAny_bind (wpAny_loadPart (k _ _ (X _ _ ho)) (wpAny_pure ?_)))))
      dsimp only
      rw [← Array.getElem?_toList, e3]
      exact wpAny_pure (wpAny_pure (wpAny_pure q))
    have best : Builtin.Slots.bestBase [.type "tuple"] = pure (.type "tuple") := by kernel_rfl
    have ms : ∀ b, ([Value.ref C, .type "tuple", .type "object"].contains b) = true → Looks M h (isSubtype (.ref C) b) true := by
      intro b hb
      refine looks_mroIn X ?_
      unfold mroIn; rw [hc, Option.bind_some, if_neg (by rw [e4]; simp), e4, hb]
    refine ⟨⟨oc, od, cd, sl, X _ _ ho, e2⟩, e4 ▸ hm, made, ?_, ms _ (by simp), ms _ (by simp), ms _ (by simp), looks_specialIn X e6, looks_instIn X e7, looks_findIn X e8⟩
    intro A Q E s k q
    unfold Bind.staticBase
    refine wpAny_bind (hm A _ E s k ?_)
    rw [e4, List.forIn_cons]
    refine wpAny_bind (wpAny_bind (wpAny_bind (made A _ E s k ?_)))
    dsimp only [Option.isSome_none, Bool.false_eq_true, if_false]
    rw [if_neg (by decide)]
    refine wpAny_bind ((looks_clsIn X hc) A _ E s k ?_)
    rw [e5, best]
    refine wpAny_bind (wpAny_pure (wpAny_pure ?_))
    dsimp only
    rw [List.forIn_cons]
    refine wpAny_bind (wpAny_bind ?_)
    rw [show Bind.madeBy (.type "tuple") = _ from PySem.F.called_tuple.made]
    exact wpAny_pure (wpAny_pure (wpAny_pure (wpAny_pure q)))
  · cases e
theorem tn_kind : builtinKind "tuple.__new__" = some .builtinFn := by decide +kernel
theorem tn_split : splitId "tuple.__new__" = some ("tuple", "__new__") := by decide +kernel
theorem tn_args (a : Addr) (b : Value) : argsOk "tuple.__new__" ⟨[.ref a, b], []⟩ := by unfold argsOk; kernel_rfl
theorem tnew_plain : plainId "tuple.__new__" = true := by decide +kernel
section
variable {prog : Program} {w : World} {A : Around} {E : Value → Shared → Prop} {s : Shared} {h₀ : Heap} {L C t : Addr} {m : Str → Option Value} {news : List (Addr × Obj)}
theorem tnew_check {t : Value} {Q : Unit → Shared → Prop} {C : Addr} (Y : Nt (model prog w) s.heap C) (q : Q () s) : wpAny (model prog w) A (checkBuiltinCall "tuple.__new__" ⟨[.ref C, t], []⟩) Q E s := by
  obtain ⟨⟨oc, od, cd, sl, hC, e2⟩, mro, made, base, self, tup, top, call, typ, init⟩ := Y
  have ht : Looks (model prog w) s.heap (Bind.madeBy (.type "tuple")) (some "tuple.__new__") := Looks.of_pure PySem.F.called_tuple.made
  have hy : Looks (model prog w) s.heap (isType (.ref C)) true := (Looks.ld hC).andThen .now
  have ha := tn_args C t
  have fin : ∀ r : Sem Unit, r = pure () → wpAny (model prog w) A r Q E s := by intro r e; rw [e]; exact wpAny_pure q
  unfold argsOk at ha
  cases hsig : Manifest.signature? "tuple.__new__" with
  | none =>
    simp only [checkBuiltinCall, tn_kind, tn_split, hsig]
    repeat (first | exact wpAny_pure q | simp only [beq_self_eq_true, if_true, bne_self_eq_false, Bool.not_true, Bool.false_eq_true, if_false] | lk)
  | some sig =>
    rw [hsig] at ha
    simp only [checkBuiltinCall, tn_kind, tn_split, hsig]
    repeat (first | exact fin _ ha | simp only [beq_self_eq_true, if_true, bne_self_eq_false, Bool.not_true, Bool.false_eq_true, if_false] | lk)
theorem tnew {its : Array Value} {Q : Value → Shared → Prop} (F : Fr h₀ L s.heap m) (N : News h₀ L s.heap news) (Y : ∀ h', Fr h₀ L h' m → Nt (model prog w) h' C)
   {o : Obj} (ho : s.heap.get? t = some o) (hc : o.cls = .type "tuple") {n : Nat} (hd : o.data = .seq its n) (hsz : its.size ≤ sizeLine)
   (h : ∀ x dx h', Fr h₀ L h' m → News h₀ L h' ((x, { cls := .ref C, dict := some dx, data := .seq its }) :: (dx, emptyDict) :: news) → (∀ p ∈ news, p.1 < dx) → dx < x → Q (.ref x) { s with heap := h' }) :
   wpAny (model prog w) A (call (.builtin "tuple.__new__") [.ref C, .ref t]) Q E s := by
  refine wpAny_call (codeAny_call_builtin tnew_plain PySem.F.entry_tuple_new (tnew_check (Y _ F) ?_))
  unfold Builtin.«tuple.__new__»
  obtain ⟨⟨oc, od, cd, sl, hC, e2⟩, mro, made, base, self, tup, top, call, typ, init⟩ := Y _ F
  have ht : Looks (model prog w) s.heap (Bind.madeBy (.type "tuple")) (some "tuple.__new__") := Looks.of_pure PySem.F.called_tuple.made
  have hy : Looks (model prog w) s.heap (isType (.ref C)) true := (Looks.ld hC).andThen .now
  have here : Looks (model prog w) s.heap (Bind.madeHere "tuple.__new__" (.ref C)) () := base.andThen (ht.andThen (Looks.of_pure (by simp only [Option.map_some, bne_self_eq_false, Bool.false_eq_true, if_false])))
  obtain ⟨hh, g, d, tk, os⟩ := s
  repeat (first | refine wpAny_bind (wpAny_collect_seq t (.inr rfl) ho hc hd (fun h' hk => ?_) hsz) | simp only [beq_self_eq_true, if_true, bne_self_eq_false, Bool.not_true, Bool.false_eq_true, if_false] | lk)
  have F' : Fr h₀ L h' m := by
    obtain ⟨oL, es, ep, hL, r⟩ := F.ns
    exact ⟨⟨oL, es, ep, hk _ _ hL, r⟩, fun b x q => hk _ _ (F.keep b x q), F.above⟩
  have N' : News h₀ L h' news := fun p hp => ⟨hk _ _ (N p hp).1, (N p hp).2⟩
  have hC' := hk _ _ hC
  rw [if_neg (by simpa using hsz)]
  unfold newObjAsIs classHasDel
  refine wpAny_bind (wpAny_alloc (wpAny_bind (wpAny_bind (wpAny_load (Heap.get?_push_of_some _ (Heap.get?_push_of_some _ hC')) (wpAny_pure ?_)))))
  rw [e2]
  refine wpAny_pure (wpAny_pure ?_)
  have N2 := (N'.push F' emptyDict).push (F'.push _) { cls := .ref C, dict := some h'.objs.size, data := .seq its }
  rw [Heap.size_push] at N2
  have z := h _ h'.objs.size _ ((F'.push emptyDict).push { cls := .ref C, dict := some h'.objs.size, data := .seq its }) N2 (fun p hp => Heap.lt_size (N' p hp).1) (Nat.lt_succ_self _)
  simpa using z
end
end
section
open PySem PySem.W PySem.Calls PyProof.Rows PySem.Builtin
set_option maxRecDepth 100000
set_option maxHeartbeats 4000000
/-- after `__new__` of such a class -/
def NtBack (M : Model) (C : Addr) (R : Result → Shared → Prop) (r : Result) (s' : Shared) : Prop := match r with
  | .ok (.ret v) => (∃ x o, v = .ref x ∧ s'.heap.get? x = some o ∧ o.cls = .ref C) ∧ Nt M s'.heap C ∧ R (.ok (.ret v)) s'
  | .ok _ => False
  | .error e => R (.error e) s'
theorem oi_args' (a : Value) (rest : List Value) : argsOk "object.__init__" ⟨a :: rest, []⟩ := by unfold argsOk; kernel_rfl
section
variable {prog : Program} {w : World} {A : Around} {K : Frag} {C : Addr} {R : Result → Shared → Prop} {s : Shared} {h₀ : Heap} {L : Addr} {m : Str → Option Value} {news : List (Addr × Obj)}
theorem nt_call {rest : List Value} {f p : Addr} {mc : Value} {rs : List Value} (F : Fr h₀ L s.heap m) (X₀ : K.In h₀) (hm : ntIn K C = true) (ht : typeIn K (.ref C) = some mc) (hr : readsIn K C mc = true)
    (e : findCls K (.ref C) mc "__new__" = some (.get (.builtin "staticmethod.__get__") (.ref p) .none (.ref C))) (hp : recIn K p "staticmethod" = some (.ref f :: rs))
    (h : codeAny (model prog w) (A.under (.builtin "type.__call__" ⟨.ref C :: rest, []⟩)) (.call (.ref f) ⟨.ref C :: rest, []⟩) (NtBack (model prog w) C R) { s with toks := s.toks + 1 }) :
    codeAny (model prog w) A (.call (.ref C) ⟨rest, []⟩) R s := by
  obtain ⟨⟨oc, od, cd, sl, hC, e2⟩, mro, made, base, self, tup, top, call, typ, init⟩ := nt_of (M := model prog w) (X₀.keeps F.keep) hm
  refine codeAny_of_tree ?_
  show wpAny _ _ (callAny (.ref C) _) _ _ _
  refine nd_load hC ?_
  show wpAny _ _ (callAny.viaDunder (.ref C) _) _ _ _
  unfold callAny.viaDunder
  refine wpAny_bind (call.at ?_)
  dsimp only
  rw [tc_bind]
  refine wpAny_bind (wpAny_pure (wpAny_bind (wpAny_pure ?_)))
  refine wpAny_pure (a := Fin.again (.call (.builtin "type.__call__") ⟨.ref C :: rest, []⟩)) (And.intro rfl ?_)
  refine codeAny_call_builtin_at (Code.quiet_builtin _ (by decide +kernel)) entry_typeCall (check_slot tc_kind tc_split typ (tc_args _ _ _) ?_)
  unfold Builtin.«type.__call__»
  have hg : ∀ {A' : Around} {E' : Value → Shared → Prop} {Q' : Value → Shared → Prop}, Q' (.ref f) { s with toks := s.toks + 1 } → wpAny (model prog w) A' (getAttr (.ref C) "__new__") Q' E' s := fun q => cls_sm (m := m) F X₀ ht hr e hp rfl q
  repeat (first | simp only [List.isEmpty_cons, Bool.false_eq_true, if_false] | (with_reducible refine wpAny_bind (hg ?_)) | (with_reducible refine hg ?_) | with_reducible refine wpAny_call ?_ | lk)
  refine codeAny_mono h fun r s' z => ?_
  rcases r with e | (v | _ | _ | _) <;> first | exact z | exact z.elim | skip
  obtain ⟨⟨x, o, rfl, hx, hc⟩, Y', z⟩ := z
  obtain ⟨⟨oc, od, cd, sl, hC', e2'⟩, mro', made', base', self', tup', top', call', typ', init'⟩ := Y'
  have t1 : Looks (model prog w) s'.heap (typeOf (.ref x)) (.ref C) := by
    have q := (Looks.ld (M := model prog w) (part := none) hx).andThen (f := fun o => pure o.cls) .now
    rw [hc] at q
    exact q
  have i1 : Looks (model prog w) s'.heap (isInstance (.ref x) (.ref C)) true := t1.andThen self'
  have i2 : Looks (model prog w) s'.heap (isInstance (.ref x) (.type "object")) true := t1.andThen top'
  have b1 : Looks (model prog w) s'.heap (bindSpecial (.builtin "object.__init__") (.ref x)) (.builtin "object.__init__", [.ref x]) := Looks.of_pure (oi_bind (.ref x))
  dsimp only
  refine wpAny_bind (i1.here ?_)
  simp only [Bool.not_true, Bool.false_eq_true, if_false]
  refine wpAny_bind (wpAny_holding ?_)
  refine wpAny_bind (wpAny_bind (t1.here (init'.here (wpAny_holding (wpAny_bind (b1.here ?_))))))
  refine wpAny_bind (wpAny_call (codeAny_call_builtin oi_plain entry_oi (@check_slot (model prog w) _ _ _ "object.__init__" "object" "__init__" (.ref x) rest [] _ oi_kind oi_split i2 (oi_args' (.ref x) rest) ?_)))
  unfold Builtin.«object.__init__»
  have fin : ∀ {Q' : Fin → Shared → Prop} {E' : Value → Shared → Prop} {A' : Around}, Q' (.done (.ret .none)) s' → wpAny (model prog w) A' (ret .none) Q' E' s' := fun q => wpAny_pure q
  dsimp only
  cases rest with
  | nil =>
    try simp only [List.isEmpty_nil, Bool.not_true, Bool.or_self, Bool.false_eq_true, if_false]
    exact fin (wpAny_pure (wpAny_pure z))
  | cons r1 rs =>
    refine wpAny_ite_split (fun _ => ?_) (fun hab => absurd rfl hab)
    refine wpAny_bind (t1.here (wpAny_bind (init'.here ?_)))
    refine wpAny_bind (made'.here ?_)
    simp only [bne_self_eq_false, Bool.false_eq_true, if_false]
    refine wpAny_ite_split (fun hab => absurd hab (by decide)) (fun _ => ?_)
    exact fin (wpAny_pure (wpAny_pure z))
end
end
section
open PySem PySem.W PySem.Calls PyProof.Rows PySem.Builtin PySem.SeqAt
open AutoSeq1 (wpAny_loadPart')
set_option maxRecDepth 100000
set_option maxHeartbeats 4000000
theorem te_kind : builtinKind "tuple.__eq__" = some .slot := by decide +kernel
theorem te_split : splitId "tuple.__eq__" = some ("tuple", "__eq__") := by decide +kernel
theorem tne_kind : builtinKind "tuple.__ne__" = some .slot := by decide +kernel
theorem tne_split : splitId "tuple.__ne__" = some ("tuple", "__ne__") := by decide +kernel
section
variable {prog : Program} {w : World} {A : Around} {E : Value → Shared → Prop} {s : Shared} {h₀ : Heap} {L C a b : Addr} {m : Str → Option Value} {news : List (Addr × Obj)}
theorem rc_ntG {op : CmpOp} {id : String} {Q : Value → Shared → Prop} (hu : A.units < cLine) (ta : Looks (model prog w) s.heap (typeOf (.ref a)) (.ref C)) (tb : Looks (model prog w) s.heap (typeOf (.ref b)) (.ref C))
    (hs : Looks (model prog w) s.heap (typeLookup (.ref C) (cmpInfo op).2.1) (some (.builtin id))) (hbind : bindSpecial (.builtin id) (.ref a) = pure (.builtin id, [.ref a]))
    (h : wpAny (model prog w) A (call (.builtin id) [.ref a, .ref b]) (W.CmpBack Q) E s) : wpAny (model prog w) A (richCompare op (.ref a) (.ref b)) Q E s := by
  have one : wpAny (model prog w) A (tryCompare (.ref a) (cmpInfo op).2.1 (.ref b)) (fun r s' => ∃ v, r = some v ∧ Q v s') E s := by
    unfold tryCompare
    refine wpAny_bind ?_
    simp only [callSpecialIfBound?, bindSpecialIfBound?]
    refine wpAny_holding (wpAny_bind (wpAny_bind (wpAny_bind (ta.here (hs.here ?_)))))
    refine wpAny_bind (wpAny_askSetting (wpAny_ite ?_))
    rw [hbind]
    have fin : wpAny (model prog w) A (call (.builtin id) ([.ref a] ++ [.ref b]) >>= fun v => pure (some v)) (fun r s' => wpAny (model prog w) A (match r with | some .notImplemented | none => pure none | some v => pure (some v)) (fun r s' => ∃ v, r = some v ∧ Q v s') E s') E s := by
      refine wpAny_bind (wpAny_mono h (fun v s' hv => wpAny_pure ?_) fun _ _ h' => h')
      cases v <;> first | exact hv.elim | exact wpAny_pure ⟨_, rfl, hv⟩
    split
    · exact wpAny_bind (wpAny_pure (wpAny_pure fin))
    · exact wpAny_tryCatch (wpAny_bind (wpAny_pure (wpAny_pure fin)))
  unfold richCompare
  simp only [oneThing_ref]
  refine wpAny_holding (wpAny_bind (wpAny_cRoomFor hu ?_))
  refine wpAny_bind (ta.here (wpAny_bind (tb.here ?_)))
  simp only [bne_self_eq_false, Bool.false_eq_true, if_false]
  refine wpAny_bind (wpAny_pure ?_)
  simp only [Bool.false_eq_true, if_false]
  refine wpAny_bind (wpAny_mono one (fun r s' z => ?_) fun _ _ e => e)
  obtain ⟨v, rfl, hq⟩ := z
  exact wpAny_pure hq
theorem nt_eqRun {items items2 : Array Value} {n n2 : Nat} {dd dd2 : Option Addr} {sl sl2 : Array (Option Value)} {e : Nat → Bool} {R : Result → Shared → Prop}
    (ib : Looks (model prog w) s.heap (isInstance (.ref b) (.type "tuple")) true)
    (hl : s.heap.get? a = some { cls := .ref C, dict := dd, data := .seq items n, slots := sl }) (hb : s.heap.get? b = some { cls := .ref C, dict := dd2, data := .seq items2 n2, slots := sl2 }) (hsz : items.size = items2.size)
    (he : ∀ j (h1 : j < items.size) (h2 : j < items2.size), EqAt A.in1 s items[j] items2[j] (e j))
    (hR : R (.ok (.ret (.bool ((List.range items.size).all e)))) s) :
    wpAny (model prog w) A.in1 (Builtin.«tuple.__eq__» ⟨[.ref a, .ref b], []⟩) (fun fin s' => match fin with | .done f => R (.ok f) s' | .again c' => c'.quiet = true ∧ codeAny (model prog w) A c' R s') (fun e s' => R (.error e) s') s := by
  obtain ⟨hp, g, d, tk, os⟩ := s
  unfold Builtin.«tuple.__eq__»
  show wpAny _ _ (slotArgs "__eq__" 1 ⟨[.ref a, .ref b], []⟩ >>= _) _ _ _
  refine wpAny_bind (wpAny_of_eq (a := (Value.ref a, [Value.ref b])) rfl ?_)
  refine wpAny_bind (ib.here ?_)
  have hZ : (items.toList.zip items2.toList).length = items.size := by simp [hsz]
  wp_walk using wpAny_loadPart' hl, wpAny_loadPart' hb, wpAny_forIn_list _ (fun rest b s' => b.1 = none ∧ s' = ⟨hp, g, d, tk, os⟩ ∧ ∃ i, rest = (items.toList.zip items2.toList).drop i ∧
      R (.ok (.ret (.bool (((List.range items.size).drop i).all e)))) ⟨hp, g, d, tk, os⟩) _
  case turn =>
    rintro ⟨y, x⟩ rest b s' ⟨hb', rfl, i, hz, hR⟩
    have hlt : i < (items.toList.zip items2.toList).length := by
      rcases Nat.lt_or_ge i (items.toList.zip items2.toList).length with h' | h'
      · exact h'
      · rw [List.drop_of_length_le h'] at hz; cases hz
    have hm : i < items.size := hZ ▸ hlt
    have h1 : i < items.size := hm
    have h2 : i < items2.size := hsz ▸ hm
    rw [List.drop_eq_getElem_cons hlt] at hz
    injection hz with hyx hrest
    have hy : y = items[i] := by have := congrArg Prod.fst hyx; simpa using this
    have hx : x = items2[i] := by have := congrArg Prod.snd hyx; simpa using this
    subst hy hx
    have hd : (List.range items.size).drop i = i :: (List.range items.size).drop (i + 1) := by simp [List.drop_eq_getElem_cons, hm]
    rw [hd, List.all_cons] at hR
    refine wpAny_bind (he i h1 h2 prog w _ _ ?_)
    cases hy : e i with
    | true =>
      rw [hy] at hR
      wp_walk
      exact ⟨rfl, rfl, i + 1, hrest, by simpa using hR⟩
    | false =>
      rw [hy] at hR
      wp_walk
      show R _ _
      simpa using hR
  case fin =>
    rintro ⟨b1, b2⟩ s' ⟨hb', rfl, i, hz, hR⟩
    simp only at hb'
    subst hb'
    have hge : items.size ≤ i := by
      rcases Nat.lt_or_ge i (items.toList.zip items2.toList).length with h' | h'
      · rw [List.drop_eq_getElem_cons h'] at hz; cases hz
      · exact hZ ▸ h'
    rw [List.drop_of_length_le (by simpa using hge)] at hR
    wp_walk
    show R _ _
    simpa [Builtin.Tuple.tupleCompareSizes, hsz] using hR
  case h =>
    exact ⟨rfl, rfl, 0, rfl, by simpa using hR⟩
theorem nt_neRun {items items2 : Array Value} {n n2 : Nat} {dd dd2 : Option Addr} {sl sl2 : Array (Option Value)} {e : Nat → Bool} {R : Result → Shared → Prop}
    (ib : Looks (model prog w) s.heap (isInstance (.ref b) (.type "tuple")) true)
    (hl : s.heap.get? a = some { cls := .ref C, dict := dd, data := .seq items n, slots := sl }) (hb : s.heap.get? b = some { cls := .ref C, dict := dd2, data := .seq items2 n2, slots := sl2 }) (hsz : items.size = items2.size)
    (he : ∀ j (h1 : j < items.size) (h2 : j < items2.size), EqAt A.in1 s items[j] items2[j] (e j))
    (hR : R (.ok (.ret (.bool (!(List.range items.size).all e)))) s) :
    wpAny (model prog w) A.in1 (Builtin.«tuple.__ne__» ⟨[.ref a, .ref b], []⟩) (fun fin s' => match fin with | .done f => R (.ok f) s' | .again c' => c'.quiet = true ∧ codeAny (model prog w) A c' R s') (fun e s' => R (.error e) s') s := by
  obtain ⟨hp, g, d, tk, os⟩ := s
  unfold Builtin.«tuple.__ne__»
  show wpAny _ _ (slotArgs "__ne__" 1 ⟨[.ref a, .ref b], []⟩ >>= _) _ _ _
  refine wpAny_bind (wpAny_of_eq (a := (Value.ref a, [Value.ref b])) rfl ?_)
  refine wpAny_bind (ib.here ?_)
  have hZ : (items.toList.zip items2.toList).length = items.size := by simp [hsz]
  wp_walk using wpAny_loadPart' hl, wpAny_loadPart' hb, wpAny_forIn_list _ (fun rest b s' => b.1 = none ∧ s' = ⟨hp, g, d, tk, os⟩ ∧ ∃ i, rest = (items.toList.zip items2.toList).drop i ∧
      R (.ok (.ret (.bool (!((List.range items.size).drop i).all e)))) ⟨hp, g, d, tk, os⟩) _
  case turn =>
    rintro ⟨y, x⟩ rest b s' ⟨hb', rfl, i, hz, hR⟩
    have hlt : i < (items.toList.zip items2.toList).length := by
      rcases Nat.lt_or_ge i (items.toList.zip items2.toList).length with h' | h'
      · exact h'
      · rw [List.drop_of_length_le h'] at hz; cases hz
    have hm : i < items.size := hZ ▸ hlt
    have h1 : i < items.size := hm
    have h2 : i < items2.size := hsz ▸ hm
    rw [List.drop_eq_getElem_cons hlt] at hz
    injection hz with hyx hrest
    have hy : y = items[i] := by have := congrArg Prod.fst hyx; simpa using this
    have hx : x = items2[i] := by have := congrArg Prod.snd hyx; simpa using this
    subst hy hx
    have hd : (List.range items.size).drop i = i :: (List.range items.size).drop (i + 1) := by simp [List.drop_eq_getElem_cons, hm]
    rw [hd, List.all_cons] at hR
    refine wpAny_bind (he i h1 h2 prog w _ _ ?_)
    cases hy : e i with
    | true =>
      rw [hy] at hR
      wp_walk
      exact ⟨rfl, rfl, i + 1, hrest, by simpa using hR⟩
    | false =>
      rw [hy] at hR
      wp_walk
      show R _ _
      simpa using hR
  case fin =>
    rintro ⟨b1, b2⟩ s' ⟨hb', rfl, i, hz, hR⟩
    simp only at hb'
    subst hb'
    have hge : items.size ≤ i := by
      rcases Nat.lt_or_ge i (items.toList.zip items2.toList).length with h' | h'
      · rw [List.drop_eq_getElem_cons h'] at hz; cases hz
      · exact hZ ▸ h'
    rw [List.drop_of_length_le (by simpa using hge)] at hR
    wp_walk
    show R _ _
    simpa [Builtin.Tuple.tupleCompareSizes, hsz] using hR
  case h =>
    exact ⟨rfl, rfl, 0, rfl, by simpa using hR⟩
theorem nt_eq {K : Frag} {items items2 : Array Value} {n n2 : Nat} {dd dd2 : Option Addr} {sl sl2 : Array (Option Value)} {e : Nat → Bool} {Q : Value → Shared → Prop}
    (X : K.In s.heap) (hm : ntIn K C = true) (hs : findIn K (.ref C) "__eq__" = some (some (.builtin "tuple.__eq__"))) (hu : A.units < cLine)
    (hl : s.heap.get? a = some { cls := .ref C, dict := dd, data := .seq items n, slots := sl }) (hb : s.heap.get? b = some { cls := .ref C, dict := dd2, data := .seq items2 n2, slots := sl2 }) (hsz : items.size = items2.size)
    (he : ∀ j (h1 : j < items.size) (h2 : j < items2.size), EqAt A.in1 s items[j] items2[j] (e j)) (hQ : Q (.bool ((List.range items.size).all e)) s) :
    wpAny (model prog w) A (richCompare .Eq (.ref a) (.ref b)) Q E s := by
  have Y := nt_of (M := model prog w) X hm
  have ta : Looks (model prog w) s.heap (typeOf (.ref a)) (.ref C) := (Looks.ld hl).andThen .now
  have tb : Looks (model prog w) s.heap (typeOf (.ref b)) (.ref C) := (Looks.ld hb).andThen .now
  refine rc_ntG (op := .Eq) (id := "tuple.__eq__") hu ta tb (looks_findIn X hs) (F.slot_tuple_eq.bind _) ?_
  refine wpAny_call (codeAny_call_builtin F.slot_tuple_eq.plain F.entry_tuple_eq (@check_slot (model prog w) _ _ s "tuple.__eq__" "tuple" "__eq__" (.ref a) [.ref b] [] _ te_kind te_split (ta.andThen Y.tup) (F.args_tuple_eq_2 _ _) ?_))
  refine nt_eqRun (R := fun r s' => match r with | .ok (.ret v) => W.CmpBack Q v s' | .ok _ => False | .error e => E e s') (tb.andThen Y.tup) hl hb hsz he ?_
  exact hQ
theorem nt_ne {K : Frag} {items items2 : Array Value} {n n2 : Nat} {dd dd2 : Option Addr} {sl sl2 : Array (Option Value)} {e : Nat → Bool} {Q : Value → Shared → Prop}
    (X : K.In s.heap) (hm : ntIn K C = true) (hs : findIn K (.ref C) "__ne__" = some (some (.builtin "tuple.__ne__"))) (hu : A.units < cLine)
    (hl : s.heap.get? a = some { cls := .ref C, dict := dd, data := .seq items n, slots := sl }) (hb : s.heap.get? b = some { cls := .ref C, dict := dd2, data := .seq items2 n2, slots := sl2 }) (hsz : items.size = items2.size)
    (he : ∀ j (h1 : j < items.size) (h2 : j < items2.size), EqAt A.in1 s items[j] items2[j] (e j)) (hQ : Q (.bool (!(List.range items.size).all e)) s) :
    wpAny (model prog w) A (richCompare .NotEq (.ref a) (.ref b)) Q E s := by
  have Y := nt_of (M := model prog w) X hm
  have ta : Looks (model prog w) s.heap (typeOf (.ref a)) (.ref C) := (Looks.ld hl).andThen .now
  have tb : Looks (model prog w) s.heap (typeOf (.ref b)) (.ref C) := (Looks.ld hb).andThen .now
  refine rc_ntG (op := .NotEq) (id := "tuple.__ne__") hu ta tb (looks_findIn X hs) (F.slot_tuple_ne.bind _) ?_
  refine wpAny_call (codeAny_call_builtin F.slot_tuple_ne.plain F.entry_tuple_ne (@check_slot (model prog w) _ _ s "tuple.__ne__" "tuple" "__ne__" (.ref a) [.ref b] [] _ tne_kind tne_split (ta.andThen Y.tup) (F.args_tuple_ne_2 _ _) ?_))
  refine nt_neRun (R := fun r s' => match r with | .ok (.ret v) => W.CmpBack Q v s' | .ok _ => False | .error e => E e s') (tb.andThen Y.tup) hl hb hsz he ?_
  exact hQ
theorem nt_rc {K : Frag} {items items2 : Array Value} {n n2 : Nat} {dd dd2 : Option Addr} {sl sl2 : Array (Option Value)} {e : Nat → Bool}
    (X : K.In s.heap) (hm : ntIn K C = true) (hs : findIn K (.ref C) "__eq__" = some (some (.builtin "tuple.__eq__"))) (hu : A.units < cLine)
    (hl : s.heap.get? a = some { cls := .ref C, dict := dd, data := .seq items n, slots := sl }) (hb : s.heap.get? b = some { cls := .ref C, dict := dd2, data := .seq items2 n2, slots := sl2 }) (hsz : items.size = items2.size)
    (he : ∀ j (h1 : j < items.size) (h2 : j < items2.size), EqAt A.in1 s items[j] items2[j] (e j)) : RcAt A s (.ref a) (.ref b) ((List.range items.size).all e) := fun _ _ _ _ hQ => nt_eq X hm hs hu hl hb hsz he hQ
end
end
section
open PySem PySem.W PySem.Calls PyProof.Rows PySem.Builtin PySem.SeqAt
open AutoSeq1 (wpAny_loadPart')
open MeetsSeq MeetsSeq2 MeetsSeq3 SeqRoads2
set_option maxRecDepth 100000
set_option maxHeartbeats 4000000
section
variable {prog : Program} {w : World}
theorem contains_loopC {l : Addr} {items : Array Value} {n : Nat} {dd : Option Addr} {sl : Array (Option Value)} {x : Value} (e : Value → Bool) (I : Shared → Prop)
    (hI : ∀ s, I s → s.heap.get? l = some { cls := .type "list", dict := dd, data := .seq items n, slots := sl }) (k : Nat) :
    ∀ i : Nat, items.size - i = k → MeetsIn prog w (Builtin.«list.__contains__.loop» ⟨[.ref l, x, rawInt i], []⟩)
      (fun A R s => I s ∧ (∀ y, y ∈ items → ∀ s', I s' → ∀ Q E, (∀ s'', I s'' → Q (e y) s'') → wpAny (model prog w) A.in1 (eqBool y x) Q E s') ∧ ∀ s', I s' → R (.ok (.ret (.bool ((items.toList.drop i).any e)))) s') := by
  induction k with
  | zero =>
    intro i hk A R s h
    obtain ⟨hIs, he, h⟩ := h
    have hl := hI s hIs
    have h' := h s hIs
    obtain ⟨hp, g, d, tk, os⟩ := s
    wp_walk using wpAny_loadPart' hl
    have hi : items[((i : Nat) : Int).toNat]? = none := by simp; omega
    have hd : items.toList.drop i = [] := by simp; omega
    rw [hd] at h'
    rw [hi]
    wp_walk
    exact h'
  | succ k ih =>
    intro i hk A R s h
    obtain ⟨hIs, he, h⟩ := h
    have hl := hI s hIs
    obtain ⟨hp, g, d, tk, os⟩ := s
    wp_walk using wpAny_loadPart' hl
    have hlt : i < items.size := by omega
    have hi : items[((i : Nat) : Int).toNat]? = some items[i] := by simp [hlt]
    have hd : items.toList.drop i = items[i] :: items.toList.drop (i + 1) := by simp [List.drop_eq_getElem_cons, hlt]
    rw [hd, List.any_cons] at h
    rw [hi]
    refine wpAny_bind (he _ (Array.getElem_mem hlt) _ hIs _ _ fun s'' hI'' => ?_)
    have h2 := h s'' hI''
    have hl2 := hI s'' hI''
    cases hb : e items[i] with
    | true =>
      rw [hb] at h2
      obtain ⟨hp, g, d, tk, os⟩ := s''
      wp_walk
      exact h2
    | false =>
      rw [hb] at h
      have hc : ((i : Int) + 1) = ((i + 1 : Nat) : Int) := by push_cast; rfl
      obtain ⟨hp, g, d, tk, os⟩ := s''
      wp_walk
      rw [hc]
      exact ⟨plainId_quiet plain_contains_loop _, codeAny_builtin entry_contains_loop (by
        rw [Around.under_plainId plain_contains_loop _]
        exact ih (i + 1) (by omega) A R _ ⟨hI'', he, by simpa using h⟩)⟩
theorem list_containsC {l : Addr} {items : Array Value} {n : Nat} {dd : Option Addr} {sl : Array (Option Value)} {x : Value} (e : Value → Bool) (I : Shared → Prop)
    (hI : ∀ s, I s → s.heap.get? l = some { cls := .type "list", dict := dd, data := .seq items n, slots := sl }) :
    MeetsIn prog w (Builtin.«list.__contains__» ⟨[.ref l, x], []⟩)
      (fun A R s => I s ∧ (∀ y, y ∈ items → ∀ s', I s' → ∀ Q E, (∀ s'', I s'' → Q (e y) s'') → wpAny (model prog w) A.in1 (eqBool y x) Q E s') ∧ ∀ s', I s' → R (.ok (.ret (.bool (items.any e)))) s') := by
  intro A R s h
  obtain ⟨hIs, he, h⟩ := h
  have hl := hI s hIs
  obtain ⟨hp, g, d, tk, os⟩ := s
  wp_walk using wpAny_loadPart' hl
  exact ⟨plainId_quiet plain_contains_loop _, codeAny_builtin entry_contains_loop (by
    rw [Around.under_plainId plain_contains_loop _]
    exact contains_loopC e I hI _ 0 rfl A R _ ⟨hIs, he, by simpa using h⟩)⟩
variable {A : Around} {E : Value → Shared → Prop} {s : Shared} {h₀ : Heap} {L l : Addr} {m : Str → Option Value} {news : List (Addr × Obj)}
/-- `x not in l` where the items' own equality is called: what stood stays -/
theorem notIn_C {items : Array Value} {n : Nat} {x : Value} {Q : Value → Shared → Prop} (e : Value → Bool) (I : Shared → Prop) (hs : I s)
    (hI : ∀ s, I s → s.heap.get? l = some (listOf items n))
    (he : ∀ y, y ∈ items → ∀ s', I s' → ∀ Q E, (∀ s'', I s'' → Q (e y) s'') → wpAny (model prog w) A.in1 (eqBool y x) Q E s')
    (h : ∀ s', I s' → Q (.bool (!items.any e)) s') : wpAny (model prog w) A (compareOp .NotIn x (.ref l)) Q E s := by
  show wpAny _ A (do return .bool (!(← contains (.ref l) x))) Q E s
  refine wpAny_bind (wpAny_contains_slot ⟨_, hI s hs, rfl⟩ F.slot_list_contains (call_meetsIn F.slot_list_contains ⟨_, hI s hs, rfl⟩ F.entry_list_contains (F.args_list_contains_2 _ _) (list_containsC e I (fun s h => hI s h)) ⟨hs, he, fun s' hs' => ?_⟩))
  exact wpAny_truthy_bool (wpAny_pure (h s' hs'))
end
section
variable {A : Around} {s : Shared}
theorem eqAt_bytes (b c : Array UInt8) (t u : Tok) : EqAt A s (.bytes b t) (.bytes c u) (b.toList == c.toList) := fun prog w E Q h => by
  unfold eqBool
  refine wpAny_holding ?_
  refine wpAny_ite_split (fun hab => ?_) (fun _ => ?_)
  · have e : b = c := by have := eq_of_beq hab; injection this
    subst e
    exact wpAny_bind (wpAny_rule (wpAny_pure (by simpa using h)))
  · exact wpAny_bind (show wpAny _ _ (compareOp .Eq (.bytes b t) (.bytes c u)) _ _ _ from eq_bytes (wpAny_truthy_bool h))
end
end
section
open PySem PySem.W PyProof.Rows PySem.Spec PySem.Calls
set_option maxRecDepth 100000
set_option maxHeartbeats 4000000
/-- room -/
theorem dep {x k R : Nat} (h : x + k < R) (j : Nat) (hj : j ≤ k) : x + j < R := Nat.lt_of_le_of_lt (Nat.add_le_add_left hj x) h
theorem sub_step {n i k : Nat} (h : n - i = k + 1) : n - (i + 1) = k := by rw [← Nat.sub_sub, h]; rfl
theorem sub_dec {n i : Nat} (h : i < n) : n + 1 - (i + 1) < n + 1 - i := Nat.sub_lt_sub_left (Nat.lt_succ_of_lt h) (Nat.lt_succ_self i)
theorem lt_of_sub {n i k : Nat} (h : n - i = k + 1) : i < n := Nat.lt_of_sub_pos (by rw [h]; exact Nat.succ_pos k)
theorem eq_of_sub {n i : Nat} (h : n - i = 0) (hi : i ≤ n) : i = n := Nat.le_antisymm hi (Nat.le_of_sub_eq_zero h)
theorem sub_last {n i k : Nat} (h : n - i = k + 1) (hi : i < n) : n - 1 - k = i := by
  have e : k = n - i - 1 := by rw [h]; rfl
  rw [e, Nat.sub_sub n i 1, Nat.sub_sub, Nat.add_comm 1, ← Nat.sub_add_comm hi, Nat.add_sub_add_right, Nat.sub_sub_self (Nat.le_of_lt hi)]
theorem fit63 {n k : Nat} (h : n ≤ k) (hk : (k : Int) < 2 ^ 63) : (n : Int) < 2 ^ 63 := Int.lt_of_le_of_lt (Int.ofNat_le.mpr h) hk
/-- names bound, written as a list -/
def mp : List (Str × Option Value) → Str → Option Value
  | [], _ => none
  | (k, v) :: r, y => if y = k then v else mp r y
theorem mp_canon_at (ns : List Str) : ∀ (bs : List (Str × Option Value)) (y : Str), (bs.all fun p => ns.contains p.1) = true → mp bs y = mp (ns.map fun k => (k, mp bs k)) y := by
  intro bs y hb
  have key : ∀ (f : Str → Option Value) (l : List Str), mp (l.map fun k => (k, f k)) y = if y ∈ l then f y else none := by
    intro f l
    induction l with
    | nil => rfl
    | cons k r ih =>
      show (if y = k then f k else mp (r.map fun k => (k, f k)) y) = _
      rw [ih]
      by_cases h : y = k
      · subst h; simp
      · simp [h]
  rw [key]
  split
  · rfl
  · rename_i hn
    induction bs with
    | nil => rfl
    | cons q r ih =>
      obtain ⟨k, v⟩ := q
      rw [List.all_cons, Bool.and_eq_true] at hb
      show (if y = k then v else mp r y) = none
      rw [if_neg, ih hb.2]
      rintro rfl
      exact hn (List.contains_iff_mem.mp hb.1)
theorem mp_canon (ns : List Str) (bs : List (Str × Option Value)) (h : (bs.all fun p => ns.contains p.1) = true) : mp bs = mp (ns.map fun k => (k, mp bs k)) := funext fun y => mp_canon_at ns bs y h
theorem lookup_mp : ∀ bs : List (Str × Value), (fun y => List.lookup y bs) = mp (bs.map fun p => (p.1, some p.2))
  | [] => rfl
  | (k, v) :: r => by
    funext y
    have ih := congrFun (lookup_mp r) y
    show List.lookup y ((k, v) :: r) = (if y = k then some v else mp (r.map fun p => (p.1, some p.2)) y)
    rw [List.lookup_cons, ← ih]
    by_cases h : y = k
    · rw [if_pos h, h, beq_self_eq_true]
    · rw [if_neg h, beq_eq_false_iff_ne.mpr h]
theorem fr_lookup {h₀ h : Heap} {L : Addr} {bs : List (Str × Value)} (F : Fr h₀ L h (fun y => List.lookup y bs)) : Fr h₀ L h (mp (bs.map fun p => (p.1, some p.2))) := by
  rw [← lookup_mp]; exact F
theorem storeM {M : Model} {A : Around} {E : Value → Shared → Prop} {s : Shared} {h₀ : Heap} {L a : Addr} {cn : Str} {cs : Scope} {ccd : Value} {cl : List (Str × Addr)} {x : Str} {v : Value} {Q : Unit → Shared → Prop} {news : List (Addr × Obj)} {ms : List (Str × Option Value)}
    (F : Fr h₀ L s.heap (mp ms)) (N : News h₀ L s.heap news) (h : ∀ h' tk', Fr h₀ L h' (mp ((x, some v) :: ms)) → News h₀ L h' news → Q () { s with heap := h', toks := tk' })
    (hk : cs.kind = .function := by rfl) (hx : (envX cn cs L a ccd cl).kindOf x = some .local := by rfl) : wpAny M A (storeName (envX cn cs L a ccd cl) x v) Q E s := storeX_L F N (fun h' => h h' _) hk hx
theorem ltAll_ne {d : Addr} {l : List (Addr × Obj)} (h : ∀ p ∈ l, p.1 < d) : ∀ p ∈ l, p.1 ≠ d := fun p hp => Nat.ne_of_lt (h p hp)
theorem allLt_all {d : Addr} {l : List (Addr × Obj)} (h : AllLt d l) : ∀ p ∈ l, p.1 ≠ d := by
  induction l with
  | nil => intro p hp; cases hp
  | cons q r ih =>
    intro p hp
    rcases List.mem_cons.mp hp with rfl | hp
    · exact Nat.ne_of_lt h.1
    · exact ih h.2 p hp
theorem ltAll_ne1 {d : Addr} {l : List (Addr × Obj)} (h : ∀ p ∈ l, p.1 < d) : ∀ p ∈ l, p.1 ≠ d + 1 := fun p hp => Nat.ne_of_lt (Nat.lt_succ_of_lt (h p hp))
theorem allLt_all1 {d : Addr} {l : List (Addr × Obj)} (h : AllLt d l) : ∀ p ∈ l, p.1 ≠ d + 1 := by
  induction l with
  | nil => intro p hp; cases hp
  | cons q r ih =>
    intro p hp
    rcases List.mem_cons.mp hp with rfl | hp
    · exact Nat.ne_of_lt (Nat.lt_succ_of_lt h.1)
    · exact ih h.2 p hp
theorem ltAll_le {d e : Addr} {l : List (Addr × Obj)} (h : ∀ p ∈ l, p.1 < d) (hd : @LE.le Nat instLENat d e) : ∀ p ∈ l, p.1 ≠ e := fun p hp => Nat.ne_of_lt (Nat.lt_of_lt_of_le (h p hp) hd)
theorem allLt_le {d e : Addr} {l : List (Addr × Obj)} (h : AllLt d l) (hd : @LE.le Nat instLENat d e) : ∀ p ∈ l, p.1 ≠ e := by
  induction l with
  | nil => intro p hp; cases hp
  | cons q r ih =>
    intro p hp
    rcases List.mem_cons.mp hp with rfl | hp
    · exact Nat.ne_of_lt (Nat.lt_of_lt_of_le h.1 hd)
    · exact ih h.2 p hp
theorem ledL {h₀ h : Heap} {L l : Addr} {news : List (Addr × Obj)} {items : Array Value} {n : Nat} (N : News h₀ L h news) (hm : (l, listOf items n) ∈ news) : h.IsList l items := News.isList N hm
theorem letA {α : Type} {M : Model} {A : Around} {t : Sem α} {Q : α → Shared → Prop} {E : Value → Shared → Prop} {s : Shared} (h : let A' := A; wpAny M A' t Q E s) : wpAny M A t Q E s := h
theorem hideHd {h₀ h : Heap} {L D : Addr} {o : Obj} {news : List (Addr × Obj)} {C : Prop} (N : News h₀ L h ((D, o) :: news)) (k : ∀ G, G = o → News h₀ L h ((D, G) :: news) → C) : C := k o rfl N
theorem wp_toks {α : Type} {M : Model} {A : Around} {t : Sem α} {Q : α → Shared → Prop} {E : Value → Shared → Prop} {h : Heap} {g : Array GenState} {d : Drawn} {tk : Nat} {os : OsState}
    (H : ∀ tk, wpAny M A t Q E ⟨h, g, d, tk, os⟩) : wpAny M A t Q E ⟨h, g, d, tk, os⟩ := H tk
inductive TurnEnd (h₀ : Heap) (L : Addr) (wr : List Addr) (own : List (Addr × Obj)) (Jn : (Str → Option Value) → List (Addr × Obj) → Array GenState → Prop) (d : Drawn) (os : OsState) (s₃ : Shared) : Prop
  | mk (h' : _) (tk : _) (g' : _) (m' : _) (nx : _) (news' : _)
    (c0 : s₃ = ⟨h', g', d, tk, os⟩)
    (c1 : Fr h₀ L h' m')
    (c2 : News h₀ L h' nx)
    (c3 : (∀ p ∈ own, p ∈ nx))
    (c4 : (∀ p ∈ news', p ∈ nx))
    (c5 : (∀ p ∈ news', p.1 ∉ wr))
    (c6 : Jn m' news' g')
def TurnPost (h₀ : Heap) (L : Addr) (wr : List Addr) (own : List (Addr × Obj)) (Jn : (Str → Option Value) → List (Addr × Obj) → Array GenState → Prop) (s : Shared) (Q : Flow → Shared → Prop) (f : Flow) (s₃ : Shared) : Prop :=
  match f with
  | .ret v => Q (.ret v) s₃
  | .brk => Q .next s₃
  | _ => TurnEnd h₀ L wr own Jn s.drawn s.os s₃
def LoopPost (prog : Program) (w : World) (A : Around) (env : Env) (x : Str) (px : Pos) (body : List Stmt) (Q : Flow → Shared → Prop) (E : Value → Shared → Prop) (it : Value) (s₂ : Shared) : Prop :=
  codeAny (model prog w) A (.forLoop (.Name x px) it body [] env) (fun r s' => match r with | .ok f => Q f s' | .error e => cameBackBy (model prog w) A env E e s') s₂
theorem For_ {prog : Program} {w : World} {A : Around} {E : Value → Shared → Prop} {s : Shared} {env : Env} {x : Str} {px pos : Pos} {iter : Expr} {body : List Stmt} {Q : Flow → Shared → Prop}
    (h : wpAny (model prog w) A (eval iter env) (fun xv s₁ => wpAny (model prog w) A (pyIter xv) (LoopPost prog w A env x px body Q E) E s₁) E s)
    (hs : ∀ x, foldedSetIterable iter env x = pure x := by intro _; rfl) :
    wpAny (model prog w) A (exec (.For (.Name x px) iter body [] pos) env) Q E s := wpAny_For h hs
inductive LedSt (St : Nat → Heap → Prop) (h₀ : Heap) (L : Addr) (wr : List Addr) (n : Nat) (J : Nat → (Str → Option Value) → List (Addr × Obj) → Array GenState → Prop) (s : Shared) (k : Nat) (s' : Shared) : Prop
  | mk (h' : Heap) (tk : Nat) (g' : Array GenState) (m' : Str → Option Value) (news' : List (Addr × Obj)) (i : Nat)
    (c0 : s' = ⟨h', g', s.drawn, tk, s.os⟩) (c1 : St i h') (c2 : Fr h₀ L h' m') (c3 : News h₀ L h' news') (c4 : ∀ p ∈ news', p.1 ∉ wr) (c5 : J i m' news' g') (c6 : i ≤ n) (c7 : k = n + 1 - i)
section
variable {prog : Program} {w : World} {A : Around} {E : Value → Shared → Prop} {s : Shared} {env : Env} {h₀ : Heap} {x : Str} {px : Pos} {body : List Stmt} {Q : Flow → Shared → Prop}
  {I : Addr} {fp wr : List Addr} {n : Nat} {P : Nat → Value → Prop} {St : Nat → Heap → Prop} {m : Str → Option Value} {news : List (Addr × Obj)}
theorem for_led (W : Walks prog w A I fp wr n P St) (hx : env.kindOf x = some .local)
    (hp : (env.scope.kind == .class || (env.scope.kind == .module && env.locals != env.globals)) = false)
    (hE : PassesOwn (model prog w) A env E)
    (hLf : env.locals ∉ fp) (hwr : ∀ b ∈ wr, h₀.get? b = none) (hnw : ∀ p ∈ news, p.1 ∉ wr)
    (hst : St 0 s.heap) (F : Fr h₀ env.locals s.heap m) (N : News h₀ env.locals s.heap news)
    (J : Nat → (Str → Option Value) → List (Addr × Obj) → Array GenState → Prop) (h0 : J 0 m news s.gens)
    (turn : ∀ i v m₁ news₁ g₁ own h tk, i < n → P i v → J i m₁ news₁ g₁ → (∀ p ∈ news₁, p.1 ∉ wr) → (∀ p ∈ own, p.1 ∈ fp) →
      Fr h₀ env.locals h (fun y => if y = x then some v else m₁ y) → News h₀ env.locals h (own ++ news₁) →
      wpAny (model prog w) A (execs body env) (TurnPost h₀ env.locals wr own (J (i + 1)) s Q) E ⟨h, g₁, s.drawn, tk, s.os⟩)
    (done : ∀ m' news' g' h' tk, J n m' news' g' → Fr h₀ env.locals h' m' → News h₀ env.locals h' news' → Q .next ⟨h', g', s.drawn, tk, s.os⟩) :
    codeAny (model prog w) A (.forLoop (.Name x px) (.ref I) body [] env) (fun r s' => match r with | .ok f => Q f s' | .error e => cameBackBy (model prog w) A env E e s') s := by
  have hLw : env.locals ∉ wr := fun h => hLf (W.sub _ h)
  have old : ∀ b o, h₀.get? b = some o → b ∉ wr := fun b o e hb => by rw [hwr b hb] at e; cases e
  refine codeAny_forLoop_any
    (LedSt St h₀ env.locals wr n J s) ?_ (n + 1)
    ⟨s.heap, s.toks, s.gens, m, news, 0, rfl, hst, F, N, hnw, h0, Nat.zero_le _, rfl⟩
  rintro k s' ⟨h', tk, g', m', news', i, rfl, hst', F', N', hnw', hJ, hi, rfl⟩
  have next : ∀ h₁ : Heap, (∀ b o, b ∉ wr → h'.get? b = some o → h₁.get? b = some o) → Fr h₀ env.locals h₁ m' ∧ News h₀ env.locals h₁ news' := fun h₁ hk₁ =>
    ⟨⟨F'.ns.at' fun o e => hk₁ _ o hLw e, fun b o e => hk₁ b o (old b o e) (F'.keep b o e), F'.above⟩, fun p hp => ⟨hk₁ _ _ (hnw' p hp) (N' p hp).1, (N' p hp).2⟩⟩
  by_cases hlt : i < n
  · refine W.item i _ _ _ hlt hst' fun v h₁ tk₁ hP hst₁ hk₁ => ?_
    obtain ⟨F₁, N₁⟩ := next h₁ hk₁
    show wpAny _ _ (letOwnedTupleGo (.Name x px) (.ref I) v) _ _ _
    unfold letOwnedTupleGo
    refine wpAny_pure ?_
    refine wpAny_assign_Name (wpAny_storeName_local hx F₁.ns (fun h₂ hn₂ hs₂ => ?_) hp)
    have F₂ := F₁.set hn₂ hs₂
    have Nown : News h₀ env.locals h₂ (ownOf h₀ fp h₂) := news_ownOf hLf
    refine wpAny_passesOwn hE (wpAny_mono (turn i v m' news' g' (ownOf h₀ fp h₂) h₂ _ hlt hP hJ hnw' ownOf_sub F₂ (Nown.append (N₁.set hs₂))) (fun f s₃ h₃ => ?_) fun _ _ e => e)
    have key : TurnEnd h₀ env.locals wr (ownOf h₀ fp h₂) (J (i + 1)) s.drawn s.os s₃ → ∃ m, m < n + 1 - i ∧ LedSt St h₀ env.locals wr n J s m s₃ := by
      rintro ⟨h₃', tk₃, g₃, m₂, nx, news₂, rfl, F₃, N₃, ho, hn, ha₃, hJ₃⟩
      refine ⟨n + 1 - (i + 1), sub_dec hlt, h₃', tk₃, g₃, m₂, news₂, i + 1, rfl, ?_, F₃, fun p hp => N₃ p (hn p hp), ha₃, hJ₃, hlt, rfl⟩
      refine W.frame _ _ _ hst₁ fun b hb o e => ?_
      have e₂ : h₂.get? b = some o := (hs₂.2 b fun q => hLf (q ▸ hb)).trans e
      cases hn : h₀.get? b with
      | some o₀ =>
        have : o₀ = o := by have := F₂.keep b o₀ hn; rw [e₂] at this; exact (Option.some.inj this).symm
        exact this ▸ F₃.keep b o₀ hn
      | none => exact (N₃ _ (ho _ (mem_ownOf hb hn e₂))).1
    cases f with
    | ret v => exact h₃
    | brk => exact h₃
    | cont => exact key h₃
    | next => exact key h₃
  · have hin : i = n := Nat.le_antisymm hi (Nat.not_lt.mp hlt)
    subst hin
    refine W.done _ _ _ hst' fun h₁ tk₁ hk₁ => wpAny_execs_nil ?_
    obtain ⟨F₁, N₁⟩ := next h₁ hk₁
    exact done m' news' g' h₁ tk₁ hJ F₁ N₁
/-- a list of the ledger or of the base, walked -/
theorem for_list {l : Addr} {vs : List Value} (hh : A.handled = none) (hl : s.heap.IsList l vs.toArray) (hlL : l ≠ env.locals) (hx : env.kindOf x = some .local)
    (hp : (env.scope.kind == .class || (env.scope.kind == .module && env.locals != env.globals)) = false)
    (hE : PassesOwn (model prog w) A env E)
    (F : Fr h₀ env.locals s.heap m) (N : News h₀ env.locals s.heap news)
    (J : Nat → (Str → Option Value) → List (Addr × Obj) → Array GenState → Prop) (h0 : J 0 m news s.gens)
    (turn : ∀ I i v m₁ news₁ g₁ own h tk, vs[i]? = some v → J i m₁ news₁ g₁ → (∀ p ∈ news₁, p.1 ∉ [I]) → (∀ p ∈ own, p.1 ∈ [I, l]) →
      Fr h₀ env.locals h (fun y => if y = x then some v else m₁ y) → News h₀ env.locals h (own ++ news₁) →
      wpAny (model prog w) A (execs body env) (TurnPost h₀ env.locals [I] own (J (i + 1)) s Q) E ⟨h, g₁, s.drawn, tk, s.os⟩)
    (done : ∀ m' news' g' h' tk, J vs.length m' news' g' → Fr h₀ env.locals h' m' → News h₀ env.locals h' news' → Q .next ⟨h', g', s.drawn, tk, s.os⟩) :
    wpAny (model prog w) A (pyIter (.ref l)) (LoopPost prog w A env x px body Q E) E s := by
  obtain ⟨ol, hol, _⟩ := id hl
  have hne : l ≠ s.heap.objs.size := Nat.ne_of_lt (Heap.lt_size hol)
  refine wpAny_pyIter_list hl ?_
  have W := Walks.list (prog := prog) (w := w) hh s.heap.objs.size l hne vs.toArray
  refine for_led (s := { s with heap := s.heap.push { cls := .type "list_iterator", data := .fields #[.ref l, .int 0 0] } }) W hx hp hE ?_ ?_ ?_
    ⟨⟨_, Heap.get?_push_size _ rfl, rfl, rfl⟩, hl.push _⟩ (F.push _) (fun p hp => ⟨Heap.get?_push_of_some _ (N p hp).1, (N p hp).2⟩) J h0 ?_ ?_
  · intro hm
    rcases List.mem_cons.mp hm with e | hm
    · exact absurd F.ns.lt (e ▸ Nat.lt_irrefl _)
    · exact hlL (List.mem_singleton.mp hm).symm
  · intro b hb
    rw [List.mem_singleton.mp hb]
    exact next_is_new F
  · intro p hp hI
    exact absurd (Heap.lt_size (N p hp).1) ((List.mem_singleton.mp hI) ▸ Nat.lt_irrefl _)
  · intro i v m₁ news₁ g₁ own h tk hi hP hJ hnw ho F₁ N₁
    exact turn _ i v m₁ news₁ g₁ own h tk (by simpa using hP) hJ hnw ho F₁ N₁
  · intro m' news' g' h' tk hJ F₁ N₁
    exact done m' news' g' h' tk (by simpa using hJ) F₁ N₁
/-- a range by ones, walked -/
theorem for_range {r : Addr} {a₀ b₀ : Int} {t₀ u₀ v₀ : Tok} {n : Nat} (hh : A.handled = none) (hr : IsRange s.heap r a₀ b₀ 1 t₀ u₀ v₀) (hsmall : Builtin.Range.small a₀ b₀ 1 = true) (hn : Builtin.Range.rangeSize a₀ b₀ 1 = (n : Int))
    (hx : env.kindOf x = some .local)
    (hp : (env.scope.kind == .class || (env.scope.kind == .module && env.locals != env.globals)) = false)
    (hE : PassesOwn (model prog w) A env E)
    (F : Fr h₀ env.locals s.heap m) (N : News h₀ env.locals s.heap news)
    (J : Nat → (Str → Option Value) → List (Addr × Obj) → Array GenState → Prop) (h0 : J 0 m news s.gens)
    (turn : ∀ I i t m₁ news₁ g₁ own h tk, i < n → J i m₁ news₁ g₁ → (∀ p ∈ news₁, p.1 ∉ [I]) → (∀ p ∈ own, p.1 ∈ [I]) →
      Fr h₀ env.locals h (fun y => if y = x then some (.int (a₀ + (i : Int)) t) else m₁ y) → News h₀ env.locals h (own ++ news₁) →
      wpAny (model prog w) A (execs body env) (TurnPost h₀ env.locals [I] own (J (i + 1)) s Q) E ⟨h, g₁, s.drawn, tk, s.os⟩)
    (done : ∀ m' news' g' h' tk, J n m' news' g' → Fr h₀ env.locals h' m' → News h₀ env.locals h' news' → Q .next ⟨h', g', s.drawn, tk, s.os⟩) :
    wpAny (model prog w) A (pyIter (.ref r)) (LoopPost prog w A env x px body Q E) E s := by
  refine wpAny_pyIter_range hr hsmall ?_
  have W : Walks prog w A s.heap.objs.size [s.heap.objs.size] [s.heap.objs.size] n (fun i v => ∃ t, v = .int (a₀ + i * 1) t)
      (fun i h => IsRangeIter h s.heap.objs.size (a₀ + (i : Nat) * 1) ((n : Int) - (i : Nat)) 1) := Walks.range hh _ a₀ 1 n
  refine for_led (s := { s with heap := s.heap.push { cls := .type "range_iterator", data := .fields #[rawInt a₀, rawInt (Builtin.Range.rangeSize a₀ b₀ 1), rawInt 1] } }) W hx hp hE ?_ ?_ ?_
    (by show IsRangeIter _ _ _ _ _; rw [hn]; simpa using Heap.get?_push_size _ rfl) (F.push _) (fun p hp => ⟨Heap.get?_push_of_some _ (N p hp).1, (N p hp).2⟩) J h0 ?_ ?_
  · intro hm
    exact absurd F.ns.lt ((List.mem_singleton.mp hm) ▸ Nat.lt_irrefl _)
  · intro b hb
    rw [List.mem_singleton.mp hb]
    exact next_is_new F
  · intro p hp hI
    exact absurd (Heap.lt_size (N p hp).1) ((List.mem_singleton.mp hI) ▸ Nat.lt_irrefl _)
  · rintro i v m₁ news₁ g₁ own h tk hi ⟨t, rfl⟩ hJ hnw ho F₁ N₁
    have e1 : a₀ + (i : Int) * 1 = a₀ + (i : Int) := by rw [Int.mul_one]
    rw [e1] at F₁
    exact turn _ i t m₁ news₁ g₁ own h tk hi hJ hnw ho F₁ N₁
  · intro m' news' g' h' tk hJ F₁ N₁
    exact done m' news' g' h' tk hJ F₁ N₁
inductive TurnKE (h₀ : Heap) (L : Addr) (need : List (Addr × Obj)) (Jn : (Str → Option Value) → Prop) (g : Array GenState) (d : Drawn) (os : OsState) (s₃ : Shared) : Prop
  | mk (h' : Heap) (tk : Nat) (m' : Str → Option Value) (nx : List (Addr × Obj)) (c0 : s₃ = ⟨h', g, d, tk, os⟩) (c1 : Fr h₀ L h' m') (c2 : News h₀ L h' nx) (c3 : ∀ p ∈ need, p ∈ nx) (c4 : Jn m')
/-- the plain loop: neither ledger nor generators turn -/
def TurnK (h₀ : Heap) (L : Addr) (need : List (Addr × Obj)) (Jn : (Str → Option Value) → Prop) (s : Shared) (Q : Flow → Shared → Prop) (f : Flow) (s₃ : Shared) : Prop :=
  match f with
  | .ret v => Q (.ret v) s₃
  | .brk => Q .next s₃
  | _ => TurnKE h₀ L need Jn s.gens s.drawn s.os s₃
theorem TurnK.end {L : Addr} {need nx : List (Addr × Obj)} {Jn : (Str → Option Value) → Prop} {s : Shared} {Q : Flow → Shared → Prop} {h' : Heap} {tk : Nat} {m' : Str → Option Value}
    (F : Fr h₀ L h' m') (N : News h₀ L h' nx) (hn : ∀ p ∈ need, p ∈ nx) (hj : Jn m') : TurnK h₀ L need Jn s Q .next ⟨h', s.gens, s.drawn, tk, s.os⟩ := ⟨h', tk, m', nx, rfl, F, N, hn, hj⟩
theorem TurnK.post {wr : List Addr} {own news : List (Addr × Obj)} {J : (Str → Option Value) → Prop} {s : Shared} {L : Addr} (hw : ∀ p ∈ news, p.1 ∉ wr) {f : Flow} {s₃ : Shared} (h : TurnK h₀ L (own ++ news) J s Q f s₃) :
    TurnPost h₀ L wr own (fun m n g => n = news ∧ g = s.gens ∧ J m) s Q f s₃ := by
  have key : TurnKE h₀ L (own ++ news) J s.gens s.drawn s.os s₃ → TurnEnd h₀ L wr own (fun m n g => n = news ∧ g = s.gens ∧ J m) s.drawn s.os s₃ := by
    rintro ⟨h', tk, m', nx, e, F, N, hn, hj⟩
    exact ⟨h', tk, s.gens, m', nx, news, e, F, N, fun p hp => hn p (List.mem_append_left _ hp), fun p hp => hn p (List.mem_append_right _ hp), hw, rfl, rfl, hj⟩
  cases f with
  | ret v => exact h
  | brk => exact h
  | cont => exact key h
  | next => exact key h
theorem for_listK {l : Addr} {vs : List Value} (hh : A.handled = none) (hl : s.heap.IsList l vs.toArray) (hlL : l ≠ env.locals) (hx : env.kindOf x = some .local)
    (hp : (env.scope.kind == .class || (env.scope.kind == .module && env.locals != env.globals)) = false)
    (hE : PassesOwn (model prog w) A env E)
    (F : Fr h₀ env.locals s.heap m) (N : News h₀ env.locals s.heap news)
    (J : Nat → (Str → Option Value) → Prop) (h0 : J 0 m)
    (turn : ∀ i v m₁ own h tk, vs[i]? = some v → J i m₁ →
      Fr h₀ env.locals h (fun y => if y = x then some v else m₁ y) → News h₀ env.locals h (own ++ news) →
      wpAny (model prog w) A (execs body env) (TurnK h₀ env.locals (own ++ news) (J (i + 1)) s Q) E ⟨h, s.gens, s.drawn, tk, s.os⟩)
    (done : ∀ m' h' tk, J vs.length m' → Fr h₀ env.locals h' m' → News h₀ env.locals h' news → Q .next ⟨h', s.gens, s.drawn, tk, s.os⟩) :
    wpAny (model prog w) A (pyIter (.ref l)) (LoopPost prog w A env x px body Q E) E s := by
  refine for_list hh hl hlL hx hp hE F N (fun i m n g => n = news ∧ g = s.gens ∧ J i m) ⟨rfl, rfl, h0⟩ ?_ ?_
  · rintro I i v m₁ news₁ g₁ own h tk hv ⟨rfl, rfl, hj⟩ hw _ F₁ N₁
    exact wpAny_mono (turn i v m₁ own h tk hv hj F₁ N₁) (fun f s₃ h => h.post hw) fun _ _ e => e
  · rintro m' news' g' h' tk ⟨rfl, rfl, hj⟩ F₁ N₁
    exact done m' h' tk hj F₁ N₁
theorem for_rangeK {r : Addr} {a₀ b₀ : Int} {t₀ u₀ v₀ : Tok} {n : Nat} (hh : A.handled = none) (hr : IsRange s.heap r a₀ b₀ 1 t₀ u₀ v₀) (hsmall : Builtin.Range.small a₀ b₀ 1 = true) (hn : Builtin.Range.rangeSize a₀ b₀ 1 = (n : Int))
    (hx : env.kindOf x = some .local)
    (hp : (env.scope.kind == .class || (env.scope.kind == .module && env.locals != env.globals)) = false)
    (hE : PassesOwn (model prog w) A env E)
    (F : Fr h₀ env.locals s.heap m) (N : News h₀ env.locals s.heap news)
    (J : Nat → (Str → Option Value) → Prop) (h0 : J 0 m)
    (turn : ∀ i t m₁ own h tk, i < n → J i m₁ →
      Fr h₀ env.locals h (fun y => if y = x then some (.int (a₀ + (i : Int)) t) else m₁ y) → News h₀ env.locals h (own ++ news) →
      wpAny (model prog w) A (execs body env) (TurnK h₀ env.locals (own ++ news) (J (i + 1)) s Q) E ⟨h, s.gens, s.drawn, tk, s.os⟩)
    (done : ∀ m' h' tk, J n m' → Fr h₀ env.locals h' m' → News h₀ env.locals h' news → Q .next ⟨h', s.gens, s.drawn, tk, s.os⟩) :
    wpAny (model prog w) A (pyIter (.ref r)) (LoopPost prog w A env x px body Q E) E s := by
  refine for_range hh hr hsmall hn hx hp hE F N (fun i m n g => n = news ∧ g = s.gens ∧ J i m) ⟨rfl, rfl, h0⟩ ?_ ?_
  · rintro I i t m₁ news₁ g₁ own h tk hi ⟨rfl, rfl, hj⟩ hw _ F₁ N₁
    exact wpAny_mono (turn i t m₁ own h tk hi hj F₁ N₁) (fun f s₃ h => h.post hw) fun _ _ e => e
  · rintro m' news' g' h' tk ⟨rfl, rfl, hj⟩ F₁ N₁
    exact done m' h' tk hj F₁ N₁
end
end
section
open PySem PySem.W PyProof.Rows PySem.Spec PySem.Calls
set_option maxRecDepth 100000
set_option maxHeartbeats 4000000
section
variable {prog : Program} {w : World} {A : Around} {E : Value → Shared → Prop} {s : Shared} {env : Env} {h₀ : Heap} {x : Str} {px : Pos} {body : List Stmt} {Q : Flow → Shared → Prop}
  {I : Addr} {fp wr : List Addr} {n : Nat} {P : Nat → Value → Prop} {St : Nat → Heap → Prop} {m : Str → Option Value} {news : List (Addr × Obj)}
theorem for_ledI (W : Walks prog w A I fp wr n P St) (hx : env.kindOf x = some .local)
    (hp : (env.scope.kind == .class || (env.scope.kind == .module && env.locals != env.globals)) = false)
    (hE : PassesOwn (model prog w) A env E)
    (hLf : env.locals ∉ fp) (hwr : ∀ b ∈ wr, h₀.get? b = none) (hnw : ∀ p ∈ news, p.1 ∉ wr)
    (hIo : ∀ i h, St i h → ∃ o, h.get? I = some o) (hI0 : h₀.get? I = none) (hIf : I ∈ fp)
    (hst : St 0 s.heap) (F : Fr h₀ env.locals s.heap m) (N : News h₀ env.locals s.heap news)
    (J : Nat → (Str → Option Value) → List (Addr × Obj) → Array GenState → Prop) (h0 : J 0 m news s.gens)
    (turn : ∀ i v m₁ news₁ g₁ own h tk, i < n → P i v → J i m₁ news₁ g₁ → (∀ p ∈ news₁, p.1 ∉ wr) → (∀ p ∈ own, p.1 ∈ fp) → (∃ o, (I, o) ∈ own) →
      Fr h₀ env.locals h (fun y => if y = x then some v else m₁ y) → News h₀ env.locals h (own ++ news₁) →
      wpAny (model prog w) A (execs body env) (TurnPost h₀ env.locals wr own (J (i + 1)) s Q) E ⟨h, g₁, s.drawn, tk, s.os⟩)
    (done : ∀ m' news' g' h' tk, J n m' news' g' → Fr h₀ env.locals h' m' → News h₀ env.locals h' news' → Q .next ⟨h', g', s.drawn, tk, s.os⟩) :
    codeAny (model prog w) A (.forLoop (.Name x px) (.ref I) body [] env) (fun r s' => match r with | .ok f => Q f s' | .error e => cameBackBy (model prog w) A env E e s') s := by
  have hLw : env.locals ∉ wr := fun h => hLf (W.sub _ h)
  have old : ∀ b o, h₀.get? b = some o → b ∉ wr := fun b o e hb => by rw [hwr b hb] at e; cases e
  refine codeAny_forLoop_any
    (LedSt St h₀ env.locals wr n J s) ?_ (n + 1)
    ⟨s.heap, s.toks, s.gens, m, news, 0, rfl, hst, F, N, hnw, h0, Nat.zero_le _, rfl⟩
  rintro k s' ⟨h', tk, g', m', news', i, rfl, hst', F', N', hnw', hJ, hi, rfl⟩
  have next : ∀ h₁ : Heap, (∀ b o, b ∉ wr → h'.get? b = some o → h₁.get? b = some o) → Fr h₀ env.locals h₁ m' ∧ News h₀ env.locals h₁ news' := fun h₁ hk₁ =>
    ⟨⟨F'.ns.at' fun o e => hk₁ _ o hLw e, fun b o e => hk₁ b o (old b o e) (F'.keep b o e), F'.above⟩, fun p hp => ⟨hk₁ _ _ (hnw' p hp) (N' p hp).1, (N' p hp).2⟩⟩
  by_cases hlt : i < n
  · refine W.item i _ _ _ hlt hst' fun v h₁ tk₁ hP hst₁ hk₁ => ?_
    obtain ⟨F₁, N₁⟩ := next h₁ hk₁
    show wpAny _ _ (letOwnedTupleGo (.Name x px) (.ref I) v) _ _ _
    unfold letOwnedTupleGo
    refine wpAny_pure ?_
    refine wpAny_assign_Name (wpAny_storeName_local hx F₁.ns (fun h₂ hn₂ hs₂ => ?_) hp)
    have F₂ := F₁.set hn₂ hs₂
    have Nown : News h₀ env.locals h₂ (ownOf h₀ fp h₂) := news_ownOf hLf
    refine wpAny_passesOwn hE (wpAny_mono (turn i v m' news' g' (ownOf h₀ fp h₂) h₂ _ hlt hP hJ hnw' ownOf_sub ((hIo _ _ (W.frame _ _ _ hst₁ fun b hb o e => hs₂.extBut b o (fun q => hLf (q ▸ hb)) e)).elim fun o e => ⟨o, mem_ownOf hIf hI0 e⟩) F₂ (Nown.append (N₁.set hs₂))) (fun f s₃ h₃ => ?_) fun _ _ e => e)
    have key : TurnEnd h₀ env.locals wr (ownOf h₀ fp h₂) (J (i + 1)) s.drawn s.os s₃ → ∃ m, m < n + 1 - i ∧ LedSt St h₀ env.locals wr n J s m s₃ := by
      rintro ⟨h₃', tk₃, g₃, m₂, nx, news₂, rfl, F₃, N₃, ho, hn, ha₃, hJ₃⟩
      refine ⟨n + 1 - (i + 1), sub_dec hlt, h₃', tk₃, g₃, m₂, news₂, i + 1, rfl, ?_, F₃, fun p hp => N₃ p (hn p hp), ha₃, hJ₃, hlt, rfl⟩
      refine W.frame _ _ _ hst₁ fun b hb o e => ?_
      have e₂ : h₂.get? b = some o := (hs₂.2 b fun q => hLf (q ▸ hb)).trans e
      cases hn : h₀.get? b with
      | some o₀ =>
        have : o₀ = o := by have := F₂.keep b o₀ hn; rw [e₂] at this; exact (Option.some.inj this).symm
        exact this ▸ F₃.keep b o₀ hn
      | none => exact (N₃ _ (ho _ (mem_ownOf hb hn e₂))).1
    cases f with
    | ret v => exact h₃
    | brk => exact h₃
    | cont => exact key h₃
    | next => exact key h₃
  · have hin : i = n := Nat.le_antisymm hi (Nat.not_lt.mp hlt)
    subst hin
    refine W.done _ _ _ hst' fun h₁ tk₁ hk₁ => wpAny_execs_nil ?_
    obtain ⟨F₁, N₁⟩ := next h₁ hk₁
    exact done m' news' g' h₁ tk₁ hJ F₁ N₁
theorem for_listI {l : Addr} {vs : List Value} (hh : A.handled = none) (hl : s.heap.IsList l vs.toArray) (hlL : l ≠ env.locals) (hx : env.kindOf x = some .local)
    (hp : (env.scope.kind == .class || (env.scope.kind == .module && env.locals != env.globals)) = false)
    (hE : PassesOwn (model prog w) A env E)
    (F : Fr h₀ env.locals s.heap m) (N : News h₀ env.locals s.heap news)
    (J : Nat → (Str → Option Value) → List (Addr × Obj) → Array GenState → Prop) (h0 : J 0 m news s.gens)
    (turn : ∀ I i v m₁ news₁ g₁ own h tk, vs[i]? = some v → J i m₁ news₁ g₁ → (∀ p ∈ news₁, p.1 ∉ [I]) → (∀ p ∈ own, p.1 ∈ [I, l]) → (∃ o, (I, o) ∈ own) →
      Fr h₀ env.locals h (fun y => if y = x then some v else m₁ y) → News h₀ env.locals h (own ++ news₁) →
      wpAny (model prog w) A (execs body env) (TurnPost h₀ env.locals [I] own (J (i + 1)) s Q) E ⟨h, g₁, s.drawn, tk, s.os⟩)
    (done : ∀ m' news' g' h' tk, J vs.length m' news' g' → Fr h₀ env.locals h' m' → News h₀ env.locals h' news' → Q .next ⟨h', g', s.drawn, tk, s.os⟩) :
    wpAny (model prog w) A (pyIter (.ref l)) (LoopPost prog w A env x px body Q E) E s := by
  obtain ⟨ol, hol, _⟩ := id hl
  have hne : l ≠ s.heap.objs.size := Nat.ne_of_lt (Heap.lt_size hol)
  refine wpAny_pyIter_list hl ?_
  have W := Walks.list (prog := prog) (w := w) hh s.heap.objs.size l hne vs.toArray
  refine for_ledI (s := { s with heap := s.heap.push { cls := .type "list_iterator", data := .fields #[.ref l, .int 0 0] } }) W hx hp hE ?_ ?_ ?_ (fun i h q => let ⟨o, e, _⟩ := q.1; ⟨o, e⟩) (next_is_new F) (.head _)
    ⟨⟨_, Heap.get?_push_size _ rfl, rfl, rfl⟩, hl.push _⟩ (F.push _) (fun p hp => ⟨Heap.get?_push_of_some _ (N p hp).1, (N p hp).2⟩) J h0 ?_ ?_
  · intro hm
    rcases List.mem_cons.mp hm with e | hm
    · exact absurd F.ns.lt (e ▸ Nat.lt_irrefl _)
    · exact hlL (List.mem_singleton.mp hm).symm
  · intro b hb
    rw [List.mem_singleton.mp hb]
    exact next_is_new F
  · intro p hp hI
    exact absurd (Heap.lt_size (N p hp).1) ((List.mem_singleton.mp hI) ▸ Nat.lt_irrefl _)
  · intro i v m₁ news₁ g₁ own h tk hi hP hJ hnw ho hoI F₁ N₁
    exact turn _ i v m₁ news₁ g₁ own h tk (by simpa using hP) hJ hnw ho hoI F₁ N₁
  · intro m' news' g' h' tk hJ F₁ N₁
    exact done m' news' g' h' tk (by simpa using hJ) F₁ N₁
theorem for_rangeI {r : Addr} {a₀ b₀ : Int} {t₀ u₀ v₀ : Tok} {n : Nat} (hh : A.handled = none) (hr : IsRange s.heap r a₀ b₀ 1 t₀ u₀ v₀) (hsmall : Builtin.Range.small a₀ b₀ 1 = true) (hn : Builtin.Range.rangeSize a₀ b₀ 1 = (n : Int))
    (hx : env.kindOf x = some .local)
    (hp : (env.scope.kind == .class || (env.scope.kind == .module && env.locals != env.globals)) = false)
    (hE : PassesOwn (model prog w) A env E)
    (F : Fr h₀ env.locals s.heap m) (N : News h₀ env.locals s.heap news)
    (J : Nat → (Str → Option Value) → List (Addr × Obj) → Array GenState → Prop) (h0 : J 0 m news s.gens)
    (turn : ∀ I i t m₁ news₁ g₁ own h tk, i < n → J i m₁ news₁ g₁ → (∀ p ∈ news₁, p.1 ∉ [I]) → (∀ p ∈ own, p.1 ∈ [I]) → (∃ o, (I, o) ∈ own) →
      Fr h₀ env.locals h (fun y => if y = x then some (.int (a₀ + (i : Int)) t) else m₁ y) → News h₀ env.locals h (own ++ news₁) →
      wpAny (model prog w) A (execs body env) (TurnPost h₀ env.locals [I] own (J (i + 1)) s Q) E ⟨h, g₁, s.drawn, tk, s.os⟩)
    (done : ∀ m' news' g' h' tk, J n m' news' g' → Fr h₀ env.locals h' m' → News h₀ env.locals h' news' → Q .next ⟨h', g', s.drawn, tk, s.os⟩) :
    wpAny (model prog w) A (pyIter (.ref r)) (LoopPost prog w A env x px body Q E) E s := by
  refine wpAny_pyIter_range hr hsmall ?_
  have W : Walks prog w A s.heap.objs.size [s.heap.objs.size] [s.heap.objs.size] n (fun i v => ∃ t, v = .int (a₀ + i * 1) t)
      (fun i h => IsRangeIter h s.heap.objs.size (a₀ + (i : Nat) * 1) ((n : Int) - (i : Nat)) 1) := Walks.range hh _ a₀ 1 n
  refine for_ledI (s := { s with heap := s.heap.push { cls := .type "range_iterator", data := .fields #[rawInt a₀, rawInt (Builtin.Range.rangeSize a₀ b₀ 1), rawInt 1] } }) W hx hp hE ?_ ?_ ?_ (fun i h q => ⟨_, q⟩) (next_is_new F) (.head _)
    (by show IsRangeIter _ _ _ _ _; rw [hn]; simpa using Heap.get?_push_size _ rfl) (F.push _) (fun p hp => ⟨Heap.get?_push_of_some _ (N p hp).1, (N p hp).2⟩) J h0 ?_ ?_
  · intro hm
    exact absurd F.ns.lt ((List.mem_singleton.mp hm) ▸ Nat.lt_irrefl _)
  · intro b hb
    rw [List.mem_singleton.mp hb]
    exact next_is_new F
  · intro p hp hI
    exact absurd (Heap.lt_size (N p hp).1) ((List.mem_singleton.mp hI) ▸ Nat.lt_irrefl _)
  · rintro i v m₁ news₁ g₁ own h tk hi ⟨t, rfl⟩ hJ hnw ho hoI F₁ N₁
    have e1 : a₀ + (i : Int) * 1 = a₀ + (i : Int) := by rw [Int.mul_one]
    rw [e1] at F₁
    exact turn _ i t m₁ news₁ g₁ own h tk hi hJ hnw ho hoI F₁ N₁
  · intro m' news' g' h' tk hJ F₁ N₁
    exact done m' news' g' h' tk hJ F₁ N₁
end
end
section
open PySem PySem.W PyProof.Rows PySem.Spec PySem.Calls
theorem r2 {a0 a1 a2 : Prop} (h : a0 ∧ a1 ∧ a2) : a2 := h.2.2
theorem r3 {a0 a1 a2 a3 : Prop} (h : a0 ∧ a1 ∧ a2 ∧ a3) : a3 := h.2.2.2
theorem r4 {a0 a1 a2 a3 a4 : Prop} (h : a0 ∧ a1 ∧ a2 ∧ a3 ∧ a4) : a4 := h.2.2.2.2
theorem r5 {a0 a1 a2 a3 a4 a5 : Prop} (h : a0 ∧ a1 ∧ a2 ∧ a3 ∧ a4 ∧ a5) : a5 := h.2.2.2.2.2
theorem r6 {a0 a1 a2 a3 a4 a5 a6 : Prop} (h : a0 ∧ a1 ∧ a2 ∧ a3 ∧ a4 ∧ a5 ∧ a6) : a6 := h.2.2.2.2.2.2
theorem r7 {a0 a1 a2 a3 a4 a5 a6 a7 : Prop} (h : a0 ∧ a1 ∧ a2 ∧ a3 ∧ a4 ∧ a5 ∧ a6 ∧ a7) : a7 := h.2.2.2.2.2.2.2
theorem r8 {a0 a1 a2 a3 a4 a5 a6 a7 a8 : Prop} (h : a0 ∧ a1 ∧ a2 ∧ a3 ∧ a4 ∧ a5 ∧ a6 ∧ a7 ∧ a8) : a8 := h.2.2.2.2.2.2.2.2
theorem r9 {a0 a1 a2 a3 a4 a5 a6 a7 a8 a9 : Prop} (h : a0 ∧ a1 ∧ a2 ∧ a3 ∧ a4 ∧ a5 ∧ a6 ∧ a7 ∧ a8 ∧ a9) : a9 := h.2.2.2.2.2.2.2.2.2
theorem r10 {a0 a1 a2 a3 a4 a5 a6 a7 a8 a9 a10 : Prop} (h : a0 ∧ a1 ∧ a2 ∧ a3 ∧ a4 ∧ a5 ∧ a6 ∧ a7 ∧ a8 ∧ a9 ∧ a10) : a10 := h.2.2.2.2.2.2.2.2.2.2
theorem r11 {a0 a1 a2 a3 a4 a5 a6 a7 a8 a9 a10 a11 : Prop} (h : a0 ∧ a1 ∧ a2 ∧ a3 ∧ a4 ∧ a5 ∧ a6 ∧ a7 ∧ a8 ∧ a9 ∧ a10 ∧ a11) : a11 := h.2.2.2.2.2.2.2.2.2.2.2
local macro_rules | `(tactic| walk_at "storeName") => `(tactic| (k_here; k_dflt (refine' storeM ?F ?N ?_ ?a ?b; (case F => k_asm); (case N => k_asm); (case a => rfl); (case b => rfl); k_whole; intro h' tk' F' N'; (try k_sweep))))
local macro_rules | `(tactic| walk_at "mine le") => `(tactic| ((try simp only [Nat.add_assoc, Nat.reduceAdd]); first | exact dep (by assumption) _ (by decide) | exact Nat.lt_of_le_of_lt (Nat.le_add_right _ _) (by assumption) | exact Nat.le_add_right _ _ | exact Nat.add_le_add_left (by decide) _))
local macro_rules | `(tactic| walk_at "mine room") => `(tactic| ((try simp only [depth_under_make, depth_under_kw, depth_in1, depth_deeper, depth_caller]); (try dsimp +zetaDelta only [Around.deeper, ktrTop]); walk_at "mine le"))
local macro_rules | `(tactic| walk_at "mine units") => `(tactic| ((try simp only [units_in1, units_deeper, Around.mark_units, units_caller]); (try dsimp +zetaDelta only [Around.deeper, ktrTop]); walk_at "mine le"))
local macro_rules | `(tactic| k_room) => `(tactic| first | walk_at "mine room" | ktr_room)
local macro_rules | `(tactic| k_units) => `(tactic| first | walk_at "mine units" | ktr_units)
local macro_rules | `(tactic| units_room) => `(tactic| first | walk_at "mine units" | ktr_units)
local macro_rules | `(tactic| walk_at "mine enterC") => `(tactic| (refine wpAny_call ?_; k_dflt (refine' code_defC ?k1 ?k2 ?k3 ?k4 ?k5 ?kA ?kF ?kK ?k6 ?k7 ?k8 ?k9 ?kB ?kD ?_ ?c2 ?c3 ?c4; (case kA => first | with_reducible assumption | exact rfl); (case kF => first | with_reducible assumption | exact rfl); (case kK => first | with_reducible assumption | exact rfl | assumption); (case k1 => k_asm); (case k2 => k_asm); (case k3 => k_asm); (case k4 => k_asm); (case k5 => k_asm); (case k6 => k_is); (case k7 => k_is); (case k8 => k_room); (case k9 => exact BindsTo.of_eq rfl); (case kB => exact rfl); (case kD => decide +kernel); (case c2 => exact rfl); (case c3 => exact rfl); (case c4 => exact rfl); k_whole; intro g' L' h' tk' cells' FG' F' N' Y' B' X' T' l1; (try k_lt l1); k_cells Y'; (try simp only [List.cons_append, List.nil_append] at N'); (try dsimp only); (try k_fold))))
local macro_rules | `(tactic| walk_at "mine mem") => `(tactic| first | exact List.Mem.head _ | (change @Membership.mem (Addr × Obj) (List (Addr × Obj)) List.instMembership _ _; with_reducible assumption) | (refine' List.Mem.tail _ ?_; walk_at "mine mem") | (refine' List.mem_append_right _ ?_; walk_at "mine mem") | (refine' List.mem_append_left _ ?_; walk_at "mine mem"))
local macro_rules | `(tactic| k_mem) => `(tactic| walk_at "mine mem")
local macro_rules | `(tactic| k_all) => `(tactic| first | exact ltAll_ne (by with_reducible assumption) | exact ltAll_le (by with_reducible assumption) (by omega) | exact allLt_le (by with_reducible assumption) (by omega) | exact allLt_le (And.right (by with_reducible assumption)) (by omega) | exact allLt_le (r2 (by with_reducible assumption)) (by omega) | exact allLt_all (by with_reducible assumption) | exact allLt_all (And.right (by with_reducible assumption)) | exact allLt_all (r2 (by with_reducible assumption)) | exact allLt_all (r3 (by with_reducible assumption)) | exact allLt_all (r4 (by with_reducible assumption)) | exact allLt_all (r5 (by with_reducible assumption)) | exact allLt_all (r6 (by with_reducible assumption)) | exact allLt_all (r7 (by with_reducible assumption)) | exact allLt_all (r8 (by with_reducible assumption)) | exact allLt_all (r9 (by with_reducible assumption)) | exact allLt_all (r10 (by with_reducible assumption)) | exact allLt_all (r11 (by with_reducible assumption)))
local macro_rules | `(tactic| is_list) => `(tactic| exact ledL (by assumption) (by walk_at "mine mem"))
local macro_rules | `(tactic| walk_at "mine sub") => `(tactic| first | exact List.forall_mem_nil _ | (refine List.forall_mem_cons.mpr ⟨?_, ?_⟩; (focus k_mem); (focus walk_at "mine sub")) | (intro q hq; first | ((repeat (first | exact hq | refine List.Mem.tail _ ?_)); done) | walk_at "mine mem" | (rcases List.mem_append.mp hq with hq | hq <;> walk_at "mine mem")))
local macro_rules | `(tactic| walk_at "mine ne") => `(tactic| first | exact List.forall_mem_nil _ | (refine List.forall_mem_cons.mpr ⟨?_, ?_⟩; (focus ((try dsimp only); first | k_ne | omega)); (focus walk_at "mine ne")) | (intro q hq; (first | (have h9' := ‹∀ p ∈ _, _ < p.1› q hq; (try dsimp only at h9'); (first | exact Nat.ne_of_gt h9' | exact Nat.ne_of_gt (Nat.lt_trans (by decide) h9') )))))
local macro_rules | `(tactic| walk_at "mine depth") => `(tactic| ((try dsimp +zetaDelta only [Around.deeper, ktrTop]); first | walk_at "mine le" | omega))
section
open PySem PySem.W PyProof.Rows PySem.Spec PySem.Calls
section
theorem offM01 : True := by w_top off; trivial
set_option maxRecDepth 100000
set_option maxHeartbeats 400000
variable {p : Program} {loose : List Str} {mean : ExcName → Option Value} {mg mb : Str → Option Value}
  {dp un : Nat} {gd : Option (List Code)} {cn : Str} {cs : Scope} {a : Addr} {ccd : Value} {cl : List (Str × Addr)} {outer : List Env}
  {A₀ : Around} {E Q : Value → Shared → Prop} {s : Shared} {base h₀ : Heap} {L : Addr} {m : Str → Option Value} {news : List (Addr × Obj)}
def genN (i : Nat) : Nat := [14737472, 29474944, 58949888, 117899776, 235798537, 470557714, 940076068, 814808136, 565311632, 66318624].getD i 0
def innN (b : Nat) : Nat → Nat → Nat
  | 0, c => c
  | i + 1, c => innN b i c ^^^ (if (b >>> i) &&& 1 = 0 then 0 else genN i)
def polyStep (c v : Nat) : Nat := innN (c >>> 20) 10 (((c &&& 1048575) <<< 10) ^^^ v)
def polyN (ns : List Nat) : Nat := ns.foldl polyStep 1
theorem bAnd_n (a b : Nat) : Builtin.bitAnd (a : Int) (b : Int) = ((a &&& b : Nat) : Int) := by
  unfold Builtin.bitAnd
  simp
theorem bit_lin {x y u v p q r t : Nat} (h : u + 2 * v = x + y) (hp : r + 2 * t = p + q) : 2 * u + r + 2 * (2 * v + t) = 2 * x + p + (2 * y + q) := by rw [Nat.mul_add 2 (2 * v) t, Nat.add_add_add_comm, ← Nat.mul_add, h, hp, Nat.mul_add, Nat.add_add_add_comm]
theorem bit_tab : ∀ p, p < 2 → ∀ q, q < 2 → (p ^^^ q) + 2 * (p &&& q) = p + q := by decide
theorem xor_and (a b : Nat) : (a ^^^ b) + 2 * (a &&& b) = a + b := by
  induction a using Nat.strongRecOn generalizing b with
  | _ a ih =>
    by_cases ha : a = 0
    · subst ha; simp
    · have h := ih (a / 2) (Nat.div_lt_self (Nat.pos_of_ne_zero ha) (by decide)) (b / 2)
      have e1 : 2 * (a / 2 ^^^ b / 2) + (a ^^^ b) % 2 = a ^^^ b := by
        rw [← Nat.xor_div_two]; exact Nat.div_add_mod _ 2
      have e2 : 2 * (a / 2 &&& b / 2) + (a &&& b) % 2 = a &&& b := by
        rw [← Nat.and_div_two]; exact Nat.div_add_mod _ 2
      have e3 : (a ^^^ b) % 2 = (a % 2) ^^^ (b % 2) := Nat.xor_mod_two_pow (n := 1)
      have e4 : (a &&& b) % 2 = (a % 2) &&& (b % 2) := Nat.and_mod_two_pow (n := 1)
      have k := bit_lin h (bit_tab (a % 2) (Nat.mod_lt _ (by decide)) (b % 2) (Nat.mod_lt _ (by decide)))
      rw [← e3, ← e4, e1, e2, Nat.div_add_mod, Nat.div_add_mod] at k
      exact k
theorem bXor_n (a b : Nat) : Builtin.bitXor (a : Int) (b : Int) = ((a ^^^ b : Nat) : Int) := by
  rw [bitXor_and, bAnd_n]
  have := xor_and a b
  omega
theorem shr_n (a k : Nat) : (a : Int).fdiv (2 ^ k) = ((a >>> k : Nat) : Int) := by
  rw [Nat.shiftRight_eq_div_pow]
  rw [Int.fdiv_eq_ediv_of_nonneg]
  · simp
  · exact Int.le_of_lt (by exact Int.pow_pos (by decide))
theorem shl_n (a k : Nat) : (a : Int) * 2 ^ k = ((a <<< k : Nat) : Int) := by
  rw [Nat.shiftLeft_eq]; simp
theorem innN_lt (b : Nat) : ∀ (i c : Nat), i ≤ 10 → c < 1073741824 → innN b i c < 1073741824
  | 0, _, _, h => h
  | i + 1, c, hi, h => by
    have h1 := innN_lt b i c (by omega) h
    unfold innN
    have hg : ∀ j < 10, genN j < 2 ^ 30 := by decide
    refine Nat.xor_lt_two_pow (n := 30) h1 ?_
    split
    · decide
    · exact hg i (by omega)
theorem polyStep_lt (c v : Nat) (hv : v < 1024) : polyStep c v < 1073741824 := by
  refine innN_lt _ _ _ (Nat.le_refl _) ?_
  refine Nat.xor_lt_two_pow (n := 30) ?_ (Nat.lt_of_lt_of_le hv (by decide))
  rw [Nat.shiftLeft_eq]
  have : c &&& 1048575 ≤ 1048575 := Nat.and_le_right
  omega
theorem innN_val (b i c : Nat) (hi : i < 10) : (Builtin.bitAnd ((b : Int).fdiv (2 ^ (0 + (i : Int)).toNat)) 1 ≠ 0 → Builtin.bitXor ((innN b i c : Nat) : Int) (([14737472, 29474944, 58949888, 117899776, 235798537, 470557714, 940076068, 814808136, 565311632, 66318624] : List Int).getD (0 + (i : Int)).toNat 0) = ((innN b (i + 1) c : Nat) : Int)) ∧
    (Builtin.bitAnd ((b : Int).fdiv (2 ^ (0 + (i : Int)).toNat)) 1 = 0 → Builtin.bitXor ((innN b i c : Nat) : Int) 0 = ((innN b (i + 1) c : Nat) : Int)) := by
  have e0 : (0 + (i : Int)).toNat = i := by omega
  have e1 : ∀ j < 10, ([14737472, 29474944, 58949888, 117899776, 235798537, 470557714, 940076068, 814808136, 565311632, 66318624] : List Int).getD j 0 = ((genN j : Nat) : Int) := by decide
  have e2 : Builtin.bitAnd ((b : Int).fdiv (2 ^ i)) 1 = (((b >>> i) &&& 1 : Nat) : Int) := by
    rw [shr_n]; exact bAnd_n (b >>> i) 1
  rw [e0, e1 i hi, e2]
  constructor
  · intro h
    rw [bXor_n]
    have : ¬ (b >>> i) &&& 1 = 0 := fun q => h (by rw [q]; rfl)
    simp only [innN, if_neg this]
  · intro h
    have : (b >>> i) &&& 1 = 0 := by omega
    simp only [innN, if_pos this, Nat.xor_zero, bitXor_zero]
def NatsAre (vs : List Value) (ns : List Nat) : Prop := IntsAre vs (List.map (fun n : Nat => (n : Int)) ns)
theorem NatsAre.nil : NatsAre [] [] := IntsAre.nil
theorem NatsAre.cons (n : Nat) (t : Tok) {vs : List Value} {ns : List Nat} (h : NatsAre vs ns) : NatsAre (.int (n : Int) t :: vs) (n :: ns) := IntsAre.cons (n : Int) t h
theorem NatsAre.len : ∀ {vs : List Value} {ns : List Nat}, NatsAre vs ns → vs.length = ns.length
  | vs, ns, h => by have := IntsAre.length h; simpa using this
theorem NatsAre.item : ∀ {vs : List Value} {ns : List Nat}, NatsAre vs ns → ∀ {i : Nat} {v : Value}, vs[i]? = some v → ∃ (n : Nat) (t : Tok), v = .int (n : Int) t ∧ ns[i]? = some n
  | [], [], _, i, v, e => by simp at e
  | [], _ :: _, h, _, _, _ => by cases h
  | _ :: _, [], h, _, _, _ => by cases h
  | u :: vs, k :: ns, h, 0, v, e => by
    cases h with
    | cons _ t _ => simp at e; subst e; exact ⟨k, t, rfl, rfl⟩
  | u :: vs, k :: ns, h, i + 1, v, e => by
    cases h with
    | cons _ t h' => simpa using NatsAre.item (ns := ns) h' (i := i) (v := v) (by simpa using e)
inductive PolyO (l D : Addr) (ns : List Nat) (i : Nat) (m' : Str → Option Value) : Prop
  | mk  (c : Nat) (t : Tok) (u1 u2 u3 : Option Value)
    (c0 : m' = mp [(Str.ofString "values", some (Value.ref l)), (Str.ofString "GEN", some (Value.ref D)), (Str.ofString "chk", some (Value.int c t)), (Str.ofString "v", u1), (Str.ofString "b", u2), (Str.ofString "i", u3)])
    (c1 : c = polyN (ns.take i))
    (c2 : c < 1073741824)
inductive PolyI (l D : Addr) (c n : Nat) (tn : Tok) (i : Nat) (m' : Str → Option Value) : Prop
  | mk  (x : Int) (t tb : Tok) (u3 : Option Value)
    (c0 : m' = mp [(Str.ofString "values", some (Value.ref l)), (Str.ofString "GEN", some (Value.ref D)), (Str.ofString "chk", some (Value.int x t)), (Str.ofString "v", some (Value.int n tn)), (Str.ofString "b", some (Value.int ((c >>> 20 : Nat) : Int) tb)), (Str.ofString "i", u3)])
    (c1 : x = ((innN (c >>> 20) i (((c &&& 1048575) <<< 10) ^^^ n) : Nat) : Int))
theorem polymod_spec (w : World) (l : Addr) (vs : List Value) (ns : List Nat) (nv : Nat) (N : News h₀ L s.heap news) (hl : (l, listOf vs.toArray nv) ∈ news) (hi : NatsAre vs ns)
  (hns : ∀ x ∈ ns, x < 1024)
  (B : Below A₀ base outer h₀) (F : Fr h₀ L s.heap m) (X : (Mine.hd.heap_1 w.params).In h₀)  (T : Top p loose mean mg mb h₀)
  (hk : cs.kind = .function) (hd : dp + 20 < recursionLimit) (hu : un + 100 < cLine)
  (ret : ∀ t h' tk', Fr h₀ L h' m → News h₀ L h' news → Q (.int (polyN ns : Nat) t) { s with heap := h', toks := tk' })
  (hrw : PySem.Challenge.rw_ja0052_01 = PySem.Challenge.rw_ja0052_01) :
  wpAny (model PySem.Challenge.pw_ja0052_01 w) (ktrTop dp un gd cn cs L a ccd cl outer) (call (.ref 28) [.ref l]) Q E s := by
  refine wpAny_noRaise ?_
  revert X hrw
  k_fill
  intro X hrw
  clear hrw
  refine wpAny_call ?_
  (k_dflt (refine' code_def ?k1 ?k2 ?k3 ?k4 ?k5 ?kA ?kF ?kK ?k6 ?k7 ?k8 ?k9 ?kB ?_ ?c2 ?c3 ?c4 ?c5; (case kA => first | with_reducible assumption | exact rfl); (case kF => first | with_reducible assumption | exact rfl); (case kK => first | with_reducible assumption | exact rfl | assumption); (case k1 => k_asm); (case k2 => k_asm); (case k3 => k_asm); (case k4 => k_asm); (case k5 => k_asm); (case k6 => k_is); (case k7 => k_is); (case k8 => k_room); (case k9 => exact BindsTo.of_eq rfl); (case c5 => decide); (case kB => exact locs rfl); (case c2 => exact rfl); (case c3 => exact rfl); (case c4 => exact rfl); k_whole; intro _ _ _ _ F0 N0 B0 X0 T0; (try dsimp only); (try k_fold)))
  refine letA ?_
  intro A9
  replace F0 := fr_lookup (show Fr _ _ _ (fun y => List.lookup y [(Str.ofString "values", Value.ref l)]) from F0)
  dsimp only [List.map] at F0
  (repeat ((fail_if_success (with_reducible show wpAny _ _ (exec (Stmt.For _ _ _ _ _) _) _ _ _)); first | walk1 | (dsimp only; walk1)))
  rename_i D hD hlt hx _ h1 _ F1 N1
  refine hideHd N1 ?_
  clear N1
  intro G hG N1
  replace F1 := (show Fr _ _ _ (mp [(Str.ofString "chk", _), (Str.ofString "GEN", _), (Str.ofString "values", _)]) from F1)
  refine For_ ?_
  (repeat ((fail_if_success (with_reducible show wpAny _ _ (pyIter _) _ _ _)); walk1))
  have HL := News.isList N1 (.tail _ hl)
  have HN := (N1 _ (.tail _ hl)).2.1
  refine for_listK rfl HL HN (by rfl) (by rfl) (by passes_own) F1 N1
    (PolyO l D ns) ?_ ?_ ?_
  · exact ⟨1, _, _, _, _, mp_canon [Str.ofString "values", Str.ofString "GEN", Str.ofString "chk", Str.ofString "v", Str.ofString "b", Str.ofString "i"] _ (by rfl), rfl, by decide⟩
  · rintro i v m₁ own h tk hv hJ9 F2 N2
    k_fold
    obtain ⟨c, t, u1, u2, u3, rfl, hc, hc1⟩ := hJ9
    obtain ⟨n, tn, rfl, hn'⟩ := hi.item hv
    replace F2 := (show Fr _ _ _ (mp ((Str.ofString "v", some _) :: _)) from F2)
    have hb : 0 ≤ Builtin.bitAnd (c : Int) 1048575 ∧ Builtin.bitAnd (c : Int) 1048575 < 1048576 := by
      have := bitAnd_range (c : Int) (y := 1048575) (by decide)
      omega
    (repeat ((fail_if_success (with_reducible show wpAny _ _ (exec (Stmt.For _ _ _ _ _) _) _ _ _)); first | walk1 | (dsimp only; walk1)))
    refine For_ ?_
    (repeat ((fail_if_success (with_reducible show wpAny _ _ (pyIter _) _ _ _)); walk1))
    rename_i hx2 _ h2 _ F3 N3 h3 tk3 t1 t2 t3 R4 F4 N4 K4
    replace F4 := (show Fr _ _ _ (mp ((Str.ofString "chk", _) :: (Str.ofString "b", _) :: (Str.ofString "v", _) :: _)) from F4)
    refine for_rangeK (n := 10) rfl R4 (by decide) (by decide) (by rfl) (by rfl) (by passes_own) F4 N4
      (PolyI l D c n tn) ?_ ?_ ?_
    · have e1 : Builtin.bitXor (Builtin.bitAnd (c : Int) 1048575 * 2 ^ Int.toNat 10) (n : Int) = (((((c &&& 1048575) <<< 10) ^^^ n : Nat)) : Int) := by
        have := bAnd_n c 1048575
        rw [show ((1048575 : Nat) : Int) = 1048575 from rfl] at this
        rw [this, show Int.toNat 10 = 10 from rfl, shl_n, bXor_n]
      have e2 : (c : Int).fdiv (2 ^ Int.toNat 20) = ((c >>> 20 : Nat) : Int) := shr_n c 20
      rw [e2]
      exact ⟨_, _, _, _, mp_canon [Str.ofString "values", Str.ofString "GEN", Str.ofString "chk", Str.ofString "v", Str.ofString "b", Str.ofString "i"] _ (by rfl), e1⟩
    · rintro i t5 m₁ own2 h5 tk5 hi5 hJ9 F5 N5
      k_fold
      obtain ⟨x6, t6, t7, u6, rfl, hx6⟩ := hJ9
      subst hx6
      replace F5 := (show Fr _ _ _ (mp ((Str.ofString "i", some _) :: _)) from F5)
      rw [hG] at N5
      k_steps
      · rename_i hcond t8 h8 _ F8 N8
        refine TurnK.end F8 N8 (by rw [hG]; exact fun _ h => h) ⟨_, _, _, _, mp_canon [Str.ofString "values", Str.ofString "GEN", Str.ofString "chk", Str.ofString "v", Str.ofString "b", Str.ofString "i"] ((_, _) :: (_, _) :: _) (by rfl), (innN_val _ _ _ hi5).1 hcond⟩
      · rename_i hcond h8 _ F8 N8
        refine TurnK.end F8 N8 (by rw [hG]; exact fun _ h => h) ⟨_, _, _, _, mp_canon [Str.ofString "values", Str.ofString "GEN", Str.ofString "chk", Str.ofString "v", Str.ofString "b", Str.ofString "i"] ((_, _) :: (_, _) :: _) (by rfl), (innN_val _ _ _ hi5).2 hcond⟩
    · rintro m5 h5 tk5 ⟨x6, t6, t7, u6, rfl, hx6⟩ F5 N5
      subst hx6
      k_steps
      refine TurnK.end F5 N5 (fun _ h => h) ⟨_, _, _, _, _, rfl, ?_, ?_⟩
      · rw [List.take_add_one, hn', Option.toList_some, polyN, List.foldl_append, ← polyN, ← hc]; rfl
      · exact polyStep_lt c n (hns n (List.mem_of_getElem? hn'))
  · rintro m' h' tk ⟨c, t, u1, u2, u3, rfl, hc, hc1⟩ F2 N2
    rw [List.take_of_length_le (by rw [hi.len]; exact Nat.le_refl _)] at hc
    subst hc
    k_steps
    rename_i kF kN _ _
    exact ret _ _ _ kF (fun p hp => kN p (.tail _ hp))
end
section
set_option maxRecDepth 100000
set_option maxHeartbeats 1000000
section
variable {prog : Program} {w : World} {A : Around} {E : Value → Shared → Prop} {s : Shared}
theorem extend_bytes {R : Result → Shared → Prop} (hh : A.handled = none) (x : Array UInt8) (t : Tok) (S : Addr) (res : Value) (c₀ : Nat) (hS : s.heap.get? S = some { cls := .type "list", data := .seq #[] c₀ })
    (hR : ∀ h' tk acc' c', (∀ b o, b ≠ S → s.heap.get? b = some o → h'.get? b = some o) → h'.get? S = some { cls := .type "list", dict := none, data := .seq acc' c', slots := #[] } →
      ItemsOf (fun i v => ∃ c u, x[i]? = some c ∧ v = .int (c.toNat : Int) u) acc' x.size → R (.ok (.ret res)) { s with heap := h', toks := tk }) (hn : x.size ≤ 1048576) :
    wpAny (model prog w) A.in1 (Builtin.List.listExtendWith (.ref S) (.bytes x t) res)
      (fun fin s' => match fin with | .done f => R (.ok f) s' | .again c' => c'.quiet = true ∧ codeAny (model prog w) A c' R s') (fun e s' => R (.error e) s') s := by
  have hSI : S ≠ s.heap.objs.size := Nat.ne_of_lt (Heap.lt_size hS)
  have hSlt : S < s.heap.objs.size := Heap.lt_size hS
  have hSf : S ∉ [s.heap.objs.size] := fun hm => hSI (List.mem_singleton.mp hm)
  have W := KBw.walks (prog := prog) (w := w) (A := A.in1) hh s.heap.objs.size x t
  unfold Builtin.List.listExtendWith
  refine wpAny_bind (wpAny_typeOf (T := "bytes") (v := .bytes x t) rfl ?_)
  have h1 : Builtin.List.listSameRef (.ref S) (.bytes x t) = false := rfl
  have h2 : (Value.type "bytes" == Value.type "list") = false := by decide
  have h3 : (Value.type "bytes" == Value.type "tuple") = false := by decide
  simp only [h1, h2, h3, Bool.or_false, Bool.false_eq_true, if_false]
  refine wpAny_bind (KBw.pyIter_bytes ?_)
  refine wpAny_bind (wpAny_holding ?_)
  unfold Builtin.List.listLengthHint
  refine wpAny_bind (wpAny_specialOf (T := "bytes") (v := .bytes x t) (typeIs_bytes _ x t) FB.slot_bytes_len.lookup ?_)
  generalize hid : ("bytes.__len__" : String) = id0
  wp_delta
  rw [show splitId id0 = some ("bytes", "__len__") from by subst hid; decide +kernel]
  subst hid
  refine wpAny_bind (wpAny_isInstance (T := "bytes") (v := .bytes x t) (b := true) (typeIs_bytes _ x t) (by rw [isSubtype_type]; kernel_rfl) ?_)
  refine wpAny_ite_split (fun hab => absurd hab (by decide)) (fun _ => ?_)
  show wpAny _ _ (typeOf (Value.bytes x t) >>= _) _ _ _
  refine wpAny_bind (wpAny_typeOf (T := "bytes") (v := .bytes x t) rfl ?_)
  refine wpAny_pure ?_
  rw [if_neg (by decide)]
  refine wpAny_pure ⟨plainId_quiet F.plain_extend_loop _, codeAny_extend_loopS (W.toS) (Nat.le_trans hn (by decide)) _ hSf _ x.size 0 _ _ _ rfl (Nat.zero_le _) ⟨_, Heap.get?_push_size _ rfl, rfl, rfl⟩ (Heap.get?_push_of_some _ hS) (ItemsOf.nil _) fun s' acc' c' hm hS' hacc => ?_⟩
  rw [Moved.eq_with hm]
  refine hR s'.heap s'.toks acc' c' (fun b ob hb e => hm.heap b ob (fun hmem => ?_) (Heap.get?_push_of_some _ e)) hS' hacc
  rcases List.mem_cons.mp hmem with e' | hmem
  · exact hb e'
  · exact absurd (Heap.lt_size e) (by rw [List.mem_singleton.mp hmem]; exact Nat.lt_irrefl _)
theorem list_init_bytes {R : Result → Shared → Prop} (hh : A.handled = none) (x : Array UInt8) (t : Tok) (S : Addr) (hS : s.heap.get? S = some { cls := .type "list", data := .seq #[] })
    (hR : ∀ h' tk acc' c', (∀ b o, b ≠ S → s.heap.get? b = some o → h'.get? b = some o) → h'.get? S = some { cls := .type "list", dict := none, data := .seq acc' c', slots := #[] } →
      ItemsOf (fun i v => ∃ c u, x[i]? = some c ∧ v = .int (c.toNat : Int) u) acc' x.size → R (.ok (.ret .none)) { s with heap := h', toks := tk }) (hn : x.size ≤ 1048576) :
    wpAny (model prog w) A.in1 (Builtin.«list.__init__» ⟨[.ref S, .bytes x t], []⟩)
      (fun fin s' => match fin with | .done f => R (.ok f) s' | .again c' => c'.quiet = true ∧ codeAny (model prog w) A c' R s') (fun e s' => R (.error e) s') s := by
  show wpAny _ _ (do let old ← Builtin.List.listItems (.ref S); Builtin.List.listUpdate (.ref S) (fun _ => #[]); letGo old.toList.reverse; Builtin.List.listExtendWith (.ref S) (.bytes x t) .none) _ _ s
  refine wpAny_bind ?_
  unfold Builtin.List.listItems
  refine wpAny_bind (wpAny_seqItems hS rfl (wpAny_pure ?_))
  show wpAny _ _ (updateSeq S (fun _ => #[]) >>= fun _ => letGo (#[] : Array Value).toList.reverse >>= fun _ => Builtin.List.listExtendWith (.ref S) (.bytes x t) .none) _ _ s
  refine wpAny_bind (wpAny_updateSeq hS rfl ?_)
  have hS₂ := Heap.get?_update_self (Obj.mapSeq (fun _ => (#[] : Array Value))) hS rfl
  have oth : ∀ b o, b ≠ S → s.heap.get? b = some o → (s.heap.update S (Obj.mapSeq (fun _ => (#[] : Array Value)))).get? b = some o :=
    fun b o hb e => (Heap.get?_update_other _ _ (Ne.symm hb)).trans e
  refine wpAny_bind (wpAny_letGo ?_)
  refine extend_bytes (hn := hn) hh x t S .none _ hS₂ fun h' tk acc' c' hk hS' hacc => ?_
  exact hR h' tk acc' c' (fun b o hb e => hk b o hb (oth b o hb e)) hS' hacc
theorem call_list_bytes {Q : Value → Shared → Prop} (hh : A.handled = none) (x : Array UInt8) (t : Tok)
    (hQ : ∀ h' tk acc' c', (∀ b o, s.heap.get? b = some o → h'.get? b = some o) →
      h'.get? s.heap.objs.size = some { cls := .type "list", dict := none, data := .seq acc' c', slots := #[] } → ItemsOf (fun i v => ∃ c u, x[i]? = some c ∧ v = .int (c.toNat : Int) u) acc' x.size → Q (.ref s.heap.objs.size) { s with heap := h', toks := tk }) (hn : x.size ≤ 1048576) :
    wpAny (model prog w) A (call (.type "list") [.bytes x t]) Q E s := by
  refine callType_codes (Q₁ := fun obj s₁ => obj = .ref s.heap.objs.size ∧ s₁ = { s with heap := s.heap.push { cls := .type "list", data := .seq #[] } }) F.called_list (F.typeCall_list_1 _) F.entry_list_init
    (code_list_new _ ⟨rfl, rfl⟩) fun obj s₁ h₁ => ?_
  obtain ⟨rfl, rfl⟩ := h₁
  have hS : (s.heap.push { cls := .type "list", data := .seq #[] }).get? s.heap.objs.size = some { cls := .type "list", data := .seq #[] } := Heap.get?_push_size _ rfl
  refine ⟨⟨_, hS, rfl⟩, F.args_list_init_2 _ _, list_init_bytes (A := A.in1) (hn := hn) hh x t _ hS fun h' tk acc' c' hk hS' hacc => ?_⟩
  exact ⟨rfl, hQ h' tk acc' c' (fun b o e => hk b o (Nat.ne_of_lt (Heap.lt_size e)) (Heap.get?_push_of_some _ e)) hS' hacc⟩
end
end
section
theorem offM03 : True := by w_top off; trivial
set_option maxRecDepth 100000
set_option maxHeartbeats 400000
variable {p : Program} {loose : List Str} {mean : ExcName → Option Value} {mg mb : Str → Option Value}
  {dp un : Nat} {gd : Option (List Code)} {cn : Str} {cs : Scope} {a : Addr} {ccd : Value} {cl : List (Str × Addr)} {outer : List Env}
  {A₀ : Around} {E Q : Value → Shared → Prop} {s : Shared} {base h₀ : Heap} {L : Addr} {m : Str → Option Value} {news : List (Addr × Obj)}
theorem NatsAre.ofItems {bt : Array UInt8} {acc : Array Value} (h : ItemsOf (fun i v => ∃ c u, bt[i]? = some c ∧ v = .int (c.toNat : Int) u) acc bt.size) : NatsAre acc.toList (bt.toList.map fun b => b.toNat) := by
  obtain ⟨acc⟩ := acc
  obtain ⟨bt⟩ := bt
  obtain ⟨h1, h2⟩ := h
  simp only [List.size_toArray, List.getElem?_toArray] at h1 h2 ⊢
  induction acc generalizing bt with
  | nil =>
    cases bt with
    | nil => exact NatsAre.nil
    | cons b bt => simp at h1
  | cons v acc ih =>
    cases bt with
    | nil => simp at h1
    | cons b bt =>
      obtain ⟨c, u, hc, rfl⟩ := h2 0 v rfl
      simp at hc
      subst hc
      refine NatsAre.cons _ _ (ih bt (by simpa using h1) fun j x hx => ?_)
      simpa using h2 (j + 1) x (by simpa using hx)
theorem list_bytesL {prog : Program} {w : World} {A : Around} (hh : A.handled = none) (bt : Array UInt8) (t : Tok) (F : Fr h₀ L s.heap m) (N : News h₀ L s.heap news)
   (hn : bt.size ≤ 1048576)
   (h : ∀ (D : Addr) c h' tk (vs : List Value), Fr h₀ L h' m → News h₀ L h' ((D, listOf vs.toArray c) :: news) → (∀ q ∈ news, q.1 < D) → NatsAre vs (bt.toList.map fun b => b.toNat) → Q (.ref D) { s with heap := h', toks := tk }) :
   wpAny (model prog w) A (call (.type "list") [.bytes bt t]) Q E s :=
  call_list_bytes hh bt t (fun h' tk acc' c' hk hD hacc => h _ c' h' tk acc'.toList (F.keeps hk) (news_pushed F N hk (by first | (rw [Array.toArray_toList]; exact hD) | simpa using hD) rfl) (fun q hq => Heap.lt_size (N q hq).1) (NatsAre.ofItems hacc)) hn
theorem NatsAre.app : ∀ {vs ws : List Value} {ns ms : List Nat}, NatsAre vs ns → NatsAre ws ms → NatsAre (vs ++ ws) (ns ++ ms)
  | [], _, [], _, _, h => h
  | [], _, _ :: _, _, h, _ => by cases h
  | _ :: _, _, [], _, h, _ => by cases h
  | u :: vs, _, k :: ns, _, h, h2 => by
    cases h with
    | cons _ t h' => exact NatsAre.cons k t (NatsAre.app (ns := ns) h' h2)
theorem zeros3 (t : Tok) : NatsAre (List.replicate (Int.toNat 3) [Value.int 0 t]).flatten [0, 0, 0] := NatsAre.cons 0 _ (NatsAre.cons 0 _ (NatsAre.cons 0 _ NatsAre.nil))
theorem add_N {prog : Program} {w : World} {A : Around} {E : Value → Shared → Prop} {a b : Addr} {vs ws : List Value} {ns ms : List Nat} (F : Fr h₀ L s.heap m) (N : News h₀ L s.heap news) (ha : s.heap.IsList a vs.toArray) (hb : s.heap.IsList b ws.toArray) (hi : NatsAre vs ns) (hj : NatsAre ws ms)
    (h : ∀ D us h', Fr h₀ L h' m → News h₀ L h' ((D, listOf (List.toArray us) 0) :: news) → (∀ p ∈ news, p.1 < D) → NatsAre us (ns ++ ms) → Q (.ref D) { s with heap := h' })
    (hz : ns.length + ms.length ≤ 16777216) : wpAny (model prog w) A (binaryOp .Add (.ref a) (.ref b)) Q E s :=
  kmk_add_ints F N ha hb hi hj (fun D us h' F' N' l1 hI => h D us h' F' N' l1 (by unfold NatsAre; rw [List.map_append]; exact hI)) (by rw [List.length_map, List.length_map, sizeLine_eq]; exact hz)
local macro_rules | `(tactic| walk_at "call type:list") => `(tactic| (k_here; (with_reducible show wpAny _ _ (call (Value.type _) [Value.bytes _ _]) _ _ _); k_dflt (refine' list_bytesL ?k1 _ _ ?k2 ?k3 ?z ?_; (case k1 => rfl); (case k2 => k_asm); (case k3 => k_asm); (case z => first | decide | omega)); intro D' c' h' tk' vs' F' N' l1 hvs'; (try k_lt l1); (try k_sweep)))
local macro_rules | `(tactic| walk_at "call type:list") => `(tactic| (k_here; (with_reducible show wpAny _ _ (call (Value.type _) [Value.ref _]) _ _ _); k_dflt (refine' list_copyK ?k1 ?k2 ?k3 ?_ ?z; (case k1 => k_asm); (case k2 => k_asm); (case k3 => is_list); (case z => (first | size_fits | (simp only [List.size_toArray, sizeLine_eq]; omega)))); intro D' c' h' F' N' l1; (try k_lt l1); (try k_sweep)))
local macro_rules | `(tactic| walk_at "binaryOp Add ref ref") => `(tactic| (k_here; (with_reducible show wpAny _ _ (binaryOp _ (Value.ref _) (Value.ref _)) _ _ _); k_dflt (refine' add_N ?F ?N ?a ?b ?i ?j ?_ ?z; (case F => k_asm); (case N => k_asm); (case a => is_list); (case b => is_list); (case i => with_reducible assumption); (case j => first | (with_reducible assumption) | exact zeros3 _); (case z => (simp only [List.length_map, Array.length_toList, List.length_append, List.length_cons, List.length_nil]; omega))); intro D' ws' h' F' N' l1 hI'; (try k_lt l1); (try k_sweep)))
local macro_rules | `(tactic| walk_at "call ref") => `(tactic| (k_here; (with_reducible show wpAny _ _ (call (Value.ref 28) [Value.ref _]) _ _ _); k_dflt (refine' polymod_spec _ _ _ _ _ ?kN ?kM ?kV ?kL ?kB ?kF ?kX ?kT ?kk ?kd ?ku ?_ rfl; (case kN => k_asm); (case kM => k_mem); (case kF => k_asm); (case kV => (first | assumption | skip)); (case kL => (first | assumption | skip)); (case kB => k_asm); (case kX => k_asm); (case kT => k_asm); (case kk => rfl); (case kd => ((try dsimp +zetaDelta only [Around.deeper, ktrTop]); first | walk_at "mine le" | omega)); (case ku => ((try dsimp +zetaDelta only [Around.deeper, ktrTop]); first | walk_at "mine le" | omega))); intro t' h' tk' F' N'; (try k_sweep)))
def chkN (ns : List Nat) : List Nat := let r := polyN (ns ++ [0, 0, 0]) ^^^ 1; [(r >>> 20) &&& 1023, (r >>> 10) &&& 1023, r &&& 1023]
theorem bytes_small {bt : Array UInt8} {ns : List Nat} (hns : ∀ x ∈ ns, x < 1024) : ∀ x ∈ bt.toList.map (fun b => b.toNat) ++ ns, x < 1024 := by
  intro x hx
  rcases List.mem_append.mp hx with h | h
  · obtain ⟨b, _, rfl⟩ := List.mem_map.mp h
    exact Nat.lt_trans (UInt8.toNat_lt b) (by decide)
  · exact hns x h
theorem verify_spec (w : World) (l : Addr) (vs : List Value) (ns : List Nat) (nv : Nat) (bt : Array UInt8) (tb : Tok) (N : News h₀ L s.heap news) (hl : (l, listOf vs.toArray nv) ∈ news) (hi : NatsAre vs ns)
  (hns : ∀ x ∈ ns, x < 1024) (hbt : bt.size < 100) (hlen : ns.length < 100)
  (B : Below A₀ base outer h₀) (F : Fr h₀ L s.heap m) (X : (Mine.hd.heap_1 w.params).In h₀)  (T : Top p loose mean mg mb h₀)
  (hk : cs.kind = .function) (hd : dp + 30 < recursionLimit) (hu : un + 200 < cLine)
  (ret : ∀ h' tk', Fr h₀ L h' m → News h₀ L h' news → Q (.bool ((polyN (bt.toList.map (fun b => b.toNat) ++ ns) : Int) == 1)) { s with heap := h', toks := tk' })
  (hrw : PySem.Challenge.rw_ja0052_01 = PySem.Challenge.rw_ja0052_01) :
  wpAny (model PySem.Challenge.pw_ja0052_01 w) (ktrTop dp un gd cn cs L a ccd cl outer) (call (.ref 40) [.ref l, .bytes bt tb]) Q E s := by
  refine wpAny_noRaise ?_
  revert X hrw
  k_fill
  intro X hrw
  clear hrw
  have hvl := hi.len
  refine wpAny_call ?_
  (k_dflt (refine' code_def ?k1 ?k2 ?k3 ?k4 ?k5 ?kA ?kF ?kK ?k6 ?k7 ?k8 ?k9 ?kB ?_ ?c2 ?c3 ?c4 ?c5; (case kA => first | with_reducible assumption | exact rfl); (case kF => first | with_reducible assumption | exact rfl); (case kK => first | with_reducible assumption | exact rfl | assumption); (case k1 => k_asm); (case k2 => k_asm); (case k3 => k_asm); (case k4 => k_asm); (case k5 => k_asm); (case k6 => k_is); (case k7 => k_is); (case k8 => k_room); (case k9 => exact BindsTo.of_eq rfl); (case c5 => decide); (case kB => exact locs rfl); (case c2 => exact rfl); (case c3 => exact rfl); (case c4 => exact rfl); k_whole; intro _ _ _ _ F0 N0 B0 X0 T0; (try dsimp only); (try k_fold)))
  refine letA ?_
  intro A9
  have hsm : ∀ x ∈ bt.toList.map (fun b => b.toNat) ++ ns, x < 1024 := bytes_small hns
  k_steps
  rename_i kF kN _ _
  exact ret _ _ kF (fun p hp => kN p (.tail _ (.tail _ (.tail _ hp))))
end
local macro_rules | `(tactic| walk_at "call type:list") => `(tactic| (k_here; (with_reducible show wpAny _ _ (call (Value.type _) [Value.bytes _ _]) _ _ _); k_dflt (refine' list_bytesL ?k1 _ _ ?k2 ?k3 ?z ?_; (case k1 => rfl); (case k2 => k_asm); (case k3 => k_asm); (case z => first | decide | omega)); intro D' c' h' tk' vs' F' N' l1 hvs'; (try k_lt l1); (try k_sweep)))
local macro_rules | `(tactic| walk_at "call type:list") => `(tactic| (k_here; (with_reducible show wpAny _ _ (call (Value.type _) [Value.ref _]) _ _ _); k_dflt (refine' list_copyK ?k1 ?k2 ?k3 ?_ ?z; (case k1 => k_asm); (case k2 => k_asm); (case k3 => is_list); (case z => (first | size_fits | (simp only [List.size_toArray, sizeLine_eq]; omega)))); intro D' c' h' F' N' l1; (try k_lt l1); (try k_sweep)))
local macro_rules | `(tactic| walk_at "binaryOp Add ref ref") => `(tactic| (k_here; (with_reducible show wpAny _ _ (binaryOp _ (Value.ref _) (Value.ref _)) _ _ _); k_dflt (refine' add_N ?F ?N ?a ?b ?i ?j ?_ ?z; (case F => k_asm); (case N => k_asm); (case a => is_list); (case b => is_list); (case i => with_reducible assumption); (case j => first | (with_reducible assumption) | exact zeros3 _); (case z => (simp only [List.length_map, Array.length_toList, List.length_append, List.length_cons, List.length_nil]; omega))); intro D' ws' h' F' N' l1 hI'; (try k_lt l1); (try k_sweep)))
local macro_rules | `(tactic| walk_at "call ref") => `(tactic| (k_here; (with_reducible show wpAny _ _ (call (Value.ref 28) [Value.ref _]) _ _ _); k_dflt (refine' polymod_spec _ _ _ _ _ ?kN ?kM ?kV ?kL ?kB ?kF ?kX ?kT ?kk ?kd ?ku ?_ rfl; (case kN => k_asm); (case kM => k_mem); (case kF => k_asm); (case kV => (first | assumption | skip)); (case kL => (first | assumption | skip)); (case kB => k_asm); (case kX => k_asm); (case kT => k_asm); (case kk => rfl); (case kd => ((try dsimp +zetaDelta only [Around.deeper, ktrTop]); first | walk_at "mine le" | omega)); (case ku => ((try dsimp +zetaDelta only [Around.deeper, ktrTop]); first | walk_at "mine le" | omega))); intro t' h' tk' F' N'; (try k_sweep)))
section
open PyProof.Rows.LCg (NsObj lst lst_snoc Off3 Off1 ns_obj fr_but news_but)
set_option maxRecDepth 100000
set_option maxHeartbeats 1000000
/-- after one element -/
inductive CEnd (h₀ : Heap) (L : Addr) (m : Str → Option Value) (s₁ : Shared) (I : Addr) (oI : Obj) (C : Addr) (oC : Obj) (D : Addr) (oD : Obj) (J : Value → List (Addr × Obj) → Array GenState → Prop) (y : Value) (s₂ : Shared) : Prop
  | mk (h' : _) (tk : _) (g' : _) (all : _) (news' : _)
    (c0 : s₂ = ⟨h', g', s₁.drawn, tk, s₁.os⟩)
    (c1 : Fr h₀ L h' m)
    (c2 : News h₀ L h' all)
    (c3 : (∀ p ∈ (I, oI) :: (C, oC) :: (D, oD) :: news', p ∈ all))
    (c4 : (∀ p ∈ news', p.1 ≠ I ∧ p.1 ≠ C ∧ p.1 ≠ D))
    (c5 : J y news' g')
inductive JSt (St : Nat → Heap → Prop) (h₀ : Heap) (L : Addr) (m : Str → Option Value) (n : Nat) (J : Nat → List Value → List (Addr × Obj) → Array GenState → Prop) (I C D : Addr) (s₂ : Shared) (k : Nat) (s' : Shared) : Prop
  | mk (h' : Heap) (tk : Nat) (g' : Array GenState) (i : Nat) (ys : List Value) (m' : Str → Option Value) (news' : List (Addr × Obj))
    (c0 : s' = ⟨h', g', s₂.drawn, tk, s₂.os⟩) (c1 : i ≤ n) (c2 : k = n + 1 - i) (c3 : ys.length = i) (c4 : St i h') (c5 : Fr h₀ L h' m) (c6 : h'.Ns C m') (c7 : News h₀ L h' ((D, lst ys) :: news'))
    (c8 : ∀ p ∈ news', p.1 ≠ I ∧ p.1 ≠ C ∧ p.1 ≠ D) (c9 : J i ys news' g')
section
variable {prog : Program} {w : World} {A : Around} {E : Value → Shared → Prop} {s : Shared} {h₀ : Heap} {L : Addr} {m : Str → Option Value} {env : Env}
theorem block_J {elt iter : Expr} {x : Str} {px : Pos} {scope : Scope} {cl : List (Str × Addr)} {pos : Pos} {s₂ : Shared} {I : Addr} {fp : List Addr} {n : Nat} {P : Nat → Value → Prop} {St : Nat → Heap → Prop} {news : List (Addr × Obj)}
    {J : Nat → List Value → List (Addr × Obj) → Array GenState → Prop} {RR : Value → Addr → Result → Shared → Prop}
    (W : Walks prog w A I fp [I] n P St) (hsz : n ≤ sizeLine) (hIo : ∀ i h, St i h → ∃ o, h.get? I = some o)
    (hSt : ∀ i h h' o ys nw g', St i h → h.get? I = some o → h'.get? I = some o → (∀ b o, h₀.get? b = some o → h'.get? b = some o) → News h₀ L h' nw → J i ys nw g' → St i h')
    (hcell : ∀ y ∈ scope.names, y.2 ≠ .cell) (hkind : scope.kind = .function) (hx : scope.names.lookup x = some .local) (hst : St 0 s₂.heap) (hfp : ∀ b ∈ fp, b < s₂.heap.objs.size)
    (F : Fr h₀ L s₂.heap m) (N : News h₀ L s₂.heap news) (hIL : L ≠ I) (hI₀ : h₀.get? I = none) (off : ∀ p ∈ news, p.1 ≠ I)
    (h0 : J 0 [] news s₂.gens)
    (turn : ∀ i ys news' g v oI C oC D m₂ h tk (E' : Value → Shared → Prop), i < n → ys.length = i → P i v → J i ys news' g → NsObj oC m₂ → m₂ x = some v → Fr h₀ L h m → News h₀ L h ((I, oI) :: (C, oC) :: (D, lst ys) :: news') → (∀ p ∈ news', p.1 ≠ I ∧ p.1 ≠ C ∧ p.1 ≠ D) → ((@Ne Nat I C) ∧ (@Ne Nat I D) ∧ (@Ne Nat C D)) → @LT.lt Nat _ I D → @LT.lt Nat _ D C → D = s₂.heap.objs.size →
      wpAny (model prog w) A (eval elt (compEnvC scope cl C env)) (CEnd h₀ L m ⟨h, g, s₂.drawn, tk, s₂.os⟩ I oI C oC D (lst ys) (fun y news' g' => J (i + 1) (ys ++ [y]) news' g')) E' ⟨h, g, s₂.drawn, tk, s₂.os⟩)
    (hRR : ∀ D C h tk g' m' ys news', D = s₂.heap.objs.size → ys.length = n → Fr h₀ L h m → News h₀ L h ((D, lst ys) :: news') → (∀ p ∈ news', p.1 ≠ D) → h.Ns C m' → h₀.get? C = none → h₀.get? D = none → C ≠ L → D ≠ L → C ≠ D → (∀ p ∈ news', p.1 ≠ C) → J n ys news' g' → RR (.ref D) C (.ok .next) ⟨h, g', s₂.drawn, tk, s₂.os⟩) :
    wpAny (model prog w) A (newList []) (fun acc s₃ => wpAny (model prog w) A (newFunctionEnv scope env.globals cl [] env.qual none .none (some env)) (fun cenv s₄ =>
      codeAny (model prog w) A (.compStart (.ListComp elt [⟨.Name x px, iter, [], 0⟩] scope pos) 0 (.ref I) acc { cenv with scope := relabel scope env }) (RR acc cenv.locals) s₄) E s₃) E s₂ := by
  refine wpAny_newObj_type (wpAny_newFunctionEnv hcell (by intro y hy; simp at hy) (fun h₁ hns₁ hsb₁ => ?_) hkind)
  dsimp only at hns₁ hsb₁ ⊢
  generalize hH2 : s₂.heap.push { cls := .type "list", dict := none, data := .seq ([] : List Value).toArray } = H2 at hns₁ hsb₁ ⊢
  have hC : H2.objs.size = s₂.heap.objs.size + 1 := by rw [← hH2, Heap.size_push]
  have hDC : s₂.heap.objs.size ≠ H2.objs.size := by rw [hC]; exact Nat.ne_of_lt (Nat.lt_succ_self _)
  have below : ∀ b, b < s₂.heap.objs.size → b ≠ H2.objs.size ∧ b ≠ s₂.heap.objs.size := fun b hb => ⟨by rw [hC]; exact Nat.ne_of_lt (Nat.lt_succ_of_lt hb), Nat.ne_of_lt hb⟩
  have hDf : s₂.heap.objs.size ∉ fp := fun hm => Nat.lt_irrefl _ (hfp _ hm)
  have hCf : H2.objs.size ∉ fp := fun hm => by have := hfp _ hm; rw [hC] at this; exact Nat.lt_irrefl _ (Nat.lt_of_succ_lt this)
  have hIf : I ∈ fp := W.sub I (List.mem_singleton.mpr rfl)
  have hIlt : I < s₂.heap.objs.size := hfp I hIf
  have old : ∀ b o, s₂.heap.get? b = some o → h₁.get? b = some o := fun b o e => hsb₁.extBut b o (below b (Heap.lt_size e)).1 (Heap.get?_push_of_some _ (hH2 ▸ Heap.get?_push_of_some _ e))
  have hacc : h₁.get? s₂.heap.objs.size = some (lst []) := hsb₁.extBut _ _ hDC (Heap.get?_push_of_some _ (hH2 ▸ Heap.get?_push_size _ rfl))
  have hst₁ : St 0 h₁ := W.frame _ _ _ hst fun b _ o e => old b o e
  have fresh : ∀ a, s₂.heap.objs.size ≤ a → s₂.heap.get? a = none := fun a ha => by
    cases e : s₂.heap.get? a with
    | none => rfl
    | some o' => exact absurd (Heap.lt_size e) (Nat.not_lt.mpr ha)
  have fresh₀ : ∀ a, s₂.heap.objs.size ≤ a → h₀.get? a = none := fun a ha => by
    cases e : h₀.get? a with
    | none => rfl
    | some o' => have := F.keep a o' e; rw [fresh a ha] at this; cases this
  have hD₀ : h₀.get? s₂.heap.objs.size = none := fresh₀ _ (Nat.le_refl _)
  have hC₀ : h₀.get? H2.objs.size = none := fresh₀ _ (by rw [hC]; exact Nat.le_succ _)
  have hLlt : L < s₂.heap.objs.size := F.ns.lt
  have hDL : s₂.heap.objs.size ≠ L := Ne.symm (below L hLlt).2
  have hCL : H2.objs.size ≠ L := Ne.symm (below L hLlt).1
  have hCI : I ≠ H2.objs.size := (below I hIlt).1
  have hDI : I ≠ s₂.heap.objs.size := (below I hIlt).2
  have off₀ : ∀ p ∈ news, p.1 ≠ I ∧ p.1 ≠ H2.objs.size ∧ p.1 ≠ s₂.heap.objs.size := fun p hp => ⟨off p hp, (below _ (Heap.lt_size (N p hp).1)).1, (below _ (Heap.lt_size (N p hp).1)).2⟩
  have loop : ∀ s₃ : Shared, s₃ = { s₂ with heap := h₁, toks := s₂.toks + ([] : List (Str × Value)).length } →
      codeAny (model prog w) A (.compLoop (.ListComp elt [⟨.Name x px, iter, [], 0⟩] scope pos) 0 (.ref I) (.ref s₂.heap.objs.size) (compEnvC scope cl H2.objs.size env))
        (RR (.ref s₂.heap.objs.size) H2.objs.size) s₃ := by
    rintro s₃ rfl
    refine codeAny_compLoop_tests
      (JSt St h₀ L m n J I H2.objs.size s₂.heap.objs.size s₂) ?_ (n + 1)
      ⟨h₁, _, _, 0, [], _, news, rfl, Nat.zero_le _, rfl, rfl, hst₁, F.keeps old, hns₁, fun p hp => ?_, off₀, h0⟩
    · rintro k s' ⟨h', tk, g', i, ys, m', news', rfl, hi, rfl, hyl, hst', F', hn', N', off', hJ⟩
      by_cases hlt : i < n
      · refine W.item i _ _ _ hlt hst' fun v h₂ tk₂ hPv hst₂ hk₂ => ?_
        refine wpAny_assign_Name (wpAny_storeName_local (lookup_relabel_local hx) (hn'.at' fun o e => hk₂ _ o (by simpa using Ne.symm hCI) e) (fun h₃ hn₃ hs₃ => ?_) (by simp [compEnvC, relabel, hkind]))
        refine wpAny_tests_nil ?_
        simp only [if_true]
        have hst₃ : St (i + 1) h₃ := W.frame _ _ _ hst₂ fun b hb o e => hs₃.extBut b o (fun q => hCf (by have q' : b = H2.objs.size := q; rw [← q']; exact hb)) e
        obtain ⟨oI, heI⟩ := hIo _ _ hst₃
        obtain ⟨oC, heC, hoC⟩ := ns_obj hn₃
        have F₃ : Fr h₀ L h₃ m := (fr_but F' hk₂ hIL hI₀).change hs₃ hCL hC₀
        have N₂ : News h₀ L h₂ ((s₂.heap.objs.size, lst ys) :: news') := news_but N' hk₂ fun p hp => by
          rcases List.mem_cons.mp hp with rfl | hp
          · exact Ne.symm hDI
          · exact (off' p hp).1
        have N₃ : News h₀ L h₃ ((I, oI) :: (H2.objs.size, oC) :: (s₂.heap.objs.size, lst ys) :: news') := fun p hp => by
          rcases List.mem_cons.mp hp with rfl | hp
          · exact ⟨heI, Ne.symm hIL, hI₀⟩
          · rcases List.mem_cons.mp hp with rfl | hp
            · exact ⟨heC, hCL, hC₀⟩
            · have z := N₂ p hp
              refine ⟨hs₃.extBut _ _ ?_ z.1, z.2⟩
              rcases List.mem_cons.mp hp with rfl | hp
              · exact hDC
              · exact (off' p hp).2.1
        refine wpAny_mono (turn i ys news' g' v oI H2.objs.size oC s₂.heap.objs.size _ h₃ _ _ hlt hyl hPv hJ hoC (by simp) F₃ N₃ off' ⟨hCI, hDI, Ne.symm hDC⟩ hIlt (by rw [hC]; exact Nat.lt_succ_self _) rfl) (fun y s₄ h₄ => ?_) fun _ _ e => e
        obtain ⟨h₄, tk₄, g₄, all, news₄, rfl, F₄, Nall, hall, off₄, J₄⟩ := h₄
        have N₄ : News h₀ L h₄ ((I, oI) :: (H2.objs.size, oC) :: (s₂.heap.objs.size, lst ys) :: news₄) := fun p hp => Nall p (hall p hp)
        have zI := (N₄ (I, oI) List.mem_cons_self).1
        have zC := (N₄ (H2.objs.size, oC) (List.mem_cons_of_mem _ List.mem_cons_self)).1
        have zD := (N₄ (s₂.heap.objs.size, lst ys) (List.mem_cons_of_mem _ (List.mem_cons_of_mem _ List.mem_cons_self))).1
        have N₄' : News h₀ L h₄ news₄ := fun p hp => N₄ p (List.mem_cons_of_mem _ (List.mem_cons_of_mem _ (List.mem_cons_of_mem _ hp)))
        have hst₄ : St (i + 1) h₄ := hSt _ _ _ _ _ _ _ hst₃ heI zI F₄.keep N₄' J₄
        refine append_at (hsz := by show ys.toArray.size ≤ sizeLine; rw [List.size_toArray, hyl]; exact Nat.le_trans hi hsz) zD fun h₅ hs₅ hD₅ => ?_
        refine ⟨n + 1 - (i + 1), sub_dec hlt, h₅, tk₄, g₄, i + 1, ys ++ [y], _, news₄, rfl, hlt, rfl, by rw [List.length_append, List.length_singleton, hyl], W.frame _ _ _ hst₄ fun b hb o e => hs₅.extBut b o (fun q => hDf (q ▸ hb)) e, F₄.change hs₅ hDL hD₀,
          (hoC.ns zC).sameBut hs₅ (Ne.symm hDC), fun p hp => ?_, off₄, J₄⟩
        rcases List.mem_cons.mp hp with rfl | hp
        · exact ⟨hD₅.trans (congrArg some (lst_snoc ys y)), hDL, hD₀⟩
        · exact ⟨hs₅.extBut _ _ (off₄ p hp).2.2 (N₄' p hp).1, (N₄' p hp).2⟩
      · obtain rfl : i = n := Nat.le_antisymm hi (Nat.not_lt.mp hlt)
        refine W.done _ _ _ hst' fun h₂ tk₂ hk₂ => ?_
        exact hRR _ _ h₂ tk₂ _ _ ys news' rfl hyl (fr_but F' hk₂ hIL hI₀) (news_but N' hk₂ fun p hp => by
          rcases List.mem_cons.mp hp with rfl | hp
          · exact Ne.symm hDI
          · exact (off' p hp).1) (fun p hp => (off' p hp).2.2) (hn'.at' fun o e => hk₂ _ o (by simpa using Ne.symm hCI) e) hC₀ hD₀ hCL hDL (Ne.symm hDC) (fun p hp => (off' p hp).2.1) hJ
    · rcases List.mem_cons.mp hp with rfl | hp
      · exact ⟨hacc, hDL, hD₀⟩
      · exact ⟨old _ _ (N p hp).1, (N p hp).2⟩
  exact codeAny_compStart_list (loop _ rfl) (W.self 0 _ _ _ hst₁ (loop _ rfl))
/-- the source of a list comprehension, walked by an invariant -/
inductive CSrc (prog : Program) (w : World) (A : Around) (h₀ : Heap) (L : Addr) (m : Str → Option Value) (env : Env) (elt : Expr) (x : Str) (scope : Scope) (cl : List (Str × Addr)) (Q : Value → Shared → Prop) (it : Value) (s₂ : Shared) : Prop
  | mk (I : Addr) (fp : List Addr) (n : Nat) (P : Nat → Value → Prop) (St : Nat → Heap → Prop) (news : List (Addr × Obj)) (J : Nat → List Value → List (Addr × Obj) → Array GenState → Prop)
    (c0 : it = .ref I)
    (c1 : Walks prog w A I fp [I] n P St)
    (c2 : n ≤ sizeLine)
    (c3 : (∀ i h, St i h → ∃ o, h.get? I = some o))
    (c4 : (∀ i h h' o ys nw g', St i h → h.get? I = some o → h'.get? I = some o → (∀ b o, h₀.get? b = some o → h'.get? b = some o) → News h₀ L h' nw → J i ys nw g' → St i h'))
    (c5 : St 0 s₂.heap)
    (c6 : (∀ b ∈ fp, b < s₂.heap.objs.size))
    (c7 : Fr h₀ L s₂.heap m)
    (c8 : News h₀ L s₂.heap news)
    (c9 : L ≠ I)
    (c10 : h₀.get? I = none)
    (c11 : (∀ p ∈ news, p.1 ≠ I))
    (c12 : J 0 [] news s₂.gens)
    (c13 : (∀ i ys news' g v oI C oC D m₂ h tk (E' : Value → Shared → Prop), i < n → ys.length = i → P i v → J i ys news' g → NsObj oC m₂ → m₂ x = some v → Fr h₀ L h m → News h₀ L h ((I, oI) :: (C, oC) :: (D, lst ys) :: news') → (∀ p ∈ news', p.1 ≠ I ∧ p.1 ≠ C ∧ p.1 ≠ D) → ((@Ne Nat I C) ∧ (@Ne Nat I D) ∧ (@Ne Nat C D)) → @LT.lt Nat _ I D → @LT.lt Nat _ D C → D = s₂.heap.objs.size →       wpAny (model prog w) A (eval elt (compEnvC scope cl C env)) (CEnd h₀ L m ⟨h, g, s₂.drawn, tk, s₂.os⟩ I oI C oC D (lst ys) (fun y news' g' => J (i + 1) (ys ++ [y]) news' g')) E' ⟨h, g, s₂.drawn, tk, s₂.os⟩))
    (c14 : (∀ D h tk g' ys news', D = s₂.heap.objs.size → ys.length = n → Fr h₀ L h m → News h₀ L h ((D, lst ys) :: news') → (∀ p ∈ news', p.1 ≠ D) → J n ys news' g' → Q (.ref D) ⟨h, g', s₂.drawn, tk, s₂.os⟩))
theorem ListComp_J {elt iter : Expr} {x : Str} {px : Pos} {scope : Scope} {cl : List (Str × Addr)} {pos : Pos} {Q : Value → Shared → Prop} (_F₀ : Fr h₀ L s.heap m)
    (hclos : closureFor scope env = pure cl) (hcell : ∀ y ∈ scope.names, y.2 ≠ .cell) (hkind : scope.kind = .function)
    (hnames : ∀ y ∈ scope.names, y.2 = .local → scope.names.lookup y.1 = some .local) (hx : scope.names.lookup x = some .local)
    (h : wpAny (model prog w) A (eval iter env) (fun xv s₁ => wpAny (model prog w) A (pyIter xv) (CSrc prog w A h₀ L m env elt x scope cl Q) E s₁) E s)
    (hs : ∀ x, foldedSetIterable iter env x = pure x := by intro _; rfl) :
    wpAny (model prog w) A (eval (.ListComp elt [⟨.Name x px, iter, [], 0⟩] scope pos) env) Q E s := by
  rw [eval_ListComp]
  refine wpAny_comprehension_free (use := none) rfl hs hclos hkind hnames (wpAny_mono h (fun xv s₁ h₁ => wpAny_mono h₁ (fun it s₂ h₂ => ?_) fun _ _ e => e) fun _ _ e => e)
  obtain ⟨I, fp, n, P, St, news, J, rfl, W, hsz, hIo, hSt, hst, hfp, F, N, hIL, hI₀, off, hJ, turn, fin⟩ := h₂
  refine block_J W hsz hIo hSt hcell hkind hx hst hfp F N hIL hI₀ off hJ turn ?_
  intro D C h tk g' m' ys news' hDs hyl F' N' o1 hn hC₀ hD₀ hCL hDL hCD offC hJ'
  refine ⟨m', hn, fun h'' hs'' => fin D h'' tk g' ys news' hDs hyl (F'.change hs'' hCL hC₀) (fun p hp => ?_) o1 hJ'⟩
  refine ⟨hs''.extBut _ _ ?_ (N' p hp).1, (N' p hp).2⟩
  rcases List.mem_cons.mp hp with rfl | hp
  · exact Ne.symm hCD
  · exact offC p hp
end
end
section
open PyProof.Rows.LCg (NsObj lst lst_snoc Off3 Off1 ns_obj fr_but news_but)
set_option maxRecDepth 100000
set_option maxHeartbeats 1000000
def revSmall (a b : Int) : Bool := Builtin.Range.rangeFitsLong a && Builtin.Range.rangeFitsLong b && Builtin.Range.rangeFitsLong 1 && Builtin.Range.rangeFitsLong (-1) && Builtin.Range.rangeFitsLong (a - 1) && Builtin.Range.rangeFitsLong (Builtin.Range.rangeSize a b 1)
theorem range_rev_meets (r : Addr) (a b : Int) (t u v : Tok) (hc0 : revSmall a b = true) :
    Meets (Builtin.«range.__reversed__» ⟨[.ref r], []⟩) (fun _ R s => s.heap.get? r = some { cls := .type "range", dict := none, data := .fields #[.int a t, .int b u, .int 1 v], slots := #[] } ∧
      R (.ok (.ret (Value.ref s.heap.objs.size))) { s with heap := s.heap.push { cls := Value.type "range_iterator", data := Data.fields #[rawInt (a + (Builtin.Range.rangeSize a b 1 - 1) * 1), rawInt (Builtin.Range.rangeSize a b 1), rawInt (-1)] }, toks := s.toks }) :=
  .of_wp fun prog w A R s h => by
    obtain ⟨hp, g, d, tk, os⟩ := s; obtain ⟨hl, h⟩ := h
    unfold revSmall at hc0
    have hc1 : ¬ ((!(Builtin.Range.rangeFitsLong a && Builtin.Range.rangeFitsLong b && Builtin.Range.rangeFitsLong 1 && Builtin.Range.rangeFitsLong (-1) && Builtin.Range.rangeFitsLong (a - 1) && Builtin.Range.rangeFitsLong (Builtin.Range.rangeSize a b 1))) = true) := by rw [hc0]; decide
    wp_walk
    simp only [hc0, if_true]
    exact ⟨_, rfl, h⟩
section
variable {prog : Program} {w : World} {A : Around} {E : Value → Shared → Prop} {s : Shared} {h₀ : Heap} {L : Addr} {m : Str → Option Value} {env : Env}
theorem sub_ri_reversed : isSubtype (.type "range_iterator") (.type "reversed") = pure false := by rw [isSubtype_type]; kernel_rfl
def riObj (x n : Int) : Obj := { cls := .type "range_iterator", data := .fields #[rawInt x, rawInt n, rawInt (-1)] }
theorem code_reversed_range {r : Addr} {a b : Int} {t u v : Tok} {Q₁ : Value → Shared → Prop} (hr : IsRange s.heap r a b 1 t u v) (hsm : revSmall a b = true)
    (h : Q₁ (.ref s.heap.objs.size) { s with heap := s.heap.push (riObj (a + (Builtin.Range.rangeSize a b 1 - 1) * 1) (Builtin.Range.rangeSize a b 1)) }) :
    codeAny (model prog w) A (.call (.builtin "reversed.__new__") ⟨[.type "reversed", .ref r], []⟩) (wants Q₁ E) s := by
  have hT : s.TypeIs (.ref r) "range" := ⟨_, hr, rfl⟩
  refine codeAny_of_tree ?_
  show wpAny _ A.in1 (do checkBuiltinCall "reversed.__new__" ⟨[.type "reversed", .ref r], []⟩; again (.builtin "reversed.__new__" ⟨[.type "reversed", .ref r], []⟩)) _ _ s
  refine wpAny_bind (wpAny_of_eq (F.newCall_reversed_1 _) (wpAny_pure ⟨plainId_quiet F.plain_reversed_new _, codeAny_builtin F.entry_reversed_new ?_⟩))
  rw [Around.under_plainId F.plain_reversed_new _]
  unfold Builtin.«reversed.__new__»
  refine wpAny_bind (wpAny_of_eq (newClass_reversed _) ?_)
  try dsimp only
  refine wpAny_bind (wpAny_of_eq (a := ()) (by first | rfl | kernel_rfl) ?_)
  refine wpAny_bind (wpAny_of_eq (a := ()) (by first | rfl | kernel_rfl) ?_)
  try dsimp only
  refine wpAny_bind (wpAny_specialOf hT F.slot_range_reversed.lookup ?_)
  try dsimp only
  refine wpAny_bind (wpAny_of_eq (F.slot_range_reversed.bind _) ?_)
  try dsimp only
  first
  | rw [if_neg (show ¬ ((Value.builtin "range.__reversed__" == Value.none) = true) from Bool.false_ne_true)]
  | (show wpAny _ _ (if (Value.builtin "range.__reversed__" == Value.none) = true then _ else _) _ _ _; rw [if_neg (show ¬ ((Value.builtin "range.__reversed__" == Value.none) = true) from Bool.false_ne_true)])
  refine wpAny_bind (wpAny_rule ?_)
  refine wpAny_bind (m := runValue (.call (.builtin "range.__reversed__") ⟨[.ref r], []⟩)) (show wpAny _ _ (call (.builtin "range.__reversed__") [.ref r]) _ _ _ from
    call_meets F.slot_range_reversed hT F.entry_range_reversed (F.args_range_reversed_1 _) (range_rev_meets r a b t u v hsm) ⟨hr, ?_⟩)
  first
  | exact wpAny_pure h
  | exact wpAny_bind (wpAny_pure (wpAny_pure h))
structure RevOk (a b : Int) : Prop where
  ok : revSmall a b = true
theorem reversed_range {r : Addr} {a b : Int} {t u v : Tok} {Q : Value → Shared → Prop} {news : List (Addr × Obj)} (F : Fr h₀ L s.heap m) (N : News h₀ L s.heap news) (hr : IsRange s.heap r a b 1 t u v) (hsm : RevOk a b)
    (h : ∀ D h', Fr h₀ L h' m → News h₀ L h' ((D, riObj (a + (Builtin.Range.rangeSize a b 1 - 1) * 1) (Builtin.Range.rangeSize a b 1)) :: news) → (∀ p ∈ news, p.1 < D) → Q (.ref D) { s with heap := h' }) : wpAny (model prog w) A (call (.type "reversed") [.ref r]) Q E s := by
  refine callType_other (U := "range_iterator") (Q₁ := fun obj s₁ => obj = .ref s.heap.objs.size ∧ s₁ = { s with heap := s.heap.push (riObj (a + (Builtin.Range.rangeSize a b 1 - 1) * 1) (Builtin.Range.rangeSize a b 1)) }) (by decide +kernel) PySem.F.create_reversed ⟨_, _, PySem.F.mro_reversed⟩ PySem.F.made_reversed sub_ri_reversed (PySem.F.typeCall_reversed_1 _) (code_reversed_range hr hsm.ok ⟨rfl, rfl⟩) ?_
  rintro obj s₁ ⟨rfl, rfl⟩
  exact ⟨⟨_, Heap.get?_push_size _ rfl, rfl⟩, h _ _ (F.push _) (News.push F N _) fun p hp => Heap.lt_size (N p hp).1⟩
/-- a comprehension over a range iterator of the ledger -/
theorem comp_ri {elt : Expr} {x : Str} {scope : Scope} {cl : List (Str × Addr)} {Q : Value → Shared → Prop} {r : Addr} {k : Nat} {z nn : Int} {news all : List (Addr × Obj)} (hh : A.handled = none)
    (J : Nat → List Value → List (Addr × Obj) → Array GenState → Prop)
    (F : Fr h₀ L s.heap m) (N : News h₀ L s.heap all) (hm : (r, riObj z nn) ∈ all) (hz : z = (k : Int) - 1) (hn : nn = (k : Int)) (hk : k ≤ 1000000)
    (sub : ∀ p ∈ news, p ∈ all) (off : ∀ p ∈ news, p.1 ≠ r) (h0 : J 0 [] news s.gens)
    (turn : ∀ i ys news' g t oI C oC D m₂ h tk (E' : Value → Shared → Prop), i < k → ys.length = i → J i ys news' g → NsObj oC m₂ → m₂ x = some (.int ((k - 1 - i : Nat) : Int) t) → Fr h₀ L h m → News h₀ L h ((r, oI) :: (C, oC) :: (D, lst ys) :: news') → (∀ p ∈ news', p.1 ≠ r ∧ p.1 ≠ C ∧ p.1 ≠ D) → ((@Ne Nat r C) ∧ (@Ne Nat r D) ∧ (@Ne Nat C D)) →
      wpAny (model prog w) A (eval elt (compEnvC scope cl C env)) (CEnd h₀ L m ⟨h, g, s.drawn, tk, s.os⟩ r oI C oC D (lst ys) (fun y news' g' => J (i + 1) (ys ++ [y]) news' g')) E' ⟨h, g, s.drawn, tk, s.os⟩)
    (done : ∀ D h tk g' ys news', D = s.heap.objs.size → ys.length = k → Fr h₀ L h m → News h₀ L h ((D, lst ys) :: news') → (∀ p ∈ news', p.1 ≠ D) → J k ys news' g' → Q (.ref D) ⟨h, g', s.drawn, tk, s.os⟩) :
    wpAny (model prog w) A (pyIter (.ref r)) (CSrc prog w A h₀ L m env elt x scope cl Q) E s := by
  subst hz
  subst hn
  have hit := (N _ hm).1
  have W := Walks.range (prog := prog) (w := w) hh r ((k : Int) - 1) (-1) k
  have hst : IsRangeIter s.heap r (((k : Int) - 1) + ((0 : Nat) : Int) * (-1)) ((k : Int) - ((0 : Nat) : Int)) (-1) := by
    have e1 : (((k : Int) - 1) + ((0 : Nat) : Int) * (-1)) = (k : Int) - 1 := by simp
    have e2 : ((k : Int) - ((0 : Nat) : Int)) = (k : Int) := by simp
    rw [e1, e2]; exact hit
  refine W.self 0 s _ _ hst ?_
  refine ⟨r, [r], k, _, _, news, J, rfl, W, Nat.le_trans hk (by decide), fun i h st => ⟨_, st⟩, ?_, hst, fun b hb => ?_, F, fun p hp => N p (sub p hp), fun e => (N _ hm).2.1 e.symm, (N _ hm).2.2, off, h0, ?_, done⟩
  · intro i h h' o ys nw g' st e e' _ _ _
    have st' : h.get? r = some _ := st
    show h'.get? r = some _
    rw [e', ← e]; exact st'
  · rw [List.mem_singleton.mp hb]; exact Heap.lt_size hit
  · intro i ys news' g v oI C oC D m₂ h tk E' hi hl ⟨t, hv⟩ hJ hoC hx F' N' off' hne _ _ _
    refine turn i ys news' g t oI C oC D m₂ h tk E' hi hl hJ hoC ?_ F' N' off' hne
    rw [hx, hv]
    congr 2
    omega
end
end
local macro_rules | `(tactic| walk_at "call type:reversed") => `(tactic| (k_here; (with_reducible show wpAny _ _ (call (Value.type _) [Value.ref _]) _ _ _); k_dflt (refine' reversed_range ?k1 ?k2 ?k3 ?k4 ?_; (case k1 => k_asm); (case k2 => k_asm); (case k3 => first | with_reducible assumption | assumption); (case k4 => first | with_reducible assumption | exact ⟨by rfl⟩)); intro D' h' F' N' l1; (try k_lt l1); (try k_sweep)))
section
theorem offM06 : True := by w_top off; trivial
open PyProof.Rows.LCg (NsObj lst lst_snoc Off3 Off1 ns_obj fr_but news_but)
set_option maxRecDepth 100000
set_option maxHeartbeats 400000
variable {p : Program} {loose : List Str} {mean : ExcName → Option Value} {mg mb : Str → Option Value}
  {dp un : Nat} {gd : Option (List Code)} {cn : Str} {cs : Scope} {a : Addr} {ccd : Value} {cl : List (Str × Addr)} {outer : List Env}
  {A₀ : Around} {E Q : Value → Shared → Prop} {s : Shared} {base h₀ : Heap} {L : Addr} {m : Str → Option Value} {news : List (Addr × Obj)}
theorem NatsAre.snocI {ys : List Value} {ns : List Nat} {x : Int} {n : Nat} {t : Tok} (h : NatsAre ys ns) (e : x = (n : Int)) : NatsAre (ys ++ [.int x t]) (ns ++ [n]) := by
  subst e
  exact h.app (NatsAre.cons n t NatsAre.nil)
theorem chk_val (P k : Nat) : Builtin.bitAnd ((Builtin.bitXor ((P : Nat) : Int) 1).fdiv (2 ^ k)) 1023 = ((((P ^^^ 1) >>> k) &&& 1023 : Nat) : Int) := by
  have e1 : Builtin.bitXor ((P : Nat) : Int) 1 = ((P ^^^ 1 : Nat) : Int) := bXor_n P 1
  rw [e1, shr_n]
  exact bAnd_n _ 1023
theorem create_spec (w : World) (l : Addr) (vs : List Value) (ns : List Nat) (nv : Nat) (bt : Array UInt8) (tb : Tok) (N : News h₀ L s.heap news) (hl : (l, listOf vs.toArray nv) ∈ news) (hi : NatsAre vs ns)
  (hns : ∀ x ∈ ns, x < 1024) (hbt : bt.size < 100) (hlen : ns.length < 100)
  (B : Below A₀ base outer h₀) (F : Fr h₀ L s.heap m) (X : (Mine.hd.heap_1 w.params).In h₀)  (T : Top p loose mean mg mb h₀)
  (hk : cs.kind = .function) (hd : dp + 30 < recursionLimit) (hu : un + 200 < cLine)
  (ret : ∀ (D : Addr) us n h' tk', Fr h₀ L h' m → News h₀ L h' ((D, listOf (List.toArray us) n) :: news) → (∀ p ∈ news, p.1 < D) → NatsAre us (chkN (bt.toList.map (fun b => b.toNat) ++ ns)) → Q (.ref D) { s with heap := h', toks := tk' })
  (hrw : PySem.Challenge.rw_ja0052_01 = PySem.Challenge.rw_ja0052_01) :
  wpAny (model PySem.Challenge.pw_ja0052_01 w) (ktrTop dp un gd cn cs L a ccd cl outer) (call (.ref 33) [.ref l, .bytes bt tb]) Q E s := by
  refine wpAny_noRaise ?_
  revert X hrw
  k_fill
  intro X hrw
  clear hrw
  have hvl := hi.len
  walk_at "mine enterC"
  rename_i g1 L1 _ _ _ _ _ _ _ l10 oc0 doc0 _
  refine letA ?_
  intro A9
  have hsm : ∀ x ∈ bt.toList.map (fun b => b.toNat) ++ ns ++ [0, 0, 0], x < 1024 := by
    intro x hx
    rcases List.mem_append.mp hx with h | h
    · exact bytes_small hns x h
    · simp at h; omega
  (repeat ((fail_if_success (with_reducible show wpAny _ _ (eval (Expr.ListComp _ _ _ _) _) _ _ _)); first | k_unfold | walk1 | (dsimp only; walk1)))
  refine ListComp_J (by k_asm) (by with_unfolding_all rfl) (by decide) (by rfl) (by decide) (by rfl) ?_
  (repeat ((fail_if_success (with_reducible show wpAny _ _ (pyIter _) _ _ _)); walk1))
  rename_i oc hoc _ _ _ _ _ _ _ D0 _ F0 N0 l3
  refine comp_ri (k := 3) rfl (fun i ys nw g => nw = (L1 + 1, oc) :: news ∧ g = s.gens ∧ NatsAre ys ((chkN (bt.toList.map (fun b => b.toNat) ++ ns)).take i)) F0 N0 (.head _) (by decide) (by decide) (by decide) (fun p hp => .tail _ (.tail _ (.tail _ (.tail _ (.tail _ (.tail _ (.tail _ hp))))))) ?_ ⟨rfl, rfl, NatsAre.nil⟩ ?_ ?_
  · intro p hp
    rcases List.mem_cons.mp hp with rfl | hp
    · exact Nat.ne_of_lt l3.2.2.2.2.2.2.1
    · exact Nat.ne_of_lt (Nat.lt_trans (l10 p hp) (Nat.lt_of_succ_lt l3.2.2.2.2.2.2.1))
  · rintro i ys _ g t oI C oC D m₂ h tk E' hi hlen hJ9 hoC hx F3 N3 off3 ne3
    k_fold
    obtain ⟨rfl, rfl, hys⟩ := hJ9
    clear hsm
    have hcase : i = 0 ∨ i = 1 ∨ i = 2 := (by decide : ∀ i, i < 3 → i = 0 ∨ i = 1 ∨ i = 2) i hi
    rcases hcase with rfl | rfl | rfl
    · replace hx : m₂ (Str.ofString "i") = some (.int 2 t) := hx
      k_steps
      exact ⟨_, _, _, _, _, rfl, F3, N3, fun p hp => hp, off3, rfl, rfl, hys.snocI (chk_val _ 20)⟩
    · replace hx : m₂ (Str.ofString "i") = some (.int 1 t) := hx
      k_steps
      exact ⟨_, _, _, _, _, rfl, F3, N3, fun p hp => hp, off3, rfl, rfl, hys.snocI (chk_val _ 10)⟩
    · replace hx : m₂ (Str.ofString "i") = some (.int 0 t) := hx
      k_steps
      exact ⟨_, _, _, _, _, rfl, F3, N3, fun p hp => hp, off3, rfl, rfl, hys.snocI (chk_val _ 0)⟩
  · rintro D h tk g ys _ hDs hlen F3 N3 ne ⟨rfl, rfl, hys⟩
    replace hys : NatsAre ys (chkN (bt.toList.map (fun b => b.toNat) ++ ns)) := hys
    k_steps
    rename_i kF kN _ _
    exact ret D ys _ _ _ kF (fun p hp => kN p (by rcases List.mem_cons.mp hp with rfl | hp; exact .head _; exact .tail _ (.tail _ hp))) (fun p hp => by rw [hDs]; exact Heap.lt_size (N0 p (.tail _ (.tail _ (.tail _ (.tail _ (.tail _ (.tail _ (.tail _ (.tail _ hp)))))))) ).1) hys
end
section
set_option maxRecDepth 100000
set_option maxHeartbeats 1000000
section
variable {prog : Program} {w : World} {A : Around} {E : Value → Shared → Prop} {s : Shared}
/-- one element of a generator expression, run under a consumer whose frames are `fr` -/
def ElF (prog : Program) (w : World) (cenv : Env) (x : Str) (elt : Expr) (fp wr : List Addr) (P : Nat → Value → Prop) (F : Nat → Value → Prop) (href : Heap) (fr : List Env) (D U : Nat) : Prop :=
  ∀ (A' : Around) E' i v (s₂ : Shared) m₂, A'.handled = none → A'.frames = some (cenv :: fr) → A'.depth ≤ D → A'.units ≤ U → P i v → s₂.heap.Ns cenv.locals m₂ → m₂ x = some v → (∀ b ∈ fp, b ∉ wr → ∀ o, href.get? b = some o → s₂.heap.get? b = some o) →
    wpAny (model prog w) A' (eval elt cenv) (fun y s₃ => F i y ∧ ∃ h' tk m', s₃ = { s₂ with heap := h', toks := tk } ∧ (∀ b o, b ≠ cenv.locals → s₂.heap.get? b = some o → h'.get? b = some o) ∧ h'.Ns cenv.locals m') E' s₂
def allP : Nat → Bool := fun _ => true
theorem passing_all (n : Nat) : passing allP n 0 = List.range n := by
  unfold passing allP
  rw [List.drop_zero, List.filter_eq_self]
  intro _ _; rfl
theorem seg_loopF {elt iter : Expr} {x : Str} {px : Pos} {scope : Scope} {pos : Pos} {I : Addr} {fp wr : List Addr} {n₀ : Nat} {P : Nat → Value → Prop} {St₀ : Nat → Heap → Prop} {cenv : Env} {fr : List Env}
    (hh : A.handled = none) (hfr : A.frames = some fr) (W₀ : ∀ A' : Around, A'.handled = none → Walks prog w A' I fp wr n₀ P St₀) (F : Nat → Value → Prop) (href : Heap)
    (hx : cenv.kindOf x = some .local) (hp : (cenv.scope.kind == .class || (cenv.scope.kind == .module && cenv.locals != cenv.globals)) = false)
    (hco : cenv.scope.isCoroutine = false) (hCf : cenv.locals ∉ fp) (hq : ElF prog w cenv x elt fp wr P F href fr (A.depth + 1) (A.units + 3)) :
    ∀ (k i : Nat) (s₀ s : Shared) (m : Str → Option Value), n₀ - i = k → i ≤ n₀ → St₀ i s.heap → s.heap.Ns cenv.locals m → GenSince cenv.locals wr s₀ s →
      (∀ b ∈ fp, b ∉ wr → ∀ o, href.get? b = some o → s.heap.get? b = some o) →
      Seg (model prog w) A (fun n s₀ r s₁ => r = .ok .next ∧ (n = 0 ∧ GenSince cenv.locals wr s₀ s₁)) (genProto cenv.locals fp wr allP n₀ F) (passing allP n₀ i).length s₀
        (.compLoop (.GeneratorExp elt [⟨.Name x px, iter, [], 0⟩] scope pos) 0 (.ref I) .none cenv)
        ((model prog w).den (.compLoop (.GeneratorExp elt [⟨.Name x px, iter, [], 0⟩] scope pos) 0 (.ref I) .none cenv)) [] s := by
  have hh' : (A.over (.compLoop (.GeneratorExp elt [⟨.Name x px, iter, [], 0⟩] scope pos) 0 (.ref I) .none cenv) []).handled = none := hh
  have hfr' : (A.over (.compLoop (.GeneratorExp elt [⟨.Name x px, iter, [], 0⟩] scope pos) 0 (.ref I) .none cenv) []).frames = some (cenv :: fr) := by
    unfold Around.over
    dsimp only
    rw [hfr]; rfl
  have hdep' : (A.over (.compLoop (.GeneratorExp elt [⟨.Name x px, iter, [], 0⟩] scope pos) 0 (.ref I) .none cenv) []).depth ≤ A.depth + 1 := Nat.le_of_eq rfl
  have huni' : (A.over (.compLoop (.GeneratorExp elt [⟨.Name x px, iter, [], 0⟩] scope pos) 0 (.ref I) .none cenv) []).units ≤ A.units + 3 := Nat.le_of_eq rfl
  have hCw : cenv.locals ∉ wr := fun h => hCf ((W₀ A hh).sub _ h)
  intro k
  induction k with
  | zero =>
    intro i s₀ s m hk hi hst hn hsince hkp
    have hin : i = n₀ := eq_of_sub hk hi
    subst hin
    show Seg _ A _ _ _ s₀ _ ((compTurn (.GeneratorExp elt [⟨.Name x px, iter, [], 0⟩] scope pos) 0 (.ref I) .none cenv).onRaise (leaving cenv)) [] s
    rw [compTurn_gen, Sem.onRaise_eq_wrap]
    refine seg_bind_wrap (wpAny_standAt ?_)
    refine seg_bind_wrap ((W₀ _ hh').done s _ _ hst fun h' tk hk' => ?_)
    exact seg_end (.ok .next) ⟨rfl, by rw [passing_end]; rfl, hsince.step fun b o _ hw e => hk' b o hw e⟩
  | succ k ih =>
    intro i s₀ s m hk hi hst hn hsince hkp
    have hlt : i < n₀ := lt_of_sub hk
    show Seg _ A _ _ _ s₀ _ ((compTurn (.GeneratorExp elt [⟨.Name x px, iter, [], 0⟩] scope pos) 0 (.ref I) .none cenv).onRaise (leaving cenv)) [] s
    rw [compTurn_gen, Sem.onRaise_eq_wrap]
    refine seg_bind_wrap (wpAny_standAt ?_)
    refine seg_bind_wrap ((W₀ _ hh').item i s _ _ hlt hst fun v h₁ tk₁ hPv hst₁ hk₁ => ?_)
    refine seg_bind_wrap (wpAny_of_eq (rfl : letOwnedTupleGo (.Name x px) (.ref I) v = pure ()) ?_)
    refine seg_bind_wrap (wpAny_assign_Name (wpAny_storeName_local hx (hn.at' fun o e => hk₁ _ o hCw e) (fun h₂ hn₂ hs₂ => ?_) hp))
    have up₂ : ∀ b o, b ≠ cenv.locals → b ∉ wr → s.heap.get? b = some o → h₂.get? b = some o := fun b o hbC hbw e => hs₂.extBut b o hbC (hk₁ b o hbw e)
    have hst₂ : St₀ (i + 1) h₂ := (W₀ A hh).frame _ _ _ hst₁ fun b hb o e => hs₂.extBut b o (fun h => hCf (h ▸ hb)) e
    have hkp₂ : ∀ b ∈ fp, b ∉ wr → ∀ o, href.get? b = some o → h₂.get? b = some o := fun b hb hbw o e => up₂ b o (fun h => hCf (h ▸ hb)) hbw (hkp b hb hbw o e)
    refine seg_bind_wrap (wpAny_tests_nil ?_)
    rw [passing_true hlt rfl, List.length_cons]
    simp only [if_true]
    have hy : ∀ v, yieldOut cenv v = yieldValue v := fun v => by simp only [yieldOut, hco, Bool.false_eq_true, if_false]
    simp only [hy]
    rw [Sem.bind_eq_wrap', Sem.bind_eq_wrap', Sem.wrap_wrap, Sem.wrap_wrap]
    refine seg_wrap (wpAny_mono (hq _ _ i v _ _ hh' hfr' hdep' huni' hPv hn₂ (by simp) hkp₂) (fun y s₄ h₄ => ?_) fun _ _ e => e)
    obtain ⟨hFy, h₄, tk₄, m₄, rfl, hk₄, hn₄⟩ := h₄
    have hst₄ : St₀ (i + 1) h₄ := (W₀ A hh).frame _ _ _ hst₂ fun b hb o e => hk₄ b o (fun h => hCf (h ▸ hb)) e
    refine seg_at (seg_yield rfl rfl rfl ⟨⟨i, passing_here hlt rfl, hFy⟩, hsince.step fun b o hbC hbw e => hk₄ b o hbC (up₂ b o hbC hbw e), fun s'' hal => ?_⟩)
    refine seg_again rfl (ih (i + 1) s'' s'' m₄ (sub_step hk) hlt ((W₀ A hh).frame _ _ _ hst₄ fun b hb o e => hal b (List.mem_cons_of_mem _ hb) o e)
      (hn₄.at' fun o e => hal _ (List.mem_cons_self ..) o e) (GenSince.refl _ _ _) fun b hb hbw o e => hal b (List.mem_cons_of_mem _ hb) o (hk₄ b o (fun h => hCf (h ▸ hb)) (hkp₂ b hb hbw o e)))
theorem seg_startF {elt iter : Expr} {x : Str} {px : Pos} {scope : Scope} {pos : Pos} {I : Addr} {fp wr : List Addr} {n₀ : Nat} {P : Nat → Value → Prop} {St₀ : Nat → Heap → Prop} {cenv : Env} {fr : List Env}
    (hh : A.handled = none) (hfr : A.frames = some fr) (W₀ : ∀ A' : Around, A'.handled = none → Walks prog w A' I fp wr n₀ P St₀) (F : Nat → Value → Prop) (href : Heap)
    (hx : cenv.kindOf x = some .local) (hp : (cenv.scope.kind == .class || (cenv.scope.kind == .module && cenv.locals != cenv.globals)) = false)
    (hco : cenv.scope.isCoroutine = false) (hCf : cenv.locals ∉ fp) (hq : ElF prog w cenv x elt fp wr P F href fr (A.depth + 1) (A.units + 3))
    (s₀ s : Shared) (m : Str → Option Value) (hst : St₀ 0 s.heap) (hn : s.heap.Ns cenv.locals m) (hsince : GenSince cenv.locals wr s₀ s)
    (hkp : ∀ b ∈ fp, b ∉ wr → ∀ o, href.get? b = some o → s.heap.get? b = some o) :
    Seg (model prog w) A (fun n s₀ r s₁ => r = .ok .next ∧ (n = 0 ∧ GenSince cenv.locals wr s₀ s₁)) (genProto cenv.locals fp wr allP n₀ F) (passing allP n₀ 0).length s₀
      (.compStart (.GeneratorExp elt [⟨.Name x px, iter, [], 0⟩] scope pos) 0 (.ref I) .none cenv)
      ((model prog w).den (.compStart (.GeneratorExp elt [⟨.Name x px, iter, [], 0⟩] scope pos) 0 (.ref I) .none cenv)) [] s := by
  have hh' : (A.over (.compStart (.GeneratorExp elt [⟨.Name x px, iter, [], 0⟩] scope pos) 0 (.ref I) .none cenv) []).handled = none := hh
  have loop := seg_loopF (iter := iter) (px := px) (scope := scope) (pos := pos) hh hfr W₀ F href hx hp hco hCf hq n₀ 0 s₀ s m (Nat.sub_zero _) (Nat.zero_le _) hst hn hsince hkp
  show Seg _ A _ _ _ s₀ _ ((compStart (.GeneratorExp elt [⟨.Name x px, iter, [], 0⟩] scope pos) 0 (.ref I) .none cenv).onRaise (leaving cenv)) [] s
  unfold compStart
  rw [Sem.onRaise_eq_wrap]
  show Seg _ A _ _ _ s₀ _ ((ask >>= _).wrap _ _ _ _) [] s
  refine seg_bind_wrap (wpAny_askSetting ?_)
  split
  · exact seg_again rfl loop
  · first
      | exact seg_bind_wrap (wpAny_rule (seg_bind_wrap (wpAny_standAt (seg_bind_wrap ((W₀ _ hh').self 0 s _ _ hst (seg_again rfl loop))))))
      | (refine seg_bind_wrap (wpAny_rule ?_); show Seg _ A _ _ _ s₀ _ ((standAt iter.pos >>= _).wrap _ _ _ _) [] s; exact seg_bind_wrap (wpAny_standAt (seg_bind_wrap ((W₀ _ hh').self 0 s _ _ hst (seg_again rfl loop)))))
/-- a generator at hand: whoever consumes it under frames `fr` walks `n` items -/
def GenReady (prog : Program) (w : World) (a : Addr) (fp wr : List Addr) (gi n : Nat) (P : Nat → Value → Prop) (fr : List Env) (D U : Nat) (s : Shared) : Prop :=
  ∀ A : Around, A.handled = none → A.frames = some fr → A.depth ≤ D → A.units ≤ U → ∃ St : Nat → Shared → Prop, WalksS prog w A a fp wr (GenOnlyQ gi) n P St ∧
    (∀ h tk, (∀ b ∈ fp, ∀ o, s.heap.get? b = some o → h.get? b = some o) → St 0 { s with heap := h, toks := tk }) ∧ (∀ i s, St i s → s.TypeIs (.ref a) "generator")
theorem GenReady.at {a : Addr} {fp wr : List Addr} {gi n : Nat} {P : Nat → Value → Prop} {fr : List Env} {D U : Nat} (X : GenReady prog w a fp wr gi n P fr D U s) {h : Heap} {tk : Nat} (k : ∀ b ∈ fp, ∀ o, s.heap.get? b = some o → h.get? b = some o) :
    GenReady prog w a fp wr gi n P fr D U { s with heap := h, toks := tk } := fun A h1 h2 h3 h4 =>
  let ⟨St, W, st, ty⟩ := X A h1 h2 h3 h4
  ⟨St, W, fun h' tk' k' => st h' tk' fun b hb o e => k' b hb o (k b hb o e), ty⟩
theorem WalksS.toP {I : Addr} {fp wr : List Addr} {G : Array GenState → Array GenState → Prop} {n n' : Nat} {P P' : Nat → Value → Prop} {St : Nat → Shared → Prop} (W : WalksS prog w A I fp wr G n P St) (hn : n = n') (hP : ∀ i v, P i v → P' i v) :
    WalksS prog w A I fp wr G n' P' St := by
  subst hn
  exact ⟨W.sub, W.grefl, W.gtrans, W.frame, fun i s Q E hi st hQ => W.item i s Q E hi st fun v s' p st' m => hQ v s' (hP i v p) st' m, W.done, W.self⟩
/-- a code object whose table lies as it was made -/
def IsCodeT (h : Heap) (c P : Addr) (ps : Array Value) : Prop := h.IsCode c P ps ∧ h.get? P = some (tabObj ps)
theorem genexprCode_T {M : Model} {A : Around} {E : Value → Shared → Prop} {s : Shared} {env : Env} {c P : Addr} {ps : Array Value} {pos : Pos} {qualname : Str} {scope : Scope} {Q : Value → Shared → Prop} (hc : env.code = .ref c) (hok : IsCodeT s.heap c P ps)
    (hQ : ∀ code h' tk ps', Heap.ExtBut P s.heap h' → IsCodeT h' c P ps' → Q code { s with heap := h', toks := tk }) :
    wpAny M A (genexprCode env pos qualname scope) Q E s := by
  obtain ⟨hok, hop0⟩ := hok
  obtain ⟨o, vs, file, tf, flags, tg, inF, text, tt, op, ho, hd, h11, h2, h7, h9, h10, hop, hpd, htr, hne⟩ := id hok
  have hoe : op = tabObj ps := Option.some.inj (hop.symm.trans hop0)
  unfold genexprCode codeAt
  rw [hc, if_neg (show ¬ ((Value.ref c == Value.none) = true) from Bool.false_ne_true)]
  refine wpAny_bind (wpAny_fieldsOf ho hd ?_)
  rw [h11]
  refine wpAny_bind (wpAny_fieldsOf hop hpd ?_)
  cases hnf : codeAmong pos ps.toList with
  | some cv => exact wpAny_pure (hQ cv s.heap s.toks ps (Heap.ExtBut.refl _ _) ⟨hok, hop0⟩)
  | none =>
    rw [h2, h7, h9, h10]
    refine wpAny_bind (wpAny_newCode fun c' P' h' tk hk hc' hP' hcode' hrec' => ?_)
    have hop' := hk _ _ hop
    refine wpAny_bind (wpAny_updateFieldsOfTheText hop' hpd ?_)
    have hnewo : Obj.mapFields (fun vs => if (codeAmong pos vs.toList).isSome = true then vs else vs ++ #[rawInt pos.line, rawInt pos.col, .ref c']) op = tabObj (ps ++ #[rawInt pos.line, rawInt pos.col, .ref c']) := by
      rw [hoe]; show tabObj (if (codeAmong pos ps.toList).isSome = true then _ else _) = _; rw [hnf]; rfl
    have hnew : (Obj.mapFields (fun vs => if (codeAmong pos vs.toList).isSome = true then vs else vs ++ #[rawInt pos.line, rawInt pos.col, .ref c']) op).data =
        .fields (ps ++ #[rawInt pos.line, rawInt pos.col, .ref c']) := by
      rw [hnewo]
    have hget := Heap.get?_update_self (h := h') (fun o => Obj.mapFields (fun vs => if (codeAmong pos vs.toList).isSome = true then vs else
      vs ++ #[rawInt pos.line, rawInt pos.col, .ref c']) o) hop' (Obj.isFreed_of_fields hnew)
    refine wpAny_bind (wpAny_fieldsOf hget hnew ?_)
    have hl : (ps ++ #[rawInt pos.line, rawInt pos.col, Value.ref c']).toList = ps.toList ++ [rawInt pos.line, rawInt pos.col, .ref c'] := by simp
    rw [hl, codeAmong_snoc _ htr hnf]
    refine wpAny_pure (hQ _ _ _ (ps ++ #[rawInt pos.line, rawInt pos.col, .ref c']) (fun b o' hb e => ((Heap.SameBut.update ..).extBut b o' hb (hk b o' e))) ⟨?_, ?_⟩)
    · exact ⟨o, vs, file, tf, flags, tg, inF, text, tt, _, (Heap.SameBut.update ..).extBut _ _ hne (hk _ _ ho), hd, h11, h2, h7, h9, h10, hget, hnew,
        by rw [hl]; exact TriplesOk_snoc _ _ _ _ htr, hne⟩
    · rw [← hnewo]; exact hget
/-- the source of a generator expression -/
inductive GSrc (prog : Program) (w : World) (env : Env) (elt : Expr) (x : Str) (scope : Scope) (cl : List (Str × Addr)) (c : Addr) (fr : List Env) (D U : Nat) (Q : Value → Shared → Prop) (it : Value) (s₂ : Shared) : Prop
  | mk (I : Addr) (fp : List Addr) (n : Nat) (P : Nat → Value → Prop) (St₀ : Nat → Heap → Prop) (F : Nat → Value → Prop) (PT : Addr) (ps : Array Value) (mg : Str → Option Value) (bm : Addr) (ob : Obj)
    (c0 : it = .ref I)
    (c1 : s₂.heap.NoLimit)
    (c2 : IsCodeT s₂.heap c PT ps)
    (c3 : BMod s₂.heap env.globals mg bm ob)
    (c4 : PT ≠ bm)
    (c5 : PT ≠ env.globals)
    (c6 : PT ≠ cStatics)
    (c7 : PT ∉ fp)
    (c8 : (∀ A' : Around, A'.handled = none → Walks prog w A' I fp [I] n P St₀))
    (c9 : St₀ 0 s₂.heap)
    (c10 : cStatics ∈ fp)
    (c11 : cStatics ≠ I)
    (c12 : (∀ b ∈ fp, ∃ o, s₂.heap.get? b = some o))
    (c13 : (∀ C code href, (∀ b o, s₂.heap.get? b = some o → b < C) → (∀ b ∈ fp, ∀ o, s₂.heap.get? b = some o → href.get? b = some o) → ElF prog w (genEnv scope cl C code builtinsNs env) x elt fp [I] P F href fr (D + 1) (U + 4)))
    (c14 : (∀ a C h' tk gs ps', gs.bare = true → (∀ b o, s₂.heap.get? b = some o → b < C) → C < a → h'.objs.size = a + 1 → (∀ b o, b ≠ PT → s₂.heap.get? b = some o → h'.get? b = some o) → IsCodeT h' c PT ps' → (∃ o, h'.get? a = some o) → (∃ o, h'.get? C = some o) →       GenReady prog w a (a :: C :: fp) [C, I] s₂.gens.size n F fr D U ⟨h', s₂.gens.push gs, s₂.drawn, tk, s₂.os⟩ → Q (.ref a) ⟨h', s₂.gens.push gs, s₂.drawn, tk, s₂.os⟩))
theorem genexp_F {env : Env} {elt iter : Expr} {x : Str} {px : Pos} {scope : Scope} {cl : List (Str × Addr)} {pos : Pos} {Q : Value → Shared → Prop} {c : Addr} {fr : List Env} {D U : Nat}
    (hD : D < recursionLimit) (hcode : env.code = .ref c) (hh : A.handled = none) (hco : scope.isCoroutine = false) (hclos : closureFor scope env = pure cl) (hcell : ∀ y ∈ scope.names, y.2 ≠ .cell) (h0 : scope.names.lookup (".0" : Str) = some NameKind.local)
    (hx : scope.names.lookup x = some .local) (hkind : scope.kind = .function) (hroom : A.depth < recursionLimit)
    (h : wpAny (model prog w) A (eval iter env) (fun xv s₁ => wpAny (model prog w) A (pyIter xv) (GSrc prog w env elt x scope cl c fr D U Q) E s₁) E s)
    (hs : ∀ x, genFold iter env x = pure x) :
    wpAny (model prog w) A (eval (.GeneratorExp elt [⟨.Name x px, iter, [], 0⟩] scope pos) env) Q E s := by
  refine wpAny_GeneratorExp_make hco hclos hcell h0 hkind hroom (wpAny_mono h (fun xv s₁ h₁ => wpAny_mono h₁ (fun it s₂ h₂ => ?_) fun _ _ e => e) fun _ _ e => e) hs
  obtain ⟨I, fp, n, P, St₀, F, PT, ps, mg, bm, ob, rfl, hlim, hok, M, hb1, hb2, hb3, hPf, W₀, hst, hcf, hcI, hfp, hel, hQ⟩ := h₂
  refine ⟨hlim, genexprCode_T hcode hok fun code h₃ tk₃ ps' hx₃ hok₃ => ?_⟩
  have M₃ : BMod h₃ env.globals mg bm ob := ⟨M.ns.at' fun o e => hx₃ _ o (Ne.symm hb2) e, M.name, M.ne, hx₃ _ _ (Ne.symm hb1) M.obj, M.cls, M.dict, M.data⟩
  refine wpAny_builtinsFor M₃.ns M₃.name M₃.ne M₃.obj M₃.cls M₃.dict M₃.data ?_
  intro h' hn' hs'
  have hPT : PT < h₃.objs.size := by
    obtain ⟨o, vs, file, tf, flags, tg, inF, text, tt, op, ho, hd, h11, h2, h7, h9, h10, hop, hpd, htr, hne⟩ := hok₃.1
    exact Heap.lt_size hop
  have hlt : ∀ b o, s₂.heap.get? b = some o → b < h₃.objs.size := fun b o e => by
    by_cases hb : b = PT
    · exact hb ▸ hPT
    · exact Heap.lt_size (hx₃ b o hb e)
  have hfl : ∀ b ∈ fp, b < h₃.objs.size := fun b hb => let ⟨o, e⟩ := hfp b hb; hlt b o e
  have hCf : h₃.objs.size ∉ fp := fun hm => Nat.lt_irrefl _ (hfl _ hm)
  have hIf : I ∈ fp := (W₀ A hh).sub I (List.mem_singleton.mpr rfl)
  have hlim₃ : h₃.NoLimit := hlim.extBut hx₃ (Ne.symm hb3)
  have hsz : h'.objs.size = h₃.objs.size + 1 := by rw [hs'.1, Heap.size_push]
  have keep' : ∀ b o, h₃.get? b = some o → h'.get? b = some o := fun b o e => hs'.extBut b o (Nat.ne_of_lt (Heap.lt_size e)) (Heap.get?_push_of_some _ e)
  have haC : h'.objs.size ≠ h₃.objs.size := by rw [hsz]; exact Nat.succ_ne_self _
  have haf : h'.objs.size ∉ fp := fun hm => absurd (hfl _ hm) (by rw [hsz]; exact Nat.not_lt.mpr (Nat.le_succ _))
  let go : Obj := { cls := .type "generator", data := .fields #[.int s₂.gens.size 0, .str "<genexpr>" (tk₃ + 1), .str (env.qual ++ "<genexpr>") (tk₃ + 1 + 1)] }
  have keep₅ : ∀ b o, h₃.get? b = some o → (h'.push go).get? b = some o := fun b o e => Heap.get?_push_of_some _ (keep' b o e)
  have keepP : ∀ b o, b ≠ PT → s₂.heap.get? b = some o → (h'.push go).get? b = some o := fun b o hb e => keep₅ b o (hx₃ b o hb e)
  have hst₃ : St₀ 0 h₃ := (W₀ A hh).frame _ _ _ hst fun b hb o e => hx₃ b o (fun e' => hPf (e' ▸ hb)) e
  have hok₅ : IsCodeT (h'.push go) c PT ps' := by
    obtain ⟨⟨o, vs, file, tf, flags, tg, inF, text, tt, op, ho, hd, h11, h2, h7, h9, h10, hop, hpd, htr, hne⟩, hop3⟩ := hok₃
    refine ⟨?_, keep₅ _ _ hop3⟩
    exact ⟨o, vs, file, tf, flags, tg, inF, text, tt, op, keep₅ _ _ ho, hd, h11, h2, h7, h9, h10, keep₅ _ _ hop, hpd, htr, hne⟩
  refine hQ h'.objs.size h₃.objs.size (h'.push go) _ _ ps' rfl hlt (by rw [hsz]; exact Nat.lt_succ_self _) (by rw [Heap.size_push]) keepP hok₅ ⟨_, Heap.get?_push_size _ rfl⟩ (let ⟨o, _, _, e, _⟩ := hn'; ⟨o, Heap.get?_push_of_some _ e⟩) ?_
  intro A₂ a1 a2 a3 a4
  have hat : ∀ h tk, (∀ b ∈ h'.objs.size :: h₃.objs.size :: fp, ∀ o, (h'.push go).get? b = some o → h.get? b = some o) →
      GenAt prog w A₂ h'.objs.size s₂.gens.size h₃.objs.size fp [I] allP n F 0 ⟨h, s₂.gens.push (.fresh (.compStart (.GeneratorExp elt [⟨.Name x px, iter, [], 0⟩] scope pos) 0 (.ref I) .none (genEnv scope cl h₃.objs.size code builtinsNs env))), s₂.drawn, tk, s₂.os⟩ := by
    intro h tk hk
    have hkf : ∀ b ∈ fp, ∀ o, h₃.get? b = some o → h.get? b = some o := fun b hb o e => hk b (by simp [hb]) o (keep₅ b o e)
    have hel₂ : ElF prog w (genEnv scope cl h₃.objs.size code builtinsNs env) x elt fp [I] P F h fr (A₂.in1.depth + 1) (A₂.in1.units + 3) := by
      intro A' E' i v s' m₂ e1 e2 e3 e4 e5 e6 e7 e8
      refine hel h₃.objs.size code h hlt (fun b hb o e => hkf b hb o (hx₃ b o (fun e' => hPf (e' ▸ hb)) e)) A' E' i v s' m₂ e1 e2 (Nat.le_trans e3 (Nat.succ_le_succ a3)) (Nat.le_trans e4 (by show A₂.units + 1 + 3 ≤ _; omega)) e5 e6 e7 e8
    refine ⟨⟨_, _, _, hk _ (by simp) _ (Heap.get?_push_size _ rfl), rfl, rfl, rfl⟩, ?_, _, Array.getElem?_push_size .., fun s'' hal => ⟨rfl, ?_⟩⟩
    · obtain ⟨mc, hns, hnn⟩ := hlim₃
      exact ⟨mc, hns.at' fun o e => hkf _ hcf o e, hnn⟩
    · refine seg_startF (A := A₂.in1) (cenv := genEnv scope cl h₃.objs.size code builtinsNs env) (m := fun y => if y = ".0" then some (.ref I) else none) a1 a2 W₀ F h hx (by simp [genEnv, hkind]) hco hCf hel₂ s'' s'' ?_ ?_ (GenSince.refl _ _ _) ?_
      · exact (W₀ A hh).frame _ _ _ hst₃ fun b hb o e => hal b (List.mem_cons_of_mem _ hb) o (hkf b hb o e)
      · exact (hn'.push go).at' fun o e => hal _ (List.mem_cons_self ..) o (hk _ (by simp) o e)
      · exact fun b hb _ o e => hal b (List.mem_cons_of_mem _ hb) o e
  refine ⟨GenAt prog w A₂ h'.objs.size s₂.gens.size h₃.objs.size fp [I] allP n F, ?_, hat, fun i s st => st.1.typeIs⟩
  have hcsC : cStatics ≠ h₃.objs.size := Nat.ne_of_lt (hfl _ hcf)
  refine WalksS.toP (WalksS.genexpQ (A := A₂) a1 _ _ _ _ [I] allP n F haC haf (fun b hb => by rw [List.mem_singleton.mp hb]; exact hIf) (Nat.lt_of_le_of_lt a3 hD) hcf hcsC (by simpa using hcI)) (by rw [passing_all, List.length_range]) ?_
  rintro i v ⟨j, hj, hF⟩
  rw [passing_all] at hj
  obtain ⟨hlt', e⟩ := List.getElem?_eq_some_iff.mp hj
  rw [List.getElem_range] at e
  exact e ▸ hF
end
end
section
set_option maxRecDepth 100000
set_option maxHeartbeats 1000000
/-- the table of the nested code objects, grown or not -/
def TabOk (o : Obj) : Prop := ∃ ps, o = tabObj ps ∧ TriplesOk ps.toList
theorem isCode_of {h : Heap} {c P : Addr} {op : Obj} (x : CodeHd h c P) (hP : h.get? P = some op) (t : TabOk op) : ∃ ps, IsCodeT h c P ps :=
  by
  obtain ⟨o, vs, file, tf, flags, tg, inF, text, tt, e1, _, e3, _, f3, f4, f5, f6, f7, f11⟩ := x
  obtain ⟨ps, hd, ht⟩ := t
  exact ⟨ps, ⟨o, vs, file, tf, flags, tg, inF, text, tt, op, e1, e3, f3, f4, f5, f6, f7, hP, by rw [hd], ht, f11⟩, by rw [hP, hd]⟩
theorem tab_isCode {h : Heap} {c P : Addr} {ps : Array Value} (x : IsCodeT h c P ps) : ∃ op, h.get? P = some op ∧ TabOk op := by
  obtain ⟨⟨_, _, _, _, _, _, _, _, _, _, _, _, _, _, _, _, _, _, _, ht, _⟩, hP⟩ := x
  exact ⟨_, hP, ps, rfl, ht⟩
theorem rangeSize_nat (k : Nat) : Builtin.Range.rangeSize 0 (k : Int) 1 = (k : Int) := by
  rw [rangeSize_one]; split <;> omega
theorem revSmall_nat (k : Nat) (hk : k ≤ 1000000) : RevOk 0 (k : Int) := by
  constructor
  unfold revSmall
  rw [rangeSize_nat]
  unfold Builtin.Range.rangeFitsLong
  simp only [Bool.and_eq_true, decide_eq_true_eq]
  refine ⟨⟨⟨⟨⟨⟨by decide, by decide⟩, ⟨by omega, by omega⟩⟩, ⟨by decide, by decide⟩⟩, ⟨by decide, by decide⟩⟩, ⟨by decide, by decide⟩⟩, ⟨by omega, by omega⟩⟩
section
variable {prog : Program} {w : World} {A : Around} {E : Value → Shared → Prop} {s : Shared} {h₀ : Heap} {L : Addr} {m : Str → Option Value} {news : List (Addr × Obj)} {a : Addr} {fp wr : List Addr} {gi n D U : Nat} {P : Nat → Value → Prop} {fr : List Env}
theorem list_genL {Q : Value → Shared → Prop} (X : GenReady prog w a fp wr gi n P fr D U s) (hh : A.handled = none) (hfr : A.frames = some fr) (hD : A.depth ≤ D) (hU : A.units + 2 ≤ U)
    (F : Fr h₀ L s.heap m) (N : News h₀ L s.heap news) (G : AllBare s.gens) (hfp : ∀ b ∈ fp, b < s.heap.objs.size) (ha : a ∈ fp) (hwL : L ∉ wr) (hw0 : ∀ b ∈ wr, h₀.get? b = none) (hwn : ∀ p ∈ news, p.1 ∉ wr) (hn : n ≤ 1000000)
    (h : ∀ (D' : Addr) c h' tk g' (vs : List Value), AllBare g' → Fr h₀ L h' m → News h₀ L h' ((D', listOf vs.toArray c) :: news) → (∀ p ∈ news, p.1 < D') → vs.length = n → (∀ i v, vs[i]? = some v → P i v) → Q (.ref D') ⟨h', g', s.drawn, tk, s.os⟩) :
    wpAny (model prog w) A (call (.type "list") [.ref a]) Q E s := by
  obtain ⟨St, W, st, ty⟩ := X A.in1.in1 hh hfr hD hU
  refine call_list_gen W ty (st s.heap s.toks fun _ _ _ e => e) hfp ha (hn := Nat.le_trans hn (by decide)) fun s' acc' c' hm hS hacc => ?_
  have keep : ∀ b o, b ∉ wr → s.heap.get? b = some o → s'.heap.get? b = some o := fun b o hb e =>
    hm.heap b o (fun hm' => by
      rcases List.mem_cons.mp hm' with q | hm'
      · exact absurd (Heap.lt_size e) (by rw [q]; exact Nat.lt_irrefl _)
      · exact hb hm') (Heap.get?_push_of_some _ e)
  have hs' : s' = ⟨s'.heap, s'.gens, s.drawn, s'.toks, s.os⟩ := by
    obtain ⟨x1, x2, x3, x4, x5⟩ := s'
    have e1 := hm.drawn
    have e2 := hm.os
    dsimp only at e1 e2 ⊢
    rw [e1, e2]
  rw [hs']
  refine h _ c' s'.heap s'.toks s'.gens acc'.toList (G.moved hm.gens) ⟨F.ns.at' fun o e => keep _ o hwL e, fun b o e => keep b o (fun hb => by rw [hw0 b hb] at e; cases e) (F.keep b o e), F.above⟩ ?_ (fun p hp => Heap.lt_size (N p hp).1) (by rw [Array.length_toList]; exact hacc.1) fun i v e => hacc.2 i v (by rw [← Array.getElem?_toList]; exact e)
  intro p hp
  rcases List.mem_cons.mp hp with rfl | hp
  · exact ⟨by first | (rw [Array.toArray_toList]; exact hS) | simpa using hS, Nat.ne_of_gt F.ns.lt, none_at_size F⟩
  · exact ⟨keep _ _ (hwn p hp) (N p hp).1, (N p hp).2⟩
end
theorem allLt_lt {d : Addr} {l : List (Addr × Obj)} (h : AllLt d l) : ∀ p ∈ l, p.1 < d := by
  induction l with
  | nil => intro p hp; cases hp
  | cons q r ih =>
    intro p hp
    rcases List.mem_cons.mp hp with rfl | hp
    · exact h.1
    · exact ih h.2 p hp
/-- what the consumer must not touch lies in the base or in the ledger -/
def Held (h₀ : Heap) (own : List (Addr × Obj)) (fp : List Addr) : Prop := ∀ b ∈ fp, (∃ o, h₀.get? b = some o) ∨ ∃ o, (b, o) ∈ own
theorem Held.keeps {h₀ h h' : Heap} {L L' : Addr} {m m' : Str → Option Value} {own all all' : List (Addr × Obj)} {fp : List Addr} (H : Held h₀ own fp) (F : Fr h₀ L h m) (N : News h₀ L h all) (F' : Fr h₀ L' h' m') (N' : News h₀ L' h' all')
    (s1 : ∀ p ∈ own, p ∈ all) (s2 : ∀ p ∈ own, p ∈ all') : ∀ b ∈ fp, ∀ o, h.get? b = some o → h'.get? b = some o := by
  intro b hb o e
  rcases H b hb with ⟨o', e'⟩ | ⟨o', e'⟩
  · have := F.keep _ _ e'
    rw [e] at this; cases this
    exact F'.keep _ _ e'
  · have := (N _ (s1 _ e')).1
    rw [show h.get? b = some o from e] at this; cases this
    exact (N' _ (s2 _ e')).1
theorem ns_get {h : Heap} {a : Addr} {m : Str → Option Value} (x : h.Ns a m) : ∃ o, h.get? a = some o := let ⟨o, _, _, e, _⟩ := x; ⟨o, e⟩
section
variable {prog : Program} {w : World} {A : Around} {E : Value → Shared → Prop} {s : Shared} {h₀ : Heap} {L : Addr} {m : Str → Option Value} {p : Program} {loose : List Str} {mean : ExcName → Option Value} {mg mb : Str → Option Value}
theorem statics_get (T : Top p loose mean mg mb h₀) : ∃ o, h₀.get? cStatics = some o := let ⟨_, hns, _⟩ := T.nolimit; ns_get hns
theorem gsrc_ri {env : Env} {elt : Expr} {x : Str} {scope : Scope} {cl : List (Str × Addr)} {c PT r : Addr} {fr : List Env} {D U k : Nat} {z nn : Int} {oA : Obj} {Q : Value → Shared → Prop} {all rest : List (Addr × Obj)} (hh : A.handled = none)
    (T : Top p loose mean mg mb h₀) (F : Fr h₀ L s.heap m) (N : News h₀ L s.heap all) (hm : (r, riObj z nn) ∈ all) (hz : z = (k : Int) - 1) (hn : nn = (k : Int)) (hgl : env.globals = mainGlobals)
    (hC : CodeHd h₀ c PT) (hA : (PT, oA) ∈ all) (tA : TabOk oA) (cells : List Addr) (hcell : ∀ b ∈ cells, ∃ o, (b, o) ∈ all) (hPc : PT ∉ cells) (hPr : PT ≠ r) (hr : ∀ p ∈ rest, p ∈ all ∧ p.1 ≠ PT)
    (Fi : Nat → Value → Prop)
    (el : ∀ C code href, (∀ b o, s.heap.get? b = some o → b < C) → (∀ b ∈ r :: cStatics :: cells, ∀ o, s.heap.get? b = some o → href.get? b = some o) →
      ElF prog w (genEnv scope cl C code builtinsNs env) x elt (r :: cStatics :: cells) [r] (fun i v => i < k ∧ ∃ t, v = .int ((k - 1 - i : Nat) : Int) t) Fi href fr (D + 1) (U + 4))
    (fin : ∀ a C h' tk gs oa oC oA', gs.bare = true → TabOk oA' → Fr h₀ L h' m → News h₀ L h' ((a, oa) :: (C, oC) :: (PT, oA') :: rest) → @LT.lt Nat _ C a → (∀ p ∈ all, p.1 < C) →
      GenReady prog w a (a :: C :: r :: cStatics :: cells) [C, r] s.gens.size k Fi fr D U ⟨h', s.gens.push gs, s.drawn, tk, s.os⟩ → Q (.ref a) ⟨h', s.gens.push gs, s.drawn, tk, s.os⟩) :
    wpAny (model prog w) A (pyIter (.ref r)) (GSrc prog w env elt x scope cl c fr D U Q) E s := by
  subst hz
  subst hn
  have hit := (N _ hm).1
  have hst : IsRangeIter s.heap r (((k : Int) - 1) + ((0 : Nat) : Int) * (-1)) ((k : Int) - ((0 : Nat) : Int)) (-1) := by
    have e1 : (((k : Int) - 1) + ((0 : Nat) : Int) * (-1)) = (k : Int) - 1 := by simp
    have e2 : ((k : Int) - ((0 : Nat) : Int)) = (k : Int) := by simp
    rw [e1, e2]; exact hit
  have W₀ : ∀ A' : Around, A'.handled = none → Walks prog w A' r [r] [r] k (fun i v => i < k ∧ ∃ t, v = .int ((k - 1 - i : Nat) : Int) t) (fun i h => IsRangeIter h r (((k : Int) - 1) + (i : Nat) * (-1)) ((k : Int) - (i : Nat)) (-1)) := fun A' hA' =>
    let W := (Walks.range (prog := prog) (w := w) hA' r ((k : Int) - 1) (-1) k)
    { sub := W.sub, frame := W.frame, done := W.done, self := W.self,
      item := fun i s Q E hi st hQ => W.item i s Q E hi st fun v h' tk ⟨t, e⟩ => hQ v h' tk ⟨hi, t, by rw [e]; congr 1; omega⟩ }
  obtain ⟨ps, hok⟩ := isCode_of (hC.keeps F.keep) (N _ hA).1 tA
  obtain ⟨bm, ob, M⟩ := bmod_of_top T
  obtain ⟨oS, hS⟩ := statics_get T
  obtain ⟨oG, hG⟩ := ns_get T.g
  have nP := (N _ hA).2.2
  have nr := (N _ hm).2.2
  have hP1 : PT ≠ bm := fun e => by have := M.obj; rw [← e, nP] at this; cases this
  have hP2 : PT ≠ env.globals := fun e => by rw [hgl] at e; rw [← e, nP] at hG; cases hG
  have hP3 : PT ≠ cStatics := fun e => by rw [← e, nP] at hS; cases hS
  have hS1 : cStatics ≠ r := fun e => by rw [e, nr] at hS; cases hS
  refine wpAny_pyIter_rangeiter hst ?_
  refine ⟨r, r :: cStatics :: cells, k, _, _, Fi, PT, ps, mg, bm, ob, rfl, T.nolimit.keeps F.keep, hok, (by rw [hgl]; exact M.keeps F.keep), hP1, hP2, hP3, ?_, fun A' hA' => (W₀ A' hA').mono_fp fun b hb => by rw [List.mem_singleton.mp hb]; exact .head _, hst, .tail _ (.head _), hS1, ?_, el, ?_⟩
  · intro hb
    rcases List.mem_cons.mp hb with e | hb
    · exact hPr e
    · rcases List.mem_cons.mp hb with e | hb
      · exact hP3 e
      · exact hPc hb
  · intro b hb
    rcases List.mem_cons.mp hb with e | hb
    · exact ⟨_, e ▸ hit⟩
    · rcases List.mem_cons.mp hb with e | hb
      · exact ⟨_, e ▸ F.keep _ _ hS⟩
      · obtain ⟨o, ho⟩ := hcell b hb
        exact ⟨o, (N _ ho).1⟩
  · intro a C h' tk gs ps' hgs hlt hCa hsz hk hok' ⟨oa, hoa⟩ ⟨oC, hoC⟩ X
    obtain ⟨oA', hA', tA'⟩ := tab_isCode hok'
    have hLP : L ≠ PT := fun e => (N _ hA).2.1 e.symm
    have F' : Fr h₀ L h' m := ⟨F.ns.at' fun o e => hk L o hLP e, fun b o e => hk b o (fun q => by rw [q, nP] at e; cases e) (F.keep b o e), F.above⟩
    have hLt : L < C := let ⟨o, e⟩ := ns_get F.ns; hlt L o e
    have hBC : ∀ b, h₀.get? b ≠ none → b < C := fun b hb => by
      cases q : h₀.get? b with
      | none => exact absurd q hb
      | some o => exact hlt b o (F.keep b o q)
    have none_ge : ∀ b, @LE.le Nat _ C b → h₀.get? b = none := fun b hb => by
      cases q : h₀.get? b with
      | none => rfl
      | some o => exact absurd (hBC b (by rw [q]; simp)) (Nat.not_lt.mpr hb)
    have lt_all : ∀ p ∈ all, p.1 < C := fun p hp => hlt p.1 p.2 (N p hp).1
    refine fin a C h' tk gs oa oC oA' hgs tA' F' ?_ hCa lt_all X
    intro p hp
    rcases List.mem_cons.mp hp with rfl | hp
    · exact ⟨hoa, Nat.ne_of_gt (Nat.lt_trans hLt hCa), none_ge _ (Nat.le_of_lt hCa)⟩
    · rcases List.mem_cons.mp hp with rfl | hp
      · exact ⟨hoC, Nat.ne_of_gt hLt, none_ge _ (Nat.le_refl _)⟩
      · rcases List.mem_cons.mp hp with rfl | hp
        · exact ⟨hA', (N _ hA).2.1, nP⟩
        · obtain ⟨h1, h2⟩ := hr p hp
          exact ⟨hk _ _ h2 (N p h1).1, (N p h1).2⟩
end
end
section
theorem offM09 : True := by w_top off; trivial
local macro_rules | `(tactic| walk_at "mine pad") => `(tactic| skip)
open PyProof.Rows.LCg (NsObj lst lst_snoc Off3 Off1 ns_obj fr_but news_but)
set_option maxRecDepth 100000
set_option maxHeartbeats 400000
variable {p : Program} {loose : List Str} {mean : ExcName → Option Value} {mg mb : Str → Option Value}
  {dp un : Nat} {gd : Option (List Code)} {cn : Str} {cs : Scope} {a : Addr} {ccd : Value} {cl : List (Str × Addr)} {outer : List Env}
  {A₀ : Around} {E Q : Value → Shared → Prop} {s : Shared} {base h₀ : Heap} {L : Addr} {m : Str → Option Value} {news : List (Addr × Obj)}
theorem i2i_val (v j : Nat) : Builtin.bitAnd ((v : Int).fdiv (2 ^ ((j : Int) * 10).toNat)) (1 * 2 ^ Int.toNat 10 - 1) = (((v >>> (j * 10)) &&& 1023 : Nat) : Int) := by
  have e : ((j : Int) * 10).toNat = j * 10 := by omega
  rw [e, shr_n, show ((1 : Int) * 2 ^ Int.toNat 10 - 1) = ((1023 : Nat) : Int) from by decide]
  exact bAnd_n _ 1023
theorem i2i_kw (w : World) (v : Nat) (tv tl tr : Tok) (k : Nat) (hk20 : k ≤ 40) (oA : Obj) (tA : TabOk oA) (N : News h₀ L s.heap ((76, oA) :: news)) (hne : ∀ p ∈ news, p.1 ≠ 76) (C76 : CodeHd h₀ 80 76)
  (B : Below A₀ base outer h₀) (F : Fr h₀ L s.heap m) (X : (Mine.hd.heap_1 w.params).In h₀)  (T : Top p loose mean mg mb h₀)
  (hk : cs.kind = .function) (hd : dp + 30 < recursionLimit) (hu : un + 200 < cLine) (G : AllBare s.gens)
  (ret : ∀ (a' C r : Addr) (fp : List Addr) own h' tk' g' oA' gi, AllBare g' → TabOk oA' → Fr h₀ L h' m → News h₀ L h' (own ++ (76, oA') :: news) → Held h₀ own fp → a' ∈ fp → (∀ p ∈ own, ∀ q ∈ (76, oA) :: news, q.1 < p.1) → (∃ o, (C, o) ∈ own) → (∃ o, (r, o) ∈ own) →
    GenReady PySem.Challenge.pw_ja0052_01 w a' fp [C, r] gi k (fun i x => i < k ∧ ∃ t, x = .int (((v >>> ((k - 1 - i) * 10)) &&& 1023 : Nat) : Int) t) (envX cn cs L a ccd cl :: outer) (dp + 20) (un + 100) ⟨h', g', s.drawn, tk', s.os⟩ → Q (.ref a') ⟨h', g', s.drawn, tk', s.os⟩)
  (hrw : PySem.Challenge.rw_ja0052_01 = PySem.Challenge.rw_ja0052_01) :
  wpAny (model PySem.Challenge.pw_ja0052_01 w) (ktrTop dp un gd cn cs L a ccd cl outer) (call (.ref 81) [.int (v : Int) tv, .int (k : Int) tl] [(Str.ofString "radix_bits", .int 10 tr)]) Q E s := by
  refine wpAny_noRaise ?_
  revert X hrw
  k_fill
  intro X hrw
  clear hrw
  have hrs := revSmall_nat k (by omega)
  walk_at "mine enterC"
  refine letA ?_
  intro A9
  repeat ((fail_if_success (with_reducible show wpAny _ _ (eval (Expr.GeneratorExp _ _ _ _) _) _ _ _)); first | k_unfold | walk1 | (dsimp only; walk1))
  refine genexp_F (c := 80) (fr := envX cn cs L a ccd cl :: outer) (D := dp + 20) (U := un + 100) (dep hd _ (by decide)) (by rfl) rfl rfl (by with_unfolding_all rfl) (by decide) (by rfl) (by rfl) (by rfl) (by k_room) ?_ (by intro _; rfl)
  (repeat ((fail_if_success (with_reducible show wpAny _ _ (pyIter _) _ _ _)); walk1))
  rename News _ _ _ _ => N3
  rename Fr _ _ _ _ => F3
  rename_i g1 L1 _ _ FG1 B1 X1 T1 l1 o1 o2 o3 d1 d2 d3 _ om dm _ _ _ _ _ _ _ r1 _ l2
  refine gsrc_ri (rest := (r1, riObj (0 + (Builtin.Range.rangeSize 0 (↑k) 1 - 1) * 1) (Builtin.Range.rangeSize 0 (↑k) 1)) :: (L1 + 1 + 1 + 1, om) :: (L1 + 1 + 1, o2) :: (L1 + 1, o3) :: news) (k := k) (oA := oA) (PT := 76) rfl T1 F3 N3 (.head _) (by rw [rangeSize_nat]; omega) (rangeSize_nat k) rfl (C76.keeps FG1.keep) (.tail _ (.tail _ (.tail _ (.tail _ (.head _))))) tA [L1 + 1, L1 + 1 + 1, L1 + 1 + 1 + 1] ?_ ?_ ?_ ?_ (fun i x => i < k ∧ ∃ t, x = .int (((v >>> ((k - 1 - i) * 10)) &&& 1023 : Nat) : Int) t) ?_ ?_
  · intro b hb
    rcases List.mem_cons.mp hb with rfl | hb
    · exact ⟨o3, .tail _ (.tail _ (.tail _ (.head _)))⟩
    · rcases List.mem_cons.mp hb with rfl | hb
      · exact ⟨o2, .tail _ (.tail _ (.head _))⟩
      · rw [List.mem_singleton.mp hb]
        exact ⟨om, .tail _ (.head _)⟩
  · intro hb
    rcases List.mem_cons.mp hb with e | hb
    · exact Nat.ne_of_lt (Nat.lt_succ_of_lt l1.1) e
    · rcases List.mem_cons.mp hb with e | hb
      · exact Nat.ne_of_lt (Nat.lt_succ_of_lt (Nat.lt_succ_of_lt l1.1)) e
      · exact Nat.ne_of_lt (Nat.lt_succ_of_lt (Nat.lt_succ_of_lt (Nat.lt_succ_of_lt l1.1))) (List.mem_singleton.mp hb)
  · exact Nat.ne_of_lt l2.2.2.2.1
  · intro p hp
    rcases List.mem_cons.mp hp with rfl | hp
    · exact ⟨.head _, Nat.ne_of_gt l2.2.2.2.1⟩
    · rcases List.mem_cons.mp hp with rfl | hp
      · exact ⟨.tail _ (.head _), Nat.ne_of_gt (Nat.lt_succ_of_lt (Nat.lt_succ_of_lt (Nat.lt_succ_of_lt l1.1)))⟩
      · rcases List.mem_cons.mp hp with rfl | hp
        · exact ⟨.tail _ (.tail _ (.head _)), Nat.ne_of_gt (Nat.lt_succ_of_lt (Nat.lt_succ_of_lt l1.1))⟩
        · rcases List.mem_cons.mp hp with rfl | hp
          · exact ⟨.tail _ (.tail _ (.tail _ (.head _))), Nat.ne_of_gt (Nat.lt_succ_of_lt l1.1)⟩
          · exact ⟨.tail _ (.tail _ (.tail _ (.tail _ (.tail _ hp)))), hne p hp⟩
  · intro C code href hCsz hkk A' E' j v' s₂ m₂ e1 e2 e3 e4 ⟨hj, t, hv'⟩ hns hx hkp
    subst hv'
    have hc : ∀ b o, b ∈ [L1 + 1, L1 + 1 + 1, L1 + 1 + 1 + 1] → b ≠ r1 → (b, o) ∈ (r1, riObj (0 + (Builtin.Range.rangeSize 0 (↑k) 1 - 1) * 1) (Builtin.Range.rangeSize 0 (↑k) 1)) :: (L1 + 1 + 1 + 1, om) :: (L1 + 1 + 1, o2) :: (L1 + 1, o3) :: (76, oA) :: news → s₂.heap.get? b = some o := fun b o hb hbr hm =>
      hkp b (.tail _ (.tail _ hb)) (fun q => hbr (List.mem_singleton.mp q)) o (hkk b (.tail _ (.tail _ hb)) o (N3 _ hm).1)
    have c1 := hc (L1 + 1) o3 (.head _) (Nat.ne_of_lt l2.2.2.1) (.tail _ (.tail _ (.tail _ (.head _))))
    have c2 := hc (L1 + 1 + 1) o2 (.tail _ (.head _)) (Nat.ne_of_lt l2.2.1) (.tail _ (.tail _ (.head _)))
    have c3 := hc (L1 + 1 + 1 + 1) om (.tail _ (.tail _ (.head _))) (Nat.ne_of_lt l2.1) (.tail _ (.head _))
    walk1
    walk1
    refine ldFreeG (c := L1 + 1) (v := .int (v : Int) tv) rfl ⟨o3, c1, d3⟩ ?_ (by rfl) (by rfl)
    walk1
    refine wpAny_Name (wpAny_loadName_local (by rfl) (by rfl) hns hx ?_) (by decide)
    refine ldFreeG (c := L1 + 1 + 1) (v := .int 10 tr) rfl ⟨o2, c2, d2⟩ ?_ (by rfl) (by rfl)
    repeat ((fail_if_success (with_reducible show wpAny _ _ (eval (Expr.Name _ _) _) _ _ _)); walk1)
    refine ldFreeG (c := L1 + 1 + 1 + 1) rfl ⟨om, c3, dm⟩ ?_ (by rfl) (by rfl)
    repeat ((with_reducible show wpAny _ _ _ _ _ _); walk1)
    refine ⟨⟨hj, _, congrArg (fun x => Value.int x _) ?_⟩, _, _, _, rfl, fun _ _ _ e => e, hns⟩
    exact i2i_val v (k - 1 - j)
  · intro a' C h' tk gs oa oC oA' hgs tA' F4 N4 hCa hall XR
    have lt0 : ∀ q ∈ (76, oA) :: news, q.1 < L1 := fun q hq => by
      rcases List.mem_cons.mp hq with rfl | hq
      · exact l1.1
      · exact allLt_lt l1.2 q hq
    k_steps
    rename News _ _ _ _ => kN
    rename Fr _ _ _ _ => kF
    obtain ⟨oS, hS⟩ := statics_get T
    refine ret a' C r1 (a' :: C :: r1 :: cStatics :: [L1 + 1, L1 + 1 + 1, L1 + 1 + 1 + 1]) [(a', oa), (C, oC), (r1, riObj (0 + (Builtin.Range.rangeSize 0 (↑k) 1 - 1) * 1) (Builtin.Range.rangeSize 0 (↑k) 1)), (L1 + 1 + 1 + 1, om), (L1 + 1 + 1, o2), (L1 + 1, o3)] _ _ _ _ _ (G.push hgs) tA' kF ?_ ?_ (.head _) ?_ ⟨_, .tail _ (.head _)⟩ ⟨_, .tail _ (.tail _ (.head _))⟩ XR
    · intro p hp
      refine kN p ?_
      rcases List.mem_append.mp hp with hp | hp
      · rcases List.mem_cons.mp hp with rfl | hp
        · exact .head _
        · rcases List.mem_cons.mp hp with rfl | hp
          · exact .tail _ (.head _)
          · rcases List.mem_cons.mp hp with rfl | hp
            · exact .tail _ (.tail _ (.tail _ (.head _)))
            · rcases List.mem_cons.mp hp with rfl | hp
              · exact .tail _ (.tail _ (.tail _ (.tail _ (.head _))))
              · rcases List.mem_cons.mp hp with rfl | hp
                · exact .tail _ (.tail _ (.tail _ (.tail _ (.tail _ (.head _)))))
                · rw [List.mem_singleton.mp hp]
                  exact .tail _ (.tail _ (.tail _ (.tail _ (.tail _ (.tail _ (.head _))))))
      · rcases List.mem_cons.mp hp with rfl | hp
        · exact .tail _ (.tail _ (.head _))
        · exact .tail _ (.tail _ (.tail _ (.tail _ (.tail _ (.tail _ (.tail _ hp))))))
    · intro b hb
      rcases List.mem_cons.mp hb with rfl | hb
      · exact .inr ⟨_, .head _⟩
      · rcases List.mem_cons.mp hb with rfl | hb
        · exact .inr ⟨_, .tail _ (.head _)⟩
        · rcases List.mem_cons.mp hb with rfl | hb
          · exact .inr ⟨_, .tail _ (.tail _ (.head _))⟩
          · rcases List.mem_cons.mp hb with rfl | hb
            · exact .inl ⟨_, hS⟩
            · rcases List.mem_cons.mp hb with rfl | hb
              · exact .inr ⟨_, .tail _ (.tail _ (.tail _ (.tail _ (.tail _ (.head _)))))⟩
              · rcases List.mem_cons.mp hb with rfl | hb
                · exact .inr ⟨_, .tail _ (.tail _ (.tail _ (.tail _ (.head _))))⟩
                · rw [List.mem_singleton.mp hb]
                  exact .inr ⟨_, .tail _ (.tail _ (.tail _ (.head _)))⟩
    · intro p hp q hq
      have h0 := lt0 q hq
      have hC0 : q.1 < C := hall q (.tail _ (.tail _ (.tail _ (.tail _ hq))))
      rcases List.mem_cons.mp hp with rfl | hp
      · exact Nat.lt_trans hC0 hCa
      · rcases List.mem_cons.mp hp with rfl | hp
        · exact hC0
        · rcases List.mem_cons.mp hp with rfl | hp
          · exact Nat.lt_trans (Nat.lt_succ_of_lt h0) l2.2.2.1
          · rcases List.mem_cons.mp hp with rfl | hp
            · exact Nat.lt_succ_of_lt (Nat.lt_succ_of_lt (Nat.lt_succ_of_lt h0))
            · rcases List.mem_cons.mp hp with rfl | hp
              · exact Nat.lt_succ_of_lt (Nat.lt_succ_of_lt h0)
              · rw [List.mem_singleton.mp hp]
                exact Nat.lt_succ_of_lt h0
theorem i2i_val4 (v j : Nat) : Builtin.bitAnd ((v : Int).fdiv (2 ^ ((j : Int) * 4).toNat)) (1 * 2 ^ Int.toNat 4 - 1) = (((v >>> (j * 4)) &&& 15 : Nat) : Int) := by
  have e : ((j : Int) * 4).toNat = j * 4 := by omega
  rw [e, shr_n, show ((1 : Int) * 2 ^ Int.toNat 4 - 1) = ((15 : Nat) : Int) from by decide]
  exact bAnd_n _ 15
theorem i2i_pos (w : World) (v : Nat) (tv tl tr : Tok) (k : Nat) (hk20 : k ≤ 40) (oA : Obj) (tA : TabOk oA) (N : News h₀ L s.heap ((76, oA) :: news)) (hne : ∀ p ∈ news, p.1 ≠ 76) (C76 : CodeHd h₀ 80 76)
  (B : Below A₀ base outer h₀) (F : Fr h₀ L s.heap m) (X : (Mine.hd.heap_1 w.params).In h₀)  (T : Top p loose mean mg mb h₀)
  (hk : cs.kind = .function) (hd : dp + 30 < recursionLimit) (hu : un + 200 < cLine) (G : AllBare s.gens)
  (ret : ∀ (a' C r : Addr) (fp : List Addr) own h' tk' g' oA' gi, AllBare g' → TabOk oA' → Fr h₀ L h' m → News h₀ L h' (own ++ (76, oA') :: news) → Held h₀ own fp → a' ∈ fp → (∀ p ∈ own, ∀ q ∈ (76, oA) :: news, q.1 < p.1) → (∃ o, (C, o) ∈ own) → (∃ o, (r, o) ∈ own) →
    GenReady PySem.Challenge.pw_ja0052_01 w a' fp [C, r] gi k (fun i x => i < k ∧ ∃ t, x = .int (((v >>> ((k - 1 - i) * 4)) &&& 15 : Nat) : Int) t) (envX cn cs L a ccd cl :: outer) (dp + 20) (un + 100) ⟨h', g', s.drawn, tk', s.os⟩ → Q (.ref a') ⟨h', g', s.drawn, tk', s.os⟩)
  (hrw : PySem.Challenge.rw_ja0052_01 = PySem.Challenge.rw_ja0052_01) :
  wpAny (model PySem.Challenge.pw_ja0052_01 w) (ktrTop dp un gd cn cs L a ccd cl outer) (call (.ref 81) [.int (v : Int) tv, .int (k : Int) tl, .int 4 tr]) Q E s := by
  refine wpAny_noRaise ?_
  revert X hrw
  k_fill
  intro X hrw
  clear hrw
  have hrs := revSmall_nat k (by omega)
  walk_at "mine enterC"
  refine letA ?_
  intro A9
  repeat ((fail_if_success (with_reducible show wpAny _ _ (eval (Expr.GeneratorExp _ _ _ _) _) _ _ _)); first | k_unfold | walk1 | (dsimp only; walk1))
  refine genexp_F (c := 80) (fr := envX cn cs L a ccd cl :: outer) (D := dp + 20) (U := un + 100) (dep hd _ (by decide)) (by rfl) rfl rfl (by with_unfolding_all rfl) (by decide) (by rfl) (by rfl) (by rfl) (by k_room) ?_ (by intro _; rfl)
  (repeat ((fail_if_success (with_reducible show wpAny _ _ (pyIter _) _ _ _)); walk1))
  rename News _ _ _ _ => N3
  rename Fr _ _ _ _ => F3
  rename_i g1 L1 _ _ FG1 B1 X1 T1 l1 o1 o2 o3 d1 d2 d3 _ om dm _ _ _ _ _ _ _ r1 _ l2
  refine gsrc_ri (rest := (r1, riObj (0 + (Builtin.Range.rangeSize 0 (↑k) 1 - 1) * 1) (Builtin.Range.rangeSize 0 (↑k) 1)) :: (L1 + 1 + 1 + 1, om) :: (L1 + 1 + 1, o2) :: (L1 + 1, o3) :: news) (k := k) (oA := oA) (PT := 76) rfl T1 F3 N3 (.head _) (by rw [rangeSize_nat]; omega) (rangeSize_nat k) rfl (C76.keeps FG1.keep) (.tail _ (.tail _ (.tail _ (.tail _ (.head _))))) tA [L1 + 1, L1 + 1 + 1, L1 + 1 + 1 + 1] ?_ ?_ ?_ ?_ (fun i x => i < k ∧ ∃ t, x = .int (((v >>> ((k - 1 - i) * 4)) &&& 15 : Nat) : Int) t) ?_ ?_
  · intro b hb
    rcases List.mem_cons.mp hb with rfl | hb
    · exact ⟨o3, .tail _ (.tail _ (.tail _ (.head _)))⟩
    · rcases List.mem_cons.mp hb with rfl | hb
      · exact ⟨o2, .tail _ (.tail _ (.head _))⟩
      · rw [List.mem_singleton.mp hb]
        exact ⟨om, .tail _ (.head _)⟩
  · intro hb
    rcases List.mem_cons.mp hb with e | hb
    · exact Nat.ne_of_lt (Nat.lt_succ_of_lt l1.1) e
    · rcases List.mem_cons.mp hb with e | hb
      · exact Nat.ne_of_lt (Nat.lt_succ_of_lt (Nat.lt_succ_of_lt l1.1)) e
      · exact Nat.ne_of_lt (Nat.lt_succ_of_lt (Nat.lt_succ_of_lt (Nat.lt_succ_of_lt l1.1))) (List.mem_singleton.mp hb)
  · exact Nat.ne_of_lt l2.2.2.2.1
  · intro p hp
    rcases List.mem_cons.mp hp with rfl | hp
    · exact ⟨.head _, Nat.ne_of_gt l2.2.2.2.1⟩
    · rcases List.mem_cons.mp hp with rfl | hp
      · exact ⟨.tail _ (.head _), Nat.ne_of_gt (Nat.lt_succ_of_lt (Nat.lt_succ_of_lt (Nat.lt_succ_of_lt l1.1)))⟩
      · rcases List.mem_cons.mp hp with rfl | hp
        · exact ⟨.tail _ (.tail _ (.head _)), Nat.ne_of_gt (Nat.lt_succ_of_lt (Nat.lt_succ_of_lt l1.1))⟩
        · rcases List.mem_cons.mp hp with rfl | hp
          · exact ⟨.tail _ (.tail _ (.tail _ (.head _))), Nat.ne_of_gt (Nat.lt_succ_of_lt l1.1)⟩
          · exact ⟨.tail _ (.tail _ (.tail _ (.tail _ (.tail _ hp)))), hne p hp⟩
  · intro C code href hCsz hkk A' E' j v' s₂ m₂ e1 e2 e3 e4 ⟨hj, t, hv'⟩ hns hx hkp
    subst hv'
    have hc : ∀ b o, b ∈ [L1 + 1, L1 + 1 + 1, L1 + 1 + 1 + 1] → b ≠ r1 → (b, o) ∈ (r1, riObj (0 + (Builtin.Range.rangeSize 0 (↑k) 1 - 1) * 1) (Builtin.Range.rangeSize 0 (↑k) 1)) :: (L1 + 1 + 1 + 1, om) :: (L1 + 1 + 1, o2) :: (L1 + 1, o3) :: (76, oA) :: news → s₂.heap.get? b = some o := fun b o hb hbr hm =>
      hkp b (.tail _ (.tail _ hb)) (fun q => hbr (List.mem_singleton.mp q)) o (hkk b (.tail _ (.tail _ hb)) o (N3 _ hm).1)
    have c1 := hc (L1 + 1) o3 (.head _) (Nat.ne_of_lt l2.2.2.1) (.tail _ (.tail _ (.tail _ (.head _))))
    have c2 := hc (L1 + 1 + 1) o2 (.tail _ (.head _)) (Nat.ne_of_lt l2.2.1) (.tail _ (.tail _ (.head _)))
    have c3 := hc (L1 + 1 + 1 + 1) om (.tail _ (.tail _ (.head _))) (Nat.ne_of_lt l2.1) (.tail _ (.head _))
    walk1
    walk1
    refine ldFreeG (c := L1 + 1) (v := .int (v : Int) tv) rfl ⟨o3, c1, d3⟩ ?_ (by rfl) (by rfl)
    walk1
    refine wpAny_Name (wpAny_loadName_local (by rfl) (by rfl) hns hx ?_) (by decide)
    refine ldFreeG (c := L1 + 1 + 1) (v := .int 4 tr) rfl ⟨o2, c2, d2⟩ ?_ (by rfl) (by rfl)
    repeat ((fail_if_success (with_reducible show wpAny _ _ (eval (Expr.Name _ _) _) _ _ _)); walk1)
    refine ldFreeG (c := L1 + 1 + 1 + 1) rfl ⟨om, c3, dm⟩ ?_ (by rfl) (by rfl)
    repeat ((with_reducible show wpAny _ _ _ _ _ _); walk1)
    refine ⟨⟨hj, _, congrArg (fun x => Value.int x _) ?_⟩, _, _, _, rfl, fun _ _ _ e => e, hns⟩
    exact i2i_val4 v (k - 1 - j)
  · intro a' C h' tk gs oa oC oA' hgs tA' F4 N4 hCa hall XR
    have lt0 : ∀ q ∈ (76, oA) :: news, q.1 < L1 := fun q hq => by
      rcases List.mem_cons.mp hq with rfl | hq
      · exact l1.1
      · exact allLt_lt l1.2 q hq
    k_steps
    rename News _ _ _ _ => kN
    rename Fr _ _ _ _ => kF
    obtain ⟨oS, hS⟩ := statics_get T
    refine ret a' C r1 (a' :: C :: r1 :: cStatics :: [L1 + 1, L1 + 1 + 1, L1 + 1 + 1 + 1]) [(a', oa), (C, oC), (r1, riObj (0 + (Builtin.Range.rangeSize 0 (↑k) 1 - 1) * 1) (Builtin.Range.rangeSize 0 (↑k) 1)), (L1 + 1 + 1 + 1, om), (L1 + 1 + 1, o2), (L1 + 1, o3)] _ _ _ _ _ (G.push hgs) tA' kF ?_ ?_ (.head _) ?_ ⟨_, .tail _ (.head _)⟩ ⟨_, .tail _ (.tail _ (.head _))⟩ XR
    · intro p hp
      refine kN p ?_
      rcases List.mem_append.mp hp with hp | hp
      · rcases List.mem_cons.mp hp with rfl | hp
        · exact .head _
        · rcases List.mem_cons.mp hp with rfl | hp
          · exact .tail _ (.head _)
          · rcases List.mem_cons.mp hp with rfl | hp
            · exact .tail _ (.tail _ (.tail _ (.head _)))
            · rcases List.mem_cons.mp hp with rfl | hp
              · exact .tail _ (.tail _ (.tail _ (.tail _ (.head _))))
              · rcases List.mem_cons.mp hp with rfl | hp
                · exact .tail _ (.tail _ (.tail _ (.tail _ (.tail _ (.head _)))))
                · rw [List.mem_singleton.mp hp]
                  exact .tail _ (.tail _ (.tail _ (.tail _ (.tail _ (.tail _ (.head _))))))
      · rcases List.mem_cons.mp hp with rfl | hp
        · exact .tail _ (.tail _ (.head _))
        · exact .tail _ (.tail _ (.tail _ (.tail _ (.tail _ (.tail _ (.tail _ hp))))))
    · intro b hb
      rcases List.mem_cons.mp hb with rfl | hb
      · exact .inr ⟨_, .head _⟩
      · rcases List.mem_cons.mp hb with rfl | hb
        · exact .inr ⟨_, .tail _ (.head _)⟩
        · rcases List.mem_cons.mp hb with rfl | hb
          · exact .inr ⟨_, .tail _ (.tail _ (.head _))⟩
          · rcases List.mem_cons.mp hb with rfl | hb
            · exact .inl ⟨_, hS⟩
            · rcases List.mem_cons.mp hb with rfl | hb
              · exact .inr ⟨_, .tail _ (.tail _ (.tail _ (.tail _ (.tail _ (.head _)))))⟩
              · rcases List.mem_cons.mp hb with rfl | hb
                · exact .inr ⟨_, .tail _ (.tail _ (.tail _ (.tail _ (.head _))))⟩
                · rw [List.mem_singleton.mp hb]
                  exact .inr ⟨_, .tail _ (.tail _ (.tail _ (.head _)))⟩
    · intro p hp q hq
      have h0 := lt0 q hq
      have hC0 : q.1 < C := hall q (.tail _ (.tail _ (.tail _ (.tail _ hq))))
      rcases List.mem_cons.mp hp with rfl | hp
      · exact Nat.lt_trans hC0 hCa
      · rcases List.mem_cons.mp hp with rfl | hp
        · exact hC0
        · rcases List.mem_cons.mp hp with rfl | hp
          · exact Nat.lt_trans (Nat.lt_succ_of_lt h0) l2.2.2.1
          · rcases List.mem_cons.mp hp with rfl | hp
            · exact Nat.lt_succ_of_lt (Nat.lt_succ_of_lt (Nat.lt_succ_of_lt h0))
            · rcases List.mem_cons.mp hp with rfl | hp
              · exact Nat.lt_succ_of_lt (Nat.lt_succ_of_lt h0)
              · rw [List.mem_singleton.mp hp]
                exact Nat.lt_succ_of_lt h0
end
section
theorem offM10 : True := by w_top off; trivial
open PyProof.Rows.LCg (NsObj lst lst_snoc Off3 Off1 ns_obj fr_but news_but)
set_option maxRecDepth 100000
set_option maxHeartbeats 400000
variable {p : Program} {loose : List Str} {mean : ExcName → Option Value} {mg mb : Str → Option Value}
  {dp un : Nat} {gd : Option (List Code)} {cn : Str} {cs : Scope} {a : Addr} {ccd : Value} {cl : List (Str × Addr)} {outer : List Env}
  {A₀ : Around} {E Q : Value → Shared → Prop} {s : Shared} {base h₀ : Heap} {L : Addr} {m : Str → Option Value} {news : List (Addr × Obj)}
def wordsN (v k : Nat) : List Nat := (List.range k).map fun i => (v >>> ((k - 1 - i) * 10)) &&& 1023
theorem nats_of (f : Nat → Nat) (n : Nat) (vs : List Value) (hl : vs.length = n) (h : ∀ i x, vs[i]? = some x → ∃ t, x = Value.int ((f i : Nat) : Int) t) : NatsAre vs ((List.range n).map f) := by
  subst hl
  induction vs generalizing f with
  | nil => exact NatsAre.nil
  | cons v vs ih =>
    obtain ⟨t, rfl⟩ := h 0 v rfl
    rw [List.length_cons, List.range_succ_eq_map, List.map_cons, List.map_map]
    exact NatsAre.cons _ t (ih (fun i => f (i + 1)) fun i x e => h (i + 1) x (by simpa using e))
theorem itw_spec (w : World) (v : Nat) (tv tl : Tok) (k : Nat) (hk20 : k ≤ 40) (oA : Obj) (tA : TabOk oA) (N : News h₀ L s.heap ((76, oA) :: news)) (hne : ∀ p ∈ news, p.1 ≠ 76) (C76 : CodeHd h₀ 80 76)
  (B : Below A₀ base outer h₀) (F : Fr h₀ L s.heap m) (X : (Mine.hd.heap_1 w.params).In h₀)  (T : Top p loose mean mg mb h₀)
  (hk : cs.kind = .function) (hd : dp + 40 < recursionLimit) (hu : un + 300 < cLine) (G : AllBare s.gens)
  (ret : ∀ (D : Addr) (us : List Value) n h' tk' g' oA', AllBare g' → TabOk oA' → Fr h₀ L h' m → News h₀ L h' ((D, listOf us.toArray n) :: (76, oA') :: news) → (∀ q ∈ (76, oA) :: news, q.1 < D) → NatsAre us (wordsN v k) → Q (.ref D) ⟨h', g', s.drawn, tk', s.os⟩)
  (hrw : PySem.Challenge.rw_ja0052_01 = PySem.Challenge.rw_ja0052_01) :
  wpAny (model PySem.Challenge.pw_ja0052_01 w) (ktrTop dp un gd cn cs L a ccd cl outer) (call (.ref 159) [.int (v : Int) tv, .int (k : Int) tl]) Q E s := by
  refine wpAny_noRaise ?_
  revert X hrw
  k_fill
  intro X hrw
  clear hrw
  refine wpAny_call ?_
  (k_dflt (refine' code_def ?k1 ?k2 ?k3 ?k4 ?k5 ?kA ?kF ?kK ?k6 ?k7 ?k8 ?k9 ?kB ?_ ?c2 ?c3 ?c4 ?c5; (case kA => first | with_reducible assumption | exact rfl); (case kF => first | with_reducible assumption | exact rfl); (case kK => first | with_reducible assumption | exact rfl | assumption); (case k1 => k_asm); (case k2 => k_asm); (case k3 => k_asm); (case k4 => k_asm); (case k5 => k_asm); (case k6 => k_is); (case k7 => k_is); (case k8 => k_room); (case k9 => exact BindsTo.of_eq rfl); (case c5 => decide); (case kB => exact locs rfl); (case c2 => exact rfl); (case c3 => exact rfl); (case c4 => exact rfl); k_whole; intro g1 L1 _ FG1 F1 N1 B1 X1 T1; (try dsimp only); (try k_fold)))
  refine letA ?_
  intro A9
  repeat ((fail_if_success (with_reducible show wpAny _ _ (call (Value.ref _) _ _) _ _ _)); first | k_unfold | walk1 | (dsimp only; walk1))
  refine' i2i_kw (oA := oA) (news := news) _ _ _ _ _ _ hk20 tA ?kN hne (C76.keeps FG1.keep) ?kB ?kF ?kX ?kT ?kk ?kd ?ku G ?_ rfl
  case kN => k_asm
  case kF => k_asm
  case kB => k_asm
  case kX => k_asm
  case kT => k_asm
  case kk => rfl
  case kd => ((try dsimp +zetaDelta only [Around.deeper, ktrTop]); first | walk_at "mine le" | omega)
  case ku => ((try dsimp +zetaDelta only [Around.deeper, ktrTop]); first | walk_at "mine le" | omega)
  intro a' C r fp own h' tk' g' oA' gi G' tA' F2 N2 HD ha hord ⟨oC, hC⟩ ⟨or', hr⟩ XR
  repeat ((fail_if_success (with_reducible show wpAny _ _ (call (Value.type _) _ _) _ _ _)); first | k_unfold | walk1 | (dsimp only; walk1))
  have NC := N2 _ (List.mem_append_left _ hC)
  have Nr := N2 _ (List.mem_append_left _ hr)
  have sub : ∀ q ∈ (76, oA') :: news, ∃ o, (q.1, o) ∈ (76, oA) :: news := fun q hq => by
    rcases List.mem_cons.mp hq with rfl | hq
    · exact ⟨_, .head _⟩
    · exact ⟨q.2, .tail _ hq⟩
  refine list_genL (news := (76, oA') :: news) (XR.at fun _ _ _ e => e) rfl rfl ?_ ?_ F2 (fun p hp => N2 p (List.mem_append_right _ hp)) G' ?_ ha ?_ ?_ ?_ (by omega) ?_
  · (try dsimp +zetaDelta only [Around.deeper, ktrTop]); omega
  · (try dsimp +zetaDelta only [Around.deeper, ktrTop]); omega
  · intro b hb
    rcases HD b hb with ⟨o, e⟩ | ⟨o, e⟩
    · exact Heap.lt_size (F2.keep _ _ e)
    · exact Heap.lt_size (N2 _ (List.mem_append_left _ e)).1
  · intro hm
    rcases List.mem_cons.mp hm with e | hm
    · exact NC.2.1 e.symm
    · exact Nr.2.1 (List.mem_singleton.mp hm).symm
  · intro b hb
    rcases List.mem_cons.mp hb with rfl | hb
    · exact NC.2.2
    · rw [List.mem_singleton.mp hb]; exact Nr.2.2
  · intro q hq hm
    obtain ⟨o, ho⟩ := sub q hq
    rcases List.mem_cons.mp hm with e | hm
    · exact Nat.ne_of_lt (hord _ hC _ ho) e
    · exact Nat.ne_of_lt (hord _ hr _ ho) (List.mem_singleton.mp hm)
  · intro D' c h'' tk'' g'' vs G3 F3 N3 lD hlen hvs
    k_steps
    rename News _ _ _ _ => kN
    rename Fr _ _ _ _ => kF
    refine ret D' vs c _ _ _ oA' G3 tA' kF kN ?_ (nats_of _ _ _ hlen fun i x e => (hvs i x e).2)
    intro q hq
    rcases List.mem_cons.mp hq with rfl | hq
    · exact lD (76, oA') (.head _)
    · exact lD _ (.tail _ hq)
end
section
theorem offM11 : True := by w_top off; trivial
local macro_rules | `(tactic| walk_at "mine pad") => `(tactic| skip)
open PyProof.Rows.LCg (NsObj lst lst_snoc Off3 Off1 ns_obj fr_but news_but)
set_option maxRecDepth 100000
set_option maxHeartbeats 400000
variable {p : Program} {loose : List Str} {mean : ExcName → Option Value} {mg mb : Str → Option Value}
  {dp un : Nat} {gd : Option (List Code)} {cn : Str} {cs : Scope} {a : Addr} {ccd : Value} {cl : List (Str × Addr)} {outer : List Env}
  {A₀ : Around} {E Q : Value → Shared → Prop} {s : Shared} {base h₀ : Heap} {L : Addr} {m : Str → Option Value} {news : List (Addr × Obj)}
def fromN (ns : List Nat) : Nat := ns.foldl (fun a n => a * 1024 + n) 0
def custN (e : Bool) : Array UInt8 := if e then #[115, 104, 97, 109, 105, 114, 95, 101, 120, 116, 101, 110, 100, 97, 98, 108, 101] else #[115, 104, 97, 109, 105, 114]
inductive FromJ (l : Addr) (ns : List Nat) (i : Nat) (m' : Str → Option Value) : Prop
  | mk  (c : Nat) (t : Tok) (u1 : Option Value)
    (c0 : m' = mp [(Str.ofString "indices", some (Value.ref l)), (Str.ofString "value", some (Value.int c t)), (Str.ofString "index", u1)])
    (c1 : c = fromN (ns.take i))
theorem ifw_spec (w : World) (l : Addr) (vs : List Value) (ns : List Nat) (nv : Nat) (N : News h₀ L s.heap news) (hl : (l, listOf vs.toArray nv) ∈ news) (hi : NatsAre vs ns)
  (B : Below A₀ base outer h₀) (F : Fr h₀ L s.heap m) (X : (Mine.hd.heap_1 w.params).In h₀)  (T : Top p loose mean mg mb h₀)
  (hk : cs.kind = .function) (hd : dp + 30 < recursionLimit) (hu : un + 200 < cLine)
  (ret : ∀ t h' tk', Fr h₀ L h' m → News h₀ L h' news → Q (.int (fromN ns : Nat) t) { s with heap := h', toks := tk' })
  (hrw : PySem.Challenge.rw_ja0052_01 = PySem.Challenge.rw_ja0052_01) :
  wpAny (model PySem.Challenge.pw_ja0052_01 w) (ktrTop dp un gd cn cs L a ccd cl outer) (call (.ref 166) [.ref l]) Q E s := by
  refine wpAny_noRaise ?_
  revert X hrw
  k_fill
  intro X hrw
  clear hrw
  refine wpAny_call ?_
  (k_dflt (refine' code_def ?k1 ?k2 ?k3 ?k4 ?k5 ?kA ?kF ?kK ?k6 ?k7 ?k8 ?k9 ?kB ?_ ?c2 ?c3 ?c4 ?c5; (case kA => first | with_reducible assumption | exact rfl); (case kF => first | with_reducible assumption | exact rfl); (case kK => first | with_reducible assumption | exact rfl | assumption); (case k1 => k_asm); (case k2 => k_asm); (case k3 => k_asm); (case k4 => k_asm); (case k5 => k_asm); (case k6 => k_is); (case k7 => k_is); (case k8 => k_room); (case k9 => exact BindsTo.of_eq rfl); (case c5 => decide); (case kB => exact locs rfl); (case c2 => exact rfl); (case c3 => exact rfl); (case c4 => exact rfl); k_whole; intro g1 L1 _ FG1 F0 N0 B1 X1 T1; (try dsimp only); (try k_fold)))
  refine letA ?_
  intro A9
  replace F0 := fr_lookup (show Fr _ _ _ (fun y => List.lookup y [(Str.ofString "indices", Value.ref l)]) from F0)
  dsimp only [List.map] at F0
  (repeat ((fail_if_success (with_reducible show wpAny _ _ (exec (Stmt.For _ _ _ _ _) _) _ _ _)); first | walk1 | (dsimp only; walk1)))
  rename News _ _ _ _ => N1
  rename Fr _ _ _ _ => F1
  replace F1 := (show Fr _ _ _ (mp [(Str.ofString "value", _), (Str.ofString "indices", _)]) from F1)
  refine For_ ?_
  (repeat ((fail_if_success (with_reducible show wpAny _ _ (pyIter _) _ _ _)); walk1))
  have HL := News.isList N1 hl
  have HN := (N1 _ hl).2.1
  refine for_listK rfl HL HN (by rfl) (by rfl) (by passes_own) F1 N1
    (FromJ l ns) ?_ ?_ ?_
  · exact ⟨0, _, _, mp_canon [Str.ofString "indices", Str.ofString "value", Str.ofString "index"] _ (by rfl), rfl⟩
  · rintro i v m₁ own h tk hv hJ9 F2 N2
    k_fold
    obtain ⟨c, t, u1, rfl, hc⟩ := hJ9
    obtain ⟨n, tn, rfl, hn'⟩ := hi.item hv
    replace F2 := (show Fr _ _ _ (mp ((Str.ofString "index", some _) :: _)) from F2)
    k_steps
    rename News _ _ _ _ => N3
    rename Fr _ _ _ _ => F3
    refine TurnK.end F3 N3 (fun _ h => h) ⟨c * 1024 + n, _, _, mp_canon [Str.ofString "indices", Str.ofString "value", Str.ofString "index"] ((_, _) :: (_, _) :: _) (by rfl), ?_⟩
    rw [List.take_add_one, hn', Option.toList_some, fromN, List.foldl_append, ← fromN, ← hc]; rfl
  · rintro m' h' tk ⟨c, t, u1, rfl, hc⟩ F2 N2
    rw [List.take_of_length_le (by rw [hi.len]; exact Nat.le_refl _)] at hc
    subst hc
    k_steps
    rename News _ _ _ _ => kN
    rename Fr _ _ _ _ => kF
    exact ret _ _ _ kF kN
theorem cust_spec (w : World) (e : Bool) (N : News h₀ L s.heap news)
  (B : Below A₀ base outer h₀) (F : Fr h₀ L s.heap m) (X : (Mine.hd.heap_1 w.params).In h₀)  (T : Top p loose mean mg mb h₀)
  (hk : cs.kind = .function) (hd : dp + 30 < recursionLimit) (hu : un + 200 < cLine)
  (ret : ∀ t h' tk', Fr h₀ L h' m → News h₀ L h' news → Q (.bytes (custN e) t) { s with heap := h', toks := tk' })
  (hrw : PySem.Challenge.rw_ja0052_01 = PySem.Challenge.rw_ja0052_01) :
  wpAny (model PySem.Challenge.pw_ja0052_01 w) (ktrTop dp un gd cn cs L a ccd cl outer) (call (.ref 173) [.bool e]) Q E s := by
  refine wpAny_noRaise ?_
  revert X hrw
  k_fill
  intro X hrw
  clear hrw
  cases e
  · ((refine wpAny_call ?_; k_dflt (refine' code_def ?k1 ?k2 ?k3 ?k4 ?k5 ?kA ?kF ?kK ?k6 ?k7 ?k8 ?k9 ?kB ?_ ?c2 ?c3 ?c4 ?c5; (case kA => exact rfl); (case kF => exact rfl); (case kK => first | with_reducible assumption | exact rfl | assumption); (case k1 => k_asm); (case k2 => k_asm); (case k3 => k_asm); (case k4 => k_asm); (case k5 => k_asm); (case k6 => k_is); (case k7 => k_is); (case k8 => k_room); (case k9 => exact BindsTo.of_eq rfl); (case c5 => decide); (case kB => exact locs rfl); (case c2 => exact rfl); (case c3 => exact rfl); (case c4 => exact rfl); k_whole; intro g' L' h' FG' F' N' B' X' T'; (try dsimp only); (try k_fold))))
    k_steps
    rename News _ _ _ _ => kN
    rename Fr _ _ _ _ => kF
    exact ret _ _ _ kF kN
  · ((refine wpAny_call ?_; k_dflt (refine' code_def ?k1 ?k2 ?k3 ?k4 ?k5 ?kA ?kF ?kK ?k6 ?k7 ?k8 ?k9 ?kB ?_ ?c2 ?c3 ?c4 ?c5; (case kA => exact rfl); (case kF => exact rfl); (case kK => first | with_reducible assumption | exact rfl | assumption); (case k1 => k_asm); (case k2 => k_asm); (case k3 => k_asm); (case k4 => k_asm); (case k5 => k_asm); (case k6 => k_is); (case k7 => k_is); (case k8 => k_room); (case k9 => exact BindsTo.of_eq rfl); (case c5 => decide); (case kB => exact locs rfl); (case c2 => exact rfl); (case c3 => exact rfl); (case c4 => exact rfl); k_whole; intro g' L' h' FG' F' N' B' X' T'; (try dsimp only); (try k_fold))))
    k_steps
    rename News _ _ _ _ => kN
    rename Fr _ _ _ _ => kF
    exact ret _ _ _ kF kN
theorem b2w_spec (w : World) (n : Int) (tn : Tok) (N : News h₀ L s.heap news)
  (B : Below A₀ base outer h₀) (F : Fr h₀ L s.heap m) (X : (Mine.hd.heap_1 w.params).In h₀)  (T : Top p loose mean mg mb h₀)
  (hk : cs.kind = .function) (hd : dp + 30 < recursionLimit) (hu : un + 200 < cLine)
  (ret : ∀ t h' tk', Fr h₀ L h' m → News h₀ L h' news → Q (.int ((n + 10 - 1).fdiv 10) t) { s with heap := h', toks := tk' })
  (hrw : PySem.Challenge.rw_ja0052_01 = PySem.Challenge.rw_ja0052_01) :
  wpAny (model PySem.Challenge.pw_ja0052_01 w) (ktrTop dp un gd cn cs L a ccd cl outer) (call (.ref 74) [.int n tn]) Q E s := by
  refine wpAny_noRaise ?_
  revert X hrw
  k_fill
  intro X hrw
  clear hrw
  refine wpAny_call ?_
  (k_dflt (refine' code_def ?k1 ?k2 ?k3 ?k4 ?k5 ?kA ?kF ?kK ?k6 ?k7 ?k8 ?k9 ?kB ?_ ?c2 ?c3 ?c4 ?c5; (case kA => first | with_reducible assumption | exact rfl); (case kF => first | with_reducible assumption | exact rfl); (case kK => first | with_reducible assumption | exact rfl | assumption); (case k1 => k_asm); (case k2 => k_asm); (case k3 => k_asm); (case k4 => k_asm); (case k5 => k_asm); (case k6 => k_is); (case k7 => k_is); (case k8 => k_room); (case k9 => exact BindsTo.of_eq rfl); (case c5 => decide); (case kB => exact locs rfl); (case c2 => exact rfl); (case c3 => exact rfl); (case c4 => exact rfl); k_whole; intro _ _ _ _ _ _ _ _ _; (try dsimp only); (try k_fold)))
  refine letA ?_
  intro A9
  k_steps
  rename News _ _ _ _ => kN
  rename Fr _ _ _ _ => kF
  exact ret _ _ _ kF kN
theorem b2b_spec (w : World) (n : Int) (tn : Tok) (N : News h₀ L s.heap news)
  (B : Below A₀ base outer h₀) (F : Fr h₀ L s.heap m) (X : (Mine.hd.heap_1 w.params).In h₀)  (T : Top p loose mean mg mb h₀)
  (hk : cs.kind = .function) (hd : dp + 30 < recursionLimit) (hu : un + 200 < cLine)
  (ret : ∀ t h' tk', Fr h₀ L h' m → News h₀ L h' news → Q (.int ((n + 8 - 1).fdiv 8) t) { s with heap := h', toks := tk' })
  (hrw : PySem.Challenge.rw_ja0052_01 = PySem.Challenge.rw_ja0052_01) :
  wpAny (model PySem.Challenge.pw_ja0052_01 w) (ktrTop dp un gd cn cs L a ccd cl outer) (call (.ref 67) [.int n tn]) Q E s := by
  refine wpAny_noRaise ?_
  revert X hrw
  k_fill
  intro X hrw
  clear hrw
  refine wpAny_call ?_
  (k_dflt (refine' code_def ?k1 ?k2 ?k3 ?k4 ?k5 ?kA ?kF ?kK ?k6 ?k7 ?k8 ?k9 ?kB ?_ ?c2 ?c3 ?c4 ?c5; (case kA => first | with_reducible assumption | exact rfl); (case kF => first | with_reducible assumption | exact rfl); (case kK => first | with_reducible assumption | exact rfl | assumption); (case k1 => k_asm); (case k2 => k_asm); (case k3 => k_asm); (case k4 => k_asm); (case k5 => k_asm); (case k6 => k_is); (case k7 => k_is); (case k8 => k_room); (case k9 => exact BindsTo.of_eq rfl); (case c5 => decide); (case kB => exact locs rfl); (case c2 => exact rfl); (case c3 => exact rfl); (case c4 => exact rfl); k_whole; intro _ _ _ _ _ _ _ _ _; (try dsimp only); (try k_fold)))
  refine letA ?_
  intro A9
  k_steps
  rename News _ _ _ _ => kN
  rename Fr _ _ _ _ => kF
  exact ret _ _ _ kF kN
end
end
section
open PySem PySem.W PyProof.Rows PySem.Spec PySem.Calls
local macro_rules | `(tactic| walk_at "call type:list") => `(tactic| (k_here; (with_reducible show wpAny _ _ (call (Value.type _) [Value.bytes _ _]) _ _ _); k_dflt (refine' list_bytesL ?k1 _ _ ?k2 ?k3 ?z ?_; (case k1 => rfl); (case k2 => k_asm); (case k3 => k_asm); (case z => first | decide | omega)); intro D' c' h' tk' vs' F' N' l1 hvs'; (try k_lt l1); (try k_sweep)))
local macro_rules | `(tactic| walk_at "call type:list") => `(tactic| (k_here; (with_reducible show wpAny _ _ (call (Value.type _) [Value.ref _]) _ _ _); k_dflt (refine' list_copyK ?k1 ?k2 ?k3 ?_ ?z; (case k1 => k_asm); (case k2 => k_asm); (case k3 => is_list); (case z => (first | size_fits | (simp only [List.size_toArray, sizeLine_eq]; omega)))); intro D' c' h' F' N' l1; (try k_lt l1); (try k_sweep)))
local macro_rules | `(tactic| walk_at "binaryOp Add ref ref") => `(tactic| (k_here; (with_reducible show wpAny _ _ (binaryOp _ (Value.ref _) (Value.ref _)) _ _ _); k_dflt (refine' add_N ?F ?N ?a ?b ?i ?j ?_ ?z; (case F => k_asm); (case N => k_asm); (case a => is_list); (case b => is_list); (case i => with_reducible assumption); (case j => first | (with_reducible assumption) | exact zeros3 _); (case z => (simp only [List.length_map, Array.length_toList, List.length_append, List.length_cons, List.length_nil]; omega))); intro D' ws' h' F' N' l1 hI'; (try k_lt l1); (try k_sweep)))
local macro_rules | `(tactic| walk_at "call ref") => `(tactic| (k_here; (with_reducible show wpAny _ _ (call (Value.ref 28) [Value.ref _]) _ _ _); k_dflt (refine' polymod_spec _ _ _ _ _ ?kN ?kM ?kV ?kL ?kB ?kF ?kX ?kT ?kk ?kd ?ku ?_ rfl; (case kN => k_asm); (case kM => k_mem); (case kF => k_asm); (case kV => (first | assumption | skip)); (case kL => (first | assumption | skip)); (case kB => k_asm); (case kX => k_asm); (case kT => k_asm); (case kk => rfl); (case kd => ((try dsimp +zetaDelta only [Around.deeper, ktrTop]); first | walk_at "mine le" | omega)); (case ku => ((try dsimp +zetaDelta only [Around.deeper, ktrTop]); first | walk_at "mine le" | omega))); intro t' h' tk' F' N'; (try k_sweep)))
local macro_rules | `(tactic| walk_at "call type:reversed") => `(tactic| (k_here; (with_reducible show wpAny _ _ (call (Value.type _) [Value.ref _]) _ _ _); k_dflt (refine' reversed_range ?k1 ?k2 ?k3 ?k4 ?_; (case k1 => k_asm); (case k2 => k_asm); (case k3 => first | with_reducible assumption | assumption); (case k4 => first | with_reducible assumption | exact ⟨by rfl⟩)); intro D' h' F' N' l1; (try k_lt l1); (try k_sweep)))
section
theorem offM12 : True := by w_top off; trivial
open PyProof.Rows.LCg (NsObj lst lst_snoc Off3 Off1 ns_obj fr_but news_but)
set_option maxRecDepth 100000
set_option maxHeartbeats 400000
variable {p : Program} {loose : List Str} {mean : ExcName → Option Value} {mg mb : Str → Option Value}
  {dp un : Nat} {gd : Option (List Code)} {cn : Str} {cs : Scope} {a : Addr} {ccd : Value} {cl : List (Str × Addr)} {outer : List Env}
  {A₀ : Around} {E Q : Value → Shared → Prop} {s : Shared} {base h₀ : Heap} {L : Addr} {m : Str → Option Value} {news : List (Addr × Obj)}
theorem item_eq {x : Str} {i : Int} {n : Nat} (e : i = (n : Int)) (hn : n < x.length) : Txt.item x i = ⟨#[x.cps.getD n 0]⟩ := by
  subst e
  unfold Txt.item Txt.charAt seqIndex?
  have h1 : ¬ ((n : Int) < 0) := by omega
  have h2 : (n : Int) < (x.length : Int) := by omega
  have h3 : (0 : Int) ≤ (n : Int) := by omega
  simp only [if_neg h1, h2, h3, decide_true, Bool.and_self, if_true, Option.bind_some, Int.toNat_natCast]
  rw [Array.getD_eq_getD_getElem?]
def outerN (n : Nat) : Nat := #[98, 100, 102, 103, 104, 106, 107, 108, 109, 110, 112, 114, 115, 116, 118, 122].getD n 0
def innerN (n : Nat) : Nat := #[97, 105, 111, 117].getD n 0
def wordS (i : Nat) : Str := ⟨#[outerN (i >>> 6), innerN ((i >>> 4) &&& 3), outerN (i &&& 15)]⟩
theorem outer_cps : (Str.ofString "bdfghjklmnprstvz").cps = #[98, 100, 102, 103, 104, 106, 107, 108, 109, 110, 112, 114, 115, 116, 118, 122] := by decide +kernel
theorem inner_cps : (Str.ofString "aiou").cps = #[97, 105, 111, 117] := by decide +kernel
theorem outer_len : (Str.ofString "bdfghjklmnprstvz").length = 16 := by decide +kernel
theorem inner_len : (Str.ofString "aiou").length = 4 := by decide +kernel
theorem word_spec (w : World) {A : Around} {env : Env} (i : Nat) (ti : Tok) (hi : i < 1024) (N : News h₀ L s.heap news)
  (B : Below A₀ base outer h₀) (F : Fr h₀ L s.heap m) (X : (Mine.hd.heap_1 w.params).In h₀)  (T : Top p loose mean mg mb h₀)
  (hA : A.frames = some (env :: outer)) (hf : env.frame = some L) (hk : env.scope.kind = .function) (hh : A.handled = none) (hd : A.depth + 5 < recursionLimit) (hu : A.units + 50 < cLine)
  (ret : ∀ t h' tk', Fr h₀ L h' m → News h₀ L h' news → Q (.str (wordS i) t) { s with heap := h', toks := tk' })
  (hrw : PySem.Challenge.rw_ja0052_01 = PySem.Challenge.rw_ja0052_01) :
  wpAny (model PySem.Challenge.pw_ja0052_01 w) A (call (.ref 90) [.int (i : Int) ti]) Q E s := by
  refine wpAny_noRaise ?_
  revert X hrw
  k_fill
  intro X hrw
  clear hrw
  have e6 : (i : Int).fdiv (2 ^ Int.toNat 6) = ((i >>> 6 : Nat) : Int) := shr_n i 6
  have e4 : (i : Int).fdiv (2 ^ Int.toNat 4) = ((i >>> 4 : Nat) : Int) := shr_n i 4
  have e3 : Builtin.bitAnd ((i : Int).fdiv (2 ^ Int.toNat 4)) 3 = (((i >>> 4) &&& 3 : Nat) : Int) := by rw [e4]; exact bAnd_n _ 3
  have e15 : Builtin.bitAnd (i : Int) 15 = ((i &&& 15 : Nat) : Int) := bAnd_n _ 15
  have b6 : i >>> 6 < 16 := by rw [Nat.shiftRight_eq_div_pow]; omega
  have b3 : (i >>> 4) &&& 3 < 4 := Nat.lt_succ_of_le Nat.and_le_right
  have b15 : i &&& 15 < 16 := Nat.lt_succ_of_le Nat.and_le_right
  refine wpAny_call ?_
  (k_dflt (refine' code_def ?k1 ?k2 ?k3 ?k4 ?k5 ?kA ?kF ?kK ?k6 ?k7 ?k8 ?k9 ?kB ?_ ?c2 ?c3 ?c4 ?c5; (case kA => first | with_reducible assumption | exact rfl); (case kF => first | with_reducible assumption | exact rfl); (case kK => first | with_reducible assumption | exact rfl | assumption); (case k1 => k_asm); (case k2 => k_asm); (case k3 => k_asm); (case k4 => k_asm); (case k5 => k_asm); (case k6 => k_is); (case k7 => k_is); (case k8 => k_room); (case k9 => exact BindsTo.of_eq rfl); (case c5 => decide); (case kB => exact locs rfl); (case c2 => exact rfl); (case c3 => exact rfl); (case c4 => exact rfl); k_whole; intro _ _ _ _ _ _ _ _ _; (try dsimp only); (try k_fold)))
  refine letA ?_
  intro A9
  k_steps
  rename News _ _ _ _ => kN
  rename Fr _ _ _ _ => kF
  have hV : Txt.item (Str.ofString "bdfghjklmnprstvz") ((i : Int).fdiv (2 ^ Int.toNat 6)) ++ Txt.item (Str.ofString "aiou") (Builtin.bitAnd ((i : Int).fdiv (2 ^ Int.toNat 4)) 3) ++ Txt.item (Str.ofString "bdfghjklmnprstvz") (Builtin.bitAnd (i : Int) 15) = wordS i := by
    rw [item_eq e6 (by rw [outer_len]; exact b6), item_eq e3 (by rw [inner_len]; exact b3), item_eq e15 (by rw [outer_len]; exact b15), outer_cps, inner_cps]
    rfl
  rw [hV]
  exact ret _ _ _ kF kN
end
section
set_option maxRecDepth 100000
set_option maxHeartbeats 1000000
def baseOf (h : Heap) : List Addr := (List.range h.objs.size).filter fun b => (h.get? b).isSome
theorem mem_baseOf {h : Heap} {b : Addr} {o : Obj} (e : h.get? b = some o) : b ∈ baseOf h := by
  unfold baseOf
  rw [List.mem_filter, List.mem_range]
  exact ⟨Heap.lt_size e, by rw [e]; rfl⟩
theorem of_baseOf {h : Heap} {b : Addr} (e : b ∈ baseOf h) : ∃ o, h.get? b = some o := by
  unfold baseOf at e
  rw [List.mem_filter] at e
  exact Option.isSome_iff_exists.mp e.2
section
variable {prog : Program} {w : World} {A : Around} {E : Value → Shared → Prop} {s : Shared} {h₀ : Heap} {L : Addr} {m : Str → Option Value} {p : Program} {loose : List Str} {mean : ExcName → Option Value} {mg mb : Str → Option Value}
/-- an element that is walked over the base -/
theorem elF_of {g : Heap} {cenv : Env} {x : Str} {elt : Expr} {fp wr : List Addr} {P F : Nat → Value → Prop} {href : Heap} {fr : List Env} {D U : Nat}
    (hC : g.objs.size ≤ cenv.locals) (hfp : ∀ b o, g.get? b = some o → b ∈ fp) (hwr : ∀ b ∈ wr, g.get? b = none) (hh : ∀ b o, g.get? b = some o → href.get? b = some o)
    (walk : ∀ (A' : Around) E' i v (s₂ : Shared) m₂ news, A'.handled = none → A'.frames = some (cenv :: fr) → A'.depth ≤ D → A'.units ≤ U → P i v → m₂ x = some v → Fr g cenv.locals s₂.heap m₂ → News g cenv.locals s₂.heap news →
      wpAny (model prog w) A' (eval elt cenv) (fun y s₃ => F i y ∧ ∃ h' tk m', s₃ = { s₂ with heap := h', toks := tk } ∧ Fr g cenv.locals h' m' ∧ News g cenv.locals h' news) E' s₂) :
    ElF prog w cenv x elt fp wr P F href fr D U := by
  intro A' E' i v s₂ m₂ h1 h2 h3 h4 hP hns hx hk
  have keep : ∀ b o, g.get? b = some o → s₂.heap.get? b = some o := fun b o e => hk b (hfp b o e) (fun hb => by rw [hwr b hb] at e; cases e) o (hh b o e)
  have F₂ : Fr g cenv.locals s₂.heap m₂ := ⟨hns, keep, hC⟩
  have hL : cenv.locals ∉ (List.range s₂.heap.objs.size).filter (fun b => b ≠ cenv.locals) := by
    rw [List.mem_filter]
    intro hm
    simp at hm
  have N₂ : News g cenv.locals s₂.heap (ownOf g ((List.range s₂.heap.objs.size).filter (fun b => b ≠ cenv.locals)) s₂.heap) := news_ownOf hL
  refine wpAny_mono (walk A' E' i v s₂ m₂ _ h1 h2 h3 h4 hP hx F₂ N₂) (fun y s₃ h₃ => ?_) fun _ _ e => e
  obtain ⟨hF, h', tk, m', rfl, F₃, N₃⟩ := h₃
  refine ⟨hF, h', tk, m', rfl, fun b o hb e => ?_, F₃.ns⟩
  cases hg : g.get? b with
  | some o' =>
    have := keep b o' hg
    rw [e] at this; cases this
    exact F₃.keep b o hg
  | none => exact (N₃ _ (mem_ownOf (List.mem_filter.mpr ⟨List.mem_range.mpr (Heap.lt_size e), by simpa using hb⟩) hg e)).1
theorem gsrc_list {env : Env} {elt : Expr} {x : Str} {scope : Scope} {cl : List (Str × Addr)} {c PT l : Addr} {fr : List Env} {D U nv : Nat} {vs : List Value} {oA : Obj} {Q : Value → Shared → Prop} {all rest : List (Addr × Obj)}
    (T : Top p loose mean mg mb h₀) (F : Fr h₀ L s.heap m) (N : News h₀ L s.heap all) (hm : (l, listOf vs.toArray nv) ∈ all) (hgl : env.globals = mainGlobals)
    (hC : CodeHd h₀ c PT) (hA : (PT, oA) ∈ all) (tA : TabOk oA) (hPl : PT ≠ l) (hr : ∀ p ∈ rest, p ∈ all ∧ p.1 ≠ PT)
    (Fi : Nat → Value → Prop)
    (el : ∀ I C code href, h₀.get? I = none → (∀ b o, s.heap.get? b = some o → b < C) → (∀ b o, h₀.get? b = some o → href.get? b = some o) →
      ElF prog w (genEnv scope cl C code builtinsNs env) x elt (I :: l :: baseOf h₀) [I] (fun i v => vs[i]? = some v) Fi href fr (D + 1) (U + 4))
    (fin : ∀ a C I h' tk gs oa oC oI oA', gs.bare = true → TabOk oA' → Fr h₀ L h' m → News h₀ L h' ((a, oa) :: (C, oC) :: (I, oI) :: (PT, oA') :: rest) → @LT.lt Nat _ C a → @LT.lt Nat _ I C → (∀ p ∈ all, p.1 < I) →
      GenReady prog w a (a :: C :: I :: l :: baseOf h₀) [C, I] s.gens.size vs.length Fi fr D U ⟨h', s.gens.push gs, s.drawn, tk, s.os⟩ → Q (.ref a) ⟨h', s.gens.push gs, s.drawn, tk, s.os⟩) :
    wpAny (model prog w) A (pyIter (.ref l)) (GSrc prog w env elt x scope cl c fr D U Q) E s := by
  have hl : s.heap.IsList l vs.toArray := News.isList N hm
  have hll : l < s.heap.objs.size := Heap.lt_size (N _ hm).1
  refine wpAny_pyIter_list hl ?_
  have up : ∀ b o, s.heap.get? b = some o → (s.heap.push { cls := .type "list_iterator", data := .fields #[.ref l, .int 0 0] }).get? b = some o := fun b o e => Heap.get?_push_of_some _ e
  have hI : (s.heap.push { cls := .type "list_iterator", data := .fields #[.ref l, .int 0 0] }).get? s.heap.objs.size = some { cls := .type "list_iterator", data := .fields #[.ref l, .int 0 0] } := Heap.get?_push_size _ rfl
  have W₀ : ∀ A' : Around, A'.handled = none → Walks prog w A' s.heap.objs.size (s.heap.objs.size :: l :: baseOf h₀) [s.heap.objs.size] vs.length (fun i v => vs[i]? = some v) (fun i h => h.IsListIter s.heap.objs.size l i ∧ h.IsList l vs.toArray) := fun A' hA' => by
    have W := (Walks.list (prog := prog) (w := w) hA' s.heap.objs.size l (Nat.ne_of_lt hll) vs.toArray)
    have e1 : vs.toArray.size = vs.length := List.size_toArray ..
    rw [e1] at W
    exact { sub := fun b hb => by rw [List.mem_singleton.mp hb]; exact .head _
            frame := fun i h h' st hk => W.frame i h h' st fun b hb o e => hk b (by rcases List.mem_cons.mp hb with rfl | hb; exact .head _; rw [List.mem_singleton.mp hb]; exact .tail _ (.head _)) o e
            done := W.done, self := W.self
            item := fun i s Q E hi st hQ => W.item i s Q E hi st fun v h' tk e => hQ v h' tk (by simpa using e) }
  obtain ⟨ps, hok⟩ := isCode_of ((hC.keeps F.keep).keeps up) (up _ _ (N _ hA).1) tA
  obtain ⟨bm, ob, M⟩ := bmod_of_top T
  obtain ⟨oS, hS⟩ := statics_get T
  obtain ⟨oG, hG⟩ := ns_get T.g
  have nP := (N _ hA).2.2
  have nI := none_at_size F
  have hP1 : PT ≠ bm := fun e => by have := M.obj; rw [← e, nP] at this; cases this
  have hP2 : PT ≠ env.globals := fun e => by rw [hgl] at e; rw [← e, nP] at hG; cases hG
  have hP3 : PT ≠ cStatics := fun e => by rw [← e, nP] at hS; cases hS
  have hS1 : cStatics ≠ s.heap.objs.size := fun e => by rw [e, nI] at hS; cases hS
  have hPI : PT ≠ s.heap.objs.size := Nat.ne_of_lt (Heap.lt_size (N _ hA).1)
  refine ⟨s.heap.objs.size, s.heap.objs.size :: l :: baseOf h₀, vs.length, _, _, Fi, PT, ps, mg, bm, ob, rfl, (T.nolimit.keeps F.keep).keeps up, hok, (by rw [hgl]; exact (M.keeps F.keep).keeps up), hP1, hP2, hP3, ?_, W₀, ⟨⟨_, hI, rfl, rfl⟩, hl.push _⟩, .tail _ (.tail _ (mem_baseOf hS)), hS1, ?_, ?_, ?_⟩
  · intro hb
    rcases List.mem_cons.mp hb with e | hb
    · exact hPI e
    · rcases List.mem_cons.mp hb with e | hb
      · exact hPl e
      · obtain ⟨o, e⟩ := of_baseOf hb
        rw [nP] at e; cases e
  · intro b hb
    rcases List.mem_cons.mp hb with e | hb
    · exact ⟨_, e ▸ hI⟩
    · rcases List.mem_cons.mp hb with e | hb
      · exact ⟨listOf vs.toArray nv, by rw [e]; exact up _ _ (N _ hm).1⟩
      · obtain ⟨o, e⟩ := of_baseOf hb
        exact ⟨o, up _ _ (F.keep _ _ e)⟩
  · intro C code href hlt hk
    exact el _ C code href nI (fun b o e => hlt b o (up b o e)) fun b o e => hk b (.tail _ (.tail _ (mem_baseOf e))) o (up _ _ (F.keep _ _ e))
  · intro a C h' tk gs ps' hgs hlt hCa hsz hk hok' ⟨oa, hoa⟩ ⟨oC, hoC⟩ X
    obtain ⟨oA', hA', tA'⟩ := tab_isCode hok'
    have hLP : L ≠ PT := fun e => (N _ hA).2.1 e.symm
    have hk' : ∀ b o, b ≠ PT → s.heap.get? b = some o → h'.get? b = some o := fun b o hb e => hk b o hb (up b o e)
    have F' : Fr h₀ L h' m := ⟨F.ns.at' fun o e => hk' L o hLP e, fun b o e => hk' b o (fun q => by rw [q, nP] at e; cases e) (F.keep b o e), F.above⟩
    have hLt : L < C := let ⟨o, e⟩ := ns_get F.ns; hlt L o (up L o e)
    have hIC : s.heap.objs.size < C := hlt _ _ hI
    have hBC : ∀ b, h₀.get? b ≠ none → b < C := fun b hb => by
      cases q : h₀.get? b with
      | none => exact absurd q hb
      | some o => exact hlt b o (up _ _ (F.keep b o q))
    have none_ge : ∀ b, @LE.le Nat _ C b → h₀.get? b = none := fun b hb => by
      cases q : h₀.get? b with
      | none => rfl
      | some o => exact absurd (hBC b (by rw [q]; simp)) (Nat.not_lt.mpr hb)
    refine fin a C s.heap.objs.size h' tk gs oa oC { cls := .type "list_iterator", data := .fields #[.ref l, .int 0 0] } oA' hgs tA' F' ?_ hCa hIC (fun p hp => Heap.lt_size (N p hp).1) X
    intro p hp
    rcases List.mem_cons.mp hp with rfl | hp
    · exact ⟨hoa, Nat.ne_of_gt (Nat.lt_trans hLt hCa), none_ge _ (Nat.le_of_lt hCa)⟩
    · rcases List.mem_cons.mp hp with rfl | hp
      · exact ⟨hoC, Nat.ne_of_gt hLt, none_ge _ (Nat.le_refl _)⟩
      · rcases List.mem_cons.mp hp with rfl | hp
        · exact ⟨hk _ _ (Ne.symm hPI) hI, Nat.ne_of_gt F.ns.lt, nI⟩
        · rcases List.mem_cons.mp hp with rfl | hp
          · exact ⟨hA', (N _ hA).2.1, nP⟩
          · obtain ⟨h1, h2⟩ := hr p hp
            exact ⟨hk' _ _ h2 (N p h1).1, (N p h1).2⟩
theorem gen_global {M : Model} {A : Around} {E : Value → Shared → Prop} {s : Shared} {K : Frag} {x : Str} {pos : Pos} {v : Value} {scope : Scope} {cl : List (Str × Addr)} {C bi : Addr} {code : Value} {env : Env} {Q : Value → Shared → Prop} (F : Fr h₀ L s.heap m) (X : K.In h₀) (T : Top p loose mean mg mb h₀) (e : nsIn K mainGlobals x = some (some v)) (h : Q v s) (hg : env.globals = mainGlobals)
    (hk : scope.kind = .function) (hx : (genEnv scope cl C code bi env).kindOf x = some .globalImplicit) (hd : (x == ("__debug__" : Str)) = false := by decide) :
    wpAny M A (eval (.Name x pos) (genEnv scope cl C code bi env)) Q E s :=
  Name_function_global hk hx (loadGlobal_global (env := genEnv scope cl C code bi env) (show s.heap.Ns env.globals mg from hg ▸ (T.keeps F.keep).g) (mg_of X T.g e) h) hd
end
end
section
theorem offM14 : True := by w_top off; trivial
local macro_rules | `(tactic| walk_at "mine pad") => `(tactic| skip)
open PyProof.Rows.LCg (NsObj lst lst_snoc Off3 Off1 ns_obj fr_but news_but)
set_option maxRecDepth 100000
set_option maxHeartbeats 400000
variable {p : Program} {loose : List Str} {mean : ExcName → Option Value} {mg mb : Str → Option Value}
  {dp un : Nat} {gd : Option (List Code)} {cn : Str} {cs : Scope} {a : Addr} {ccd : Value} {cl : List (Str × Addr)} {outer : List Env}
  {A₀ : Around} {E Q : Value → Shared → Prop} {s : Shared} {base h₀ : Heap} {L : Addr} {m : Str → Option Value} {news : List (Addr × Obj)}
theorem wfi_spec (w : World) (l : Addr) (vs : List Value) (ns : List Nat) (nv : Nat) (hi : NatsAre vs ns) (hns : ∀ x ∈ ns, x < 1024) (oA : Obj) (tA : TabOk oA) (N : News h₀ L s.heap ((l, listOf vs.toArray nv) :: (99, oA) :: news)) (hl : 99 < l) (hne : ∀ p ∈ news, p.1 ≠ 99) (C99 : CodeHd h₀ 103 99)
  (B : Below A₀ base outer h₀) (F : Fr h₀ L s.heap m) (X : (Mine.hd.heap_1 w.params).In h₀)  (T : Top p loose mean mg mb h₀)
  (hk : cs.kind = .function) (hd : dp + 50 < recursionLimit) (hu : un + 300 < cLine) (G : AllBare s.gens)
  (ret : ∀ (a' C I : Addr) (fp : List Addr) oa oC oI h' tk' g' oA' gi, AllBare g' → TabOk oA' → Fr h₀ L h' m → News h₀ L h' ((a', oa) :: (C, oC) :: (I, oI) :: (99, oA') :: (l, listOf vs.toArray nv) :: news) → a' ∈ fp → (∀ b ∈ fp, b < h'.objs.size) → (∀ p ∈ (l, listOf vs.toArray nv) :: (99, oA) :: news, p.1 < I) → @LT.lt Nat _ I C → @LT.lt Nat _ C a' →
    GenReady PySem.Challenge.pw_ja0052_01 w a' fp [C, I] gi vs.length (fun i x => ∃ n t, ns[i]? = some n ∧ x = .str (wordS n) t) (envX cn cs L a ccd cl :: outer) (dp + 20) (un + 100) ⟨h', g', s.drawn, tk', s.os⟩ → Q (.ref a') ⟨h', g', s.drawn, tk', s.os⟩)
  (hrw : PySem.Challenge.rw_ja0052_01 = PySem.Challenge.rw_ja0052_01) :
  wpAny (model PySem.Challenge.pw_ja0052_01 w) (ktrTop dp un gd cn cs L a ccd cl outer) (call (.ref 104) [.ref l]) Q E s := by
  refine wpAny_noRaise ?_
  revert X hrw
  k_fill
  intro X hrw
  clear hrw
  refine wpAny_call ?_
  (k_dflt (refine' code_def ?k1 ?k2 ?k3 ?k4 ?k5 ?kA ?kF ?kK ?k6 ?k7 ?k8 ?k9 ?kB ?_ ?c2 ?c3 ?c4 ?c5; (case kA => first | with_reducible assumption | exact rfl); (case kF => first | with_reducible assumption | exact rfl); (case kK => first | with_reducible assumption | exact rfl | assumption); (case k1 => k_asm); (case k2 => k_asm); (case k3 => k_asm); (case k4 => k_asm); (case k5 => k_asm); (case k6 => k_is); (case k7 => k_is); (case k8 => k_room); (case k9 => exact BindsTo.of_eq rfl); (case c5 => decide); (case kB => exact locs rfl); (case c2 => exact rfl); (case c3 => exact rfl); (case c4 => exact rfl); k_whole; intro g1 L1 _ FG1 F1 N1 B1 X1 T1; (try dsimp only); (try k_fold)))
  refine letA ?_
  intro A9
  repeat ((fail_if_success (with_reducible show wpAny _ _ (eval (Expr.GeneratorExp _ _ _ _) _) _ _ _)); first | k_unfold | walk1 | (dsimp only; walk1))
  refine genexp_F (c := 103) (fr := envX cn cs L a ccd cl :: outer) (D := dp + 20) (U := un + 100) (dep hd _ (by decide)) (by rfl) rfl rfl (by with_unfolding_all rfl) (by decide) (by rfl) (by rfl) (by rfl) (by k_room) ?_ (by intro _; rfl)
  (repeat ((fail_if_success (with_reducible show wpAny _ _ (pyIter _) _ _ _)); walk1))
  refine gsrc_list (rest := (l, listOf vs.toArray nv) :: news) (oA := oA) (PT := 99) T1 F1 N1 (.head _) rfl (C99.keeps FG1.keep) (.tail _ (.head _)) tA (Nat.ne_of_lt hl) ?_ (fun i x => ∃ n t, ns[i]? = some n ∧ x = .str (wordS n) t) ?_ ?_
  · intro p hp
    rcases List.mem_cons.mp hp with rfl | hp
    · exact ⟨.head _, Nat.ne_of_gt hl⟩
    · exact ⟨.tail _ (.tail _ hp), hne p hp⟩
  · intro I C code href hI0 hCs hh
    have hC : g1.objs.size ≤ C := Nat.le_trans F1.above (Nat.le_of_lt (let ⟨o, e⟩ := ns_get F1.ns; hCs L1 o e))
    refine elF_of hC (fun b o e => .tail _ (.tail _ (mem_baseOf e))) (fun b hb => by rw [List.mem_singleton.mp hb]; exact hI0) hh ?_
    intro A' E' j v' s₂ m₂ news₂ e1 e2 e3 e4 e5 e6 F5 N5
    obtain ⟨n, tn, hv', hn⟩ := hi.item e5
    subst hv'
    replace F5 : Fr g1 C s₂.heap m₂ := F5
    replace N5 : News g1 C s₂.heap news₂ := N5
    walk1
    refine gen_global F5 X1 T1 (by k_is) ?_ rfl rfl (by rfl)
    walk1
    walk1
    refine wpAny_Name (wpAny_loadName_local (by rfl) (by rfl) F5.ns e6 ?_) (by decide)
    walk1
    refine ⟨X1.keeps F5.keep, ?_⟩
    refine word_spec (A := A') (env := genEnv _ _ C code builtinsNs _) (outer := envX cn cs L a ccd cl :: outer) w n tn (hns n (List.mem_of_getElem? hn)) N5 B1 F5 X1 T1 e2 (by rfl) (by rfl) e1 (by omega) (by omega) ?_ rfl
    intro t h' tk' F6 N6
    exact ⟨⟨n, t, hn, rfl⟩, _, _, _, rfl, F6, N6⟩
  · intro a' C I h' tk gs oa oC oI oA' hgs tA' F4 N4 hCa hIC hall XR
    k_steps
    rename News _ _ _ _ => kN
    rename Fr _ _ _ _ => kF
    refine ret a' C I _ oa oC oI _ _ _ oA' _ (G.push hgs) tA' kF kN (.head _) ?_ (fun p hp => ?_) hIC hCa XR
    · intro b hb
      rcases List.mem_cons.mp hb with rfl | hb
      · exact Heap.lt_size (N4 _ (.head _)).1
      · rcases List.mem_cons.mp hb with rfl | hb
        · exact Heap.lt_size (N4 _ (.tail _ (.head _))).1
        · rcases List.mem_cons.mp hb with rfl | hb
          · exact Heap.lt_size (N4 _ (.tail _ (.tail _ (.head _)))).1
          · rcases List.mem_cons.mp hb with e | hb
            · rw [e]; exact Heap.lt_size (N4 _ (.tail _ (.tail _ (.tail _ (.tail _ (.head _)))))).1
            · obtain ⟨o, e⟩ := of_baseOf hb
              exact Heap.lt_size (F4.keep _ _ e)
    · exact hall p hp
end
section
theorem offM15 : True := by w_top off; trivial
open PyProof.Rows.LCg (NsObj lst lst_snoc Off3 Off1 ns_obj fr_but news_but)
set_option maxRecDepth 100000
set_option maxHeartbeats 400000
variable {p : Program} {loose : List Str} {mean : ExcName → Option Value} {mg mb : Str → Option Value}
  {dp un : Nat} {gd : Option (List Code)} {cn : Str} {cs : Scope} {a : Addr} {ccd : Value} {cl : List (Str × Addr)} {outer : List Env}
  {A₀ : Around} {E Q : Value → Shared → Prop} {s : Shared} {base h₀ : Heap} {L : Addr} {m : Str → Option Value} {news : List (Addr × Obj)}
structure Sh where
  id : Nat
  ext : Bool
  exp : Nat
  gi : Nat
  gt : Nat
  gc : Nat
  ix : Nat
  mt : Nat
  val : Array UInt8
def shObj (w : World) (S : Sh) (k1 k2 k3 k4 k5 k6 k7 k8 k9 t1 t3 t4 t5 t6 t7 t8 tb : Tok) : Obj := dictOf [⟨PyData.keyHash w.params (Str.ofString "identifier"), .str (Str.ofString "identifier") k1, .int (S.id : Int) t1⟩, ⟨PyData.keyHash w.params (Str.ofString "extendable"), .str (Str.ofString "extendable") k2, .bool S.ext⟩, ⟨PyData.keyHash w.params (Str.ofString "iteration_exponent"), .str (Str.ofString "iteration_exponent") k3, .int (S.exp : Int) t3⟩, ⟨PyData.keyHash w.params (Str.ofString "group_index"), .str (Str.ofString "group_index") k4, .int (S.gi : Int) t4⟩, ⟨PyData.keyHash w.params (Str.ofString "group_threshold"), .str (Str.ofString "group_threshold") k5, .int (S.gt : Int) t5⟩, ⟨PyData.keyHash w.params (Str.ofString "group_count"), .str (Str.ofString "group_count") k6, .int (S.gc : Int) t6⟩, ⟨PyData.keyHash w.params (Str.ofString "index"), .str (Str.ofString "index") k7, .int (S.ix : Int) t7⟩, ⟨PyData.keyHash w.params (Str.ofString "member_threshold"), .str (Str.ofString "member_threshold") k8, .int (S.mt : Int) t8⟩, ⟨PyData.keyHash w.params (Str.ofString "value"), .str (Str.ofString "value") k9, .bytes S.val tb⟩] 9
inductive IsSh (w : World) (S : Sh) (od : Obj) : Prop
  | mk (k1 : _) (k2 : _) (k3 : _) (k4 : _) (k5 : _) (k6 : _) (k7 : _) (k8 : _) (k9 : _) (t1 : _) (t3 : _) (t4 : _) (t5 : _) (t6 : _) (t7 : _) (t8 : _) (tb : _)
    (c0 : od = shObj w S k1 k2 k3 k4 k5 k6 k7 k8 k9 t1 t3 t4 t5 t6 t7 t8 tb)
theorem share_new (w : World) (S : Sh) (x1 x3 x4 x5 x6 x7 x8 : Int) (t1 t3 t4 t5 t6 t7 t8 tb : Tok) (e1 : x1 = (S.id : Int)) (e3 : x3 = (S.exp : Int)) (e4 : x4 = (S.gi : Int)) (e5 : x5 = (S.gt : Int)) (e6 : x6 = (S.gc : Int)) (e7 : x7 = (S.ix : Int)) (e8 : x8 = (S.mt : Int)) (N : News h₀ L s.heap news)
  (B : Below A₀ base outer h₀) (F : Fr h₀ L s.heap m) (X : (Mine.hd.heap_1 w.params).In h₀)  (T : Top p loose mean mg mb h₀)
  (hk : cs.kind = .function) (hd : dp + 30 < recursionLimit) (hu : un + 200 < cLine)
  (ret : ∀ x d od h' tk', Fr h₀ L h' m → News h₀ L h' ((x, instObj 415 d) :: (d, od) :: news) → (∀ p ∈ news, p.1 < d) → @LT.lt Nat _ d x → IsSh w S od → Q (.ref x) { s with heap := h', toks := tk' })
  (hrw : PySem.Challenge.rw_ja0052_01 = PySem.Challenge.rw_ja0052_01) :
  wpAny (model PySem.Challenge.pw_ja0052_01 w) (ktrTop dp un gd cn cs L a ccd cl outer) (call (.ref 415) [.int x1 t1, .bool S.ext, .int x3 t3, .int x4 t4, .int x5 t5, .int x6 t6, .int x7 t7, .int x8 t8, .bytes S.val tb]) Q E s := by
  refine wpAny_noRaise ?_
  revert X hrw
  k_fill
  intro X hrw
  clear hrw
  subst e1 e3 e4 e5 e6 e7 e8
  (k_dflt (refine' call_cls ?k1 ?k2 ?k3 ?k4 ?k5 ?k6 ?_; (case k1 => k_asm); (case k2 => k_asm); (case k3 => k_asm); (case k4 => k_is); (case k5 => k_is); (case k6 => k_is); k_whole; intro x d _ _ _ l1 l2; (try k_lt l1); (try k_lt2 l2); (try k_sweep)); (k_dflt (refine' code_def ?k1 ?k2 ?k3 ?k4 ?k5 ?kA ?kF ?kK ?k6 ?k7 ?k8 ?k9 ?kB ?_ ?c2 ?c3 ?c4 ?c5; (case kA => first | with_reducible assumption | exact rfl); (case kF => first | with_reducible assumption | exact rfl); (case kK => first | with_reducible assumption | exact rfl | assumption); (case k1 => k_asm); (case k2 => k_asm); (case k3 => k_asm); (case k4 => k_asm); (case k5 => k_asm); (case k6 => k_is); (case k7 => k_is); (case k8 => k_room); (case k9 => exact BindsTo.of_eq rfl); (case c5 => decide); (case kB => exact locs rfl); (case c2 => exact rfl); (case c3 => exact rfl); (case c4 => exact rfl); k_whole; intro _ _ _ _ _ _ _ _ _; (try dsimp only); (try k_fold))))
  k_steps
  rename News _ _ _ _ => kN
  rename Fr _ _ _ _ => kF
  exact ret x d _ _ _ kF kN l1 l2 ⟨_, _, _, _, _, _, _, _, _, _, _, _, _, _, _, _, _, rfl⟩
end
section
open PySem.W.KFB (type_int if_not if_so fold_lt fold_cast foldI_eq at_of call_of)
set_option maxRecDepth 100000
set_option maxHeartbeats 1000000
def bigN (b : Array UInt8) : Nat := b.toList.foldl (fun acc c => acc * 256 + c.toNat) 0
section
variable {prog : Program} {w : World} {M : Model} {A : Around} {E : Value → Shared → Prop} {s : Shared} {h₀ : Heap} {L : Addr} {m : Str → Option Value} {news : List (Addr × Obj)}
theorem bigN_lt (b : Array UInt8) : bigN b < 256 ^ b.size := by
  have h1 := fold_lt b.toList 0
  rw [Nat.zero_add, Nat.one_mul, Array.length_toList] at h1
  exact h1
theorem grownB {n : Nat} {Q : Value → Shared → Prop} (hn : n < 2 ^ 200) (h : Q (.int (n : Int) s.toks) { s with toks := s.toks + 1 }) : wpAny M A (mkIntGrown (n : Int)) Q E s := by
  unfold mkIntGrown
  have hl : ¬ ((n : Int).natAbs.log2 ≥ bitsLine) := by
    rw [Int.natAbs_natCast]
    have hb : bitsLine = 134217728 := by first | rfl | decide
    by_cases hz : n = 0
    · subst hz
      rw [hb]
      decide
    · have h1 := (Nat.log2_lt hz).mpr hn
      omega
  rw [if_neg hl]
  exact wpAny_mkInt h
theorem tree_bigB {b : Array UInt8} {t u : Tok} {P : Fin → Shared → Prop} (hl : b.size ≤ 25) (h : P (.done (.ret (.int (bigN b : Nat) s.toks))) { s with toks := s.toks + 1 }) :
    wpAny M A (Builtin.«int.from_bytes» ⟨[.type "int", .bytes b t, .str (PySem.Str.ofString "big") u], []⟩) P E s := by
  have hn : bigN b < 2 ^ 200 := Nat.lt_of_lt_of_le (bigN_lt b) (by
    have : (256 : Nat) = 2 ^ 8 := by decide
    rw [this, ← Nat.pow_mul]
    exact Nat.pow_le_pow_right (by decide) (by omega))
  unfold Builtin.«int.from_bytes»
  refine wpAny_bind (wpAny_of_eq (a := true) type_int ?_)
  refine if_not rfl ?_
  refine wpAny_bind (wpAny_of_eq (a := true) F.conv_sub_int ?_)
  refine if_not rfl ?_
  refine wpAny_bind (wpAny_of_eq (a := [some (.bytes b t), some (.str (PySem.Str.ofString "big") u), none]) (by kernel_rfl) ?_)
  refine wpAny_bind (wpAny_of_eq (a := PySem.Str.ofString "big") (by kernel_rfl) ?_)
  refine wpAny_bind (wpAny_of_eq (a := false) rfl ?_)
  refine wpAny_bind (wpAny_of_eq (a := false) (by kernel_rfl) ?_)
  refine wpAny_bind (wpAny_of_eq (a := b) rfl ?_)
  show wpAny _ _ (mkIntGrown (b.toList.foldl (fun (acc : Int) (b : UInt8) => acc * 256 + (b.toNat : Int)) ((0 : Nat) : Int)) >>= fun v => _) _ _ _
  rw [foldI_eq]
  refine wpAny_bind (grownB hn ?_)
  refine if_so (by decide +kernel) ?_
  exact wpAny_bind (wpAny_pure (wpAny_pure h))
theorem call_bigB {x : Addr} {b : Array UInt8} {t u : Tok} {Q : Value → Shared → Prop} (N : News h₀ L s.heap news) (hm : (x, PySem.W.KFB.bound) ∈ news) (hl : b.size ≤ 25)
    (h : ∀ t' k, Q (.int (bigN b : Nat) t') { s with toks := k }) : wpAny (model prog w) A (call (.ref x) [.bytes b t, .str (PySem.Str.ofString "big") u]) Q E s :=
  call_of (at_of N hm) (fun z => tree_bigB hl z) (h _ _)
end
section
open PySem.W.KTBy
open PySem.Builtin.Int (intBits)
variable {prog : Program} {w : World} {M : Model} {A : Around} {E : Value → Shared → Prop} {s : Shared} {x B : Int} {k : Nat} {t u v : Tok}
theorem to_bigB {Q : Value → Shared → Prop} (hk : k ≤ 100) (h0 : 0 ≤ x) (h1' : x < 256 ^ k) (h : ∀ (b : Array UInt8) t' k', KBw.bInts b = (little k x).reverse → Q (.bytes b t') { s with toks := k' }) :
    wpAny (model prog w) A (call (.builtin "int.to_bytes") [.int x t, .int (k : Int) u, .str (PySem.Str.ofString "big") v]) Q E s := by
  refine wpAny_call_entry slot (typeIs_int s x t) entry ?_ (args _ _ _)
  have hb := bits_le (B := 256 ^ k) rfl h0 h1'
  show wpAny _ _ (Builtin.Int.intOfSelf (.int x t) >>= fun y => _) _ _ s
  refine wpAny_bind (wpAny_of_eq (a := x) rfl ?_)
  show wpAny _ _ (Builtin.Int.intBindNamed "to_bytes" ["length", "byteorder", "signed"] 0 2 [.int (k : Int) u, .str (PySem.Str.ofString "big") v] [] >>= fun l => _) _ _ s
  refine wpAny_bind (wpAny_of_eq (a := [some (.int (k : Int) u), some (.str (PySem.Str.ofString "big") v), none]) (by kernel_rfl) ?_)
  show wpAny _ _ (Builtin.Int.intIndex "int.to_bytes" (.int (k : Int) u) >>= fun n => _) _ _ s
  refine wpAny_bind (wpAny_of_eq (a := (k : Int)) rfl ?_)
  refine PySem.W.KTBy.if_not (by show (decide ((k : Int) < -(2 ^ 63 : Int)) || decide ((k : Int) ≥ 2 ^ 63)) = false; rw [decide_eq_false (show ¬ ((k : Int) < -(2 ^ 63 : Int)) by omega), decide_eq_false (show ¬ ((k : Int) ≥ 2 ^ 63) by omega)]; rfl) ?_
  refine wpAny_bind (wpAny_of_eq (a := PySem.Str.ofString "big") (by kernel_rfl) ?_)
  refine wpAny_bind (wpAny_of_eq (a := false) rfl ?_)
  refine wpAny_bind (wpAny_of_eq (a := false) (by kernel_rfl) ?_)
  refine wpAny_ite_false (decide_eq_false (show ¬ ((k : Int) < 0) by omega)) ?_
  refine wpAny_ite_false (decide_eq_false (show ¬ ((k : Int) > 2 ^ 63 - 1 - 33) by omega)) ?_
  refine wpAny_ite_false (decide_eq_false (show ¬ ((k : Int) > (sizeLine : Int)) by rw [sizeLine_eq]; omega)) ?_
  refine PySem.W.KTBy.if_not (by show (decide (x < 0) && !false) = false; rw [decide_eq_false (show ¬ x < 0 by omega)]; rfl) ?_
  refine PySem.W.KTBy.if_not (by show (_ && decide ((intBits x : Int) > 8 * (k : Int))) = false; rw [decide_eq_false (show ¬ ((intBits x : Int) > 8 * (k : Int)) by omega), Bool.and_false]) ?_
  refine wpAny_bind (wpAny_mkBytes (wpAny_pure ⟨_, rfl, h _ _ _ ?_⟩) (by show (List.reverse (low x (Int.toNat (k : Int)))).length ≤ sizeLine; rw [List.length_reverse, low_length, Int.toNat_natCast, sizeLine_eq]; omega))
  show (List.map (fun c : UInt8 => ((c.toNat : Nat) : Int)) (List.reverse (low x (Int.toNat (k : Int))))) = (little k x).reverse
  rw [Int.toNat_natCast, List.map_reverse, low_ints h0 h1', ← little_eq]
end
end
local macro_rules | `(tactic| walk_at "call ref") => `(tactic| (k_here; (with_reducible show wpAny _ _ (call (Value.ref _) [Value.bytes _ _, Value.str _ _]) _ _ _); k_dflt (refine' call_bigB ?kN ?kM ?kL ?_; (case kN => k_asm); (case kM => k_mem); (case kL => omega)); intro _ _))
section
theorem offM17 : True := by w_top off; trivial
open PyProof.Rows.LCg (NsObj lst lst_snoc Off3 Off1 ns_obj fr_but news_but)
set_option maxRecDepth 100000
set_option maxHeartbeats 400000
variable {p : Program} {loose : List Str} {mean : ExcName → Option Value} {mg mb : Str → Option Value}
  {dp un : Nat} {gd : Option (List Code)} {cn : Str} {cs : Scope} {a : Addr} {ccd : Value} {cl : List (Str × Addr)} {outer : List Env}
  {A₀ : Around} {E Q : Value → Shared → Prop} {s : Shared} {base h₀ : Heap} {L : Addr} {m : Str → Option Value} {news : List (Addr × Obj)}
theorem itw_spec' (w : World) (v k : Nat) (x y : Int) (tv tl : Tok) (ex : x = (v : Int)) (ey : y = (k : Int)) (hk20 : k ≤ 40) (oA : Obj) (tA : TabOk oA) (N : News h₀ L s.heap ((76, oA) :: news)) (hne : ∀ p ∈ news, p.1 ≠ 76) (C76 : CodeHd h₀ 80 76)
  (B : Below A₀ base outer h₀) (F : Fr h₀ L s.heap m) (X : (Mine.hd.heap_1 w.params).In h₀)  (T : Top p loose mean mg mb h₀)
  (hk : cs.kind = .function) (hd : dp + 40 < recursionLimit) (hu : un + 300 < cLine) (G : AllBare s.gens)
  (ret : ∀ (D : Addr) (us : List Value) n h' tk' g' oA', AllBare g' → TabOk oA' → Fr h₀ L h' m → News h₀ L h' ((D, listOf us.toArray n) :: (76, oA') :: news) → (∀ q ∈ (76, oA) :: news, q.1 < D) → NatsAre us (wordsN v k) → Q (.ref D) ⟨h', g', s.drawn, tk', s.os⟩)
  (hrw : PySem.Challenge.rw_ja0052_01 = PySem.Challenge.rw_ja0052_01) :
  wpAny (model PySem.Challenge.pw_ja0052_01 w) (ktrTop dp un gd cn cs L a ccd cl outer) (call (.ref 159) [.int x tv, .int y tl]) Q E s := by
  subst ex ey
  exact itw_spec w v tv tl k hk20 oA tA N hne C76 B F X T hk hd hu G ret hrw
def b2n (b : Bool) : Nat := if b then 1 else 0
theorem lshift_b (a : Bool) (u : Tok) : Gives (Builtin.«int.__lshift__» ⟨[.bool a, .int 4 u], []⟩) (.int ((b2n a * 16 : Nat) : Int)) := by
  cases a
  · exact .of_wp fun M A E s Q h => by obtain ⟨hp, g, d, tk, os⟩ := s; wp_walk; exact ⟨_, rfl, h⟩
  · exact .of_wp fun M A E s Q h => by obtain ⟨hp, g, d, tk, os⟩ := s; wp_walk; exact ⟨_, rfl, h⟩
theorem lshift_bool4 {prog : Program} {w : World} {A : Around} {E : Value → Shared → Prop} {a : Bool} {u : Tok} (h : Q (.int ((b2n a * 16 : Nat) : Int) s.toks) { s with toks := s.toks + 1 }) : wpAny (model prog w) A (binaryOp .LShift (.bool a) (.int 4 u)) Q E s :=
  binaryOp_left_gives (op := .LShift) (T := "bool") (U := "int") (by decide) rfl (fun s' => typeIs_int s' 4 u) PySem.F.fills_bool_lshift PySem.F.fills_int_lshift PySem.F.sub_int_bool PySem.F.slot_bool_lshift PySem.F.slot_int_rlshift PySem.F.entry_int_lshift (PySem.F.args_int_lshift_2 _ _)
    (lshift_b a u) trivial h
local macro_rules | `(tactic| walk_at "binaryOp LShift bool int") => `(tactic| (k_here; refine lshift_bool4 ?_))
theorem ilshift4 {prog : Program} {w : World} {A : Around} {E : Value → Shared → Prop} {a : Int} {t u : Tok} (h0 : 0 ≤ a) (h1 : a < 1000000000) (h : Q (.int (a * 16) s.toks) { s with toks := s.toks + 1 }) : wpAny (model prog w) A (inplaceOp .LShift (.int a t) (.int 4 u)) Q E s := by
  have hb : Builtin.Int.intBits a ≤ 64 := by
    refine intBits_le_iff.mpr ?_
    have : a.natAbs < 2 ^ 64 := by omega
    exact this
  exact ilshift_int (by decide) (by omega) h
local macro_rules | `(tactic| walk_at "inplaceOp LShift int int") => `(tactic| (k_here; refine ilshift4 ?h0 ?h1 ?_; (case h0 => omega); (case h1 => omega)))
theorem d16 (a : Nat) {b : Nat} (h : b < 16) : (a * 16 + b) / 16 = a := by
  rw [Nat.add_comm, Nat.add_mul_div_right _ _ (by decide), Nat.div_eq_of_lt h, Nat.zero_add]
theorem m16 (a : Nat) {b : Nat} (h : b < 16) : (a * 16 + b) % 16 = b := by
  rw [Nat.add_comm, Nat.add_mul_mod_self_right, Nat.mod_eq_of_lt h]
theorem lt16 {a b n : Nat} (ha : a < n) (hb : b < 16) : a * 16 + b < n * 16 := by omega
theorem pred16 {x : Nat} (h : 1 ≤ x ∧ x ≤ 16) : x - 1 < 16 := by omega
theorem b2n_lt (b : Bool) : b2n b < 2 := by cases b <;> decide
def idexpN (S : Sh) : Nat := S.id * 32 + b2n S.ext * 16 + S.exp
theorem encid_spec (w : World) (S : Sh) (hq1 : S.id < 32768) (hq3 : S.exp < 16) (x d : Addr) (od oA : Obj) (hS : IsSh w S od) (tA : TabOk oA) (N : News h₀ L s.heap ((76, oA) :: news)) (hx : (x, instObj 415 d) ∈ news) (hd9 : (d, od) ∈ news) (hne : ∀ p ∈ news, p.1 ≠ 76) (C76 : CodeHd h₀ 80 76) (G : AllBare s.gens)
  (B : Below A₀ base outer h₀) (F : Fr h₀ L s.heap m) (X : (Mine.hd.heap_1 w.params).In h₀)  (T : Top p loose mean mg mb h₀)
  (hk : cs.kind = .function) (hd : dp + 60 < recursionLimit) (hu : un + 400 < cLine)
  (ret : ∀ (D : Addr) (us : List Value) n h' tk' g' oA', AllBare g' → TabOk oA' → Fr h₀ L h' m → News h₀ L h' ((D, listOf us.toArray n) :: (76, oA') :: news) → (∀ q ∈ (76, oA) :: news, q.1 < D) → NatsAre us (wordsN (idexpN S) 2) → Q (.ref D) ⟨h', g', s.drawn, tk', s.os⟩)
  (hrw : PySem.Challenge.rw_ja0052_01 = PySem.Challenge.rw_ja0052_01) :
  wpAny (model PySem.Challenge.pw_ja0052_01 w) (ktrTop dp un gd cn cs L a ccd cl outer) (call (.ref 381) [.ref x]) Q E s := by
  refine wpAny_noRaise ?_
  revert X hrw
  k_fill
  intro X hrw
  clear hrw
  obtain ⟨k1, k2, k3, k4, k5, k6, k7, k8, k9, t1, t3, t4, t5, t6, t7, t8, tb, rfl⟩ := hS
  unfold shObj at hd9
  refine wpAny_call ?_
  (k_dflt (refine' code_def ?k1 ?k2 ?k3 ?k4 ?k5 ?kA ?kF ?kK ?k6 ?k7 ?k8 ?k9 ?kB ?_ ?c2 ?c3 ?c4 ?c5; (case kA => first | with_reducible assumption | exact rfl); (case kF => first | with_reducible assumption | exact rfl); (case kK => first | with_reducible assumption | exact rfl | assumption); (case k1 => k_asm); (case k2 => k_asm); (case k3 => k_asm); (case k4 => k_asm); (case k5 => k_asm); (case k6 => k_is); (case k7 => k_is); (case k8 => k_room); (case k9 => exact BindsTo.of_eq rfl); (case c5 => decide); (case kB => exact locs rfl); (case c2 => exact rfl); (case c3 => exact rfl); (case c4 => exact rfl); k_whole; intro g1 L1 _ FG1 FF _ B1 X1 T1; (try dsimp only); (try k_fold)))
  refine letA ?_
  intro A9
  replace FF := fr_lookup (show Fr _ _ _ (fun y => List.lookup y [(Str.ofString "self", _)]) from FF)
  dsimp only [List.map] at FF
  (repeat ((fail_if_success (with_reducible show wpAny _ _ (call (Value.ref _) _ _) _ _ _)); first | k_unfold | walk1 | (dsimp only; walk1) | (leave1; try dsimp only)))
  refine' itw_spec' (oA := oA) (news := news) _ (idexpN S) 2 _ _ _ _ ?ex (by rfl) (by decide) tA ?kN hne (C76.keeps FG1.keep) ?kB ?kF ?kX ?kT ?kk ?kd ?ku G ?_ rfl
  case ex => unfold idexpN; have e5 : (2 : Int) ^ Int.toNat (4 + 1) = 32 := by decide
             rw [e5]; omega
  case kN => k_asm
  case kB => k_asm
  case kF => k_asm
  case kX => k_asm
  case kT => k_asm
  case kk => rfl
  case kd => walk_at "mine depth"
  case ku => walk_at "mine depth"
  intro D us n h' tk' g' oA' G' tA' F2 N2 lD hN
  k_steps
  rename News _ _ _ _ => kN
  rename Fr _ _ _ _ => kF
  exact ret D us n _ _ _ oA' G' tA' kF kN lD hN
def paramN (S : Sh) : Nat := ((((S.gi * 16 + (S.gt - 1)) * 16 + (S.gc - 1)) * 16 + S.ix) * 16) + (S.mt - 1)
theorem param_cast (S : Sh) (h5 : 1 ≤ S.gt) (h6 : 1 ≤ S.gc) (h8 : 1 ≤ S.mt) : ((((S.gi : Int) * 16 + ((S.gt : Int) - 1)) * 16 + ((S.gc : Int) - 1)) * 16 + (S.ix : Int)) * 16 + ((S.mt : Int) - 1) = ((paramN S : Nat) : Int) := by
  rw [show ((S.gt : Int) - 1) = ((S.gt - 1 : Nat) : Int) from (Int.ofNat_sub h5).symm, show ((S.gc : Int) - 1) = ((S.gc - 1 : Nat) : Int) from (Int.ofNat_sub h6).symm, show ((S.mt : Int) - 1) = ((S.mt - 1 : Nat) : Int) from (Int.ofNat_sub h8).symm]
  rfl
theorem encpar_spec (w : World) (S : Sh) (hq4 : S.gi < 16) (hq5 : 1 ≤ S.gt ∧ S.gt ≤ 16) (hq6 : 1 ≤ S.gc ∧ S.gc ≤ 16) (hq7 : S.ix < 16) (hq8 : 1 ≤ S.mt ∧ S.mt ≤ 16) (x d : Addr) (od oA : Obj) (hS : IsSh w S od) (tA : TabOk oA) (N : News h₀ L s.heap ((76, oA) :: news)) (hx : (x, instObj 415 d) ∈ news) (hd9 : (d, od) ∈ news) (hne : ∀ p ∈ news, p.1 ≠ 76) (C76 : CodeHd h₀ 80 76) (G : AllBare s.gens)
  (B : Below A₀ base outer h₀) (F : Fr h₀ L s.heap m) (X : (Mine.hd.heap_1 w.params).In h₀)  (T : Top p loose mean mg mb h₀)
  (hk : cs.kind = .function) (hd : dp + 60 < recursionLimit) (hu : un + 400 < cLine)
  (ret : ∀ (D : Addr) (us : List Value) n h' tk' g' oA', AllBare g' → TabOk oA' → Fr h₀ L h' m → News h₀ L h' ((D, listOf us.toArray n) :: (76, oA') :: news) → (∀ q ∈ (76, oA) :: news, q.1 < D) → NatsAre us (wordsN (paramN S) 2) → Q (.ref D) ⟨h', g', s.drawn, tk', s.os⟩)
  (hrw : PySem.Challenge.rw_ja0052_01 = PySem.Challenge.rw_ja0052_01) :
  wpAny (model PySem.Challenge.pw_ja0052_01 w) (ktrTop dp un gd cn cs L a ccd cl outer) (call (.ref 388) [.ref x]) Q E s := by
  refine wpAny_noRaise ?_
  revert X hrw
  k_fill
  intro X hrw
  clear hrw
  obtain ⟨k1, k2, k3, k4, k5, k6, k7, k8, k9, t1, t3, t4, t5, t6, t7, t8, tb, rfl⟩ := hS
  unfold shObj at hd9
  refine wpAny_call ?_
  (k_dflt (refine' code_def ?k1 ?k2 ?k3 ?k4 ?k5 ?kA ?kF ?kK ?k6 ?k7 ?k8 ?k9 ?kB ?_ ?c2 ?c3 ?c4 ?c5; (case kA => first | with_reducible assumption | exact rfl); (case kF => first | with_reducible assumption | exact rfl); (case kK => first | with_reducible assumption | exact rfl | assumption); (case k1 => k_asm); (case k2 => k_asm); (case k3 => k_asm); (case k4 => k_asm); (case k5 => k_asm); (case k6 => k_is); (case k7 => k_is); (case k8 => k_room); (case k9 => exact BindsTo.of_eq rfl); (case c5 => decide); (case kB => exact locs rfl); (case c2 => exact rfl); (case c3 => exact rfl); (case c4 => exact rfl); k_whole; intro g1 L1 _ FG1 FF _ B1 X1 T1; (try dsimp only); (try k_fold)))
  refine letA ?_
  intro A9
  replace FF := fr_lookup (show Fr _ _ _ (fun y => List.lookup y [(Str.ofString "self", _)]) from FF)
  dsimp only [List.map] at FF
  (repeat ((fail_if_success (with_reducible show wpAny _ _ (call (Value.ref _) _ _) _ _ _)); first | k_unfold | walk1 | (dsimp only; walk1) | (leave1; try dsimp only)))
  trace_state
  refine' itw_spec' (oA := oA) (news := news) _ (paramN S) 2 _ _ _ _ ?ex (by rfl) (by decide) tA ?kN hne (C76.keeps FG1.keep) ?kB ?kF ?kX ?kT ?kk ?kd ?ku G ?_ rfl
  case ex => first | exact param_cast S hq5.1 hq6.1 hq8.1 | (unfold paramN; omega)
  case kN => k_asm
  case kB => k_asm
  case kF => k_asm
  case kX => k_asm
  case kT => k_asm
  case kk => rfl
  case kd => walk_at "mine depth"
  case ku => walk_at "mine depth"
  intro D us n h' tk' g' oA' G' tA' F2 N2 lD hN
  k_steps
  rename News _ _ _ _ => kN
  rename Fr _ _ _ _ => kF
  exact ret D us n _ _ _ oA' G' tA' kF kN lD hN
end
local macro_rules | `(tactic| walk_at "call ref") => `(tactic| (k_here; (with_reducible show wpAny _ _ (call (Value.ref 74) [Value.int _ _]) _ _ _); k_dflt (refine' b2w_spec _ _ _ ?kN ?kB ?kF ?kX ?kT ?kk ?kd ?ku ?_ rfl; (case kN => k_asm); (case kB => k_asm); (case kF => k_asm); (case kX => k_asm); (case kT => k_asm); (case kk => rfl); (case kd => walk_at "mine depth"); (case ku => walk_at "mine depth")); intro t' h' tk' F' N'; (try k_sweep)))
local macro_rules | `(tactic| walk_at "call ref") => `(tactic| (k_here; (with_reducible show wpAny _ _ (call (Value.ref 173) [Value.bool _]) _ _ _); k_dflt (refine' cust_spec _ _ ?kN ?kB ?kF ?kX ?kT ?kk ?kd ?ku ?_ rfl; (case kN => k_asm); (case kB => k_asm); (case kF => k_asm); (case kX => k_asm); (case kT => k_asm); (case kk => rfl); (case kd => walk_at "mine depth"); (case ku => walk_at "mine depth")); intro t' h' tk' F' N'; (try k_sweep)))
section
theorem offM18 : True := by w_top off; trivial
local macro_rules | `(tactic| walk_at "mine pad") => `(tactic| skip)
open PyProof.Rows.LCg (NsObj lst lst_snoc Off3 Off1 ns_obj fr_but news_but)
set_option maxRecDepth 100000
set_option maxHeartbeats 4000000
variable {p : Program} {loose : List Str} {mean : ExcName → Option Value} {mg mb : Str → Option Value}
  {dp un : Nat} {gd : Option (List Code)} {cn : Str} {cs : Scope} {a : Addr} {ccd : Value} {cl : List (Str × Addr)} {outer : List Env}
  {A₀ : Around} {E Q : Value → Shared → Prop} {s : Shared} {base h₀ : Heap} {L : Addr} {m : Str → Option Value} {news : List (Addr × Obj)}
structure ShOk (S : Sh) : Prop where
  id : S.id < 32768
  exp : S.exp < 16
  gi : S.gi < 16
  gt : 1 ≤ S.gt ∧ S.gt ≤ 16
  gc : 1 ≤ S.gc ∧ S.gc ≤ 16
  ix : S.ix < 16
  mt : 1 ≤ S.mt ∧ S.mt ≤ 16
def Hi (l : List (Addr × Obj)) : Prop := ∀ p ∈ l, @LT.lt Nat _ 99 p.1
theorem Hi.cons {l : List (Addr × Obj)} {p : Addr × Obj} (h : Hi l) (h1 : @LT.lt Nat _ 99 p.1) : Hi (p :: l) := fun q hq => by
  rcases List.mem_cons.mp hq with rfl | hq
  · exact h1
  · exact h q hq
theorem Hi.ne {l : List (Addr × Obj)} (h : Hi l) {k : Nat} (hk : k ≤ 99) : ∀ p ∈ l, p.1 ≠ k := fun p hp => Nat.ne_of_gt (Nat.lt_of_le_of_lt hk (h p hp))
theorem Hi.ne76 {l : List (Addr × Obj)} {o : Obj} (h : Hi l) : ∀ p ∈ (99, o) :: l, p.1 ≠ 76 := fun p hp => by
  rcases List.mem_cons.mp hp with rfl | hp
  · exact (by decide : (99 : Nat) ≠ 76)
  · exact h.ne (by decide) p hp
theorem wordsN_len (v k : Nat) : (wordsN v k).length = k := by unfold wordsN; rw [List.length_map, List.length_range]
theorem wordsN_small (v k : Nat) : ∀ x ∈ wordsN v k, x < 1024 := fun x hx => by
  unfold wordsN at hx
  obtain ⟨i, _, rfl⟩ := List.mem_map.mp hx
  exact Nat.lt_succ_of_le Nat.and_le_right
theorem small_app {a b : List Nat} (ha : ∀ x ∈ a, x < 1024) (hb : ∀ x ∈ b, x < 1024) : ∀ x ∈ a ++ b, x < 1024 := fun x hx => by
  rcases List.mem_append.mp hx with h | h
  · exact ha x h
  · exact hb x h
theorem chkN_small (ns : List Nat) : ∀ x ∈ chkN ns, x < 1024 := fun x hx => by
  unfold chkN at hx
  simp only [List.mem_cons, List.not_mem_nil, or_false] at hx
  rcases hx with rfl | rfl | rfl <;> exact Nat.lt_succ_of_le Nat.and_le_right
theorem News.sub {h₀ h : Heap} {L : Addr} {a b : List (Addr × Obj)} (N : News h₀ L h a) (s : ∀ p ∈ b, p ∈ a) : News h₀ L h b := fun p hp => N p (s p hp)
def wcN (S : Sh) : Nat := (S.val.size * 8 + 9) / 10
def dataN (S : Sh) : List Nat := wordsN (idexpN S) 2 ++ wordsN (paramN S) 2 ++ wordsN (bigN S.val) (wcN S)
def allN (S : Sh) : List Nat := dataN S ++ chkN ((custN S.ext).toList.map (fun b => b.toNat) ++ dataN S)
theorem wcN_eq (S : Sh) : ((S.val.size : Int) * 8 + 10 - 1).fdiv 10 = (wcN S : Int) := by
  unfold wcN
  rw [Int.fdiv_eq_ediv_of_nonneg _ (by decide), show ((S.val.size : Int) * 8 + 10 - 1) = ((S.val.size * 8 + 9 : Nat) : Int) from by rw [Int.add_sub_assoc]; rfl]
  rfl
theorem wcN_le {S : Sh} (h : S.val.size ≤ 24) : wcN S ≤ 20 := by unfold wcN; omega
theorem dataN_len (S : Sh) : (dataN S).length = 2 + 2 + wcN S := by unfold dataN; rw [List.length_append, List.length_append, wordsN_len, wordsN_len, wordsN_len]
theorem dataN_lt {S : Sh} (h : S.val.size ≤ 24) : (dataN S).length < 100 := by rw [dataN_len]; exact Nat.lt_of_le_of_lt (Nat.add_le_add_left (wcN_le h) _) (by decide)
theorem allN_lt {S : Sh} (h : S.val.size ≤ 24) : (allN S).length < 200 := by
  unfold allN
  rw [List.length_append]
  exact Nat.lt_of_le_of_lt (Nat.add_le_add_right (Nat.le_of_lt (dataN_lt h)) 3) (by decide)
theorem words_spec (w : World) (S : Sh) (x d : Addr) (od oA oB : Obj) (hS : IsSh w S od) (hsz : S.val.size ≤ 24) (ok : ShOk S) (tA : TabOk oA) (tB : TabOk oB) (N : News h₀ L s.heap ((76, oA) :: (99, oB) :: news)) (hx : (x, instObj 415 d) ∈ news) (hd9 : (d, od) ∈ news) (hne : Hi news) (C76 : CodeHd h₀ 80 76) (C99 : CodeHd h₀ 103 99) (G : AllBare s.gens)
  (B : Below A₀ base outer h₀) (F : Fr h₀ L s.heap m) (X : (Mine.hd.heap_1 w.params).In h₀)  (T : Top p loose mean mg mb h₀)
  (hk : cs.kind = .function) (hd : dp + 90 < recursionLimit) (hu : un + 600 < cLine)
  (ret : ∀ (D : Addr) (us : List Value) n h' tk' g' oA' oB', AllBare g' → TabOk oA' → TabOk oB' → Fr h₀ L h' m → News h₀ L h' ((D, listOf us.toArray n) :: (76, oA') :: (99, oB') :: news) → (∀ q ∈ (76, oA) :: (99, oB) :: news, q.1 < D) → us.length = (allN S).length → (∀ (i : Nat) (v : Value), us[i]? = some v → ∃ n t, (allN S)[i]? = some n ∧ v = Value.str (wordS n) t) → Q (.ref D) ⟨h', g', s.drawn, tk', s.os⟩)
  (hrw : PySem.Challenge.rw_ja0052_01 = PySem.Challenge.rw_ja0052_01) :
  wpAny (model PySem.Challenge.pw_ja0052_01 w) (ktrTop dp un gd cn cs L a ccd cl outer) (call (.ref 395) [.ref x]) Q E s := by
  refine wpAny_noRaise ?_
  revert X hrw
  k_fill
  intro X hrw
  clear hrw
  have hS0 := hS
  obtain ⟨k1, k2, k3, k4, k5, k6, k7, k8, k9, t1, t3, t4, t5, t6, t7, t8, tb, rfl⟩ := hS
  have hd99 := hd9
  unfold shObj at hd9
  refine wpAny_call ?_
  (k_dflt (refine' code_def ?k1 ?k2 ?k3 ?k4 ?k5 ?kA ?kF ?kK ?k6 ?k7 ?k8 ?k9 ?kB ?_ ?c2 ?c3 ?c4 ?c5; (case kA => first | with_reducible assumption | exact rfl); (case kF => first | with_reducible assumption | exact rfl); (case kK => first | with_reducible assumption | exact rfl | assumption); (case k1 => k_asm); (case k2 => k_asm); (case k3 => k_asm); (case k4 => k_asm); (case k5 => k_asm); (case k6 => k_is); (case k7 => k_is); (case k8 => k_room); (case k9 => exact BindsTo.of_eq rfl); (case c5 => decide); (case kB => exact locs rfl); (case c2 => exact rfl); (case c3 => exact rfl); (case c4 => exact rfl); k_whole; intro g1 L1 _ FG1 FF _ B1 X1 T1; (try dsimp only); (try k_fold)))
  refine letA ?_
  intro A9
  replace FF := fr_lookup (show Fr _ _ _ (fun y => List.lookup y [(Str.ofString "self", _)]) from FF)
  dsimp only [List.map] at FF
  (repeat ((fail_if_success (with_reducible show wpAny _ _ (call (Value.ref 159) _ _) _ _ _)); first | k_unfold | walk1 | (dsimp only; walk1) | (leave1; try dsimp only)))
  rename_i bx _ lbx _ _ _ _ _ _
  rename News _ _ _ _ => N2
  have hH1 : Hi ((bx, PySem.W.KFB.bound) :: news) := hne.cons lbx.2.1
  have N2' : News _ _ _ ((76, oA) :: (99, oB) :: (bx, PySem.W.KFB.bound) :: news) := News.sub N2 (by walk_at "mine sub")
  refine' itw_spec' (oA := oA) (news := (99, oB) :: (bx, PySem.W.KFB.bound) :: news) _ (bigN S.val) (wcN S) _ _ _ _ rfl (wcN_eq S) (Nat.le_trans (wcN_le hsz) (by decide)) tA ?kN hH1.ne76 (C76.keeps FG1.keep) ?kB ?kF ?kX ?kT ?kk ?kd ?ku G ?_ rfl
  case kN => exact N2'
  case kB => k_asm
  case kF => k_asm
  case kX => k_asm
  case kT => k_asm
  case kk => rfl
  case kd => walk_at "mine depth"
  case ku => walk_at "mine depth"
  clear N2'
  intro D1 us1 n1 h1 tk1 gs1 oA1 G1 tA1 F3 N3 lD1 hN1
  k_lt lD1
  (repeat ((fail_if_success (with_reducible show wpAny _ _ (call (Value.ref 381) _ _) _ _ _)); first | k_unfold | walk1 | (dsimp only; walk1) | (leave1; try dsimp only)))
  rename News _ _ _ _ => N4
  have hH2 : Hi ((D1, listOf us1.toArray n1) :: (bx, PySem.W.KFB.bound) :: news) := hH1.cons lD1.2.1
  refine' encid_spec (oA := oA1) (news := (99, oB) :: (D1, listOf us1.toArray n1) :: (bx, PySem.W.KFB.bound) :: news) w S ok.id ok.exp x d _ hS0 tA1 (News.sub N4 (by walk_at "mine sub")) (.tail _ (.tail _ (.tail _ hx))) (.tail _ (.tail _ (.tail _ hd99))) hH2.ne76 (C76.keeps FG1.keep) G1 ?kB ?kF ?kX ?kT ?kk ?kd ?ku ?_ rfl
  case kB => k_asm
  case kF => k_asm
  case kX => k_asm
  case kT => k_asm
  case kk => rfl
  case kd => walk_at "mine depth"
  case ku => walk_at "mine depth"
  intro D2 us2 n2 h2 tk2 gs2 oA2 G2 tA2 F5 N5 lD2 hN2
  k_lt lD2
  (repeat ((fail_if_success (with_reducible show wpAny _ _ (call (Value.ref 388) _ _) _ _ _)); first | k_unfold | walk1 | (dsimp only; walk1) | (leave1; try dsimp only)))
  rename News _ _ _ _ => N6
  have hH3 : Hi ((D2, listOf us2.toArray n2) :: (D1, listOf us1.toArray n1) :: (bx, PySem.W.KFB.bound) :: news) := hH2.cons lD2.2.1
  refine' encpar_spec (oA := oA2) (news := (99, oB) :: (D2, listOf us2.toArray n2) :: (D1, listOf us1.toArray n1) :: (bx, PySem.W.KFB.bound) :: news) w S ok.gi ok.gt ok.gc ok.ix ok.mt x d _ hS0 tA2 (News.sub N6 (by walk_at "mine sub")) (.tail _ (.tail _ (.tail _ (.tail _ hx)))) (.tail _ (.tail _ (.tail _ (.tail _ hd99)))) hH3.ne76 (C76.keeps FG1.keep) G2 ?kB ?kF ?kX ?kT ?kk ?kd ?ku ?_ rfl
  case kB => k_asm
  case kF => k_asm
  case kX => k_asm
  case kT => k_asm
  case kk => rfl
  case kd => walk_at "mine depth"
  case ku => walk_at "mine depth"
  intro D3 us3 n3 h3 tk3 gs3 oA3 G3 tA3 F7 N7 lD3 hN3
  k_lt lD3
  have len1 := wordsN_len (idexpN S) 2
  have len2 := wordsN_len (paramN S) 2
  have len3 := wordsN_len (bigN S.val) (wcN S)
  have len4 := wcN_le hsz
  (repeat ((fail_if_success (with_reducible show wpAny _ _ (call (Value.ref 33) _ _) _ _ _)); first | k_unfold | walk1 | (dsimp only; walk1) | (leave1; try dsimp only)))
  rename News _ _ _ _ => N8
  rename_i _ _ _ _ _ D5 us5 _ hI5 lD5 _ _ _ _ _ _
  have hD5 : NatsAre us5 (dataN S) := by
    unfold NatsAre dataN
    rw [List.map_append, List.map_append]
    exact hI5
  have sm5 : ∀ x ∈ dataN S, x < 1024 := small_app (small_app (wordsN_small _ _) (wordsN_small _ _)) (wordsN_small _ _)
  have len5 : (dataN S).length < 100 := dataN_lt hsz
  refine' create_spec w D5 us5 (dataN S) _ _ _ N8 (.head _) hD5 sm5 (by cases S.ext <;> decide) len5 ?kB ?kF ?kX ?kT ?kk ?kd ?ku ?_ rfl
  case kB => k_asm
  case kF => k_asm
  case kX => k_asm
  case kT => k_asm
  case kk => rfl
  case kd => walk_at "mine depth"
  case ku => walk_at "mine depth"
  intro D6 us6 n6 h6 tk6 F9 N9 lD6 hN6
  k_lt lD6
  have len6 : (chkN ((custN S.ext).toList.map (fun b => b.toNat) ++ dataN S)).length = 3 := rfl
  clear hI5 N8
  (repeat ((fail_if_success (with_reducible show wpAny _ _ (call (Value.ref 104) _ _) _ _ _)); first | k_unfold | walk1 | (dsimp only; walk1) | (leave1; try dsimp only)))
  rename News _ _ _ _ => N10
  rename_i D7 us7 _ _ hI7 lD7
  have hN7 : NatsAre us7 (allN S) := by
    unfold NatsAre allN
    rw [List.map_append]
    exact hI7
  have sm7 : ∀ x ∈ allN S, x < 1024 := small_app sm5 (chkN_small _)
  have len7 : us7.length = (allN S).length := hN7.len
  have len8 : (allN S).length < 200 := allN_lt hsz
  have hne7 : ∀ p ∈ (76, oA3) :: news, p.1 ≠ 99 := fun p hp => by
    rcases List.mem_cons.mp hp with rfl | hp
    · exact (by decide : (76 : Nat) ≠ 99)
    · exact hne.ne (by decide) p hp
  refine' wfi_spec w D7 us7 (allN S) _ hN7 sm7 oB tB (news := (76, oA3) :: news) (News.sub N10 (by walk_at "mine sub")) ?hl hne7 (C99.keeps FG1.keep) ?kB ?kF ?kX ?kT ?kk ?kd ?ku G3 ?_ rfl
  case hl => (show @LT.lt Nat _ 99 D7; omega)
  case kB => k_asm
  case kF => k_asm
  case kX => k_asm
  case kT => k_asm
  case kk => rfl
  case kd => walk_at "mine depth"
  case ku => walk_at "mine depth"
  intro a' C I fp oa oC oI h11 tk11 g11 oB' gi G11 tB' F11 N11 ha hfp hord hIC hCa XR
  have o76 : @LT.lt Nat _ 76 I := hord (76, oA3) (.tail _ (.tail _ (.head _)))
  have o99 : @LT.lt Nat _ 99 I := hord (99, oB) (.tail _ (.head _))
  have oN : ∀ p ∈ news, p.1 < I := fun p hp => hord p (.tail _ (.tail _ (.tail _ hp)))
  clear hI7 N10
  (repeat ((fail_if_success (with_reducible show wpAny _ _ (call (Value.type _) _ _) _ _ _)); first | k_unfold | walk1 | (dsimp only; walk1) | (leave1; try dsimp only)))
  have NC := N11 _ (.tail _ (.head _))
  have NI := N11 _ (.tail _ (.tail _ (.head _)))
  have hlt : ∀ p ∈ (76, oA3) :: (99, oB') :: news, p.1 < I := fun p hp => by
    rcases List.mem_cons.mp hp with rfl | hp
    · exact o76
    · rcases List.mem_cons.mp hp with rfl | hp
      · exact o99
      · exact oN p hp
  refine list_genL (news := (76, oA3) :: (99, oB') :: news) (XR.at fun _ _ _ e => e) rfl rfl ?_ ?_ F11 (News.sub N11 (by walk_at "mine sub")) G11 hfp ha ?_ ?_ ?_ (by omega) ?_
  · walk_at "mine depth"
  · walk_at "mine depth"
  · intro hm
    rcases List.mem_cons.mp hm with e | hm
    · exact NC.2.1 e.symm
    · exact NI.2.1 (List.mem_singleton.mp hm).symm
  · intro b hb
    rcases List.mem_cons.mp hb with rfl | hb
    · exact NC.2.2
    · rw [List.mem_singleton.mp hb]; exact NI.2.2
  · intro q hq hm
    have h9 := hlt q hq
    rcases List.mem_cons.mp hm with e | hm
    · exact Nat.ne_of_lt (Nat.lt_trans h9 hIC) e
    · exact Nat.ne_of_lt h9 (List.mem_singleton.mp hm)
  · intro D' c h'' tk'' g'' vs G12 F12 N12 lD12 hlen hvs
    k_steps
    rename News _ _ _ _ => kN
    rename Fr _ _ _ _ => kF
    refine ret D' vs c _ _ _ oA3 oB' G12 tA3 tB' kF kN ?_ (hlen.trans len7) hvs
    intro q hq
    rcases List.mem_cons.mp hq with rfl | hq
    · exact lD12 (76, oA3) (.head _)
    · rcases List.mem_cons.mp hq with rfl | hq
      · exact lD12 (99, oB') (.tail _ (.head _))
      · exact lD12 q (.tail _ (.tail _ hq))
end
section
theorem offM19 : True := by w_top off; trivial
open PyProof.Rows.LCg (NsObj lst lst_snoc Off3 Off1 ns_obj fr_but news_but)
set_option maxRecDepth 100000
set_option maxHeartbeats 4000000
variable {p : Program} {loose : List Str} {mean : ExcName → Option Value} {mg mb : Str → Option Value}
  {dp un : Nat} {gd : Option (List Code)} {cn : Str} {cs : Scope} {a : Addr} {ccd : Value} {cl : List (Str × Addr)} {outer : List Env}
  {A₀ : Around} {E Q : Value → Shared → Prop} {s : Shared} {base h₀ : Heap} {L : Addr} {m : Str → Option Value} {news : List (Addr × Obj)}
def mnemS (ns : List Nat) : Str := Str.join (Str.ofString " ") (ns.map wordS)
theorem allN_len (S : Sh) (hsz : S.val.size ≤ 24) : (allN S).length ≤ 30 := by
  unfold allN dataN
  rw [List.length_append, List.length_append, List.length_append, wordsN_len, wordsN_len, wordsN_len]
  have : (chkN ((custN S.ext).toList.map (fun b => b.toNat) ++ dataN S)).length = 3 := rfl
  unfold dataN at this
  rw [this]
  unfold wcN
  omega
theorem strs_of (ns : List Nat) (vs : List Value) (hl : vs.length = ns.length) (h : ∀ (i : Nat) (v : Value), vs[i]? = some v → ∃ n t, ns[i]? = some n ∧ v = Value.str (wordS n) t) : StrsAre vs (ns.map wordS) := by
  induction vs generalizing ns with
  | nil =>
    cases ns with
    | nil => exact StrsAre.nil
    | cons n r => simp at hl
  | cons v vs ih =>
    cases ns with
    | nil => simp at hl
    | cons n r =>
      obtain ⟨n', t, e, rfl⟩ := h 0 v rfl
      simp at e
      subst e
      exact StrsAre.cons _ t (ih r (by simpa using hl) fun i v e => by simpa using h (i + 1) v (by simpa using e))
theorem sum_words (ns : List Nat) : ((ns.map wordS).map (·.length)).sum = 3 * ns.length := by
  induction ns with
  | nil => rfl
  | cons n r ih =>
    rw [List.map_cons, List.map_cons, List.sum_cons, ih, List.length_cons]
    have : (wordS n).length = 3 := rfl
    omega
theorem mnemonic_spec (w : World) (S : Sh) (x d : Addr) (od oA oB : Obj) (hS : IsSh w S od) (hsz : S.val.size ≤ 24) (ok : ShOk S) (tA : TabOk oA) (tB : TabOk oB) (N : News h₀ L s.heap ((76, oA) :: (99, oB) :: news)) (hx : (x, instObj 415 d) ∈ news) (hd9 : (d, od) ∈ news) (hne : Hi news) (C76 : CodeHd h₀ 80 76) (C99 : CodeHd h₀ 103 99) (G : AllBare s.gens)
  (B : Below A₀ base outer h₀) (F : Fr h₀ L s.heap m) (X : (Mine.hd.heap_1 w.params).In h₀)  (T : Top p loose mean mg mb h₀)
  (hk : cs.kind = .function) (hd : dp + 100 < recursionLimit) (hu : un + 700 < cLine)
  (ret : ∀ t h' tk' g' oA' oB', AllBare g' → TabOk oA' → TabOk oB' → Fr h₀ L h' m → News h₀ L h' ((76, oA') :: (99, oB') :: news) → Q (.str (mnemS (allN S)) t) ⟨h', g', s.drawn, tk', s.os⟩)
  (hrw : PySem.Challenge.rw_ja0052_01 = PySem.Challenge.rw_ja0052_01) :
  wpAny (model PySem.Challenge.pw_ja0052_01 w) (ktrTop dp un gd cn cs L a ccd cl outer) (call (.ref 402) [.ref x]) Q E s := by
  refine wpAny_noRaise ?_
  revert X hrw
  k_fill
  intro X hrw
  clear hrw
  have hS0 := hS
  obtain ⟨k1, k2, k3, k4, k5, k6, k7, k8, k9, t1, t3, t4, t5, t6, t7, t8, tb, rfl⟩ := hS
  have hd99 := hd9
  unfold shObj at hd9
  refine wpAny_call ?_
  (k_dflt (refine' code_def ?k1 ?k2 ?k3 ?k4 ?k5 ?kA ?kF ?kK ?k6 ?k7 ?k8 ?k9 ?kB ?_ ?c2 ?c3 ?c4 ?c5; (case kA => first | with_reducible assumption | exact rfl); (case kF => first | with_reducible assumption | exact rfl); (case kK => first | with_reducible assumption | exact rfl | assumption); (case k1 => k_asm); (case k2 => k_asm); (case k3 => k_asm); (case k4 => k_asm); (case k5 => k_asm); (case k6 => k_is); (case k7 => k_is); (case k8 => k_room); (case k9 => exact BindsTo.of_eq rfl); (case c5 => decide); (case kB => exact locs rfl); (case c2 => exact rfl); (case c3 => exact rfl); (case c4 => exact rfl); k_whole; intro g1 L1 _ FG1 FF _ B1 X1 T1; (try dsimp only); (try k_fold)))
  refine letA ?_
  intro A9
  replace FF := fr_lookup (show Fr _ _ _ (fun y => List.lookup y [(Str.ofString "self", _)]) from FF)
  dsimp only [List.map] at FF
  (repeat ((fail_if_success (with_reducible show wpAny _ _ (call (Value.ref 395) _ _) _ _ _)); first | k_unfold | walk1 | (dsimp only; (with_reducible show wpAny _ _ (call (Value.ref 395) _ _) _ _ _)) | (dsimp only; walk1) | (leave1; try dsimp only)))
  rename News _ _ _ _ => N2
  refine' words_spec w S x d _ oA oB hS0 hsz ok tA tB ?kN hx hd99 hne (C76.keeps FG1.keep) (C99.keeps FG1.keep) ?kG ?kB ?kF ?kX ?kT ?kk ?kd ?ku ?_ rfl
  case kN => exact N2
  case kG => exact G
  case kB => k_asm
  case kF => k_asm
  case kX => k_asm
  case kT => k_asm
  case kk => rfl
  case kd => walk_at "mine depth"
  case ku => walk_at "mine depth"
  intro D us n h' tk' g' oA' oB' G' tA' tB' F3 N3 lD hl hus
  (repeat ((fail_if_success (with_reducible show wpAny _ _ (call (Value.builtin "str.join") _ _) _ _ _)); first | k_unfold | walk1 | (dsimp only; walk1) | (leave1; try dsimp only)))
  have HL := News.isList N3 (.head _)
  have hall := allN_len S hsz
  refine join_list HL (by rw [List.toList_toArray]; exact strs_of _ _ hl hus) ?_ ?_
  · rw [sum_words, List.length_map]
    have : (Str.ofString " ").length = 1 := by decide +kernel
    rw [this]; omega
  · intro t' k
    k_steps
    rename News _ _ _ _ => kN
    rename Fr _ _ _ _ => kF
    have e : Txt.join (Str.ofString " ") ((allN S).map wordS) = mnemS (allN S) := StrLaws.glued_eq_join _ _
    rw [e]
    exact ret _ _ _ _ oA' oB' G' tA' tB' kF (News.sub kN (by walk_at "mine sub"))
end
section
set_option maxRecDepth 100000
set_option maxHeartbeats 1000000
open PySem.KWd (step fin words_scan)
theorem getD_cases (l : Array Nat) (p : Nat → Bool) (h : l.all p = true) (h0 : p 0 = true) (n : Nat) : p (l.getD n 0) = true := by
  rw [Array.getD_eq_getD_getElem?]
  cases e : l[n]? with
  | none => exact h0
  | some c => exact Array.all_eq_true_iff_forall_mem.mp h c (Array.mem_of_getElem? e)
theorem outer_sp (n : Nat) : Unicode.isSpace (outerN n) = false := by
  have := getD_cases #[98, 100, 102, 103, 104, 106, 107, 108, 109, 110, 112, 114, 115, 116, 118, 122] (fun c => !Unicode.isSpace c) (by decide +kernel) (by decide +kernel) n
  simpa [outerN] using this
theorem inner_sp (n : Nat) : Unicode.isSpace (innerN n) = false := by
  have := getD_cases #[97, 105, 111, 117] (fun c => !Unicode.isSpace c) (by decide +kernel) (by decide +kernel) n
  simpa [innerN] using this
theorem space_sp : Unicode.isSpace 32 = true := by decide +kernel
theorem space_cps : (Str.ofString " ").cps = #[32] := by decide +kernel
theorem step_sign {ws : List Str} {r : Str} {c : Nat} (h : Unicode.isSpace c = false) : step (ws, r) c = (ws, r ++ ⟨#[c]⟩) := by
  unfold PySem.KWd.step
  rw [if_neg (by rw [h]; exact Bool.false_ne_true)]
theorem step_word (ws : List Str) (n : Nat) (rest : List Nat) : ((wordS n).cps.toList ++ rest).foldl step (ws, Str.empty) = rest.foldl step (ws, wordS n) := by
  show ([outerN (n >>> 6), innerN ((n >>> 4) &&& 3), outerN (n &&& 15)] ++ rest).foldl step (ws, Str.empty) = _
  rw [List.foldl_append]
  show List.foldl step (step (step (step (ws, Str.empty) _) _) _) rest = _
  rw [step_sign (outer_sp _), step_sign (inner_sp _), step_sign (outer_sp _)]
  rfl
theorem scan_mnem : ∀ (ns : List Nat) (ws : List Str), fin ((mnemS ns).cps.toList.foldl step (ws, Str.empty)) = ws ++ ns.map wordS
  | [], ws => by
    show fin (ws, Str.empty) = _
    unfold PySem.KWd.fin
    rw [if_pos (show Str.empty.length = 0 from rfl)]; simp
  | [n], ws => by
    have := step_word ws n []
    rw [List.append_nil] at this
    show fin ((wordS n).cps.toList.foldl step (ws, Str.empty)) = _
    rw [this]
    show fin (ws, wordS n) = _
    unfold PySem.KWd.fin
    rw [if_neg (show ¬ (wordS n).length = 0 from (by decide : ¬ (3 = 0)))]; rfl
  | n :: k :: r, ws => by
    have e : (mnemS (n :: k :: r)).cps.toList = (wordS n).cps.toList ++ (32 :: (mnemS (k :: r)).cps.toList) := by
      show ((wordS n ++ Str.ofString " ") ++ Str.join (Str.ofString " ") ((k :: r).map wordS)).cps.toList = _
      rw [Str.cps_append, Str.cps_append, space_cps, Array.toList_append, Array.toList_append]
      simp [mnemS]
    rw [e, step_word, List.foldl_cons]
    have e2 : step (ws, wordS n) 32 = (ws ++ [wordS n], Str.empty) := by
      unfold PySem.KWd.step
      rw [if_pos space_sp, if_neg (by show ¬ (3 = 0); decide)]
    rw [e2, scan_mnem (k :: r) (ws ++ [wordS n])]
    simp
theorem words_mnem (ns : List Nat) : Txt.words (mnemS ns) = ns.map wordS := by
  rw [words_scan]
  have := scan_mnem ns []
  rw [List.nil_append] at this
  exact this
theorem low_ok (c : Nat) (h : (Unicode.lowerOf c == [c] && c != 0x3A3) = true) : Unicode.lowerOf c = [c] ∧ (c == 0x3A3) = false := by
  rw [Bool.and_eq_true] at h
  exact ⟨by simpa using h.1, by simpa using h.2⟩
theorem outer_low (n : Nat) : Unicode.lowerOf (outerN n) = [outerN n] ∧ (outerN n == 0x3A3) = false :=
  low_ok _ (getD_cases #[98, 100, 102, 103, 104, 106, 107, 108, 109, 110, 112, 114, 115, 116, 118, 122] (fun c => Unicode.lowerOf c == [c] && c != 0x3A3) (by decide +kernel) (by decide +kernel) n)
theorem inner_low (n : Nat) : Unicode.lowerOf (innerN n) = [innerN n] ∧ (innerN n == 0x3A3) = false :=
  low_ok _ (getD_cases #[97, 105, 111, 117] (fun c => Unicode.lowerOf c == [c] && c != 0x3A3) (by decide +kernel) (by decide +kernel) n)
theorem lower_three (a b c : Nat) (ha : Unicode.lowerOf a = [a] ∧ (a == 0x3A3) = false) (hb : Unicode.lowerOf b = [b] ∧ (b == 0x3A3) = false) (hc : Unicode.lowerOf c = [c] ∧ (c == 0x3A3) = false) :
    Txt.lower ⟨#[a, b, c]⟩ = ⟨#[a, b, c]⟩ := by
  have e0 : Unicode.lowerAt #[a, b, c] 0 = [a] := by
    show (if (a == 0x3A3 && Unicode.endsWord #[a, b, c] 0) = true then [0x3C2] else Unicode.lowerOf a) = [a]
    rw [ha.2, Bool.false_and, if_neg Bool.false_ne_true, ha.1]
  have e1 : Unicode.lowerAt #[a, b, c] 1 = [b] := by
    show (if (b == 0x3A3 && Unicode.endsWord #[a, b, c] 1) = true then [0x3C2] else Unicode.lowerOf b) = [b]
    rw [hb.2, Bool.false_and, if_neg Bool.false_ne_true, hb.1]
  have e2 : Unicode.lowerAt #[a, b, c] 2 = [c] := by
    show (if (c == 0x3A3 && Unicode.endsWord #[a, b, c] 2) = true then [0x3C2] else Unicode.lowerOf c) = [c]
    rw [hc.2, Bool.false_and, if_neg Bool.false_ne_true, hc.1]
  unfold Txt.lower placed
  have : (#[a, b, c] : Array Nat).mapIdx (fun i _ => (Unicode.lowerAt #[a, b, c] i).toArray) = #[#[a], #[b], #[c]] := by
    apply Array.toList_inj.mp
    rw [Array.toList_mapIdx]
    simp only [List.mapIdx_cons, List.mapIdx_nil, Nat.zero_add, Nat.reduceAdd, e0, e1, e2]
  rw [this]
  rfl
theorem lower_word (n : Nat) : Txt.lower (wordS n) = wordS n := lower_three _ _ _ (outer_low _) (inner_low _) (outer_low _)
end
section
theorem offM20 : True := by w_top off; trivial
open PyProof.Rows.LCg (NsObj lst lst_snoc Off3 Off1 ns_obj fr_but news_but)
set_option maxRecDepth 100000
set_option maxHeartbeats 4000000
variable {p : Program} {loose : List Str} {mean : ExcName → Option Value} {mg mb : Str → Option Value}
  {dp un : Nat} {gd : Option (List Code)} {cn : Str} {cs : Scope} {a : Addr} {ccd : Value} {cl : List (Str × Addr)} {outer : List Env}
  {A₀ : Around} {E Q : Value → Shared → Prop} {s : Shared} {base h₀ : Heap} {L : Addr} {m : Str → Option Value} {news : List (Addr × Obj)}
theorem len_wordS {prog : Program} {w : World} {A : Around} {E : Value → Shared → Prop} {n : Nat} {t : Tok} (h : ∀ t', Q (.int 3 t') { s with toks := s.toks + 1 + 1 }) : wpAny (model prog w) A (call (.builtin "len") [.str (wordS n) t]) Q E s :=
  PySem.P.len_str (x := wordS n) (by show ¬ ((3 : Nat) : Int) ≥ 2 ^ 63; omega) (h _)
local macro_rules | `(tactic| walk_at "call builtin:len") => `(tactic| (k_here; (with_reducible show wpAny _ _ (call (Value.builtin "len") [Value.str (wordS _) _]) _ _ _); refine len_wordS ?_; intro _))
theorem outer_ns (w : World) (k : Nat) (hk : k < 16) (hrw : PySem.Challenge.rw_ja0052_01 = PySem.Challenge.rw_ja0052_01) : ∃ t, nsIn (Mine.hd.heap_1 w.params) 82 ⟨#[outerN k]⟩ = some (some (.int (k : Int) t)) := by
  have hc : k = 0 ∨ k = 1 ∨ k = 2 ∨ k = 3 ∨ k = 4 ∨ k = 5 ∨ k = 6 ∨ k = 7 ∨ k = 8 ∨ k = 9 ∨ k = 10 ∨ k = 11 ∨ k = 12 ∨ k = 13 ∨ k = 14 ∨ k = 15 := (by decide : ∀ k, k < 16 → k = 0 ∨ k = 1 ∨ k = 2 ∨ k = 3 ∨ k = 4 ∨ k = 5 ∨ k = 6 ∨ k = 7 ∨ k = 8 ∨ k = 9 ∨ k = 10 ∨ k = 11 ∨ k = 12 ∨ k = 13 ∨ k = 14 ∨ k = 15) k hk
  revert hrw
  k_fill
  intro hrw
  rcases hc with rfl | rfl | rfl | rfl | rfl | rfl | rfl | rfl | rfl | rfl | rfl | rfl | rfl | rfl | rfl | rfl <;> exact ⟨_, by k_is⟩
theorem inner_ns (w : World) (k : Nat) (hk : k < 4) (hrw : PySem.Challenge.rw_ja0052_01 = PySem.Challenge.rw_ja0052_01) : ∃ t, nsIn (Mine.hd.heap_1 w.params) 83 ⟨#[innerN k]⟩ = some (some (.int (k : Int) t)) := by
  have hc : k = 0 ∨ k = 1 ∨ k = 2 ∨ k = 3 := (by decide : ∀ k, k < 4 → k = 0 ∨ k = 1 ∨ k = 2 ∨ k = 3) k hk
  revert hrw
  k_fill
  intro hrw
  rcases hc with rfl | rfl | rfl | rfl <;> exact ⟨_, by k_is⟩
theorem outer_get (w : World) {A : Around} {E : Value → Shared → Prop} {value slice : Expr} {x : Str} {t : Tok} (k : Nat) (hk : k < 16) (hx : x = ⟨#[outerN k]⟩) (F : Fr h₀ L s.heap m) (X : (Mine.hd.heap_1 w.params).In h₀)
    (h : ∀ t, Q (.int (k : Int) t) { s with toks := s.toks + 1 })
    (hs : subscripted slice false (.ref 82) (.str x t) = operate [.ref 82, .str x t] (getItem (.ref 82) (.str x t)))
    (hrw : PySem.Challenge.rw_ja0052_01 = PySem.Challenge.rw_ja0052_01) :
    wpAny (model PySem.Challenge.pw_ja0052_01 w) A (subscriptTail value slice (.ref 82) (.str x t)) Q E s := by
  subst hx
  obtain ⟨tk, e⟩ := outer_ns w k hk rfl
  revert X hrw
  k_fill
  intro X hrw
  refine' topItem_K F X ?l ?k e (h tk) hs
  case l => k_is
  case k => k_keys
theorem inner_get (w : World) {A : Around} {E : Value → Shared → Prop} {value slice : Expr} {x : Str} {t : Tok} (k : Nat) (hk : k < 4) (hx : x = ⟨#[innerN k]⟩) (F : Fr h₀ L s.heap m) (X : (Mine.hd.heap_1 w.params).In h₀)
    (h : ∀ t, Q (.int (k : Int) t) { s with toks := s.toks + 1 })
    (hs : subscripted slice false (.ref 83) (.str x t) = operate [.ref 83, .str x t] (getItem (.ref 83) (.str x t)))
    (hrw : PySem.Challenge.rw_ja0052_01 = PySem.Challenge.rw_ja0052_01) :
    wpAny (model PySem.Challenge.pw_ja0052_01 w) A (subscriptTail value slice (.ref 83) (.str x t)) Q E s := by
  subst hx
  obtain ⟨tk, e⟩ := inner_ns w k hk rfl
  revert X hrw
  k_fill
  intro X hrw
  refine' topItem_K F X ?l ?k e (h tk) hs
  case l => k_is
  case k => k_keys
theorem idx_nat (n : Nat) : n / 64 * 64 + n / 16 % 4 * 16 + n % 16 = n := by
  have h1 := Nat.div_add_mod n 16
  have h2 := Nat.div_add_mod (n / 16) 4
  rw [Nat.div_div_eq_div_mul] at h2
  omega
theorem index_val (n : Nat) : ((n >>> 6 : Nat) : Int) * (2 : Int) ^ Int.toNat 6 + (((n >>> 4) &&& 3 : Nat) : Int) * (2 : Int) ^ Int.toNat 4 + ((n &&& 15 : Nat) : Int) = (n : Int) := by
  have e6 : (2 : Int) ^ Int.toNat 6 = 64 := by decide
  have e4 : (2 : Int) ^ Int.toNat 4 = 16 := by decide
  have h3 : (n >>> 4) &&& 3 = n / 16 % 4 := by
    rw [Nat.shiftRight_eq_div_pow]
    exact Nat.and_two_pow_sub_one_eq_mod (n / 16) 2
  have h15 : n &&& 15 = n % 16 := Nat.and_two_pow_sub_one_eq_mod n 4
  have h6 : n >>> 6 = n / 64 := Nat.shiftRight_eq_div_pow n 6
  rw [e6, e4, h3, h15, h6]
  exact congrArg Nat.cast (idx_nat n)
local macro_rules | `(tactic| walk_at "subscriptTail") => `(tactic| (k_here; (with_reducible show wpAny _ _ (subscriptTail _ _ (Value.str (wordS _) _) (Value.int _ _)) _ _ _); k_dflt (refine' item_str ?hr ?h1 ?h2 ?_ ?hs ?ht; (case hr => rfl); (case h1 => (show -(3 : Int) ≤ _; decide)); (case h2 => (show _ < (3 : Int); decide)); (case hs => with_unfolding_all rfl); (case ht => (intro _; with_unfolding_all rfl))); intro _))
theorem index_spec (w : World) (n : Nat) (tn : Tok) (hn : n < 1024) (N : News h₀ L s.heap news)
  (B : Below A₀ base outer h₀) (F : Fr h₀ L s.heap m) (X : (Mine.hd.heap_1 w.params).In h₀)  (T : Top p loose mean mg mb h₀)
  (hk : cs.kind = .function) (hd : dp + 30 < recursionLimit) (hu : un + 200 < cLine)
  (ret : ∀ t h' tk', Fr h₀ L h' m → News h₀ L h' news → Q (.int (n : Nat) t) { s with heap := h', toks := tk' })
  (hrw : PySem.Challenge.rw_ja0052_01 = PySem.Challenge.rw_ja0052_01) :
  wpAny (model PySem.Challenge.pw_ja0052_01 w) (ktrTop dp un gd cn cs L a ccd cl outer) (call (.ref 97) [.str (wordS n) tn]) Q E s := by
  refine wpAny_noRaise ?_
  revert X hrw
  k_fill
  intro X hrw
  clear hrw
  have b6 : n >>> 6 < 16 := by rw [Nat.shiftRight_eq_div_pow]; omega
  have b3 : (n >>> 4) &&& 3 < 4 := Nat.lt_succ_of_le Nat.and_le_right
  have b15 : n &&& 15 < 16 := Nat.lt_succ_of_le Nat.and_le_right
  refine wpAny_call ?_
  (k_dflt (refine' code_def ?k1 ?k2 ?k3 ?k4 ?k5 ?kA ?kF ?kK ?k6 ?k7 ?k8 ?k9 ?kB ?_ ?c2 ?c3 ?c4 ?c5; (case kA => first | with_reducible assumption | exact rfl); (case kF => first | with_reducible assumption | exact rfl); (case kK => first | with_reducible assumption | exact rfl | assumption); (case k1 => k_asm); (case k2 => k_asm); (case k3 => k_asm); (case k4 => k_asm); (case k5 => k_asm); (case k6 => k_is); (case k7 => k_is); (case k8 => k_room); (case k9 => exact BindsTo.of_eq rfl); (case c5 => decide); (case kB => exact locs rfl); (case c2 => exact rfl); (case c3 => exact rfl); (case c4 => exact rfl); k_whole; intro g1 L1 _ FG1 FF _ B1 X1 T1; (try dsimp only); (try k_fold)))
  refine letA ?_
  intro A9
  replace FF := fr_lookup (show Fr _ _ _ (fun y => List.lookup y [(Str.ofString "word", _)]) from FF)
  dsimp only [List.map] at FF
  (repeat ((fail_if_success (with_reducible show wpAny _ _ (subscriptTail _ _ (Value.ref _) _) _ _ _)); first | k_unfold | walk1 | (dsimp only; walk1)))
  refine' outer_get w (n >>> 6) b6 rfl ?F ?X ?_ ?hs rfl
  case F => k_asm
  case X => k_asm
  case hs => with_unfolding_all rfl
  intro ta
  (repeat ((fail_if_success (with_reducible show wpAny _ _ (subscriptTail _ _ (Value.ref _) _) _ _ _)); first | k_unfold | walk1 | (dsimp only; walk1)))
  refine' inner_get w ((n >>> 4) &&& 3) b3 rfl ?F ?X ?_ ?hs rfl
  case F => k_asm
  case X => k_asm
  case hs => with_unfolding_all rfl
  intro tb
  (repeat ((fail_if_success (with_reducible show wpAny _ _ (subscriptTail _ _ (Value.ref _) _) _ _ _)); first | k_unfold | walk1 | (dsimp only; walk1)))
  refine' outer_get w (n &&& 15) b15 rfl ?F ?X ?_ ?hs rfl
  case F => k_asm
  case X => k_asm
  case hs => with_unfolding_all rfl
  intro tc
  k_steps
  rename News _ _ _ _ => kN
  rename Fr _ _ _ _ => kF
  have hv := index_val n
  rw [hv]
  exact ret _ _ _ kF kN
end
section
open PyProof.Rows.LCg (NsObj lst lst_snoc Off3 Off1 ns_obj fr_but news_but)
set_option maxRecDepth 100000
set_option maxHeartbeats 1000000
section
variable {prog : Program} {w : World} {A : Around} {E : Value → Shared → Prop} {s : Shared} {h₀ : Heap} {L : Addr} {m : Str → Option Value} {env : Env}
/-- a comprehension over a list of the ledger -/
theorem comp_list {elt : Expr} {x : Str} {scope : Scope} {cl : List (Str × Addr)} {Q : Value → Shared → Prop} {l : Addr} {nn : Nat} {vs : List Value} {news all : List (Addr × Obj)} (hh : A.handled = none)
    (J : Nat → List Value → List (Addr × Obj) → Array GenState → Prop)
    (F : Fr h₀ L s.heap m) (N : News h₀ L s.heap all) (hm : (l, listOf vs.toArray nn) ∈ all) (hk : vs.length ≤ 1000000)
    (sub : ∀ p ∈ news, p ∈ all) (hJl : ∀ i ys nw g, J i ys nw g → (l, listOf vs.toArray nn) ∈ nw) (h0 : J 0 [] news s.gens)
    (turn : ∀ i ys news' g v I oI C oC D m₂ h tk (E' : Value → Shared → Prop), vs[i]? = some v → ys.length = i → J i ys news' g → NsObj oC m₂ → m₂ x = some v → Fr h₀ L h m → News h₀ L h ((I, oI) :: (C, oC) :: (D, lst ys) :: news') → (∀ p ∈ news', p.1 ≠ I ∧ p.1 ≠ C ∧ p.1 ≠ D) → ((@Ne Nat I C) ∧ (@Ne Nat I D) ∧ (@Ne Nat C D)) → @LT.lt Nat _ I D → @LT.lt Nat _ D C → (∀ p ∈ all, p.1 < I) →
      wpAny (model prog w) A (eval elt (compEnvC scope cl C env)) (CEnd h₀ L m ⟨h, g, s.drawn, tk, s.os⟩ I oI C oC D (lst ys) (fun y news' g' => J (i + 1) (ys ++ [y]) news' g')) E' ⟨h, g, s.drawn, tk, s.os⟩)
    (done : ∀ D h tk g' ys news', (∀ p ∈ all, p.1 < D) → ys.length = vs.length → Fr h₀ L h m → News h₀ L h ((D, lst ys) :: news') → (∀ p ∈ news', p.1 ≠ D) → J vs.length ys news' g' → Q (.ref D) ⟨h, g', s.drawn, tk, s.os⟩) :
    wpAny (model prog w) A (pyIter (.ref l)) (CSrc prog w A h₀ L m env elt x scope cl Q) E s := by
  have hl : s.heap.IsList l vs.toArray := News.isList N hm
  have hll : l < s.heap.objs.size := Heap.lt_size (N _ hm).1
  refine wpAny_pyIter_list hl ?_
  have e1 : vs.toArray.size = vs.length := List.size_toArray ..
  have W := Walks.list (prog := prog) (w := w) hh s.heap.objs.size l (Nat.ne_of_lt hll) vs.toArray
  rw [e1] at W
  have up : ∀ b o, s.heap.get? b = some o → (s.heap.push { cls := .type "list_iterator", data := .fields #[.ref l, .int 0 0] }).get? b = some o := fun b o e => Heap.get?_push_of_some _ e
  refine ⟨s.heap.objs.size, _, vs.length, _, _, news, J, rfl, W, Nat.le_trans hk (by decide), fun i h st => ?_, ?_, ⟨⟨_, Heap.get?_push_size _ rfl, rfl, rfl⟩, hl.push _⟩, ?_, F.push _, fun p hp => ⟨up _ _ (N p (sub p hp)).1, (N p (sub p hp)).2⟩, Nat.ne_of_lt F.ns.lt, none_at_size F, fun p hp => Nat.ne_of_lt (Heap.lt_size (N p (sub p hp)).1), h0, ?_, ?_⟩
  · obtain ⟨o, e, _⟩ := st.1; exact ⟨o, e⟩
  · intro i h h' o ys nw g' st e e' _ N' hJ
    refine ⟨?_, News.isList N' (hJl i ys nw g' hJ)⟩
    obtain ⟨o', q, r⟩ := st.1
    rw [e] at q; cases q
    exact ⟨o, e', r⟩
  · intro b hb
    show b < (s.heap.push _).objs.size
    rw [Heap.size_push]
    rcases List.mem_cons.mp hb with rfl | hb
    · exact Nat.lt_succ_self _
    · rw [List.mem_singleton.mp hb]; exact Nat.lt_succ_of_lt hll
  · intro i ys news' g v oI C oC D m₂ h tk E' hi hl' hP hJ hoC hx F' N' off' hne h1 h2 h3
    exact turn i ys news' g v _ oI C oC D m₂ h tk E' (by simpa using hP) hl' hJ hoC hx F' N' off' hne h1 h2 fun p hp => Heap.lt_size (N p hp).1
  · intro D h tk g' ys news' hDs hlen F' N' ne hJ
    refine done D h tk g' ys news' (fun p hp => ?_) hlen F' N' ne hJ
    rw [hDs]
    show p.1 < (s.heap.push _).objs.size
    rw [Heap.size_push]
    exact Nat.lt_succ_of_lt (Heap.lt_size (N p hp).1)
end
end
section
theorem offM21 : True := by w_top off; trivial
local macro_rules | `(tactic| walk_at "mine pad") => `(tactic| skip)
open PyProof.Rows.LCg (NsObj lst lst_snoc Off3 Off1 ns_obj fr_but news_but)
set_option maxRecDepth 100000
set_option maxHeartbeats 4000000
variable {p : Program} {loose : List Str} {mean : ExcName → Option Value} {mg mb : Str → Option Value}
  {dp un : Nat} {gd : Option (List Code)} {cn : Str} {cs : Scope} {a : Addr} {ccd : Value} {cl : List (Str × Addr)} {outer : List Env}
  {A₀ : Around} {E Q : Value → Shared → Prop} {s : Shared} {base h₀ : Heap} {L : Addr} {m : Str → Option Value} {news : List (Addr × Obj)}
local macro_rules | `(tactic| walk_at "call ref") => `(tactic| (k_here; (with_reducible show wpAny _ _ (call (Value.ref 97) [Value.str (wordS _) _]) _ _ _); k_dflt (refine' index_spec _ _ _ ?kn ?kN ?kB ?kF ?kX ?kT ?kk ?kd ?ku ?_ rfl; (case kn => assumption); (case kN => k_asm); (case kB => k_asm); (case kF => k_asm); (case kX => k_asm); (case kT => k_asm); (case kk => rfl); (case kd => walk_at "mine depth"); (case ku => walk_at "mine depth")); intro t' h' tk' F' N'; (try k_sweep)))
theorem lower_wordS {prog : Program} {w : World} {A : Around} {E : Value → Shared → Prop} {n : Nat} {t : Tok} (h : ∀ t', Q (.str (wordS n) t') { s with toks := s.toks + 1 }) : wpAny (model prog w) A (call (.builtin "str.lower") [.str (wordS n) t]) Q E s := by
  have e : (⟨placed (wordS n) fun i _ => Unicode.lowerAt (wordS n).cps i⟩ : Str) = wordS n := lower_word n
  have g := gives_str_lower (wordS n) t (by
    have e2 := congrArg Str.cps e
    show Builtin.Str.tooLong ((placed (wordS n) fun i _ => Unicode.lowerAt (wordS n).cps i).size) = false
    rw [show (placed (wordS n) fun i _ => Unicode.lowerAt (wordS n).cps i) = (wordS n).cps from e2]
    rfl)
  rw [e] at g
  exact call_gives PySem.F.slot_str_lower (typeIs_str _ _ _) PySem.F.entry_str_lower (PySem.F.args_str_lower_1 _) g ⟨(by show (3 : Nat) ≤ sizeLine; rw [sizeLine_eq]; omega), h _⟩
local macro_rules | `(tactic| walk_at "call builtin:str.lower") => `(tactic| (k_here; (with_reducible show wpAny _ _ (call (Value.builtin "str.lower") _) _ _ _); k_dflt (show wpAny _ _ (call (Value.builtin "str.lower") [Value.str (wordS _) _]) _ _ _); refine lower_wordS ?_; intro _))
theorem len_mnem (ns : List Nat) : (mnemS ns).length ≤ 4 * ns.length := by
  have h := StrLaws.join_length_le (Str.ofString " ") (ns.map wordS)
  rw [sum_words, List.length_map] at h
  have : (Str.ofString " ").length = 1 := by decide +kernel
  rw [this] at h
  unfold mnemS
  omega
theorem strs_item {vs : List Value} {ys : List Str} (h : StrsAre vs ys) : ∀ {i : Nat} {v : Value}, vs[i]? = some v → ∃ y t, v = .str y t ∧ ys[i]? = some y := by
  induction h with
  | nil => intro i v e; simp at e
  | cons y t _ ih =>
    intro i v e
    cases i with
    | zero => simp at e; subst e; exact ⟨y, t, rfl, rfl⟩
    | succ i => simpa using ih (i := i) (v := v) (by simpa using e)
theorem strs_len {vs : List Value} {ys : List Str} (h : StrsAre vs ys) : vs.length = ys.length := by
  induction h with
  | nil => rfl
  | cons _ _ _ ih => simp [ih]
theorem m2i_spec (w : World) (ns : List Nat) (tn : Tok) (hns : ∀ x ∈ ns, x < 1024) (hlen : ns.length ≤ 40) (N : News h₀ L s.heap news)
  (B : Below A₀ base outer h₀) (F : Fr h₀ L s.heap m) (X : (Mine.hd.heap_1 w.params).In h₀)  (T : Top p loose mean mg mb h₀)
  (hk : cs.kind = .function) (hd : dp + 60 < recursionLimit) (hu : un + 400 < cLine)
  (ret : ∀ (D : Addr) us n h' tk', Fr h₀ L h' m → News h₀ L h' ((D, listOf (List.toArray us) n) :: news) → (∀ p ∈ news, p.1 < D) → NatsAre us ns → Q (.ref D) { s with heap := h', toks := tk' })
  (hrw : PySem.Challenge.rw_ja0052_01 = PySem.Challenge.rw_ja0052_01) :
  wpAny (model PySem.Challenge.pw_ja0052_01 w) (ktrTop dp un gd cn cs L a ccd cl outer) (call (.ref 109) [.str (mnemS ns) tn]) Q E s := by
  refine wpAny_noRaise ?_
  revert X hrw
  k_fill
  intro X hrw
  clear hrw
  refine wpAny_call ?_
  (k_dflt (refine' code_def ?k1 ?k2 ?k3 ?k4 ?k5 ?kA ?kF ?kK ?k6 ?k7 ?k8 ?k9 ?kB ?_ ?c2 ?c3 ?c4 ?c5; (case kA => first | with_reducible assumption | exact rfl); (case kF => first | with_reducible assumption | exact rfl); (case kK => first | with_reducible assumption | exact rfl | assumption); (case k1 => k_asm); (case k2 => k_asm); (case k3 => k_asm); (case k4 => k_asm); (case k5 => k_asm); (case k6 => k_is); (case k7 => k_is); (case k8 => k_room); (case k9 => exact BindsTo.of_eq rfl); (case c5 => decide); (case kB => exact locs rfl); (case c2 => exact rfl); (case c3 => exact rfl); (case c4 => exact rfl); k_whole; intro g1 L1 _ FG1 FF _ B1 X1 T1; (try dsimp only); (try k_fold)))
  refine letA ?_
  intro A9
  replace FF := fr_lookup (show Fr _ _ _ (fun y => List.lookup y [(Str.ofString "mnemonic", _)]) from FF)
  dsimp only [List.map] at FF
  (repeat ((fail_if_success (with_reducible show wpAny _ _ (eval (Expr.ListComp _ _ _ _) _) _ _ _)); first | k_unfold | walk1 | (dsimp only; walk1)))
  refine ListComp_J (by k_asm) (by with_unfolding_all rfl) (by decide) (by rfl) (by decide) (by rfl) ?_
  (repeat ((fail_if_success (with_reducible show wpAny _ _ (call (Value.builtin "str.split") _ _) _ _ _)); first | (dsimp only; (with_reducible show wpAny _ _ (call (Value.builtin "str.split") _ _) _ _ _)) | k_unfold | walk1 | (dsimp only; walk1) | (leave1; try dsimp only)))
  refine KSpl.split0 (by k_asm) (by k_asm) ?_ (by have := len_mnem ns; rw [sizeLine_eq]; omega)
  intro D0 l h1 tk1 hl hS F2 N2 lD0
  rw [hl, words_mnem] at hS
  generalize strValues l = ws at hS N2
  clear hl
  have hwl := strs_len hS
  rw [List.length_map] at hwl
  try k_lt lD0
  (repeat ((fail_if_success (with_reducible show wpAny _ _ (pyIter _) _ _ _)); walk1))
  refine comp_list rfl (fun i ys nw g => nw = (D0, listOf ws.toArray 0) :: news ∧ g = s.gens ∧ NatsAre ys (ns.take i)) F2 N2 (.head _) (by omega) (fun p hp => hp) (fun i ys nw g h => by rw [h.1]; exact .head _) ⟨rfl, rfl, NatsAre.nil⟩ ?_ ?_
  · rintro i ys _ g v I oI C oC D m₂ h tk E' hv hyl hJ9 hoC hx F3 N3 off3 ne3 lID lDC lI
    k_fold
    obtain ⟨rfl, rfl, hys⟩ := hJ9
    obtain ⟨y, t, rfl, hy⟩ := strs_item hS hv
    rw [List.getElem?_map] at hy
    obtain ⟨n, hn, rfl⟩ := Option.map_eq_some_iff.mp hy
    have hn1 : n < 1024 := hns n (List.mem_of_getElem? hn)
    k_steps
    rename News _ _ _ _ => N4
    rename Fr _ _ _ _ => F4
    trace_state
    refine ⟨_, _, _, _, (D0, listOf ws.toArray 0) :: news, rfl, F4, N4, fun p hp => hp, off3, rfl, rfl, ?_⟩
    rw [List.take_add_one, hn, Option.toList_some]
    exact hys.app (NatsAre.cons n _ NatsAre.nil)
  · rintro D h tk g ys _ hDs hlen F3 N3 ne ⟨rfl, rfl, hys⟩
    k_steps
    rename News _ _ _ _ => kN
    rename Fr _ _ _ _ => kF
    have e : ns.take ws.length = ns := List.take_of_length_le (by omega)
    rw [e] at hys
    exact ret D ys _ _ _ kF (News.sub kN (by walk_at "mine sub")) (fun p hp => hDs p (.tail _ hp)) hys
end
section
set_option maxRecDepth 100000
set_option maxHeartbeats 1000000
theorem len_N {prog : Program} {w : World} {A : Around} {E Q : Value → Shared → Prop} {s : Shared} {l : Addr} {vs : List Value} {ns : List Nat} (hl : s.heap.IsList l vs.toArray) (hi : NatsAre vs ns) (hf : ns.length ≤ 1000000) (h : ∀ t, Q (.int (ns.length : Nat) t) { s with toks := s.toks + 1 + 1 }) : wpAny (model prog w) A (call (.builtin "len") [.ref l]) Q E s := by
  refine len_ints_fit hl hi (by rw [List.length_map]; omega) ?_
  rw [List.length_map]
  exact h _
end
section
set_option maxRecDepth 100000
set_option maxHeartbeats 1000000
section
variable {prog : Program} {w : World} {A : Around} {E : Value → Shared → Prop} {s : Shared} {I : Addr} {fp wr : List Addr} {G : Array GenState → Array GenState → Prop} {n : Nat} {P : Nat → Value → Prop} {St : Nat → Shared → Prop}
theorem draw_W (W : WalksS prog w A I fp wr G n P St) : ∀ (k i : Nat) (s : Shared) (Q : List Value → Shared → Prop), St i s → i + k ≤ n →
    (∀ s' vs, St (i + k) s' → Moved wr G s s' → vs.length = k → (∀ (j : Nat) (v : Value), vs[j]? = some v → P (i + j) v) → Q vs s') → wpAny (model prog w) A (draw (.ref I) k) Q E s
  | 0, i, s, Q, st, _, hQ => by
    show wpAny _ _ (pure []) Q E s
    exact wpAny_pure (hQ s [] st (Moved.refl W.grefl) rfl fun j v e => by simp at e)
  | k + 1, i, s, Q, st, hle, hQ => by
    show wpAny _ _ (pyNext (.ref I) >>= _) Q E s
    refine wpAny_bind (W.item i s _ _ (by omega) st fun v s₁ hP st₁ hm₁ => ?_)
    refine wpAny_bind (wpAny_holding (draw_W W k (i + 1) s₁ _ st₁ (by omega) fun s₂ vs st₂ hm₂ hl hvs => wpAny_pure ?_))
    refine hQ s₂ (v :: vs) (by rw [show i + (k + 1) = i + 1 + k by omega]; exact st₂) (Moved.trans W.gtrans hm₁ hm₂) (by simp [hl]) fun j x e => ?_
    cases j with
    | zero => simp at e; subst e; exact hP
    | succ j =>
      have := hvs j x (by simpa using e)
      rw [show i + (j + 1) = i + 1 + j by omega]
      exact this
theorem unpack_W (W : WalksS prog w A I fp wr G n P St) (hT : ∀ i s, St i s → s.TypeIs (.ref I) "generator") (st : St 0 s) {targets : List (Bool × (Value → Sem Unit))} {Q : Unit → Shared → Prop}
    (hn : targets.length = n) (hstar : targets.findIdx? (·.1) = none)
    (h : ∀ s' vs, Moved wr G s s' → vs.length = n → (∀ (j : Nat) (v : Value), vs[j]? = some v → P j v) → wpAny (model prog w) A (assignInOrder (targets.map (·.2)) vs) Q E s') :
    wpAny (model prog w) A (unpack (.ref I) targets) Q E s := by
  unfold unpack
  rw [hn, hstar]
  refine wpAny_bind (wpAny_holding ?_)
  unfold unpackItems
  refine wpAny_bind ?_
  unfold notIterableAtAll
  refine wpAny_bind (wpAny_specialOf (hT 0 _ st) slot_gen_iter.lookup ?_)
  refine wpAny_pure ?_
  simp only [Bool.false_eq_true, if_false]
  refine wpAny_bind (wpAny_holding (W.self 0 _ _ _ st ?_))
  refine wpAny_bind (wpAny_holding (draw_W W n 0 s _ st (by omega) fun s₁ vs st₁ hm₁ hl hvs => ?_))
  rw [if_neg (by omega)]
  rw [Nat.zero_add] at st₁
  refine wpAny_bind (wpAny_holding (W.done s₁ _ _ st₁ fun s₂ hm₂ => ?_))
  simp only [Option.isSome_none, Bool.false_eq_true, if_false]
  refine wpAny_pure (h s₂ vs (Moved.trans W.gtrans hm₁ hm₂) hl fun j v e => ?_)
  have := hvs j v e
  rwa [Nat.zero_add] at this
end
section
variable {prog : Program} {w : World} {A : Around} {E : Value → Shared → Prop} {s : Shared} {h₀ : Heap} {L : Addr} {m : Str → Option Value} {news : List (Addr × Obj)} {a : Addr} {fp wr : List Addr} {gi n D U : Nat} {P : Nat → Value → Prop} {fr : List Env}
theorem assign_gen {env : Env} {elts : List Expr} {x1} {pos : Pos} {Q : Unit → Shared → Prop} (X : GenReady prog w a fp wr gi n P fr D U s) (hh : A.handled = none) (hfr : A.frames = some fr) (hD : A.depth ≤ D) (hU : A.units ≤ U)
    (F : Fr h₀ L s.heap m) (N : News h₀ L s.heap news) (G : AllBare s.gens) (hwL : L ∉ wr) (hw0 : ∀ b ∈ wr, h₀.get? b = none) (hwn : ∀ p ∈ news, p.1 ∉ wr)
    (hn : (assignEach elts env).length = n) (hstar : (assignEach elts env).findIdx? (·.1) = none)
    (h : ∀ h' tk g' (vs : List Value), AllBare g' → Fr h₀ L h' m → News h₀ L h' news → vs.length = n → (∀ (j : Nat) (v : Value), vs[j]? = some v → P j v) → wpAny (model prog w) A (assignInOrder ((assignEach elts env).map (·.2)) vs) Q E ⟨h', g', s.drawn, tk, s.os⟩) :
    wpAny (model prog w) A (assign (.Tuple elts x1 pos) env (.ref a)) Q E s := by
  rw [arm_assign_Tuple]
  obtain ⟨St, W, st, ty⟩ := X A hh hfr hD hU
  refine wpAny_bind (wpAny_standAt (unpack_W W ty (st s.heap s.toks fun _ _ _ e => e) hn hstar fun s' vs hm hl hvs => ?_))
  have hs' : s' = ⟨s'.heap, s'.gens, s.drawn, s'.toks, s.os⟩ := by
    obtain ⟨x1, x2, x3, x4, x5⟩ := s'
    have e1 := hm.drawn
    have e2 := hm.os
    dsimp only at e1 e2 ⊢
    rw [e1, e2]
  rw [hs']
  exact h s'.heap s'.toks s'.gens vs (G.moved hm.gens) ⟨F.ns.at' fun o e => hm.heap _ o hwL e, fun b o e => hm.heap b o (fun hb => by rw [hw0 b hb] at e; cases e) (F.keep b o e), F.above⟩ (fun p hp => ⟨hm.heap _ _ (hwn p hp) (N p hp).1, (N p hp).2⟩) hl hvs
end
end
section
set_option maxRecDepth 100000
set_option maxHeartbeats 1000000
theorem and1023 (v : Nat) : v &&& 1023 = v % 1024 := Nat.and_two_pow_sub_one_eq_mod v 10
theorem wordsN_succ (v k : Nat) : wordsN v (k + 1) = wordsN (v >>> 10) k ++ [v &&& 1023] := by
  unfold wordsN
  rw [List.range_succ, List.map_append]
  congr 1
  · refine List.map_congr_left fun i hi => ?_
    have hi' : i < k := List.mem_range.mp hi
    have e : (k + 1 - 1 - i) * 10 = 10 + (k - 1 - i) * 10 := by omega
    rw [e, Nat.shiftRight_add]
  · simp
theorem fromN_snoc (l : List Nat) (x : Nat) : fromN (l ++ [x]) = fromN l * 1024 + x := by
  unfold fromN; rw [List.foldl_append]; rfl
theorem fromN_wordsN : ∀ (k v : Nat), v < 1024 ^ k → fromN (wordsN v k) = v
  | 0, v, h => by
    have : v = 0 := by simpa using h
    subst this; rfl
  | k + 1, v, h => by
    rw [wordsN_succ, fromN_snoc, and1023, Nat.shiftRight_eq_div_pow]
    have e : (2 : Nat) ^ 10 = 1024 := by decide
    rw [e]
    have h2 : v / 1024 < 1024 ^ k := by
      rw [Nat.pow_succ] at h
      exact Nat.div_lt_of_lt_mul (by rw [Nat.mul_comm]; exact h)
    rw [fromN_wordsN k (v / 1024) h2]
    omega
theorem innN_split (b : Nat) : ∀ (i c : Nat), innN b i c = c ^^^ innN b i 0
  | 0, c => by simp [innN]
  | i + 1, c => by
    unfold innN
    rw [innN_split b i c, Nat.xor_assoc]
theorem bit_xor (a b i : Nat) : ((a ^^^ b) >>> i) &&& 1 = ((a >>> i) &&& 1) ^^^ ((b >>> i) &&& 1) := by
  rw [Nat.shiftRight_xor_distrib, Nat.and_xor_distrib_right]
theorem bit_cases (a i : Nat) : (a >>> i) &&& 1 = 0 ∨ (a >>> i) &&& 1 = 1 := by
  have : (a >>> i) &&& 1 = (a >>> i) % 2 := Nat.and_two_pow_sub_one_eq_mod (a >>> i) 1
  omega
theorem innN_xor (a b : Nat) : ∀ i, innN (a ^^^ b) i 0 = innN a i 0 ^^^ innN b i 0
  | 0 => by simp [innN]
  | i + 1 => by
    unfold innN
    rw [innN_xor a b i, bit_xor]
    rcases bit_cases a i with h1 | h1 <;> rcases bit_cases b i with h2 | h2 <;> rw [h1, h2] <;> simp
    · rw [Nat.xor_assoc]
    · rw [Nat.xor_assoc, Nat.xor_assoc, Nat.xor_comm (genN i)]
    · rw [Nat.xor_assoc, Nat.xor_comm (genN i), Nat.xor_assoc, Nat.xor_self, Nat.xor_zero]
def fN (c : Nat) : Nat := innN (c >>> 20) 10 0 ^^^ ((c &&& 1048575) <<< 10)
theorem polyStep_fN (c v : Nat) : polyStep c v = fN c ^^^ v := by
  unfold polyStep fN
  rw [innN_split, Nat.xor_comm, Nat.xor_assoc]
theorem fN_xor (a b : Nat) : fN (a ^^^ b) = fN a ^^^ fN b := by
  unfold fN
  rw [Nat.shiftRight_xor_distrib, innN_xor, Nat.and_xor_distrib_right, Nat.shiftLeft_xor_distrib]
  ac_rfl
theorem fN_small (x : Nat) (h : x < 1048576) : fN x = x <<< 10 := by
  unfold fN
  have e1 : x >>> 20 = 0 := by rw [Nat.shiftRight_eq_div_pow]; exact Nat.div_eq_of_lt h
  have e2 : x &&& 1048575 = x := by
    have : x &&& 1048575 = x % 1048576 := Nat.and_two_pow_sub_one_eq_mod x 20
    rw [this, Nat.mod_eq_of_lt h]
  have e3 : innN 0 10 0 = 0 := by decide
  rw [e1, e2, e3, Nat.zero_xor]
theorem polyN_three (d : List Nat) (x y z : Nat) : polyN (d ++ [x, y, z]) = polyStep (polyStep (polyStep (polyN d) x) y) z := by
  unfold polyN; rw [List.foldl_append]; rfl
theorem polyN_lt_of (d : List Nat) (x y z : Nat) (hz : z < 1024) : polyN (d ++ [x, y, z]) < 1073741824 := by
  rw [polyN_three]; exact polyStep_lt _ _ hz
theorem split30 (r : Nat) (h : r < 1073741824) : ((r >>> 20) &&& 1023) <<< 20 ^^^ (((r >>> 10) &&& 1023) <<< 10) ^^^ (r &&& 1023) = r := by
  refine Nat.eq_of_testBit_eq fun i => ?_
  have e : (1023 : Nat) = 2 ^ 10 - 1 := by decide
  rw [e]
  simp only [Nat.testBit_xor, Nat.testBit_shiftLeft, Nat.testBit_and, Nat.testBit_shiftRight, Nat.testBit_two_pow_sub_one]
  by_cases h1 : i < 10
  · have a : ¬ i ≥ 20 := by omega
    have b : ¬ i ≥ 10 := by omega
    simp [h1, a, b]
  · by_cases h2 : i < 20
    · have a : ¬ i ≥ 20 := by omega
      have b : i ≥ 10 := by omega
      have c : i - 10 < 10 := by omega
      have e1 : 10 + (i - 10) = i := by omega
      simp [h1, a, b, c, e1]
    · by_cases h3 : i < 30
      · have a : i ≥ 20 := by omega
        have b : i ≥ 10 := by omega
        have c : i - 20 < 10 := by omega
        have c2 : ¬ i - 10 < 10 := by omega
        have e1 : 20 + (i - 20) = i := by omega
        simp [h1, a, b, c, c2, e1]
      · have a : i ≥ 20 := by omega
        have b : i ≥ 10 := by omega
        have c : ¬ i - 20 < 10 := by omega
        have c2 : ¬ i - 10 < 10 := by omega
        have z : r.testBit i = false := Nat.testBit_lt_two_pow (Nat.lt_of_lt_of_le h (by
          have : (1073741824 : Nat) = 2 ^ 30 := by decide
          rw [this]; exact Nat.pow_le_pow_right (by decide) (by omega)))
        simp [h1, a, b, c, c2, z]
theorem poly_law (d : List Nat) : polyN (d ++ chkN d) = 1 := by
  unfold chkN
  generalize hr : polyN (d ++ [0, 0, 0]) ^^^ 1 = r
  have hlt : r < 1073741824 := by
    rw [← hr]
    exact Nat.xor_lt_two_pow (n := 30) (polyN_lt_of d 0 0 0 (by decide)) (by decide)
  rw [polyN_three] at hr ⊢
  simp only [polyStep_fN, fN_xor, Nat.xor_zero] at hr ⊢
  have x1 : (r >>> 20) &&& 1023 < 1024 := Nat.lt_succ_of_le Nat.and_le_right
  have y1 : (r >>> 10) &&& 1023 < 1024 := Nat.lt_succ_of_le Nat.and_le_right
  have hs := split30 r hlt
  generalize (r >>> 20) &&& 1023 = x at x1 hs ⊢
  generalize (r >>> 10) &&& 1023 = y at y1 hs ⊢
  generalize r &&& 1023 = z at hs ⊢
  have fx : fN x = x <<< 10 := fN_small x (by omega)
  have fy : fN y = y <<< 10 := fN_small y (by omega)
  have hx2 : x <<< 10 < 1048576 := by rw [Nat.shiftLeft_eq]; omega
  have ffx : fN (x <<< 10) = x <<< 20 := by
    rw [fN_small _ hx2, ← Nat.shiftLeft_add]
  rw [fx, fy, ffx]
  generalize fN (fN (fN (polyN d))) = R at hr ⊢
  have : R ^^^ x <<< 20 ^^^ y <<< 10 ^^^ z = R ^^^ (x <<< 20 ^^^ y <<< 10 ^^^ z) := by ac_rfl
  rw [this, hs, ← hr, ← Nat.xor_assoc, Nat.xor_self, Nat.zero_xor]
end
section
set_option maxRecDepth 100000
set_option maxHeartbeats 1000000
theorem allN_shape (S : Sh) : ∃ c0 c1 c2, allN S = wordsN (idexpN S) 2 ++ (wordsN (paramN S) 2 ++ (wordsN (bigN S.val) (wcN S) ++ [c0, c1, c2])) := by
  obtain ⟨c0, c1, c2, e⟩ : ∃ c0 c1 c2, chkN ((custN S.ext).toList.map (fun b => b.toNat) ++ dataN S) = [c0, c1, c2] := ⟨_, _, _, rfl⟩
  refine ⟨c0, c1, c2, ?_⟩
  unfold allN
  rw [e]
  unfold dataN
  rw [List.append_assoc, List.append_assoc]
theorem take2 (S : Sh) : (allN S).take 2 = wordsN (idexpN S) 2 := by
  obtain ⟨c0, c1, c2, e⟩ := allN_shape S
  rw [e, List.take_left' (wordsN_len _ 2)]
theorem drop2 (S : Sh) : ((allN S).drop 2).take 2 = wordsN (paramN S) 2 := by
  obtain ⟨c0, c1, c2, e⟩ := allN_shape S
  rw [e, List.drop_left' (wordsN_len _ 2), List.take_left' (wordsN_len _ 2)]
theorem allN_length (S : Sh) : (allN S).length = 7 + wcN S := by
  obtain ⟨c0, c1, c2, e⟩ := allN_shape S
  rw [e, List.length_append, List.length_append, List.length_append, wordsN_len, wordsN_len, wordsN_len]
  simp; omega
theorem mid (S : Sh) : ((allN S).drop 4).take (wcN S) = wordsN (bigN S.val) (wcN S) := by
  obtain ⟨c0, c1, c2, e⟩ := allN_shape S
  rw [e, ← List.append_assoc, List.drop_left' (by rw [List.length_append, wordsN_len, wordsN_len]), List.take_left' (wordsN_len _ _)]
theorem allN_small (S : Sh) : ∀ x ∈ allN S, x < 1024 := small_app (small_app (small_app (wordsN_small _ _) (wordsN_small _ _)) (wordsN_small _ _)) (chkN_small _)
theorem idexp_lt (S : Sh) (ok : ShOk S) : idexpN S < 1024 ^ 2 := by
  have h := lt16 (n := 65536) (a := S.id * 2 + b2n S.ext) (by have := ok.id; have := b2n_lt S.ext; omega) ok.exp
  unfold idexpN
  rw [Nat.add_mul, Nat.mul_assoc] at h
  exact h
theorem param_lt (S : Sh) (ok : ShOk S) : paramN S < 1024 ^ 2 := by
  obtain ⟨h1, h2, h3, h4, h5, h6, h7⟩ := ok
  exact lt16 (n := 65536) (lt16 (n := 4096) (lt16 (n := 256) (lt16 h3 (pred16 h4)) (pred16 h5)) h6) (pred16 h7)
theorem big_lt (S : Sh) : bigN S.val < 1024 ^ wcN S := by
  have h := bigN_lt S.val
  refine Nat.lt_of_lt_of_le h ?_
  have e1 : (256 : Nat) = 2 ^ 8 := by decide
  have e2 : (1024 : Nat) = 2 ^ 10 := by decide
  rw [e1, e2, ← Nat.pow_mul, ← Nat.pow_mul]
  refine Nat.pow_le_pow_right (by decide) ?_
  unfold wcN
  omega
theorem hv1_of (S : Sh) (ok : ShOk S) : fromN ((allN S).take 2) = idexpN S := by rw [take2, fromN_wordsN 2 _ (idexp_lt S ok)]
theorem hv2_of (S : Sh) (ok : ShOk S) : fromN (((allN S).drop 2).take 2) = paramN S := by rw [drop2, fromN_wordsN 2 _ (param_lt S ok)]
theorem hv3_of (S : Sh) : fromN (((allN S).drop 4).take (wcN S)) = bigN S.val := by rw [mid, fromN_wordsN _ _ (big_lt S)]
theorem hver_of (S : Sh) : polyN ((custN S.ext).toList.map (fun b => b.toNat) ++ allN S) = 1 := by
  unfold allN
  rw [← List.append_assoc]
  exact poly_law _
/-- sizes 16, 18, .. 24 -/
theorem sizes (S : Sh) (h1 : 16 ≤ S.val.size) (h2 : S.val.size ≤ 24) (h3 : S.val.size % 2 = 0) :
    20 ≤ (allN S).length ∧ (allN S).length ≤ 40 ∧ (10 * ((allN S).length - 7)) % 16 ≤ 8 ∧ (10 * wcN S - (10 * ((allN S).length - 7)) % 16 + 7) / 8 = S.val.size ∧ (10 * ((allN S).length - 7)) % 16 ≤ 10 * wcN S := by
  rw [allN_length]
  unfold wcN
  have hc : S.val.size = 16 ∨ S.val.size = 18 ∨ S.val.size = 20 ∨ S.val.size = 22 ∨ S.val.size = 24 := (by decide : ∀ z, z < 25 → (16 ≤ z ∧ z % 2 = 0) → z = 16 ∨ z = 18 ∨ z = 20 ∨ z = 22 ∨ z = 24) _ (Nat.lt_succ_of_le h2) ⟨h1, h3⟩
  rcases hc with e | e | e | e | e <;> rw [e] <;> decide
open PySem.W.KTBy (little)
theorem big_snoc (l : List UInt8) (c : UInt8) : (l ++ [c]).foldl (fun (acc : Nat) (c : UInt8) => acc * 256 + c.toNat) 0 = l.foldl (fun (acc : Nat) (c : UInt8) => acc * 256 + c.toNat) 0 * 256 + c.toNat := by
  rw [List.foldl_append]; rfl
theorem little_big : ∀ (n : Nat) (l : List UInt8), l.length = n → little n ((l.foldl (fun (acc : Nat) (c : UInt8) => acc * 256 + c.toNat) 0 : Nat) : Int) = (l.reverse.map fun c => ((c.toNat : Nat) : Int))
  | 0, l, h => by
    have : l = [] := List.eq_nil_of_length_eq_zero h
    subst this; rfl
  | n + 1, l, h => by
    have hne : l ≠ [] := by intro e; subst e; simp at h
    obtain ⟨r, c, rfl⟩ : ∃ r c, l = r ++ [c] := ⟨l.dropLast, l.getLast hne, (List.dropLast_concat_getLast hne).symm⟩
    have hr : r.length = n := by simpa using h
    rw [big_snoc]
    generalize hX : r.foldl (fun (acc : Nat) (c : UInt8) => acc * 256 + c.toNat) 0 = X
    have ih := little_big n r hr
    rw [hX] at ih
    have hc := c.toNat_lt
    show ((X * 256 + c.toNat : Nat) : Int) % 256 :: little n (((X * 256 + c.toNat : Nat) : Int) / 256) = _
    have e1 : ((X * 256 + c.toNat : Nat) : Int) % 256 = (c.toNat : Int) := by omega
    have e2 : ((X * 256 + c.toNat : Nat) : Int) / 256 = (X : Int) := by omega
    rw [e1, e2, ih]
    simp
theorem bytes_back (v b : Array UInt8) (h : KBw.bInts b = (little v.size ((bigN v : Nat) : Int)).reverse) : b = v := by
  unfold bigN at h
  rw [little_big v.size v.toList (Array.length_toList), ← List.map_reverse, List.reverse_reverse] at h
  unfold KBw.bInts at h
  have : b.toList = v.toList := by
    have inj : ∀ (l l' : List UInt8), l.map (fun c => ((c.toNat : Nat) : Int)) = l'.map (fun c => ((c.toNat : Nat) : Int)) → l = l' := by
      intro l
      induction l with
      | nil => intro l' e; cases l' with | nil => rfl | cons _ _ => cases e
      | cons x r ih =>
        intro l' e
        cases l' with
        | nil => cases e
        | cons y r' =>
          rw [List.map_cons, List.map_cons] at e
          have h1 := (List.cons.inj e).1
          have h2 := (List.cons.inj e).2
          have hxy : x = y := UInt8.toNat_inj.mp (by omega)
          rw [hxy, ih r' h2]
    exact inj _ _ h
  exact Array.toList_inj.mp this
end
section
theorem offM25 : True := by w_top off; trivial
local macro_rules | `(tactic| walk_at "mine pad") => `(tactic| skip)
open PyProof.Rows.LCg (NsObj lst lst_snoc Off3 Off1 ns_obj fr_but news_but)
set_option maxRecDepth 100000
set_option maxHeartbeats 40000000
local macro_rules | `(tactic| walk_at "call builtin:len") => `(tactic| (k_here; (with_reducible show wpAny _ _ (call (Value.builtin "len") [Value.ref _]) _ _ _); k_dflt (refine' len_N ?l ?i ?f ?_; (case l => is_list); (case i => with_reducible assumption); (case f => omega)); intro _))
local macro_rules | `(tactic| walk_at "ite") => `(tactic| (with_reducible show @ite Prop (decide _ = true) _ _ _; k_dflt (first | (refine ite_neg (fun hc => absurd (of_decide_eq_true hc) ?hcond) ?_; (case hcond => omega)) | (refine ite_pos (decide_eq_true ?hcond) ?_; (case hcond => omega)))))
local macro_rules | `(tactic| walk_at "call ref") => `(tactic| (k_here; (with_reducible show wpAny _ _ (call (Value.ref 67) [Value.int _ _]) _ _ _); k_dflt (refine' b2b_spec _ _ _ ?kN ?kB ?kF ?kX ?kT ?kk ?kd ?ku ?_ rfl; (case kN => k_asm); (case kB => k_asm); (case kF => k_asm); (case kX => k_asm); (case kT => k_asm); (case kk => rfl); (case kd => walk_at "mine depth"); (case ku => walk_at "mine depth")); intro t' h' tk' F' N'; (try k_sweep)))
variable {p : Program} {loose : List Str} {mean : ExcName → Option Value} {mg mb : Str → Option Value}
  {dp un : Nat} {gd : Option (List Code)} {cn : Str} {cs : Scope} {a : Addr} {ccd : Value} {cl : List (Str × Addr)} {outer : List Env}
  {A₀ : Around} {E Q : Value → Shared → Prop} {s : Shared} {base h₀ : Heap} {L : Addr} {m : Str → Option Value} {news : List (Addr × Obj)}
theorem idexp16 (S : Sh) : idexpN S = (S.id * 2 + b2n S.ext) * 16 + S.exp := by unfold idexpN; rw [Nat.add_mul, Nat.mul_assoc]
theorem ext_val (S : Sh) (ok : ShOk S) : (Builtin.bitAnd (((idexpN S : Nat) : Int).fdiv (2 ^ Int.toNat 4)) 1 != 0) = S.ext := by
  have e1 : ((idexpN S : Nat) : Int).fdiv (2 ^ Int.toNat 4) = ((idexpN S >>> 4 : Nat) : Int) := shr_n _ 4
  have e2 : Builtin.bitAnd ((idexpN S >>> 4 : Nat) : Int) 1 = (((idexpN S >>> 4) &&& 1 : Nat) : Int) := bAnd_n _ 1
  rw [e1, e2]
  have h1 : (idexpN S >>> 4) &&& 1 = b2n S.ext := by
    have e3 : (idexpN S >>> 4) &&& 1 = (idexpN S >>> 4) % 2 := Nat.and_two_pow_sub_one_eq_mod (idexpN S >>> 4) 1
    rw [e3, Nat.shiftRight_eq_div_pow]
    rw [idexp16, show (2 : Nat) ^ 4 = 16 from rfl, d16 _ ok.exp, Nat.add_comm, Nat.mul_comm, Nat.add_mul_mod_self_left, Nat.mod_eq_of_lt (b2n_lt _)]
  rw [h1]
  cases S.ext <;> rfl
theorem id_val (S : Sh) (ok : ShOk S) : ((idexpN S : Nat) : Int).fdiv (2 ^ (1 + 4 : Int).toNat) = (S.id : Int) := by
  have e1 : ((idexpN S : Nat) : Int).fdiv (2 ^ (1 + 4 : Int).toNat) = ((idexpN S >>> 5 : Nat) : Int) := shr_n _ 5
  rw [e1, Nat.shiftRight_eq_div_pow, idexp16, show (2 : Nat) ^ 5 = 16 * 2 from rfl, ← Nat.div_div_eq_div_mul, d16 _ ok.exp, Nat.add_comm, Nat.add_mul_div_right _ _ (by decide), Nat.div_eq_of_lt (b2n_lt _), Nat.zero_add]
theorem exp_val (S : Sh) (ok : ShOk S) : Builtin.bitAnd ((idexpN S : Nat) : Int) (1 * 2 ^ Int.toNat 4 - 1) = (S.exp : Int) := by
  rw [show ((1 : Int) * 2 ^ Int.toNat 4 - 1) = ((15 : Nat) : Int) from by decide]
  have e1 : Builtin.bitAnd ((idexpN S : Nat) : Int) ((15 : Nat) : Int) = ((idexpN S &&& 15 : Nat) : Int) := bAnd_n _ 15
  have e2 : idexpN S &&& 15 = idexpN S % 16 := Nat.and_two_pow_sub_one_eq_mod _ 4
  rw [e1, e2, idexp16, m16 _ ok.exp]
theorem par_vals (S : Sh) (ok : ShOk S) : (paramN S >>> ((5 - 1 - 0) * 4)) &&& 15 = S.gi ∧ (paramN S >>> ((5 - 1 - 1) * 4)) &&& 15 = S.gt - 1 ∧ (paramN S >>> ((5 - 1 - 2) * 4)) &&& 15 = S.gc - 1 ∧ (paramN S >>> ((5 - 1 - 3) * 4)) &&& 15 = S.ix ∧ (paramN S >>> ((5 - 1 - 4) * 4)) &&& 15 = S.mt - 1 := by
  obtain ⟨h1, h2, h3, h4, h5, h6, h7⟩ := ok
  have e : ∀ a k : Nat, (a >>> k) &&& 15 = a / 2 ^ k % 16 := fun a k => by
    rw [Nat.shiftRight_eq_div_pow]; exact Nat.and_two_pow_sub_one_eq_mod _ 4
  simp only [e]
  unfold paramN
  have q2 := pred16 h4
  have q3 := pred16 h5
  have q5 := pred16 h7
  have c2 : ∀ x, x / 256 = x / 16 / 16 := fun x => by rw [Nat.div_div_eq_div_mul]
  have c3 : ∀ x, x / 4096 = x / 16 / 16 / 16 := fun x => by rw [Nat.div_div_eq_div_mul, Nat.div_div_eq_div_mul]
  have c4 : ∀ x, x / 65536 = x / 16 / 16 / 16 / 16 := fun x => by rw [Nat.div_div_eq_div_mul, Nat.div_div_eq_div_mul, Nat.div_div_eq_div_mul]
  simp only [Nat.reduceSub, Nat.reduceMul, Nat.reducePow, c2, c3, c4, d16 _ q5, d16 _ h6, d16 _ q3, d16 _ q2, m16 _ q5, m16 _ h6, m16 _ q3, m16 _ q2, Nat.mod_eq_of_lt h3, Nat.div_one, true_and]
theorem cons_of_len {vs : List Value} {n : Nat} (h : vs.length = n + 1) : ∃ a r, vs = a :: r ∧ r.length = n := by
  cases vs with
  | nil => cases h
  | cons a r => exact ⟨a, r, rfl, Nat.succ.inj h⟩
theorem list5 {vs : List Value} (h : vs.length = 5) : ∃ v0 v1 v2 v3 v4, vs = [v0, v1, v2, v3, v4] := by
  obtain ⟨v0, r0, e0, h0⟩ := cons_of_len h
  obtain ⟨v1, r1, e1, h1⟩ := cons_of_len h0
  obtain ⟨v2, r2, e2, h2⟩ := cons_of_len h1
  obtain ⟨v3, r3, e3, h3⟩ := cons_of_len h2
  obtain ⟨v4, r4, e4, h4⟩ := cons_of_len h3
  exact ⟨v0, v1, v2, v3, v4, by rw [e0, e1, e2, e3, e4, List.length_eq_zero_iff.mp h4]⟩
theorem code_noRaise {M : Model} {A : Around} {c : Code} {Q E : Value → Shared → Prop} {s : Shared} (h : codeAny M A c (fun r s' => match r with | .ok (.ret v) => Q v s' | .ok _ => False | .error e => (fun _ _ => False : Value → Shared → Prop) e s') s) :
    codeAny M A c (fun r s' => match r with | .ok (.ret v) => Q v s' | .ok _ => False | .error e => E e s') s :=
  codeAny_mono h fun r s' z => by
    rcases r with e | f
    · exact z.elim
    · cases f <;> exact z
theorem hfm_of {n : Nat} (h : 7 ≤ n) : (10 * ((n : Nat) - 7 : Int)).fmod 16 = ((10 * (n - 7) % 16 : Nat) : Int) := by
  rw [Int.fmod_eq_emod_of_nonneg _ (by decide), show ((n : Int) - 7) = ((n - 7 : Nat) : Int) from (Int.ofNat_sub h).symm]
  rfl
theorem pred_cast {x : Nat} (h : 1 ≤ x) : ((x - 1 : Nat) : Int) + 1 = (x : Int) := by omega
theorem min_42 {n : Nat} (h : 20 ≤ n) : min 4 n - 2 = 2 := by rw [Nat.min_eq_left (Nat.le_trans (by decide) h)]
theorem le_big {n k : Nat} (h : n ≤ 40) (hk : k ≤ n) : k ≤ 1000000 := Nat.le_trans hk (Nat.le_trans h (by decide))
theorem fm_code (w : World) (ns : List Nat) (S : Sh) (tn : Tok) (hns : ∀ x ∈ ns, x < 1024) (hlen : 20 ≤ ns.length ∧ ns.length ≤ 40) (hpad : (10 * (ns.length - 7)) % 16 ≤ 8) (ok : ShOk S) (hgg : S.gt ≤ S.gc)
  (hv1 : fromN (ns.take 2) = idexpN S) (hv2 : fromN ((ns.drop 2).take 2) = paramN S) (hv3 : fromN ((ns.drop 4).take (ns.length - 7)) = bigN S.val) (hsz : S.val.size ≤ 24)
  (hcnt : (10 * ((ns.length - 7 : Nat) : Int) - (10 * ((ns.length : Nat) - 7 : Int)).fmod 16 + 8 - 1).fdiv 8 = (S.val.size : Int)) (hver : polyN ((custN S.ext).toList.map (fun b => b.toNat) ++ ns) = 1)
  (oA : Obj) (tA : TabOk oA) (N : News h₀ L s.heap ((76, oA) :: news)) (hne : ∀ p ∈ news, p.1 ≠ 76) (C76 : CodeHd h₀ 80 76) (G : AllBare s.gens)
  (B : Below A₀ base outer h₀) (F : Fr h₀ L s.heap m) (X : (Mine.hd.heap_1 w.params).In h₀)  (T : Top p loose mean mg mb h₀)
  (hk : cs.kind = .function) (hd : dp + 120 < recursionLimit) (hu : un + 800 < cLine)
  (ret : ∀ x d od h' tk' g' oA', AllBare g' → TabOk oA' → Fr h₀ L h' m → News h₀ L h' ((x, instObj 415 d) :: (d, od) :: (76, oA') :: news) → (∀ p ∈ (76, oA) :: news, p.1 < d) → @LT.lt Nat _ d x → IsSh w S od → Q (.ref x) ⟨h', g', s.drawn, tk', s.os⟩)
  (hrw : PySem.Challenge.rw_ja0052_01 = PySem.Challenge.rw_ja0052_01) :
  codeAny (model PySem.Challenge.pw_ja0052_01 w) (ktrTop dp un gd cn cs L a ccd cl outer) (.call (.ref 409) ⟨[.ref 415, .str (mnemS ns) tn], []⟩) (fun r s' => match r with | .ok (.ret v) => Q v s' | .ok _ => False | .error e => E e s') s := by
  refine code_noRaise ?_
  revert X hrw
  k_fill
  intro X hrw
  clear hrw
  (k_dflt (refine' code_def ?k1 ?k2 ?k3 ?k4 ?k5 ?kA ?kF ?kK ?k6 ?k7 ?k8 ?k9 ?kB ?_ ?c2 ?c3 ?c4 ?c5; (case kA => first | with_reducible assumption | exact rfl); (case kF => first | with_reducible assumption | exact rfl); (case kK => first | with_reducible assumption | exact rfl | assumption); (case k1 => k_asm); (case k2 => k_asm); (case k3 => k_asm); (case k4 => k_asm); (case k5 => k_asm); (case k6 => k_is); (case k7 => k_is); (case k8 => k_room); (case k9 => exact BindsTo.of_eq rfl); (case c5 => decide); (case kB => exact locs rfl); (case c2 => exact rfl); (case c3 => exact rfl); (case c4 => exact rfl); k_whole; intro g1 L1 _ FG1 FF _ B1 X1 T1; (try dsimp only); (try k_fold)))
  refine letA ?_
  intro A9
  replace FF := fr_lookup (show Fr _ _ _ (fun y => List.lookup y [(Str.ofString "mnemonic", _), (Str.ofString "cls", _)]) from FF)
  dsimp only [List.map] at FF
  (repeat ((fail_if_success (with_reducible show wpAny _ _ (call (Value.ref 109) _ _) _ _ _)); first | (dsimp only; (with_reducible show wpAny _ _ (call (Value.ref 109) _ _) _ _ _)) | k_unfold | walk1 | (dsimp only; walk1) | (leave1; try dsimp only)))
  refine' m2i_spec _ ns _ hns hlen.2 ?kN ?kB ?kF ?kX ?kT ?kk ?kd ?ku ?_ rfl
  case kN => k_asm
  case kB => k_asm
  case kF => k_asm
  case kX => k_asm
  case kT => k_asm
  case kk => rfl
  case kd => walk_at "mine depth"
  case ku => walk_at "mine depth"
  intro D0 us0 n0 h0 tk0 F2 N2 lD0 hN0
  k_lt lD0
  have hI0 : IntsAre us0 (List.map (fun n : Nat => (n : Int)) ns) := hN0
  have hl0 := hN0.len
  have hfm : (10 * ((ns.length : Nat) - 7 : Int)).fmod 16 = ((10 * (ns.length - 7) % 16 : Nat) : Int) :=
    hfm_of (Nat.le_trans (by decide) hlen.1)
  (repeat ((fail_if_success (with_reducible show wpAny _ _ (call (Value.ref 166) _ _) _ _ _)); first | (dsimp only; (with_reducible show wpAny _ _ (call (Value.ref 166) _ _) _ _ _)) | k_unfold | walk1 | (dsimp only; walk1) | (leave1; try dsimp only)))
  rename_i D1 us1 _ hI1 _ _ lD1 _ _ _ _
  try (rename (List.length _ = min _ _) => hm9; clear hm9)
  have hN1 : NatsAre us1 (ns.take 2) := by unfold NatsAre; rw [List.map_take]; exact hI1
  refine' ifw_spec _ D1 _ (ns.take 2) _ ?kN (.head _) hN1 ?kB ?kF ?kX ?kT ?kk ?kd ?ku ?_ rfl
  case kN => k_asm
  case kB => k_asm
  case kF => k_asm
  case kX => k_asm
  case kT => k_asm
  case kk => rfl
  case kd => walk_at "mine depth"
  case ku => walk_at "mine depth"
  intro t1 h1 tk1 F3 N3
  rw [hv1]
  clear hI1
  (repeat ((fail_if_success (with_reducible show wpAny _ _ (call (Value.ref 40) _ _) _ _ _)); first | (dsimp only; (with_reducible show wpAny _ _ (call (Value.ref 40) _ _) _ _ _)) | k_unfold | walk1 | (dsimp only; walk1) | (leave1; try dsimp only)))
  rw [ext_val S ok]
  refine' verify_spec _ D0 us0 ns _ _ _ ?kN (.tail _ (.head _)) hN0 hns (by cases S.ext <;> decide) (by omega) ?kB ?kF ?kX ?kT ?kk ?kd ?ku ?_ rfl
  case kN => k_asm
  case kB => k_asm
  case kF => k_asm
  case kX => k_asm
  case kT => k_asm
  case kk => rfl
  case kd => walk_at "mine depth"
  case ku => walk_at "mine depth"
  intro h2 tk2 F4 N4
  have ev : (((polyN ((custN S.ext).toList.map (fun b => b.toNat) ++ ns) : Nat) : Int) == 1) = true := by rw [hver]; rfl
  rw [ev]
  (repeat ((fail_if_success (with_reducible show wpAny _ _ (call (Value.ref 166) _ _) _ _ _)); first | (dsimp only; (with_reducible show wpAny _ _ (call (Value.ref 166) _ _) _ _ _)) | k_unfold | walk1 | (dsimp only; walk1) | (leave1; try dsimp only)))
  rename_i D2 us2 _ hI2 _ _ lD2 _ _ _ _
  try (rename (List.length _ = min _ _) => hm9; clear hm9)
  have e22 : min (2 + 2 : Int).toNat (List.map (fun n : Nat => (n : Int)) ns).length - 2 = 2 := by
    rw [List.length_map, show (2 + 2 : Int).toNat = 4 from rfl]; exact min_42 hlen.1
  have hN2 : NatsAre us2 ((ns.drop 2).take 2) := by
    unfold NatsAre
    rw [List.map_take, List.map_drop]
    rw [e22] at hI2
    exact hI2
  refine' ifw_spec _ D2 _ ((ns.drop 2).take 2) _ ?kN (.head _) hN2 ?kB ?kF ?kX ?kT ?kk ?kd ?ku ?_ rfl
  case kN => k_asm
  case kB => k_asm
  case kF => k_asm
  case kX => k_asm
  case kT => k_asm
  case kk => rfl
  case kd => walk_at "mine depth"
  case ku => walk_at "mine depth"
  intro t3 h3 tk3 F5 N5
  rw [hv2]
  clear hI2 hI0
  (repeat ((fail_if_success (with_reducible show wpAny _ _ (call (Value.ref 81) _ _) _ _ _)); first | (dsimp only; (with_reducible show wpAny _ _ (call (Value.ref 81) _ _) _ _ _)) | k_unfold | walk1 | (dsimp only; walk1) | (leave1; try dsimp only)))
  rename News _ _ _ _ => N6
  have hH : ∀ p ∈ (D2, listOf us2.toArray 0) :: (D1, listOf us1.toArray 0) :: (D0, listOf us0.toArray n0) :: news, p.1 ≠ 76 := by
    intro p hp
    rcases List.mem_cons.mp hp with rfl | hp
    · exact Nat.ne_of_gt lD2.2.2.1
    · rcases List.mem_cons.mp hp with rfl | hp
      · exact Nat.ne_of_gt lD1.2.1
      · rcases List.mem_cons.mp hp with rfl | hp
        · exact Nat.ne_of_gt lD0.1
        · exact hne p hp
  refine' i2i_pos (oA := oA) (news := (D2, listOf us2.toArray 0) :: (D1, listOf us1.toArray 0) :: (D0, listOf us0.toArray n0) :: news) _ (paramN S) _ _ _ 5 (by decide) tA ?kN hH (C76.keeps FG1.keep) ?kB ?kF ?kX ?kT ?kk ?kd ?ku G ?_ rfl
  case kN => exact News.sub N6 (by walk_at "mine sub")
  case kB => k_asm
  case kF => k_asm
  case kX => k_asm
  case kT => k_asm
  case kk => rfl
  case kd => walk_at "mine depth"
  case ku => walk_at "mine depth"
  intro a' C r fp own h4 tk4 g4 oA4 gi G4 tA4 F7 N7 HD ha hord ⟨oC, hC⟩ ⟨or', hr⟩ XR
  have NC := (N7 _ (List.mem_append_left _ hC)).2
  have Nr := (N7 _ (List.mem_append_left _ hr)).2
  have keepN : ∀ h'' m'', Fr g1 L1 h'' m'' → News g1 L1 h'' (own ++ (76, oA4) :: (D2, listOf us2.toArray 0) :: (D1, listOf us1.toArray 0) :: (D0, listOf us0.toArray n0) :: news) → ∀ b ∈ fp, ∀ o, h4.get? b = some o → h''.get? b = some o :=
    fun h'' m'' F'' N'' => HD.keeps F7 N7 F'' N'' (fun p hp => List.mem_append_left _ hp) (fun p hp => List.mem_append_left _ hp)
  (repeat ((fail_if_success (with_reducible show wpAny _ _ (assign (Expr.Tuple _ _ _) _ _) _ _ _)); first | k_unfold | walk1 | (dsimp only; walk1) | (leave1; try dsimp only)))
  rename News _ _ _ _ => N8
  rename Fr _ _ _ _ => F8
  refine assign_gen (news := (76, oA4) :: (D2, listOf us2.toArray 0) :: (D1, listOf us1.toArray 0) :: (D0, listOf us0.toArray n0) :: news) (XR.at (keepN _ _ F8 N8)) rfl rfl (by walk_at "mine depth") (by walk_at "mine depth") F8 (News.sub N8 (fun p hp => List.mem_append_right _ hp)) G4 ?_ ?_ ?_ rfl rfl ?_
  · intro hm
    rcases List.mem_cons.mp hm with e | hm
    · exact NC.1 e.symm
    · exact Nr.1 (List.mem_singleton.mp hm).symm
  · intro b hb
    rcases List.mem_cons.mp hb with rfl | hb
    · exact NC.2
    · rw [List.mem_singleton.mp hb]; exact Nr.2
  · intro q hq hm
    have hq' : ∃ o, (q.1, o) ∈ (76, oA) :: (D2, listOf us2.toArray 0) :: (D1, listOf us1.toArray 0) :: (D0, listOf us0.toArray n0) :: news := by
      rcases List.mem_cons.mp hq with rfl | hq
      · exact ⟨_, .head _⟩
      · exact ⟨q.2, .tail _ hq⟩
    obtain ⟨o, ho⟩ := hq'
    rcases List.mem_cons.mp hm with e | hm
    · exact Nat.ne_of_lt (hord _ hC _ ho) e
    · exact Nat.ne_of_lt (hord _ hr _ ho) (List.mem_singleton.mp hm)
  · intro h5 tk5 g5 vs G5 F9 N9 hl5 hvs
    obtain ⟨v0, v1, v2, v3, v4, rfl⟩ : ∃ v0 v1 v2 v3 v4, vs = [v0, v1, v2, v3, v4] := by
      exact list5 hl5
    obtain ⟨_, u0, rfl⟩ := hvs 0 v0 rfl
    obtain ⟨_, u1, rfl⟩ := hvs 1 v1 rfl
    obtain ⟨_, u2, rfl⟩ := hvs 2 v2 rfl
    obtain ⟨_, u3, rfl⟩ := hvs 3 v3 rfl
    obtain ⟨_, u4, rfl⟩ := hvs 4 v4 rfl
    obtain ⟨p0, p1, p2, p3, p4⟩ := par_vals S ok
    rw [p0, p1, p2, p3, p4]
    clear hvs XR N8 F8 HD keepN
    have hI0 : IntsAre us0 (List.map (fun n : Nat => (n : Int)) ns) := hN0
    have hg1 := hgg
    have hg2 := ok.gt
    have hg3 := ok.gc
    (repeat ((fail_if_success (with_reducible show wpAny _ _ (call (Value.builtin "len") _ _) _ _ _)); first | k_unfold | walk1 | (dsimp only; walk1) | (leave1; try dsimp only)))
    rename News _ _ _ _ => N10
    rename Fr _ _ _ _ => F10
    rename_i D3 us3 _ hI3 hC3 hL3 lD3 _ _
    have e7 : ns.length - 3 - (2 + 2 : Int).toNat = ns.length - 7 := by rw [show (2 + 2 : Int).toNat = 4 from rfl]; exact Nat.sub_sub _ 3 4
    have hN3 : NatsAre us3 ((ns.drop 4).take (ns.length - 7)) := by
      unfold NatsAre
      rw [List.map_take, List.map_drop]
      rw [List.length_map, e7] at hI3
      exact hI3
    have hlen3 : ((ns.drop 4).take (ns.length - 7)).length = ns.length - 7 := by
      rw [List.length_take, List.length_drop]; exact Nat.min_eq_left (Nat.sub_le_sub_left (by decide) _)
    clear hI3 hI0 hC3 hL3
    refine len_N (ledL N10 (.head _)) hN3 (le_big hlen.2 (by rw [hlen3]; exact Nat.sub_le _ _)) ?_
    intro tl
    rw [hlen3]
    (repeat ((fail_if_success (with_reducible show wpAny _ _ (call (Value.ref 166) _ _) _ _ _)); first | (dsimp only; (with_reducible show wpAny _ _ (call (Value.ref 166) _ _) _ _ _)) | k_unfold | walk1 | (dsimp only; walk1) | (leave1; try dsimp only)))
    refine' ifw_spec _ D3 _ ((ns.drop 4).take (ns.length - 7)) _ ?kN (.head _) hN3 ?kB ?kF ?kX ?kT ?kk ?kd ?ku ?_ rfl
    case kN => k_asm
    case kB => k_asm
    case kF => k_asm
    case kX => k_asm
    case kT => k_asm
    case kk => rfl
    case kd => walk_at "mine depth"
    case ku => walk_at "mine depth"
    intro t6 h6 tk6 F11 N11
    rw [hv3]
    (repeat ((fail_if_success (with_reducible show wpAny _ _ (call (Value.builtin "int.to_bytes") _ _) _ _ _)); first | (dsimp only; (with_reducible show wpAny _ _ (call (Value.builtin "int.to_bytes") _ _) _ _ _)) | k_unfold | walk1 | (dsimp only; walk1) | (leave1; try dsimp only)))
    rw [hcnt]
    have hb256 : ((bigN S.val : Nat) : Int) < 256 ^ S.val.size := by
      rw [PySem.W.KTBy.p256]
      exact Int.ofNat_lt.mpr (bigN_lt S.val)
    refine to_bigB (by omega) (by omega) hb256 ?_
    intro bb tb kb hbb
    have hbb' := bytes_back S.val bb hbb
    subst hbb'
    clear hbb
    (repeat ((fail_if_success (with_reducible show wpAny _ _ (call (Value.ref 415) _ _) _ _ _)); first | (dsimp only; (with_reducible show wpAny _ _ (call (Value.ref 415) _ _) _ _ _)) | k_unfold | walk1 | (dsimp only; walk1) | (leave1; try dsimp only)))
    have hg5 := ok.mt
    rw [ext_val S ok, id_val S ok, exp_val S ok]
    refine' share_new w S _ _ _ _ _ _ _ _ _ _ _ _ _ _ _ rfl rfl rfl (pred_cast ok.gt.1) (pred_cast ok.gc.1) rfl (pred_cast ok.mt.1) ?kN ?kB ?kF ?kX ?kT ?kk ?kd ?ku ?_ rfl
    case kN => k_asm
    case kB => k_asm
    case kF => k_asm
    case kX => k_asm
    case kT => k_asm
    case kk => rfl
    case kd => walk_at "mine depth"
    case ku => walk_at "mine depth"
    intro x d od h7 tk7 F12 N12 l12 l13 hS
    k_steps
    rename News _ _ _ _ => kN
    rename Fr _ _ _ _ => kF
    refine ret x d od _ _ _ oA4 G5 tA4 kF (News.sub kN (by walk_at "mine sub")) ?_ l13 hS
    intro p hp
    rcases List.mem_cons.mp hp with rfl | hp
    · exact l12 (76, oA4) (.tail _ (.head _))
    · exact l12 p (.tail _ (.tail _ (.tail _ (.tail _ (.tail _ hp)))))
end
end
section
open PySem PySem.W PyProof.Rows PySem.Spec PySem.Calls
section
theorem offM29 : True := by w_top off; trivial
set_option maxRecDepth 100000
set_option maxHeartbeats 4000000
variable {p : Program} {loose : List Str} {mean : ExcName → Option Value} {mg mb : Str → Option Value}
  {dp un : Nat} {gd : Option (List Code)} {cn : Str} {cs : Scope} {a : Addr} {ccd : Value} {cl : List (Str × Addr)} {outer : List Env}
  {A₀ : Around} {E Q : Value → Shared → Prop} {s : Shared} {base h₀ : Heap} {L : Addr} {m : Str → Option Value} {news : List (Addr × Obj)}
/-- the parts that tell a set of shares -/
def cpV (S : Sh) (t1 t3 t5 t6 : Tok) : Array Value := #[.int (S.id : Int) t1, .bool S.ext, .int (S.exp : Int) t3, .int (S.gt : Int) t5, .int (S.gc : Int) t6]
def gpV (S : Sh) (t1 t3 t4 t5 t6 t8 : Tok) : Array Value := #[.int (S.id : Int) t1, .bool S.ext, .int (S.exp : Int) t3, .int (S.gi : Int) t4, .int (S.gt : Int) t5, .int (S.gc : Int) t6, .int (S.mt : Int) t8]
abbrev ntObj (C dx : Addr) (its : Array Value) : Obj := { cls := .ref C, dict := some dx, data := .seq its }
theorem meta_tuple : typeOf (.type "tuple") = pure (.type "type") := by first | rfl | kernel_rfl
theorem nt250 (w : World) : ntIn (Mine.hd.heap_1 w.params) 250 = true := by kernel_rfl
theorem nt336 (w : World) : ntIn (Mine.hd.heap_1 w.params) 336 = true := by kernel_rfl
theorem common_spec (w : World) (S : Sh) (x d : Addr) (od : Obj) (hS : IsSh w S od) (hx : (x, instObj 415 d) ∈ news) (hd9 : (d, od) ∈ news) (N : News h₀ L s.heap news) (B : Below A₀ base outer h₀) (F : Fr h₀ L s.heap m) (X : (Mine.hd.heap_1 w.params).In h₀) (T : Top p loose mean mg mb h₀)
  (hk : cs.kind = .function) (hd : dp + 60 < recursionLimit) (hu : un + 400 < cLine)
  (ret : ∀ c cx t1 t3 t5 t6 h' tk', Fr h₀ L h' m → News h₀ L h' ((c, ntObj 250 cx (cpV S t1 t3 t5 t6)) :: news) → (∀ p ∈ news, p.1 < c) → Q (.ref c) { s with heap := h', toks := tk' })
  (hrw : PySem.Challenge.rw_ja0052_01 = PySem.Challenge.rw_ja0052_01) :
  wpAny (model PySem.Challenge.pw_ja0052_01 w) (ktrTop dp un gd cn cs L a ccd cl outer) (call (.ref 367) [.ref x]) Q E s := by
  refine wpAny_noRaise ?_
  revert X hrw
  k_fill
  intro X hrw
  clear hrw
  obtain ⟨k1, k2, k3, k4, k5, k6, k7, k8, k9, t1, t3, t4, t5, t6, t7, t8, tb, rfl⟩ := hS
  unfold shObj at hd9
  refine wpAny_call ?_
  (k_dflt (refine' code_def ?k1 ?k2 ?k3 ?k4 ?k5 ?kA ?kF ?kK ?k6 ?k7 ?k8 ?k9 ?kB ?_ ?c2 ?c3 ?c4 ?c5; (case kA => first | with_reducible assumption | exact rfl); (case kF => first | with_reducible assumption | exact rfl); (case kK => first | with_reducible assumption | exact rfl | assumption); (case k1 => k_asm); (case k2 => k_asm); (case k3 => k_asm); (case k4 => k_asm); (case k5 => k_asm); (case k6 => k_is); (case k7 => k_is); (case k8 => k_room); (case k9 => exact BindsTo.of_eq rfl); (case c5 => decide); (case kB => exact locs rfl); (case c2 => exact rfl); (case c3 => exact rfl); (case c4 => exact rfl); k_whole; intro g1 L1 _ FG1 FF _ B1 X1 T1; (try dsimp only); (try k_fold)))
  refine letA ?_
  intro A9
  replace FF := fr_lookup (show Fr _ _ _ (fun y => List.lookup y [(Str.ofString "self", _)]) from FF)
  dsimp only [List.map] at FF
  repeat ((fail_if_success (with_reducible show wpAny _ _ (call (Value.ref 250) _ _) _ _ _)); first | (dsimp only; (with_reducible show wpAny _ _ (call (Value.ref 250) _ _) _ _ _)) | k_unfold | walk1 | (dsimp only; walk1) | (leave1; try dsimp only))
  refine' wpAny_call (nt_call (f := 191) (p := 251) (mc := .type "type") (rs := []) ?F ?X ?hm ?ht ?hr ?e ?hp ?_)
  case F => k_asm
  case X => k_asm
  case hm => exact nt250 w
  case ht => k_is
  case hr => k_is
  case e => k_is
  case hp => k_is
  (k_dflt (refine' code_def ?k1 ?k2 ?k3 ?k4 ?k5 ?kA ?kF ?kK ?k6 ?k7 ?k8 ?k9 ?kB ?_ ?c2 ?c3 ?c4 ?c5; (case kA => first | with_reducible assumption | exact rfl); (case kF => first | with_reducible assumption | exact rfl); (case kK => first | with_reducible assumption | exact rfl | assumption); (case k1 => k_asm); (case k2 => k_asm); (case k3 => k_asm); (case k4 => k_asm); (case k5 => k_asm); (case k6 => k_is); (case k7 => k_is); (case k8 => k_room); (case k9 => exact BindsTo.of_eq rfl); (case c5 => decide); (case kB => exact locs rfl); (case c2 => exact rfl); (case c3 => exact rfl); (case c4 => exact rfl); k_whole; intro g2 L2 _ FG2 _ _ B2 X2 T2; (try dsimp only); (try k_fold)))
  refine letA ?_
  intro A9
  repeat ((fail_if_success (with_reducible show wpAny _ _ (getMethod (Value.type "tuple") _ _) _ _ _)); first | (dsimp only; (with_reducible show wpAny _ _ (getMethod (Value.type "tuple") _ _) _ _ _)) | k_unfold | walk1 | (dsimp only; walk1) | (leave1; try dsimp only))
  refine' method_type (T := "tuple") (name := Str.ofString "__new__") (v := .builtin "tuple.__new__") ?F ?X ?m1 ?m2 ?e ?h ?_
  case m1 => exact meta_tuple
  case m2 => decide +kernel
  case F => k_asm
  case X => k_asm
  case e => k_dflt k_is
  case h => rfl
  repeat ((fail_if_success (with_reducible show wpAny _ _ (call (Value.builtin "tuple.__new__") _ _) _ _ _)); first | (dsimp only; (with_reducible show wpAny _ _ (call (Value.builtin "tuple.__new__") _ _) _ _ _)) | k_unfold | walk1 | (dsimp only; walk1) | (leave1; try dsimp only))
  rename News _ _ _ _ => N3
  rename Fr _ _ _ _ => F3
  refine tnew F3 N3 (fun h' F' => nt_of (X2.keeps F'.keep) (nt250 w)) (News.get N3 (.head _)) rfl rfl ?_ ?_
  · show (5 : Nat) ≤ sizeLine
    rw [sizeLine_eq]; decide
  intro c cx h' F4 N4 l4 l5
  k_steps
  rename News _ _ _ _ => N5
  rename Fr _ _ _ _ => F5
  refine ⟨⟨c, _, rfl, News.get N5 (.head _), rfl⟩, nt_of (X1.keeps F5.keep) (nt250 w), ?_⟩
  k_steps
  rename News _ _ _ _ => N6
  rename Fr _ _ _ _ => F6
  exact ret c cx t1 t3 t5 t6 _ _ F6 (News.sub N6 (by walk_at "mine sub")) (fun p hp => Nat.lt_trans (l4 p (.tail _ hp)) l5)
theorem group_spec (w : World) (S : Sh) (x d : Addr) (od : Obj) (hS : IsSh w S od) (hx : (x, instObj 415 d) ∈ news) (hd9 : (d, od) ∈ news) (N : News h₀ L s.heap news) (B : Below A₀ base outer h₀) (F : Fr h₀ L s.heap m) (X : (Mine.hd.heap_1 w.params).In h₀) (T : Top p loose mean mg mb h₀)
  (hk : cs.kind = .function) (hd : dp + 60 < recursionLimit) (hu : un + 400 < cLine)
  (ret : ∀ c cx t1 t3 t4 t5 t6 t8 h' tk', Fr h₀ L h' m → News h₀ L h' ((c, ntObj 336 cx (gpV S t1 t3 t4 t5 t6 t8)) :: news) → (∀ p ∈ news, p.1 < c) → Q (.ref c) { s with heap := h', toks := tk' })
  (hrw : PySem.Challenge.rw_ja0052_01 = PySem.Challenge.rw_ja0052_01) :
  wpAny (model PySem.Challenge.pw_ja0052_01 w) (ktrTop dp un gd cn cs L a ccd cl outer) (call (.ref 374) [.ref x]) Q E s := by
  refine wpAny_noRaise ?_
  revert X hrw
  k_fill
  intro X hrw
  clear hrw
  obtain ⟨k1, k2, k3, k4, k5, k6, k7, k8, k9, t1, t3, t4, t5, t6, t7, t8, tb, rfl⟩ := hS
  unfold shObj at hd9
  refine wpAny_call ?_
  (k_dflt (refine' code_def ?k1 ?k2 ?k3 ?k4 ?k5 ?kA ?kF ?kK ?k6 ?k7 ?k8 ?k9 ?kB ?_ ?c2 ?c3 ?c4 ?c5; (case kA => first | with_reducible assumption | exact rfl); (case kF => first | with_reducible assumption | exact rfl); (case kK => first | with_reducible assumption | exact rfl | assumption); (case k1 => k_asm); (case k2 => k_asm); (case k3 => k_asm); (case k4 => k_asm); (case k5 => k_asm); (case k6 => k_is); (case k7 => k_is); (case k8 => k_room); (case k9 => exact BindsTo.of_eq rfl); (case c5 => decide); (case kB => exact locs rfl); (case c2 => exact rfl); (case c3 => exact rfl); (case c4 => exact rfl); k_whole; intro g1 L1 _ FG1 FF _ B1 X1 T1; (try dsimp only); (try k_fold)))
  refine letA ?_
  intro A9
  replace FF := fr_lookup (show Fr _ _ _ (fun y => List.lookup y [(Str.ofString "self", _)]) from FF)
  dsimp only [List.map] at FF
  repeat ((fail_if_success (with_reducible show wpAny _ _ (call (Value.ref 336) _ _) _ _ _)); first | (dsimp only; (with_reducible show wpAny _ _ (call (Value.ref 336) _ _) _ _ _)) | k_unfold | walk1 | (dsimp only; walk1) | (leave1; try dsimp only))
  refine' wpAny_call (nt_call (f := 271) (p := 337) (mc := .type "type") (rs := []) ?F ?X ?hm ?ht ?hr ?e ?hp ?_)
  case F => k_asm
  case X => k_asm
  case hm => exact nt336 w
  case ht => k_is
  case hr => k_is
  case e => k_is
  case hp => k_is
  (k_dflt (refine' code_def ?k1 ?k2 ?k3 ?k4 ?k5 ?kA ?kF ?kK ?k6 ?k7 ?k8 ?k9 ?kB ?_ ?c2 ?c3 ?c4 ?c5; (case kA => first | with_reducible assumption | exact rfl); (case kF => first | with_reducible assumption | exact rfl); (case kK => first | with_reducible assumption | exact rfl | assumption); (case k1 => k_asm); (case k2 => k_asm); (case k3 => k_asm); (case k4 => k_asm); (case k5 => k_asm); (case k6 => k_is); (case k7 => k_is); (case k8 => k_room); (case k9 => exact BindsTo.of_eq rfl); (case c5 => decide); (case kB => exact locs rfl); (case c2 => exact rfl); (case c3 => exact rfl); (case c4 => exact rfl); k_whole; intro g2 L2 _ FG2 _ _ B2 X2 T2; (try dsimp only); (try k_fold)))
  refine letA ?_
  intro A9
  repeat ((fail_if_success (with_reducible show wpAny _ _ (getMethod (Value.type "tuple") _ _) _ _ _)); first | (dsimp only; (with_reducible show wpAny _ _ (getMethod (Value.type "tuple") _ _) _ _ _)) | k_unfold | walk1 | (dsimp only; walk1) | (leave1; try dsimp only))
  refine' method_type (T := "tuple") (name := Str.ofString "__new__") (v := .builtin "tuple.__new__") ?F ?X ?m1 ?m2 ?e ?h ?_
  case m1 => exact meta_tuple
  case m2 => decide +kernel
  case F => k_asm
  case X => k_asm
  case e => k_dflt k_is
  case h => rfl
  repeat ((fail_if_success (with_reducible show wpAny _ _ (call (Value.builtin "tuple.__new__") _ _) _ _ _)); first | (dsimp only; (with_reducible show wpAny _ _ (call (Value.builtin "tuple.__new__") _ _) _ _ _)) | k_unfold | walk1 | (dsimp only; walk1) | (leave1; try dsimp only))
  rename News _ _ _ _ => N3
  rename Fr _ _ _ _ => F3
  refine tnew F3 N3 (fun h' F' => nt_of (X2.keeps F'.keep) (nt336 w)) (News.get N3 (.head _)) rfl rfl ?_ ?_
  · show (7 : Nat) ≤ sizeLine
    rw [sizeLine_eq]; decide
  intro c cx h' F4 N4 l4 l5
  k_steps
  rename News _ _ _ _ => N5
  rename Fr _ _ _ _ => F5
  refine ⟨⟨c, _, rfl, News.get N5 (.head _), rfl⟩, nt_of (X1.keeps F5.keep) (nt336 w), ?_⟩
  k_steps
  rename News _ _ _ _ => N6
  rename Fr _ _ _ _ => F6
  exact ret c cx t1 t3 t4 t5 t6 t8 _ _ F6 (News.sub N6 (by walk_at "mine sub")) (fun p hp => Nat.lt_trans (l4 p (.tail _ hp)) l5)
end
section
theorem offM31 : True := by w_top off; trivial
local macro_rules | `(tactic| walk_at "mine pad") => `(tactic| skip)
open PySem.SeqAt
set_option maxRecDepth 100000
set_option maxHeartbeats 4000000
variable {p : Program} {loose : List Str} {mean : ExcName → Option Value} {mg mb : Str → Option Value}
  {dp un : Nat} {gd : Option (List Code)} {cn : Str} {cs : Scope} {a : Addr} {ccd : Value} {cl : List (Str × Addr)} {outer : List Env}
  {A₀ : Around} {E Q : Value → Shared → Prop} {s : Shared} {base h₀ : Heap} {L : Addr} {m : Str → Option Value} {news : List (Addr × Obj)}
def cpK (S : Sh) : Nat × Bool × Nat × Nat × Nat := (S.id, S.ext, S.exp, S.gt, S.gc)
def gpK (S : Sh) : Nat × Bool × Nat × Nat × Nat × Nat × Nat := (S.id, S.ext, S.exp, S.gi, S.gt, S.gc, S.mt)
theorem sh_eq (S S' : Sh) : S = S' ↔ gpK S = gpK S' ∧ S.ix = S'.ix ∧ S.val = S'.val := by
  obtain ⟨a1, a2, a3, a4, a5, a6, a7, a8, a9⟩ := S
  obtain ⟨b1, b2, b3, b4, b5, b6, b7, b8, b9⟩ := S'
  simp only [gpK, Sh.mk.injEq, Prod.mk.injEq]
  constructor
  · rintro ⟨rfl, rfl, rfl, rfl, rfl, rfl, rfl, rfl, rfl⟩; simp
  · rintro ⟨⟨rfl, rfl, rfl, rfl, rfl, rfl, rfl⟩, rfl, rfl⟩; simp
theorem cp_eq (A : Around) (s : Shared) (S S' : Sh) (t1 t3 t5 t6 u1 u3 u5 u6 : Tok) : ∃ e : Nat → Bool, (∀ j (h1 : j < (cpV S t1 t3 t5 t6).size) (h2 : j < (cpV S' u1 u3 u5 u6).size), EqAt A s (cpV S t1 t3 t5 t6)[j] (cpV S' u1 u3 u5 u6)[j] (e j)) ∧ (List.range (cpV S t1 t3 t5 t6).size).all e = decide (cpK S = cpK S') := by
  refine ⟨fun j => ([((S.id : Int) == (S'.id : Int)), (S.ext == S'.ext), ((S.exp : Int) == (S'.exp : Int)), ((S.gt : Int) == (S'.gt : Int)), ((S.gc : Int) == (S'.gc : Int))] : List Bool).getD j true, ?_, ?_⟩
  · intro j h1 h2
    have hj : j = 0 ∨ j = 1 ∨ j = 2 ∨ j = 3 ∨ j = 4 := (by decide : ∀ j, j < 5 → j = 0 ∨ j = 1 ∨ j = 2 ∨ j = 3 ∨ j = 4) j h1
    rcases hj with rfl | rfl | rfl | rfl | rfl
    · exact EqAt.int_int _ _ _ _
    · exact EqAt.bool_bool _ _
    · exact EqAt.int_int _ _ _ _
    · exact EqAt.int_int _ _ _ _
    · exact EqAt.int_int _ _ _ _
  · show ((((S.id : Int) == (S'.id : Int)) && ((S.ext == S'.ext) && (((S.exp : Int) == (S'.exp : Int)) && (((S.gt : Int) == (S'.gt : Int)) && (((S.gc : Int) == (S'.gc : Int)) && true)))))) = _
    rw [Bool.eq_iff_iff]
    simp only [Bool.and_eq_true, beq_iff_eq, and_true, decide_eq_true_eq, cpK, Prod.mk.injEq, Int.natCast_inj]
theorem gp_eq (A : Around) (s : Shared) (S S' : Sh) (t1 t3 t4 t5 t6 t8 u1 u3 u4 u5 u6 u8 : Tok) : ∃ e : Nat → Bool, (∀ j (h1 : j < (gpV S t1 t3 t4 t5 t6 t8).size) (h2 : j < (gpV S' u1 u3 u4 u5 u6 u8).size), EqAt A s (gpV S t1 t3 t4 t5 t6 t8)[j] (gpV S' u1 u3 u4 u5 u6 u8)[j] (e j)) ∧ (List.range (gpV S t1 t3 t4 t5 t6 t8).size).all e = decide (gpK S = gpK S') := by
  refine ⟨fun j => ([((S.id : Int) == (S'.id : Int)), (S.ext == S'.ext), ((S.exp : Int) == (S'.exp : Int)), ((S.gi : Int) == (S'.gi : Int)), ((S.gt : Int) == (S'.gt : Int)), ((S.gc : Int) == (S'.gc : Int)), ((S.mt : Int) == (S'.mt : Int))] : List Bool).getD j true, ?_, ?_⟩
  · intro j h1 h2
    have hj : j = 0 ∨ j = 1 ∨ j = 2 ∨ j = 3 ∨ j = 4 ∨ j = 5 ∨ j = 6 := (by decide : ∀ j, j < 7 → j = 0 ∨ j = 1 ∨ j = 2 ∨ j = 3 ∨ j = 4 ∨ j = 5 ∨ j = 6) j h1
    rcases hj with rfl | rfl | rfl | rfl | rfl | rfl | rfl
    · exact EqAt.int_int _ _ _ _
    · exact EqAt.bool_bool _ _
    · exact EqAt.int_int _ _ _ _
    · exact EqAt.int_int _ _ _ _
    · exact EqAt.int_int _ _ _ _
    · exact EqAt.int_int _ _ _ _
    · exact EqAt.int_int _ _ _ _
  · show ((((S.id : Int) == (S'.id : Int)) && ((S.ext == S'.ext) && (((S.exp : Int) == (S'.exp : Int)) && (((S.gi : Int) == (S'.gi : Int)) && (((S.gt : Int) == (S'.gt : Int)) && (((S.gc : Int) == (S'.gc : Int)) && (((S.mt : Int) == (S'.mt : Int)) && true)))))))) = _
    rw [Bool.eq_iff_iff]
    simp only [Bool.and_eq_true, beq_iff_eq, and_true, decide_eq_true_eq, gpK, Prod.mk.injEq, Int.natCast_inj]
theorem eq250 (w : World) : findIn (Mine.hd.heap_1 w.params) (.ref 250) "__eq__" = some (some (.builtin "tuple.__eq__")) := by kernel_rfl
theorem eq336 (w : World) : findIn (Mine.hd.heap_1 w.params) (.ref 336) "__eq__" = some (some (.builtin "tuple.__eq__")) := by kernel_rfl
theorem ne336 (w : World) : findIn (Mine.hd.heap_1 w.params) (.ref 336) "__ne__" = some (some (.builtin "tuple.__ne__")) := by kernel_rfl
theorem gp_cmpEq {prog : Program} {w : World} {A : Around} {c c' cx cx' : Addr} {S S' : Sh} {t1 t3 t4 t5 t6 t8 u1 u3 u4 u5 u6 u8 : Tok} (X : (Mine.hd.heap_1 w.params).In s.heap) (hu : A.units < cLine)
    (h1 : s.heap.get? c = some (ntObj 336 cx (gpV S t1 t3 t4 t5 t6 t8))) (h2 : s.heap.get? c' = some (ntObj 336 cx' (gpV S' u1 u3 u4 u5 u6 u8))) (hQ : Q (.bool (decide (gpK S = gpK S'))) s) :
    wpAny (model prog w) A (compareOp .Eq (.ref c) (.ref c')) Q E s := by
  obtain ⟨e, he, hall⟩ := gp_eq A.in1 s S S' t1 t3 t4 t5 t6 t8 u1 u3 u4 u5 u6 u8
  exact nt_eq X (nt336 w) (eq336 w) hu h1 h2 rfl he (by rw [hall]; exact hQ)
theorem gp_cmpNe {prog : Program} {w : World} {A : Around} {c c' cx cx' : Addr} {S S' : Sh} {t1 t3 t4 t5 t6 t8 u1 u3 u4 u5 u6 u8 : Tok} (X : (Mine.hd.heap_1 w.params).In s.heap) (hu : A.units < cLine)
    (h1 : s.heap.get? c = some (ntObj 336 cx (gpV S t1 t3 t4 t5 t6 t8))) (h2 : s.heap.get? c' = some (ntObj 336 cx' (gpV S' u1 u3 u4 u5 u6 u8))) (hQ : Q (.bool (!decide (gpK S = gpK S'))) s) :
    wpAny (model prog w) A (compareOp .NotEq (.ref c) (.ref c')) Q E s := by
  obtain ⟨e, he, hall⟩ := gp_eq A.in1 s S S' t1 t3 t4 t5 t6 t8 u1 u3 u4 u5 u6 u8
  exact nt_ne X (nt336 w) (ne336 w) hu h1 h2 rfl he (by rw [hall]; exact hQ)
theorem cp_at {w : World} {A : Around} {c c' cx cx' : Addr} {S S' : Sh} {t1 t3 t5 t6 u1 u3 u5 u6 : Tok} (X : (Mine.hd.heap_1 w.params).In s.heap) (hu : A.units < cLine) (hne : c ≠ c')
    (h1 : s.heap.get? c = some (ntObj 250 cx (cpV S t1 t3 t5 t6))) (h2 : s.heap.get? c' = some (ntObj 250 cx' (cpV S' u1 u3 u5 u6))) : EqAt A s (.ref c) (.ref c') (decide (cpK S = cpK S')) := by
  obtain ⟨e, he, hall⟩ := cp_eq A.in1 s S S' t1 t3 t5 t6 u1 u3 u5 u6
  exact EqAt.of_refs hne (hall ▸ nt_rc X (nt250 w) (eq250 w) hu h1 h2 rfl he)
end
section
theorem offM32 : True := by w_top off; trivial
open PySem.SeqAt
set_option maxRecDepth 100000
set_option maxHeartbeats 4000000
variable {p : Program} {loose : List Str} {mean : ExcName → Option Value} {mg mb : Str → Option Value}
  {dp un : Nat} {gd : Option (List Code)} {cn : Str} {cs : Scope} {a : Addr} {ccd : Value} {cl : List (Str × Addr)} {outer : List Env}
  {A₀ : Around} {E Q : Value → Shared → Prop} {s : Shared} {base h₀ : Heap} {L : Addr} {m : Str → Option Value} {news : List (Addr × Obj)}
def shB (S S' : Sh) : Bool := decide (gpK S = gpK S') && (S.ix == S'.ix && S.val.toList == S'.val.toList)
theorem shB_iff (S S' : Sh) : shB S S' = true ↔ S = S' := by
  unfold shB
  rw [Bool.and_eq_true, Bool.and_eq_true, decide_eq_true_eq, beq_iff_eq, beq_iff_eq, sh_eq, Array.toList_inj]
theorem eq_spec (w : World) (S S' : Sh) (x d x' d' : Addr) (od od' : Obj) (hS : IsSh w S od) (hS' : IsSh w S' od') (hx : (x, instObj 415 d) ∈ news) (hd9 : (d, od) ∈ news) (hx' : (x', instObj 415 d') ∈ news) (hd9' : (d', od') ∈ news) (N : News h₀ L s.heap news) (B : Below A₀ base outer h₀) (F : Fr h₀ L s.heap m) (X : (Mine.hd.heap_1 w.params).In h₀) (T : Top p loose mean mg mb h₀)
  (hk : cs.kind = .function) (hd : dp + 90 < recursionLimit) (hu : un + 600 < cLine)
  (ret : ∀ h' tk', Fr h₀ L h' m → News h₀ L h' news → Q (.bool (shB S S')) { s with heap := h', toks := tk' })
  (hrw : PySem.Challenge.rw_ja0052_01 = PySem.Challenge.rw_ja0052_01) :
  wpAny (model PySem.Challenge.pw_ja0052_01 w) (ktrTop dp un gd cn cs L a ccd cl outer) (call (.ref 360) [.ref x, .ref x']) Q E s := by
  refine wpAny_noRaise ?_
  revert X hrw
  k_fill
  intro X hrw
  clear hrw
  have hS0 := hS
  have hS0' := hS'
  obtain ⟨k1, k2, k3, k4, k5, k6, k7, k8, k9, t1, t3, t4, t5, t6, t7, t8, tb, rfl⟩ := hS
  obtain ⟨k1', k2', k3', k4', k5', k6', k7', k8', k9', t1', t3', t4', t5', t6', t7', t8', tb', rfl⟩ := hS'
  have hd99 := hd9
  have hd99' := hd9'
  unfold shObj at hd9 hd9'
  refine wpAny_call ?_
  (k_dflt (refine' code_def ?k1 ?k2 ?k3 ?k4 ?k5 ?kA ?kF ?kK ?k6 ?k7 ?k8 ?k9 ?kB ?_ ?c2 ?c3 ?c4 ?c5; (case kA => first | with_reducible assumption | exact rfl); (case kF => first | with_reducible assumption | exact rfl); (case kK => first | with_reducible assumption | exact rfl | assumption); (case k1 => k_asm); (case k2 => k_asm); (case k3 => k_asm); (case k4 => k_asm); (case k5 => k_asm); (case k6 => k_is); (case k7 => k_is); (case k8 => k_room); (case k9 => exact BindsTo.of_eq rfl); (case c5 => decide); (case kB => exact locs rfl); (case c2 => exact rfl); (case c3 => exact rfl); (case c4 => exact rfl); k_whole; intro g1 L1 _ FG1 FF _ B1 X1 T1; (try dsimp only); (try k_fold)))
  refine letA ?_
  intro A9
  replace FF := fr_lookup (show Fr _ _ _ (fun y => List.lookup y [(Str.ofString "other", _), (Str.ofString "self", _)]) from FF)
  dsimp only [List.map] at FF
  repeat ((fail_if_success (with_reducible show wpAny _ _ (call (Value.ref 374) _ _) _ _ _)); first | (dsimp only; (with_reducible show wpAny _ _ (call (Value.ref 374) _ _) _ _ _)) | k_unfold | walk1 | (dsimp only; walk1) | (leave1; try dsimp only))
  refine' group_spec w S x d _ hS0 hx hd99 ?kN ?kB ?kF ?kX ?kT ?kk ?kd ?ku ?_ rfl
  case kN => k_asm
  case kB => k_asm
  case kF => k_asm
  case kX => k_asm
  case kT => k_asm
  case kk => rfl
  case kd => walk_at "mine depth"
  case ku => walk_at "mine depth"
  intro c cx u1 u3 u4 u5 u6 u8 h1 tk1 F2 N2 l2
  repeat ((fail_if_success (with_reducible show wpAny _ _ (call (Value.ref 374) _ _) _ _ _)); first | (dsimp only; (with_reducible show wpAny _ _ (call (Value.ref 374) _ _) _ _ _)) | k_unfold | walk1 | (dsimp only; walk1) | (leave1; try dsimp only))
  refine' group_spec w S' x' d' _ hS0' (.tail _ hx') (.tail _ hd99') ?kN ?kB ?kF ?kX ?kT ?kk ?kd ?ku ?_ rfl
  case kN => k_asm
  case kB => k_asm
  case kF => k_asm
  case kX => k_asm
  case kT => k_asm
  case kk => rfl
  case kd => walk_at "mine depth"
  case ku => walk_at "mine depth"
  intro c' cx' v1 v3 v4 v5 v6 v8 h2 tk2 F3 N3 l3
  repeat ((fail_if_success (with_reducible show wpAny _ _ (compareOp CmpOp.Eq (Value.ref _) (Value.ref _)) _ _ _)); first | (dsimp only; (with_reducible show wpAny _ _ (compareOp CmpOp.Eq (Value.ref _) (Value.ref _)) _ _ _)) | k_unfold | walk1 | (dsimp only; walk1) | (leave1; try dsimp only))
  rename News _ _ _ _ => N4
  rename Fr _ _ _ _ => F4
  refine' gp_cmpEq (X1.keeps F4.keep) ?ku (News.get N4 (.tail _ (.head _))) (News.get N4 (.head _)) ?_
  case ku => walk_at "mine depth"
  have key : shB S S' = (decide (gpK S = gpK S') && (S.ix == S'.ix && S.val.toList == S'.val.toList)) := rfl
  cases hb : decide (gpK S = gpK S') with
  | false =>
    rw [hb, Bool.false_and] at key
    k_steps
    rename News _ _ _ _ => N5
    rename Fr _ _ _ _ => F5
    rw [key] at ret
    exact ret _ _ F5 (News.sub N5 (by walk_at "mine sub"))
  | true =>
    rw [hb, Bool.true_and] at key
    k_steps
    · rename_i hix _ _ _ _
      rename News _ _ _ _ => N5
      rename Fr _ _ _ _ => F5
      rw [show (S.ix == S'.ix) = true from beq_iff_eq.mpr (Int.ofNat.inj hix), Bool.true_and] at key
      rw [key] at ret
      exact ret _ _ F5 (News.sub N5 (by walk_at "mine sub"))
    · rename_i hix _ _ _ _
      rename News _ _ _ _ => N5
      rename Fr _ _ _ _ => F5
      rw [show (S.ix == S'.ix) = false from beq_eq_false_iff_ne.mpr (fun q => hix (congrArg Int.ofNat q)), Bool.false_and] at key
      rw [show ((S.ix : Int) == (S'.ix : Int)) = false from beq_eq_false_iff_ne.mpr hix, ← key]
      exact ret _ _ F5 (News.sub N5 (by walk_at "mine sub"))
end
section
theorem offM33 : True := by w_top off; trivial
local macro_rules | `(tactic| walk_at "mine pad") => `(tactic| skip)
open PySem.SeqAt
set_option maxRecDepth 100000
set_option maxHeartbeats 4000000
variable {p : Program} {loose : List Str} {mean : ExcName → Option Value} {mg mb : Str → Option Value}
  {dp un : Nat} {gd : Option (List Code)} {cn : Str} {cs : Scope} {a : Addr} {ccd : Value} {cl : List (Str × Addr)} {outer : List Env}
  {A₀ : Around} {E Q : Value → Shared → Prop} {s : Shared} {base h₀ : Heap} {L : Addr} {m : Str → Option Value} {news : List (Addr × Obj)}
def grObj (w : World) (l : Addr) (k : Tok) : Obj := dictOf [⟨PyData.keyHash w.params (Str.ofString "shares"), .str (Str.ofString "shares") k, .ref l⟩] 1
/-- a list's refs tell the shares -/
inductive ShsIn (w : World) (news : List (Addr × Obj)) : List Value → List Sh → Prop where
  | nil : ShsIn w news [] []
  | cons {x d : Addr} {od : Obj} {S : Sh} {vs : List Value} {Ss : List Sh} : (x, instObj 415 d) ∈ news → (d, od) ∈ news → IsSh w S od → ShsIn w news vs Ss → ShsIn w news (.ref x :: vs) (S :: Ss)
theorem ShsIn.mono {w : World} {a b : List (Addr × Obj)} {vs : List Value} {Ss : List Sh} (h : ShsIn w a vs Ss) (k : ∀ p ∈ a, p ∈ b) : ShsIn w b vs Ss := by
  induction h with
  | nil => exact .nil
  | cons h1 h2 h3 _ ih => exact .cons (k _ h1) (k _ h2) h3 ih
theorem ShsIn.len {w : World} {a : List (Addr × Obj)} {vs : List Value} {Ss : List Sh} (h : ShsIn w a vs Ss) : vs.length = Ss.length := by
  induction h with
  | nil => rfl
  | cons _ _ _ _ ih => simp [ih]
theorem ShsIn.snoc {w : World} {a : List (Addr × Obj)} {vs : List Value} {Ss : List Sh} {x d : Addr} {od : Obj} {S : Sh} (h : ShsIn w a vs Ss) (h1 : (x, instObj 415 d) ∈ a) (h2 : (d, od) ∈ a) (h3 : IsSh w S od) : ShsIn w a (vs ++ [.ref x]) (Ss ++ [S]) := by
  induction h with
  | nil => exact .cons h1 h2 h3 .nil
  | cons q1 q2 q3 _ ih => exact .cons q1 q2 q3 ih
theorem newgroup_spec (w : World) (N : News h₀ L s.heap news) (B : Below A₀ base outer h₀) (F : Fr h₀ L s.heap m) (X : (Mine.hd.heap_1 w.params).In h₀) (T : Top p loose mean mg mb h₀)
  (hk : cs.kind = .function) (hd : dp + 30 < recursionLimit) (hu : un + 200 < cLine)
  (ret : ∀ g ga l k h' tk', Fr h₀ L h' m → News h₀ L h' ((l, listOf #[] 0) :: (g, instObj 513 ga) :: (ga, grObj w l k) :: news) → (∀ p ∈ news, p.1 < ga) → @LT.lt Nat _ ga g → @LT.lt Nat _ g l → Q (.ref g) { s with heap := h', toks := tk' })
  (hrw : PySem.Challenge.rw_ja0052_01 = PySem.Challenge.rw_ja0052_01) :
  wpAny (model PySem.Challenge.pw_ja0052_01 w) (ktrTop dp un gd cn cs L a ccd cl outer) (call (.ref 513) []) Q E s := by
  refine wpAny_noRaise ?_
  revert X hrw
  k_fill
  intro X hrw
  clear hrw
  (k_dflt (refine' call_cls ?k1 ?k2 ?k3 ?k4 ?k5 ?k6 ?_; (case k1 => k_asm); (case k2 => k_asm); (case k3 => k_asm); (case k4 => k_is); (case k5 => k_is); (case k6 => k_is); k_whole; intro x d _ _ _ l1 l2; (try k_lt l1); (try k_lt2 l2); (try k_sweep)); (k_dflt (refine' code_def ?k1 ?k2 ?k3 ?k4 ?k5 ?kA ?kF ?kK ?k6 ?k7 ?k8 ?k9 ?kB ?_ ?c2 ?c3 ?c4 ?c5; (case kA => first | with_reducible assumption | exact rfl); (case kF => first | with_reducible assumption | exact rfl); (case kK => first | with_reducible assumption | exact rfl | assumption); (case k1 => k_asm); (case k2 => k_asm); (case k3 => k_asm); (case k4 => k_asm); (case k5 => k_asm); (case k6 => k_is); (case k7 => k_is); (case k8 => k_room); (case k9 => exact BindsTo.of_eq rfl); (case c5 => decide); (case kB => exact locs rfl); (case c2 => exact rfl); (case c3 => exact rfl); (case c4 => exact rfl); k_whole; intro _ _ _ _ _ _ _ _ _; (try dsimp only); (try k_fold))))
  k_steps
  rename News _ _ _ _ => kN
  rename Fr _ _ _ _ => kF
  rename_i l3 _ _ _ _ _
  exact ret x d _ _ _ _ kF kN l1 l2 l3.1
theorem grgp_spec (w : World) (g ga l x d : Addr) (k : Tok) (od : Obj) (vs : List Value) (n : Nat) (S : Sh) (hg : (g, instObj 513 ga) ∈ news) (hgd : (ga, grObj w l k) ∈ news) (hl : (l, listOf (List.toArray (.ref x :: vs)) n) ∈ news) (hS : IsSh w S od) (hx : (x, instObj 415 d) ∈ news) (hd9 : (d, od) ∈ news) (N : News h₀ L s.heap news) (B : Below A₀ base outer h₀) (F : Fr h₀ L s.heap m) (X : (Mine.hd.heap_1 w.params).In h₀) (T : Top p loose mean mg mb h₀)
  (hk : cs.kind = .function) (hd : dp + 80 < recursionLimit) (hu : un + 500 < cLine)
  (ret : ∀ c cx t1 t3 t4 t5 t6 t8 h' tk', Fr h₀ L h' m → News h₀ L h' ((c, ntObj 336 cx (gpV S t1 t3 t4 t5 t6 t8)) :: news) → (∀ p ∈ news, p.1 < c) → Q (.ref c) { s with heap := h', toks := tk' })
  (hrw : PySem.Challenge.rw_ja0052_01 = PySem.Challenge.rw_ja0052_01) :
  wpAny (model PySem.Challenge.pw_ja0052_01 w) (ktrTop dp un gd cn cs L a ccd cl outer) (call (.ref 496) [.ref g]) Q E s := by
  refine wpAny_noRaise ?_
  revert X hrw
  k_fill
  intro X hrw
  clear hrw
  have hS0 := hS
  obtain ⟨k1, k2, k3, k4, k5, k6, k7, k8, k9, t1, t3, t4, t5, t6, t7, t8, tb, rfl⟩ := hS
  have hd99 := hd9
  unfold shObj at hd9
  unfold grObj at hgd
  refine wpAny_call ?_
  (k_dflt (refine' code_def ?k1 ?k2 ?k3 ?k4 ?k5 ?kA ?kF ?kK ?k6 ?k7 ?k8 ?k9 ?kB ?_ ?c2 ?c3 ?c4 ?c5; (case kA => first | with_reducible assumption | exact rfl); (case kF => first | with_reducible assumption | exact rfl); (case kK => first | with_reducible assumption | exact rfl | assumption); (case k1 => k_asm); (case k2 => k_asm); (case k3 => k_asm); (case k4 => k_asm); (case k5 => k_asm); (case k6 => k_is); (case k7 => k_is); (case k8 => k_room); (case k9 => exact BindsTo.of_eq rfl); (case c5 => decide); (case kB => exact locs rfl); (case c2 => exact rfl); (case c3 => exact rfl); (case c4 => exact rfl); k_whole; intro g1 L1 _ FG1 FF _ B1 X1 T1; (try dsimp only); (try k_fold)))
  refine letA ?_
  intro A9
  replace FF := fr_lookup (show Fr _ _ _ (fun y => List.lookup y [(Str.ofString "self", _)]) from FF)
  dsimp only [List.map] at FF
  repeat ((fail_if_success (with_reducible show wpAny _ _ (call (Value.ref 374) _ _) _ _ _)); first | (dsimp only; (with_reducible show wpAny _ _ (call (Value.ref 374) _ _) _ _ _)) | k_unfold | walk1 | (dsimp only; walk1) | (leave1; try dsimp only))
  refine' group_spec w S x d _ hS0 hx hd99 ?kN ?kB ?kF ?kX ?kT ?kk ?kd ?ku ?_ rfl
  case kN => k_asm
  case kB => k_asm
  case kF => k_asm
  case kX => k_asm
  case kT => k_asm
  case kk => rfl
  case kd => walk_at "mine depth"
  case ku => walk_at "mine depth"
  intro c cx u1 u3 u4 u5 u6 u8 h1 tk1 F2 N2 l2
  k_steps
  rename News _ _ _ _ => N5
  rename Fr _ _ _ _ => F5
  exact ret c cx u1 u3 u4 u5 u6 u8 _ _ F5 (News.sub N5 (by walk_at "mine sub")) l2
theorem news_inj {h : Heap} {y : Addr} {o o' : Obj} (N : News h₀ L h news) (h1 : (y, o) ∈ news) (h2 : (y, o') ∈ news) : o = o' := by
  have e1 := (N _ h1).1
  have e2 := (N _ h2).1
  dsimp only at e1 e2
  rw [e1] at e2
  exact Option.some.inj e2
theorem IsSh.inj {w : World} {S S' : Sh} {od : Obj} (h : IsSh w S od) (h' : IsSh w S' od) : S = S' := by
  obtain ⟨k1, k2, k3, k4, k5, k6, k7, k8, k9, t1, t3, t4, t5, t6, t7, t8, tb, e⟩ := h
  obtain ⟨k1', k2', k3', k4', k5', k6', k7', k8', k9', t1', t3', t4', t5', t6', t7', t8', tb', e'⟩ := h'
  rw [e] at e'
  unfold shObj dictOf at e'
  simp only [Obj.mk.injEq, Data.dict.injEq, List.toArray_inj, Array.mk.injEq, List.cons.injEq, DictEntry.mk.injEq, Value.int.injEq, Value.bool.injEq, Value.bytes.injEq, Int.natCast_inj, and_true, true_and] at e'
  obtain ⟨⟨-, q1, -⟩, ⟨-, q2⟩, ⟨-, q3, -⟩, ⟨-, q4, -⟩, ⟨-, q5, -⟩, ⟨-, q6, -⟩, ⟨-, q7, -⟩, ⟨-, q8, -⟩, -, q9, -⟩ := e'
  rw [sh_eq]
  simp only [gpK, q1, q2, q3, q4, q5, q6, q7, q8, q9, and_self]
open Classical in
noncomputable def hitE (w : World) (news : List (Addr × Obj)) (S : Sh) (y : Value) : Bool := decide (∃ x d od S', y = .ref x ∧ (x, instObj 415 d) ∈ news ∧ (d, od) ∈ news ∧ IsSh w S' od ∧ shB S' S = true)
theorem inst_inj {C d d' : Addr} (h : instObj C d = instObj C d') : d = d' := by
  simp only [instObj, Obj.mk.injEq, Option.some.injEq, true_and, and_true] at h
  exact h
open Classical in
theorem hitE_of {w : World} {h : Heap} {S S0 : Sh} {x d : Addr} {od : Obj} (N : News h₀ L h news) (h1 : (x, instObj 415 d) ∈ news) (h2 : (d, od) ∈ news) (h3 : IsSh w S0 od) : hitE w news S (.ref x) = shB S0 S := by
  unfold hitE
  cases hb : shB S0 S with
  | true => exact decide_eq_true ⟨x, d, od, S0, rfl, h1, h2, h3, hb⟩
  | false =>
    refine decide_eq_false ?_
    rintro ⟨x', d', od', S', e, q1, q2, q3, q4⟩
    obtain rfl : x = x' := by injection e
    obtain rfl := inst_inj (news_inj N h1 q1)
    obtain rfl := news_inj N h2 q2
    obtain rfl := h3.inj q3
    rw [hb] at q4; cases q4
theorem hitE_any {w : World} {h : Heap} {S : Sh} (N : News h₀ L h news) : ∀ {vs : List Value} {Ss : List Sh}, ShsIn w news vs Ss → vs.any (hitE w news S) = Ss.any (fun y => shB y S)
  | _, _, .nil => rfl
  | _, _, .cons h1 h2 h3 r => by rw [List.any_cons, List.any_cons, hitE_of N h1 h2 h3, hitE_any N r]
end
section
theorem offM34 : True := by w_top off; trivial
open PySem.SeqAt
set_option maxRecDepth 100000
set_option maxHeartbeats 4000000
variable {p : Program} {loose : List Str} {mean : ExcName → Option Value} {mg mb : Str → Option Value}
  {dp un : Nat} {gd : Option (List Code)} {cn : Str} {cs : Scope} {a : Addr} {ccd : Value} {cl : List (Str × Addr)} {outer : List Env}
  {A₀ : Around} {E Q : Value → Shared → Prop} {s : Shared} {base h₀ : Heap} {L : Addr} {m : Str → Option Value} {news : List (Addr × Obj)}
def addN (Ss : List Sh) (S : Sh) : List Sh := if Ss.any (fun y => shB y S) then Ss else Ss ++ [S]
def badN (Ss : List Sh) (S : Sh) : Bool := match Ss with
  | [] => false
  | S0 :: _ => !decide (gpK S0 = gpK S)
/-- what a raise of the program's own exception asks of the caller -/
def OutE (base h₀ : Heap) (L : Addr) (m : Str → Option Value) (envs : List Env) (Rr : List (Addr × Obj) → Array GenState → Prop) (E : Value → Shared → Prop) (s : Shared) : Prop :=
  ∀ nw g e t vs h' tk' gs', Rr nw gs' → Fr h₀ L g m → g.UpToSlots h' → RaisedK base envs e (.ref 50) t vs nw h' → E (.ref e) ⟨h', gs', s.drawn, tk', s.os⟩
theorem raised_sub {l : List Env} {e t : Addr} {cls : Value} {vs : List Value} {nw nw' : List (Addr × Obj)} {h : Heap} (R : RaisedK base l e cls t vs nw h) (k : ∀ q ∈ nw', q ∈ nw) : RaisedK base l e cls t vs nw' h :=
  let ⟨⟨B, a, b, c, d⟩, z⟩ := R
  ⟨⟨B, a, fun q hq => b q (k q hq), c, d⟩, z⟩
theorem raised_none {l : List Env} {e t : Addr} {cls : Value} {vs : List Value} {nw : List (Addr × Obj)} {h : Heap} (R : RaisedK base l e cls t vs nw h) : RaisedK base l e cls t vs [] h :=
  let ⟨⟨B, a, _, c, d⟩, z⟩ := R
  ⟨⟨B, a, fun _ hq => (nomatch hq), c, d⟩, z⟩
theorem shEqB (w : World) (S S' : Sh) (x d x' d' : Addr) (od od' : Obj) (hS : IsSh w S od) (hS' : IsSh w S' od') (hx : (x, instObj 415 d) ∈ news) (hd9 : (d, od) ∈ news) (hx' : (x', instObj 415 d') ∈ news) (hd9' : (d', od') ∈ news) (N : News h₀ L s.heap news) (B : Below A₀ base outer h₀) (F : Fr h₀ L s.heap m) (X : (Mine.hd.heap_1 w.params).In h₀) (T : Top p loose mean mg mb h₀)
  (hk : cs.kind = .function) (hd : dp + 90 < recursionLimit) (hu : un + 600 < cLine) {Q : Bool → Shared → Prop}
  (ret : ∀ h' tk', Fr h₀ L h' m → News h₀ L h' news → Q (shB S S') { s with heap := h', toks := tk' })
  (hrw : PySem.Challenge.rw_ja0052_01 = PySem.Challenge.rw_ja0052_01) :
  wpAny (model PySem.Challenge.pw_ja0052_01 w) (ktrTop dp un gd cn cs L a ccd cl outer) (eqBool (.ref x) (.ref x')) Q E s := by
  revert X hrw
  k_fill
  intro X hrw
  clear hrw
  unfold eqBool
  refine wpAny_holding ?_
  refine wpAny_ite_split (fun hab => ?_) (fun _ => ?_)
  · obtain rfl : x = x' := by have := eq_of_beq hab; injection this
    obtain rfl := inst_inj (news_inj N hx hx')
    obtain rfl := news_inj N hd9 hd9'
    obtain rfl := hS.inj hS'
    rw [show shB S S = true from (shB_iff S S).mpr rfl] at ret
    exact wpAny_bind (wpAny_rule (wpAny_pure (ret s.heap s.toks F N)))
  · refine wpAny_bind ?_
    refine' cmp_K (op := .Eq) ?k1 ?k2 ?k3 (InstAt.of_news N hx hd9) (InstAt.type (InstAt.of_news N hx' hd9')) ?k6 ?k7 ?k8 ?_
    case k1 => walk_at "mine depth"
    case k2 => k_asm
    case k3 => k_asm
    case k6 => k_is
    case k7 => k_is
    case k8 => k_is
    refine' eq_spec w S S' x d x' d' od od' hS hS' hx hd9 hx' hd9' N B F X T hk hd hu ?_ rfl
    intro h' tk' F' N'
    show wpAny _ _ (truthOfDropped (.bool (shB S S'))) _ _ _
    exact wpAny_truthy_bool (ret h' tk' F' N')
theorem ShsIn.mem {w : World} {nw : List (Addr × Obj)} {vs : List Value} {Ss : List Sh} (h : ShsIn w nw vs Ss) : ∀ y ∈ vs, ∃ x d od S, y = .ref x ∧ (x, instObj 415 d) ∈ nw ∧ (d, od) ∈ nw ∧ IsSh w S od := by
  induction h with
  | nil => intro y hy; cases hy
  | cons h1 h2 h3 _ ih =>
    intro y hy
    rcases List.mem_cons.mp hy with rfl | hy
    · exact ⟨_, _, _, _, rfl, h1, h2, h3⟩
    · exact ih y hy
theorem notIn_sh (w : World) (S : Sh) (x d l : Addr) (od : Obj) (vs : List Value) (n : Nat) (Ss : List Sh) (hl : (l, listOf vs.toArray n) ∈ news) (hV : ShsIn w news vs Ss) (hS : IsSh w S od) (hx : (x, instObj 415 d) ∈ news) (hd9 : (d, od) ∈ news) (N : News h₀ L s.heap news) (B : Below A₀ base outer h₀) (F : Fr h₀ L s.heap m) (X : (Mine.hd.heap_1 w.params).In h₀) (T : Top p loose mean mg mb h₀)
  (hk : cs.kind = .function) (hd : dp + 90 < recursionLimit) (hu : un + 700 < cLine)
  (ret : ∀ h' tk', Fr h₀ L h' m → News h₀ L h' news → Q (.bool (!Ss.any (fun y => shB y S))) { s with heap := h', toks := tk' }) :
  wpAny (model PySem.Challenge.pw_ja0052_01 w) (ktrTop dp un gd cn cs L a ccd cl outer) (compareOp .NotIn (.ref x) (.ref l)) Q E s := by
  refine notIn_C (items := vs.toArray) (n := n) (hitE w news S) (fun s' => ∃ h' tk', s' = ⟨h', s.gens, s.drawn, tk', s.os⟩ ∧ Fr h₀ L h' m ∧ News h₀ L h' news) ⟨_, _, rfl, F, N⟩ ?_ ?_ ?_
  · rintro s' ⟨h', tk', rfl, F', N'⟩
    exact (N' _ hl).1
  · rintro y hy s' ⟨h', tk', rfl, F', N'⟩ Q' E' hq
    obtain ⟨x0, d0, od0, S0, rfl, y1, y2, y3⟩ := hV.mem y (by simpa using hy)
    rw [hitE_of N y1 y2 y3] at hq
    exact shEqB (un := un + 1) w S0 S x0 d0 x d od0 od y3 hS y1 y2 hx hd9 N' B F' X T hk hd (by omega) (fun h'' tk'' F'' N'' => hq _ ⟨h'', tk'', rfl, F'', N''⟩) rfl
  · rintro s' ⟨h', tk', rfl, F', N'⟩
    have e : vs.toArray.any (hitE w news S) = Ss.any (fun y => shB y S) := by
      rw [← hitE_any N hV]; simp
    rw [e]
    exact ret h' tk' F' N'
theorem add_spec (w : World) (S : Sh) (g ga l x d : Addr) (k : Tok) (od : Obj) (vs : List Value) (n : Nat) (Ss : List Sh) (hg : (g, instObj 513 ga) ∈ news) (hgd : (ga, grObj w l k) ∈ news) (hV : ShsIn w news vs Ss) (hS : IsSh w S od) (hx : (x, instObj 415 d) ∈ news) (hd9 : (d, od) ∈ news) (hoff : ∀ p ∈ news, p.1 ≠ l) (hlen : vs.length < 1000)
  (N : News h₀ L s.heap ((l, listOf vs.toArray n) :: news)) (B : Below A₀ base outer h₀) (F : Fr h₀ L s.heap m) (X : (Mine.hd.heap_1 w.params).In h₀) (T : Top p loose mean mg mb h₀)
  (hk : cs.kind = .function) (hd : dp + 130 < recursionLimit) (hu : un + 900 < cLine)
  (ret : badN Ss S = false → ∀ vs' n' h' tk', Fr h₀ L h' m → News h₀ L h' ((l, listOf (List.toArray vs') n') :: news) → (∀ nw, ShsIn w nw vs Ss → (x, instObj 415 d) ∈ nw → (d, od) ∈ nw → ShsIn w nw vs' (addN Ss S)) → Q .none { s with heap := h', toks := tk' })
  (raised : badN Ss S = true → OutE base h₀ L m (envX cn cs L a ccd cl :: outer) (fun nw gs => nw = news ∧ gs = s.gens) E s)
  (hrw : PySem.Challenge.rw_ja0052_01 = PySem.Challenge.rw_ja0052_01) :
  wpAny (model PySem.Challenge.pw_ja0052_01 w) (ktrTop dp un gd cn cs L a ccd cl outer) (call (.ref 468) [.ref g, .ref x]) Q E s := by
  revert X hrw
  k_fill
  intro X hrw
  clear hrw
  have hS0 := hS
  obtain ⟨k1, k2, k3, k4, k5, k6, k7, k8, k9, t1, t3, t4, t5, t6, t7, t8, tb, rfl⟩ := hS
  have hd99 := hd9
  unfold shObj at hd9
  have hgd0 := hgd
  unfold grObj at hgd
  cases hV with
  | nil =>
    refine wpAny_call ?_
    (k_dflt (refine' code_def ?k1 ?k2 ?k3 ?k4 ?k5 ?kA ?kF ?kK ?k6 ?k7 ?k8 ?k9 ?kB ?_ ?c2 ?c3 ?c4 ?c5; (case kA => first | with_reducible assumption | exact rfl); (case kF => first | with_reducible assumption | exact rfl); (case kK => first | with_reducible assumption | exact rfl | assumption); (case k1 => k_asm); (case k2 => k_asm); (case k3 => k_asm); (case k4 => k_asm); (case k5 => k_asm); (case k6 => k_is); (case k7 => k_is); (case k8 => k_room); (case k9 => exact BindsTo.of_eq rfl); (case c5 => decide); (case kB => exact locs rfl); (case c2 => exact rfl); (case c3 => exact rfl); (case c4 => exact rfl); k_whole; intro g1 L1 _ FG1 FF _ B1 X1 T1; (try dsimp only); (try k_fold)))
    refine letA ?_
    intro A9
    replace FF := fr_lookup (show Fr _ _ _ (fun y => List.lookup y [(Str.ofString "share", _), (Str.ofString "self", _)]) from FF)
    dsimp only [List.map] at FF
    repeat ((fail_if_success (with_reducible show wpAny _ _ (compareOp CmpOp.NotIn _ _) _ _ _)); first | (dsimp only; (with_reducible show wpAny _ _ (compareOp CmpOp.NotIn _ _) _ _ _)) | k_unfold | walk1 | (dsimp only; walk1) | (leave1; try dsimp only))
    rename News _ _ _ _ => N6
    rename Fr _ _ _ _ => F6
    refine' notIn_sh w S x d l _ [] n [] (.head _) .nil hS0 (.tail _ hx) (.tail _ hd99) N6 ?kB ?kF ?kX ?kT ?kk ?kd ?ku ?_
    case kB => k_asm
    case kF => k_asm
    case kX => k_asm
    case kT => k_asm
    case kk => rfl
    case kd => walk_at "mine depth"
    case ku => walk_at "mine depth"
    intro h7 tk7 F7 N7
    rw [show (([] : List Sh).any (fun y => shB y S)) = false from rfl]
    repeat ((fail_if_success (with_reducible show wpAny _ _ (call (Value.builtin "list.append") _ _) _ _ _)); first | (dsimp only; (with_reducible show wpAny _ _ (call (Value.builtin "list.append") _ _) _ _ _)) | k_unfold | walk1 | (dsimp only; walk1) | (leave1; try dsimp only))
    rename News _ _ _ _ => N8
    rename Fr _ _ _ _ => F8
    refine append_K (its := List.toArray []) (n := n) F8 (news := (l, listOf (List.toArray []) n) :: news) (News.sub N8 (by walk_at "mine sub")) (.head hoff) ?_ ?_
    · intro h9 F9 N9
      rw [List.push_toArray] at N9
      k_steps
      rename News _ _ _ _ => NA
      rename Fr _ _ _ _ => FA
      exact ret rfl _ _ _ _ FA NA (fun nw _ q2 q3 => ShsIn.snoc .nil q2 q3 hS0)
    · rw [sizeLine_eq, List.size_toArray]; decide
  | cons y1 y2 y3 r =>
    rename_i x0 d0 od0 S0 vs0 Ss0
    refine wpAny_call ?_
    (k_dflt (refine' code_def ?k1 ?k2 ?k3 ?k4 ?k5 ?kA ?kF ?kK ?k6 ?k7 ?k8 ?k9 ?kB ?_ ?c2 ?c3 ?c4 ?c5; (case kA => first | with_reducible assumption | exact rfl); (case kF => first | with_reducible assumption | exact rfl); (case kK => first | with_reducible assumption | exact rfl | assumption); (case k1 => k_asm); (case k2 => k_asm); (case k3 => k_asm); (case k4 => k_asm); (case k5 => k_asm); (case k6 => k_is); (case k7 => k_is); (case k8 => k_room); (case k9 => exact BindsTo.of_eq rfl); (case c5 => decide); (case kB => exact locs rfl); (case c2 => exact rfl); (case c3 => exact rfl); (case c4 => exact rfl); k_whole; intro g1 L1 _ FG1 _ _ B1 X1 T1; (try dsimp only); (try k_fold)))
    refine letA ?_
    intro A9
    repeat ((fail_if_success (with_reducible show wpAny _ _ (call (Value.ref 496) _ _) _ _ _)); first | (dsimp only; (with_reducible show wpAny _ _ (call (Value.ref 496) _ _) _ _ _)) | k_unfold | walk1 | (dsimp only; walk1) | (leave1; try dsimp only))
    refine' grgp_spec w g ga l x0 d0 k od0 vs0 n S0 (.tail _ hg) (.tail _ hgd0) (.head _) y3 (.tail _ y1) (.tail _ y2) ?kN ?kB ?kF ?kX ?kT ?kk ?kd ?ku ?_ rfl
    case kN => k_asm
    case kB => k_asm
    case kF => k_asm
    case kX => k_asm
    case kT => k_asm
    case kk => rfl
    case kd => walk_at "mine depth"
    case ku => walk_at "mine depth"
    intro c cx u1 u3 u4 u5 u6 u8 h1 tk1 F2 N2 l2
    repeat ((fail_if_success (with_reducible show wpAny _ _ (call (Value.ref 374) _ _) _ _ _)); first | (dsimp only; (with_reducible show wpAny _ _ (call (Value.ref 374) _ _) _ _ _)) | k_unfold | walk1 | (dsimp only; walk1) | (leave1; try dsimp only))
    refine' group_spec w S x d _ hS0 (.tail _ (.tail _ hx)) (.tail _ (.tail _ hd99)) ?kN ?kB ?kF ?kX ?kT ?kk ?kd ?ku ?_ rfl
    case kN => k_asm
    case kB => k_asm
    case kF => k_asm
    case kX => k_asm
    case kT => k_asm
    case kk => rfl
    case kd => walk_at "mine depth"
    case ku => walk_at "mine depth"
    intro c' cx' v1 v3 v4 v5 v6 v8 h2 tk2 F3 N3 l3
    repeat ((fail_if_success (with_reducible show wpAny _ _ (compareOp CmpOp.NotEq (Value.ref _) (Value.ref _)) _ _ _)); first | (dsimp only; (with_reducible show wpAny _ _ (compareOp CmpOp.NotEq (Value.ref _) (Value.ref _)) _ _ _)) | k_unfold | walk1 | (dsimp only; walk1) | (leave1; try dsimp only))
    rename News _ _ _ _ => N4
    rename Fr _ _ _ _ => F4
    refine' gp_cmpNe (X1.keeps F4.keep) ?ku (News.get N4 (.tail _ (.head _))) (News.get N4 (.head _)) ?_
    case ku => walk_at "mine depth"
    cases hb : decide (gpK S0 = gpK S) with
    | false =>
      have hbad : badN (S0 :: Ss0) S = true := by show (!decide (gpK S0 = gpK S)) = true; rw [hb]; rfl
      k_steps
      rename_i h5 e5 _ h6 t6 R6 U6
      refine raised hbad _ _ _ _ _ _ _ _ ⟨rfl, rfl⟩ FG1 U6 (raised_sub R6 ?_)
      intro q hq
      exact .tail _ (.tail _ (.tail _ hq))
    | true =>
      have hbad : badN (S0 :: Ss0) S = false := by show (!decide (gpK S0 = gpK S)) = false; rw [hb]; rfl
      repeat ((fail_if_success (with_reducible show wpAny _ _ (compareOp CmpOp.NotIn _ _) _ _ _)); first | (dsimp only; (with_reducible show wpAny _ _ (compareOp CmpOp.NotIn _ _) _ _ _)) | k_unfold | walk1 | (dsimp only; walk1) | (leave1; try dsimp only))
      rename News _ _ _ _ => N6
      rename Fr _ _ _ _ => F6
      refine' notIn_sh w S x d l _ (.ref x0 :: vs0) n (S0 :: Ss0) ?hl ((ShsIn.cons y1 y2 y3 r).mono ?hm) hS0 ?hx ?hd N6 ?kB ?kF ?kX ?kT ?kk ?kd ?ku ?_
      case hl => exact .tail _ (.tail _ (.head _))
      case hm => exact fun p hp => .tail _ (.tail _ (.tail _ hp))
      case hx => exact .tail _ (.tail _ (.tail _ hx))
      case hd => exact .tail _ (.tail _ (.tail _ hd99))
      case kB => k_asm
      case kF => k_asm
      case kX => k_asm
      case kT => k_asm
      case kk => rfl
      case kd => walk_at "mine depth"
      case ku => walk_at "mine depth"
      intro h7 tk7 F7 N7
      have hadd : addN (S0 :: Ss0) S = if (S0 :: Ss0).any (fun y => shB y S) then S0 :: Ss0 else (S0 :: Ss0) ++ [S] := rfl
      cases hc : (S0 :: Ss0).any (fun y => shB y S) with
      | true =>
        rw [hc, if_pos rfl] at hadd
        k_steps
        rename News _ _ _ _ => N8
        rename Fr _ _ _ _ => F8
        exact ret hbad _ _ _ _ F8 (News.sub N8 (by walk_at "mine sub")) (fun nw q1 _ _ => by rw [hadd]; exact q1)
      | false =>
        rw [hc, if_neg (by decide)] at hadd
        repeat ((fail_if_success (with_reducible show wpAny _ _ (call (Value.builtin "list.append") _ _) _ _ _)); first | (dsimp only; (with_reducible show wpAny _ _ (call (Value.builtin "list.append") _ _) _ _ _)) | k_unfold | walk1 | (dsimp only; walk1) | (leave1; try dsimp only))
        rename News _ _ _ _ => N8
        rename Fr _ _ _ _ => F8
        refine append_K (its := List.toArray (.ref x0 :: vs0)) (n := n) F8 (news := (l, listOf (List.toArray (.ref x0 :: vs0)) n) :: news) (News.sub N8 (by walk_at "mine sub")) (.head hoff) ?_ ?_
        · intro h9 F9 N9
          rw [List.push_toArray] at N9
          k_steps
          rename News _ _ _ _ => NA
          rename Fr _ _ _ _ => FA
          exact ret hbad _ _ _ _ FA NA (fun nw q1 q2 q3 => by rw [hadd]; exact ShsIn.snoc q1 q2 q3 hS0)
        · rw [sizeLine_eq, List.size_toArray]; omega
end
section
open PySem.SeqAt
set_option maxRecDepth 100000
set_option maxHeartbeats 4000000
/-- the ledger without an address -/
def off (l : Addr) (news : List (Addr × Obj)) : List (Addr × Obj) := news.filter fun p => !(Nat.beq p.1 l)
theorem mem_off {l : Addr} {news : List (Addr × Obj)} {p : Addr × Obj} (h : p ∈ news) (hne : p.1 ≠ l) : p ∈ off l news := by
  unfold off
  rw [List.mem_filter]
  refine ⟨h, ?_⟩
  cases q : Nat.beq p.1 l with
  | false => rfl
  | true => exact absurd (Nat.eq_of_beq_eq_true q) hne
theorem off_sub {l : Addr} {news : List (Addr × Obj)} : ∀ p ∈ off l news, p ∈ news := fun _ h => (List.mem_filter.mp h).1
theorem off_ne {l : Addr} {news : List (Addr × Obj)} : ∀ p ∈ off l news, p.1 ≠ l := fun p h e => by
  have := (List.mem_filter.mp h).2
  rw [e, Nat.beq_refl] at this
  cases this
section
variable {h₀ h : Heap} {L : Addr} {news : List (Addr × Obj)}
theorem ne_of_cls {l y : Addr} {o lo : Obj} (N : News h₀ L h news) (hl : (l, lo) ∈ news) (hy : (y, o) ∈ news) (hc : o.cls ≠ lo.cls) : y ≠ l := fun e => by
  subst e
  exact hc (congrArg Obj.cls (news_inj N hy hl))
theorem off_of {l y : Addr} {o lo : Obj} (N : News h₀ L h news) (hl : (l, lo) ∈ news) (hy : (y, o) ∈ news) (hc : o.cls ≠ lo.cls) : (y, o) ∈ off l news := mem_off hy (ne_of_cls N hl hy hc)
theorem News.off {l : Addr} {lo : Obj} (N : News h₀ L h news) (hl : (l, lo) ∈ news) : News h₀ L h ((l, lo) :: off l news) := fun p hp => by
  rcases List.mem_cons.mp hp with rfl | hp
  · exact N _ hl
  · exact N p (off_sub p hp)
theorem IsSh.cls {w : World} {S : Sh} {od : Obj} (h : IsSh w S od) : od.cls = .type "dict" := by
  obtain ⟨k1, k2, k3, k4, k5, k6, k7, k8, k9, t1, t3, t4, t5, t6, t7, t8, tb, rfl⟩ := h
  rfl
theorem ref_list (C : Addr) : (Value.ref C) ≠ .type "list" := fun e => by cases e
theorem dict_list : (Value.type "dict") ≠ .type "list" := by decide
theorem ShsIn.off {w : World} {l : Addr} {lo : Obj} {vs : List Value} {Ss : List Sh} (N : News h₀ L h news) (hl : (l, lo) ∈ news) (hc : lo.cls = .type "list") (H : ShsIn w news vs Ss) : ShsIn w (Mine.off l news) vs Ss := by
  induction H with
  | nil => exact .nil
  | cons h1 h2 h3 _ ih => exact .cons (off_of N hl h1 (by rw [hc]; exact ref_list _)) (off_of N hl h2 (by rw [hc, h3.cls]; exact dict_list)) h3 ih
/-- a list's refs tell the common parameters -/
inductive CpsIn (news : List (Addr × Obj)) : List Value → List Sh → Prop where
  | nil : CpsIn news [] []
  | cons {c cx : Addr} {t1 t3 t5 t6 : Tok} {S : Sh} {vs : List Value} {Ss : List Sh} : (c, ntObj 250 cx (cpV S t1 t3 t5 t6)) ∈ news → CpsIn news vs Ss → CpsIn news (.ref c :: vs) (S :: Ss)
theorem CpsIn.mono {a b : List (Addr × Obj)} {vs : List Value} {Ss : List Sh} (H : CpsIn a vs Ss) (k : ∀ p ∈ a, p ∈ b) : CpsIn b vs Ss := by
  induction H with
  | nil => exact .nil
  | cons h1 _ ih => exact .cons (k _ h1) ih
theorem CpsIn.len {a : List (Addr × Obj)} {vs : List Value} {Ss : List Sh} (H : CpsIn a vs Ss) : vs.length = Ss.length := by
  induction H with
  | nil => rfl
  | cons _ _ ih => simp [ih]
theorem CpsIn.snoc {a : List (Addr × Obj)} {vs : List Value} {Ss : List Sh} {c cx : Addr} {t1 t3 t5 t6 : Tok} {S : Sh} (H : CpsIn a vs Ss) (h1 : (c, ntObj 250 cx (cpV S t1 t3 t5 t6)) ∈ a) : CpsIn a (vs ++ [.ref c]) (Ss ++ [S]) := by
  induction H with
  | nil => exact .cons h1 .nil
  | cons q1 _ ih => exact .cons q1 ih
theorem CpsIn.off {l : Addr} {lo : Obj} {vs : List Value} {Ss : List Sh} (N : News h₀ L h news) (hl : (l, lo) ∈ news) (hc : lo.cls = .type "list") (H : CpsIn news vs Ss) : CpsIn (Mine.off l news) vs Ss := by
  induction H with
  | nil => exact .nil
  | cons h1 _ ih => exact .cons (off_of N hl h1 (by rw [hc]; exact ref_list _)) ih
theorem cpV_inj {cx cx' : Addr} {S S' : Sh} {t1 t3 t5 t6 u1 u3 u5 u6 : Tok} (e : ntObj 250 cx (cpV S t1 t3 t5 t6) = ntObj 250 cx' (cpV S' u1 u3 u5 u6)) : cpK S = cpK S' := by
  simp only [ntObj, cpV, Obj.mk.injEq, Data.seq.injEq, Array.mk.injEq, List.cons.injEq, Value.int.injEq, Value.bool.injEq, Int.natCast_inj, and_true, true_and] at e
  obtain ⟨-, ⟨q1, -⟩, q2, ⟨q3, -⟩, ⟨q4, -⟩, q5, -⟩ := e
  simp only [cpK, q1, q2, q3, q4, q5]
open Classical in
noncomputable def hitC (news : List (Addr × Obj)) (S : Sh) (y : Value) : Bool := decide (∃ c cx t1 t3 t5 t6 S', y = .ref c ∧ (c, ntObj 250 cx (cpV S' t1 t3 t5 t6)) ∈ news ∧ cpK S' = cpK S)
open Classical in
theorem hitC_of {S S0 : Sh} {c cx : Addr} {t1 t3 t5 t6 : Tok} (N : News h₀ L h news) (h1 : (c, ntObj 250 cx (cpV S0 t1 t3 t5 t6)) ∈ news) : hitC news S (.ref c) = decide (cpK S0 = cpK S) := by
  unfold hitC
  by_cases hq : cpK S0 = cpK S
  · rw [decide_eq_true hq]
    exact decide_eq_true ⟨c, cx, t1, t3, t5, t6, S0, rfl, h1, hq⟩
  · rw [decide_eq_false hq]
    refine decide_eq_false ?_
    rintro ⟨c', cx', u1, u3, u5, u6, S', e, q1, q2⟩
    obtain rfl : c = c' := by injection e
    exact hq ((cpV_inj (news_inj N h1 q1)).trans q2)
theorem hitC_any {S : Sh} (N : News h₀ L h news) : ∀ {vs : List Value} {Ss : List Sh}, CpsIn news vs Ss → vs.any (hitC news S) = Ss.any (fun y => decide (cpK y = cpK S))
  | _, _, .nil => rfl
  | _, _, .cons h1 r => by rw [List.any_cons, List.any_cons, hitC_of N h1, hitC_any N r]
theorem CpsIn.mem {nw : List (Addr × Obj)} {vs : List Value} {Ss : List Sh} (H : CpsIn nw vs Ss) : ∀ y ∈ vs, ∃ c cx t1 t3 t5 t6 S, y = .ref c ∧ (c, ntObj 250 cx (cpV S t1 t3 t5 t6)) ∈ nw := by
  induction H with
  | nil => intro y hy; cases hy
  | cons h1 _ ih =>
    intro y hy
    rcases List.mem_cons.mp hy with rfl | hy
    · exact ⟨_, _, _, _, _, _, _, rfl, h1⟩
    · exact ih y hy
theorem notIn_cp {w : World} {A : Around} {E Q : Value → Shared → Prop} {s : Shared} {m : Str → Option Value} {c cx cl : Addr} {t1 t3 t5 t6 : Tok} {S : Sh} {vs : List Value} {Ss : List Sh} {n : Nat} (F : Fr h₀ L s.heap m) (N : News h₀ L s.heap ((c, ntObj 250 cx (cpV S t1 t3 t5 t6)) :: news)) (X : (Mine.hd.heap_1 w.params).In h₀) (hlt : ∀ p ∈ news, p.1 < c)
    (hl : (cl, listOf vs.toArray n) ∈ news) (hV : CpsIn news vs Ss) (hu : A.in1.units < cLine) (hQ : Q (.bool (!Ss.any (fun y => decide (cpK y = cpK S)))) s) :
    wpAny (model PySem.Challenge.pw_ja0052_01 w) A (compareOp .NotIn (.ref c) (.ref cl)) Q E s := by
  have N' : News h₀ L s.heap news := fun p hp => N p (.tail _ hp)
  refine PySem.SeqAt.notIn_listAt (hitC news S) (News.isList N' hl) ?_ ?_
  · intro y hy
    obtain ⟨c', cx', u1, u3, u5, u6, S', rfl, h1⟩ := hV.mem y (by simpa using hy)
    rw [hitC_of N' h1]
    exact cp_at (X.keeps F.keep) hu (Nat.ne_of_lt (hlt _ h1)) (N _ (.tail _ h1)).1 (N _ (.head _)).1
  · have e : vs.toArray.any (hitC news S) = Ss.any (fun y => decide (cpK y = cpK S)) := by
      rw [← hitC_any N' hV]; simp
    rw [e]; exact hQ
/-- the groups -/
inductive GrsIn (w : World) (news : List (Addr × Obj)) : List (Int × Value) → List (Nat × List Sh) → List Addr → Prop where
  | nil : GrsIn w news [] [] []
  | cons {g ga l : Addr} {k : Tok} {vs : List Value} {n gi : Nat} {Ss : List Sh} {kvs : List (Int × Value)} {grs : List (Nat × List Sh)} {ls : List Addr} : (g, instObj 513 ga) ∈ news → (ga, grObj w l k) ∈ news → (l, listOf vs.toArray n) ∈ news → ShsIn w news vs Ss →
      GrsIn w news kvs grs ls → GrsIn w news (((gi : Int), Value.ref g) :: kvs) ((gi, Ss) :: grs) (l :: ls)
theorem GrsIn.mono {w : World} {b : List (Addr × Obj)} {kvs : List (Int × Value)} {grs : List (Nat × List Sh)} {ls : List Addr} (H : GrsIn w news kvs grs ls) (k : ∀ p ∈ news, p ∈ b) : GrsIn w b kvs grs ls := by
  induction H with
  | nil => exact .nil
  | cons h1 h2 h3 h4 _ ih => exact .cons (k _ h1) (k _ h2) (k _ h3) (h4.mono k) ih
theorem GrsIn.append {w : World} {kvs kvs' : List (Int × Value)} {grs grs' : List (Nat × List Sh)} {ls ls' : List Addr} (H : GrsIn w news kvs grs ls) (H' : GrsIn w news kvs' grs' ls') : GrsIn w news (kvs ++ kvs') (grs ++ grs') (ls ++ ls') := by
  induction H with
  | nil => exact H'
  | cons h1 h2 h3 h4 _ ih => exact .cons h1 h2 h3 h4 ih
theorem GrsIn.off {w : World} {l : Addr} {lo : Obj} {kvs : List (Int × Value)} {grs : List (Nat × List Sh)} {ls : List Addr} (N : News h₀ L h news) (hl : (l, lo) ∈ news) (hc : lo.cls = .type "list") (hn : l ∉ ls) (H : GrsIn w news kvs grs ls) : GrsIn w (Mine.off l news) kvs grs ls := by
  induction H with
  | nil => exact .nil
  | cons h1 h2 h3 h4 _ ih =>
    refine .cons (off_of N hl h1 (by rw [hc]; exact ref_list _)) (off_of N hl h2 (by rw [hc]; exact dict_list)) (mem_off h3 fun e => hn ?_) (h4.off N hl hc) (ih fun q => hn (.tail _ q))
    rw [← e]; exact .head _
inductive GrsFind (w : World) (news : List (Addr × Obj)) (kvs : List (Int × Value)) (grs : List (Nat × List Sh)) (ls : List Addr) (gi : Nat) : Prop
  | mk  (g : _) (ga : _) (l : _) (k : _) (vs : _) (n : _) (Ss : _) (kp : _) (kq : _) (gp : _) (gq : _) (lp : _) (lq : _)
    (c0 : kvs = kp ++ ((gi : Int), .ref g) :: kq)
    (c1 : grs = gp ++ (gi, Ss) :: gq)
    (c2 : ls = lp ++ l :: lq)
    (c3 : PySem.valueAt kvs (gi : Int) = some (.ref g))
    (c4 : (∀ p ∈ gp, p.1 ≠ gi))
    (c5 : (g, instObj 513 ga) ∈ news)
    (c6 : (ga, grObj w l k) ∈ news)
    (c7 : (l, listOf (List.toArray vs) n) ∈ news)
    (c8 : ShsIn w news vs Ss)
    (c9 : GrsIn w news kp gp lp)
    (c10 : GrsIn w news kq gq lq)
theorem GrsIn.find {w : World} {kvs : List (Int × Value)} {grs : List (Nat × List Sh)} {ls : List Addr} (gi : Nat) (H : GrsIn w news kvs grs ls) :
    (PySem.valueAt kvs (gi : Int) = none ∧ ∀ p ∈ grs, p.1 ≠ gi) ∨
    GrsFind w news kvs grs ls gi := by
  induction H with
  | nil => exact .inl ⟨rfl, fun p hp => nomatch hp⟩
  | cons h1 h2 h3 h4 r ih =>
    rename_i g ga l k vs n gi' Ss kvs grs ls
    by_cases e : gi' = gi
    · subst e
      refine .inr ⟨g, ga, l, k, vs, n, Ss, [], kvs, [], grs, [], ls, rfl, rfl, rfl, ?_, (fun p hp => nomatch hp), h1, h2, h3, h4, .nil, r⟩
      simp [PySem.valueAt]
    · have hv : PySem.valueAt (((gi' : Int), Value.ref g) :: kvs) (gi : Int) = PySem.valueAt kvs (gi : Int) := by
        have : ¬ ((gi' : Int) = (gi : Int)) := fun q => e (Int.ofNat.inj q)
        simp [PySem.valueAt, this]
      rcases ih with ⟨q1, q2⟩ | ⟨g', ga', l', k', vs', n', Ss', kp, kq, gp, gq, lp, lq, rfl, rfl, rfl, q4, q5, q6, q7, q8, q9, q10, q11⟩
      · refine .inl ⟨hv.trans q1, fun p hp => ?_⟩
        rcases List.mem_cons.mp hp with rfl | hp
        · exact e
        · exact q2 p hp
      · refine .inr ⟨g', ga', l', k', vs', n', Ss', _ :: kp, kq, (gi', Ss) :: gp, gq, l :: lp, lq, rfl, rfl, rfl, hv.trans q4, fun p hp => ?_, q6, q7, q8, q9, .cons h1 h2 h3 h4 q10, q11⟩
        rcases List.mem_cons.mp hp with rfl | hp
        · exact e
        · exact q5 p hp
end
/-- what decoding does, in plain words -/
def updG (S : Sh) : List (Nat × List Sh) → Option (List (Nat × List Sh))
  | [] => some [(S.gi, [S])]
  | (k, Ss) :: r => if k = S.gi then (if badN Ss S then none else some ((k, addN Ss S) :: r)) else (updG S r).map ((k, Ss) :: ·)
theorem updG_new {S : Sh} : ∀ {grs : List (Nat × List Sh)}, (∀ p ∈ grs, p.1 ≠ S.gi) → updG S grs = some (grs ++ [(S.gi, [S])])
  | [], _ => rfl
  | (k, Ss) :: r, h => by
    show (if k = S.gi then _ else (updG S r).map ((k, Ss) :: ·)) = _
    rw [if_neg (h _ (.head _)), updG_new fun p hp => h p (.tail _ hp)]
    rfl
theorem updG_at {S : Sh} {Ss : List Sh} {gq : List (Nat × List Sh)} : ∀ {gp : List (Nat × List Sh)}, (∀ p ∈ gp, p.1 ≠ S.gi) → updG S (gp ++ (S.gi, Ss) :: gq) = if badN Ss S then none else some (gp ++ (S.gi, addN Ss S) :: gq)
  | [], _ => by
    show (if S.gi = S.gi then _ else _) = _
    rw [if_pos rfl]; rfl
  | (k, Ts) :: r, h => by
    show (if k = S.gi then _ else (updG S (r ++ (S.gi, Ss) :: gq)).map ((k, Ts) :: ·)) = _
    rw [if_neg (h _ (.head _)), updG_at fun p hp => h p (.tail _ hp)]
    by_cases q : badN Ss S = true
    · rw [if_pos q, if_pos q]; rfl
    · rw [if_neg q, if_neg q]; rfl
def addC (cps : List Sh) (S : Sh) : List Sh := if cps.any (fun y => decide (cpK y = cpK S)) then cps else cps ++ [S]
def dec1 (D : List Sh × List (Nat × List Sh)) (S : Sh) : Option (List Sh × List (Nat × List Sh)) := (updG S D.2).map fun g => (addC D.1 S, g)
def decN : List Sh → Option (List Sh × List (Nat × List Sh)) := List.foldl (fun o S => o.bind fun D => dec1 D S) (some ([], []))
theorem decN_snoc (l : List Sh) (S : Sh) : decN (l ++ [S]) = (decN l).bind fun D => dec1 D S := by
  unfold decN; rw [List.foldl_append]; rfl
theorem decN_none (l r : List Sh) (h : decN l = none) : decN (l ++ r) = none := by
  unfold decN at h ⊢
  rw [List.foldl_append, h]
  induction r with
  | nil => rfl
  | cons S r ih => exact ih
end
section
theorem offM36 : True := by w_top off; trivial
local macro_rules | `(tactic| walk_at "mine pad") => `(tactic| skip)
open PySem.SeqAt
set_option maxRecDepth 100000
set_option maxHeartbeats 4000000
variable {p : Program} {loose : List Str} {mean : ExcName → Option Value} {mg mb : Str → Option Value}
  {dp un : Nat} {gd : Option (List Code)} {cn : Str} {cs : Scope} {a : Addr} {ccd : Value} {cl : List (Str × Addr)} {outer : List Env}
  {A₀ : Around} {E Q : Value → Shared → Prop} {s : Shared} {base h₀ : Heap} {L : Addr} {m : Str → Option Value} {news : List (Addr × Obj)}
/-- a share that can be written and read back -/
structure Good (S : Sh) : Prop where
  ok : ShOk S
  gg : S.gt ≤ S.gc
  lo : 16 ≤ S.val.size
  hi : S.val.size ≤ 24
  ev : S.val.size % 2 = 0
theorem cnt_of (n k : Nat) (h7 : 7 ≤ n) (h2 : (10 * (n - 7)) % 16 ≤ 10 * (n - 7)) (h3 : (10 * (n - 7) - (10 * (n - 7)) % 16 + 7) / 8 = k) :
    (10 * ((n - 7 : Nat) : Int) - (10 * ((n : Nat) - 7 : Int)).fmod 16 + 8 - 1).fdiv 8 = (k : Int) := by
  rw [Int.fmod_eq_emod_of_nonneg _ (by decide), Int.fdiv_eq_ediv_of_nonneg _ (by decide)]
  omega
theorem fm_good (w : World) (S : Sh) (tn : Tok) (gd9 : Good S)
  (oA : Obj) (tA : TabOk oA) (N : News h₀ L s.heap ((76, oA) :: news)) (hne : ∀ p ∈ news, p.1 ≠ 76) (C76 : CodeHd h₀ 80 76) (G : AllBare s.gens)
  (B : Below A₀ base outer h₀) (F : Fr h₀ L s.heap m) (X : (Mine.hd.heap_1 w.params).In h₀) (T : Top p loose mean mg mb h₀)
  (hk : cs.kind = .function) (hd : dp + 120 < recursionLimit) (hu : un + 800 < cLine)
  (ret : ∀ x d od h' tk' g' oA', AllBare g' → TabOk oA' → Fr h₀ L h' m → News h₀ L h' ((x, instObj 415 d) :: (d, od) :: (76, oA') :: news) → (∀ p ∈ (76, oA) :: news, p.1 < d) → @LT.lt Nat _ d x → IsSh w S od → Q (.ref x) ⟨h', g', s.drawn, tk', s.os⟩) :
  codeAny (model PySem.Challenge.pw_ja0052_01 w) (ktrTop dp un gd cn cs L a ccd cl outer) (.call (.ref 409) ⟨[.ref 415, .str (mnemS (allN S)) tn], []⟩) (fun r s' => match r with | .ok (.ret v) => Q v s' | .ok _ => False | .error e => E e s') s := by
  obtain ⟨q1, q2, q3, q4, q5⟩ := sizes S gd9.lo gd9.hi gd9.ev
  have hl : (allN S).length - 7 = wcN S := by rw [allN_length]; omega
  refine fm_code w (allN S) S tn (allN_small S) ⟨q1, q2⟩ q3 gd9.ok gd9.gg (hv1_of S gd9.ok) (hv2_of S gd9.ok) (by rw [hl]; exact hv3_of S) gd9.hi (cnt_of _ _ (by omega) (by rw [hl] at q5 ⊢; exact q5) (by rw [hl] at q4 ⊢; exact q4)) (hver_of S) oA tA N hne C76 G B F X T hk hd hu ret rfl
end
section
theorem offM37 : True := by w_top off; trivial
open PySem.SeqAt
set_option maxRecDepth 100000
set_option maxHeartbeats 4000000
variable {p : Program} {loose : List Str} {mean : ExcName → Option Value} {mg mb : Str → Option Value}
  {dp un : Nat} {gd : Option (List Code)} {cn : Str} {cs : Scope} {a : Addr} {ccd : Value} {cl : List (Str × Addr)} {outer : List Env}
  {A₀ : Around} {E Q : Value → Shared → Prop} {s : Shared} {base h₀ : Heap} {L : Addr} {m : Str → Option Value} {news : List (Addr × Obj)}
/-- the texts of shares -/
inductive TxIn : List Value → List Sh → Prop where
  | nil : TxIn [] []
  | cons {S : Sh} {vs : List Value} {Ss : List Sh} (t : Tok) : TxIn vs Ss → TxIn (.str (mnemS (allN S)) t :: vs) (S :: Ss)
theorem TxIn.len {vs : List Value} {Ss : List Sh} (H : TxIn vs Ss) : vs.length = Ss.length := by
  induction H with
  | nil => rfl
  | cons _ _ ih => simp [ih]
theorem TxIn.item {vs : List Value} {Ss : List Sh} (H : TxIn vs Ss) : ∀ {i : Nat} {v : Value}, vs[i]? = some v → ∃ S t, v = .str (mnemS (allN S)) t ∧ Ss[i]? = some S := by
  induction H with
  | nil => intro i v e; simp at e
  | cons t _ ih =>
    intro i v e
    cases i with
    | zero => simp at e; subst e; exact ⟨_, t, rfl, rfl⟩
    | succ i => simpa using ih (i := i) (v := v) (by simpa using e)
theorem GrsIn.lenK {w : World} {nw : List (Addr × Obj)} {kvs : List (Int × Value)} {grs : List (Nat × List Sh)} {ls : List Addr} (H : GrsIn w nw kvs grs ls) : kvs.length = grs.length := by
  induction H with
  | nil => rfl
  | cons _ _ _ _ _ ih => simp [ih]
theorem GrsIn.lsIn {w : World} {nw : List (Addr × Obj)} {kvs : List (Int × Value)} {grs : List (Nat × List Sh)} {ls : List Addr} (H : GrsIn w nw kvs grs ls) : ∀ b ∈ ls, ∃ o, (b, o) ∈ nw := by
  induction H with
  | nil => intro b hb; cases hb
  | cons _ _ h3 _ _ ih =>
    intro b hb
    rcases List.mem_cons.mp hb with rfl | hb
    · exact ⟨_, h3⟩
    · exact ih b hb
/-- the loop's state -/
inductive DJ (w : World) (tl cl gl : Addr) (Ss : List Sh) (old : List (Addr × Obj)) (i : Nat) (m' : Str → Option Value) (nw : List (Addr × Obj)) (g : Array GenState) : Prop
  | mk (u1 : _) (u2 : _) (u3 : _) (og : _) (crefs : _) (cn : _) (kvs : _) (ls : _) (oA : _) (cps : _) (grs : _) (Y : _)
    (c0 : m' = mp [(Str.ofString "mnemonics", some (Value.ref tl)), (Str.ofString "common_params", some (Value.ref cl)), (Str.ofString "groups", some (Value.ref gl)), (Str.ofString "mnemonic", u1), (Str.ofString "share", u2), (Str.ofString "group", u3)])
    (c1 : decN (Ss.take i) = some (cps, grs))
    (c2 : nw = (gl, og) :: (cl, listOf (List.toArray crefs) cn) :: (76, oA) :: Y)
    (c3 : (∀ p ∈ Y, p.1 ≠ gl ∧ p.1 ≠ cl ∧ p.1 ≠ 76))
    (c4 : TabOk oA)
    (c5 : AllBare g)
    (c6 : og.IsDictOf (PySem.intKind PySem.Challenge.pw_ja0052_01 w) kvs)
    (c7 : CpsIn Y crefs cps)
    (c8 : GrsIn w Y kvs grs ls)
    (c9 : ls.Nodup)
    (c10 : (∀ b ∈ ls, ∀ p ∈ old, p.1 ≠ b))
    (c11 : (∀ p ∈ old, p ∈ Y))
    (c12 : cps.length ≤ i)
    (c13 : grs.length ≤ i)
    (c14 : ∀ q ∈ grs, q.2.length ≤ i)
inductive DJ1 (g1 : Heap) (L1 : Addr) (g3 : Array GenState) (dr : Drawn) (os : OsState) (tl cl gl I x d : Addr) (S : Sh) (tm : Tok) (u3 : Option Value) (og oA2 od : Obj) (own Y : List (Addr × Obj)) (cps : List Sh) (f : Flow) (s' : Shared) : Prop
  | mk (z0 : f = .next) (crefs' : _) (cn' : _) (h' : _) (tk' : _) (Y' : _)
    (c0 : s' = ⟨h', g3, dr, tk', os⟩)
    (c1 : Fr g1 L1 h' (mp [(Str.ofString "mnemonics", some (Value.ref tl)), (Str.ofString "common_params", some (Value.ref cl)), (Str.ofString "groups", some (Value.ref gl)), (Str.ofString "mnemonic", some (Value.str (mnemS (allN S)) tm)), (Str.ofString "share", some (Value.ref x)), (Str.ofString "group", u3)]))
    (c2 : News g1 L1 h' ((gl, og) :: (cl, listOf (List.toArray crefs') cn') :: (76, oA2) :: (Y' ++ own)))
    (c3 : (∀ p ∈ Y', p.1 ≠ gl ∧ p.1 ≠ cl ∧ p.1 ≠ 76 ∧ p.1 ≠ I))
    (c4 : (∀ p ∈ Y, p ∈ Y'))
    (c5 : (x, instObj 415 d) ∈ Y')
    (c6 : (d, od) ∈ Y')
    (c7 : CpsIn Y' crefs' (addC cps S))
inductive DJ2 (w : World) (g1 : Heap) (L1 : Addr) (g3 : Array GenState) (dr : Drawn) (os : OsState) (tl cl gl I x : Addr) (S : Sh) (tm : Tok) (oA2 : Obj) (crefs' : List Value) (cn' : Nat) (own Y4 news : List (Addr × Obj)) (grs : List (Nat × List Sh)) (i : Nat) (f : Flow) (s' : Shared) : Prop
  | mk (z0 : f = .next) (og' : _) (kp : _) (kq : _) (gp : _) (gq : _) (lp : _) (lq : _) (g : _) (ga : _) (l : _) (k : _) (vs : _) (n : _) (Ss' : _) (h' : _) (tk' : _) (Y2 : _)
    (c0 : s' = ⟨h', g3, dr, tk', os⟩)
    (c1 : Fr g1 L1 h' (mp [(Str.ofString "mnemonics", some (Value.ref tl)), (Str.ofString "common_params", some (Value.ref cl)), (Str.ofString "groups", some (Value.ref gl)), (Str.ofString "mnemonic", some (Value.str (mnemS (allN S)) tm)), (Str.ofString "share", some (Value.ref x)), (Str.ofString "group", some (Value.ref g))]))
    (c2 : News g1 L1 h' ((gl, og') :: (cl, listOf (List.toArray crefs') cn') :: (76, oA2) :: (Y2 ++ own)))
    (c3 : (∀ p ∈ Y2, p.1 ≠ gl ∧ p.1 ≠ cl ∧ p.1 ≠ 76 ∧ p.1 ≠ I))
    (c4 : (∀ p ∈ Y4, p ∈ Y2))
    (c5 : og'.IsDictOf (PySem.intKind PySem.Challenge.pw_ja0052_01 w) (kp ++ ((S.gi : Int), Value.ref g) :: kq))
    (c6 : updG S grs = (if badN Ss' S then none else some (gp ++ (S.gi, addN Ss' S) :: gq)))
    (c7 : (g, instObj 513 ga) ∈ Y2)
    (c8 : (ga, grObj w l k) ∈ Y2)
    (c9 : (l, listOf (List.toArray vs) n) ∈ Y2)
    (c10 : ShsIn w Y2 vs Ss')
    (c11 : GrsIn w Y2 kp gp lp)
    (c12 : GrsIn w Y2 kq gq lq)
    (c13 : (lp ++ l :: lq).Nodup)
    (c14 : (∀ b ∈ lp ++ l :: lq, ∀ p ∈ news, p.1 ≠ b))
    (c15 : gp.length + gq.length ≤ i)
    (c16 : ∀ q ∈ gp ++ (S.gi, Ss') :: gq, q.2.length ≤ i)
theorem decode_spec (w : World) (tl : Addr) (tvs : List Value) (tn : Nat) (Ss : List Sh) (hT : TxIn tvs Ss) (hlen : tvs.length ≤ 10) (hG : ∀ S ∈ Ss, Good S) (oA : Obj) (tA : TabOk oA) (htl : (tl, listOf tvs.toArray tn) ∈ news)
  (N : News h₀ L s.heap ((76, oA) :: news)) (hne : ∀ p ∈ news, p.1 ≠ 76) (C76 : CodeHd h₀ 80 76) (G : AllBare s.gens)
  (B : Below A₀ base outer h₀) (F : Fr h₀ L s.heap m) (X : (Mine.hd.heap_1 w.params).In h₀) (T : Top p loose mean mg mb h₀)
  (hk : cs.kind = .function) (hd : dp + 160 < recursionLimit) (hu : un + 1000 < cLine)
  (ret : ∀ cps grs, decN Ss = some (cps, grs) → cps.length = 1 → ∀ gl og kvs ls oA' nw h' tk' g', AllBare g' → TabOk oA' → Fr h₀ L h' m → News h₀ L h' ((76, oA') :: (gl, og) :: nw) → @LT.lt Nat _ 76 gl → (∀ p ∈ news, p.1 < gl) → og.IsDictOf (PySem.intKind PySem.Challenge.pw_ja0052_01 w) kvs → GrsIn w nw kvs grs ls → (∀ p ∈ news, p ∈ nw) → (∀ p ∈ nw, p.1 ≠ 76 ∧ p.1 ≠ gl) → Q (.ref gl) ⟨h', g', s.drawn, tk', s.os⟩)
  (raised : (∀ cps grs, decN Ss = some (cps, grs) → cps.length ≠ 1) → OutE base h₀ L m (envX cn cs L a ccd cl :: outer) (fun nw gs => ∃ oA', nw = (76, oA') :: news ∧ TabOk oA' ∧ AllBare gs) E s)
  (hrw : PySem.Challenge.rw_ja0052_01 = PySem.Challenge.rw_ja0052_01) :
  wpAny (model PySem.Challenge.pw_ja0052_01 w) (ktrTop dp un gd cn cs L a ccd cl outer) (call (.ref 524) [.ref tl]) Q E s := by
  revert X hrw
  k_fill
  intro X hrw
  clear hrw
  refine wpAny_call ?_
  (k_dflt (refine' code_def ?k1 ?k2 ?k3 ?k4 ?k5 ?kA ?kF ?kK ?k6 ?k7 ?k8 ?k9 ?kB ?_ ?c2 ?c3 ?c4 ?c5; (case kA => first | with_reducible assumption | exact rfl); (case kF => first | with_reducible assumption | exact rfl); (case kK => first | with_reducible assumption | exact rfl | assumption); (case k1 => k_asm); (case k2 => k_asm); (case k3 => k_asm); (case k4 => k_asm); (case k5 => k_asm); (case k6 => k_is); (case k7 => k_is); (case k8 => k_room); (case k9 => exact BindsTo.of_eq rfl); (case c5 => decide); (case kB => exact locs rfl); (case c2 => exact rfl); (case c3 => exact rfl); (case c4 => exact rfl); k_whole; intro g1 L1 _ FG1 F0 _ B1 X1 T1; (try dsimp only); (try k_fold)))
  refine letA ?_
  intro A9
  replace F0 := fr_lookup (show Fr _ _ _ (fun y => List.lookup y [(Str.ofString "mnemonics", Value.ref tl)]) from F0)
  dsimp only [List.map] at F0
  repeat ((fail_if_success (with_reducible show wpAny _ _ (exec (Stmt.For _ _ _ _ _) _) _ _ _)); first | k_unfold | walk1 | (dsimp only; walk1) | (leave1; try dsimp only))
  refine For_ ?_
  repeat ((fail_if_success (with_reducible show wpAny _ _ (pyIter _) _ _ _)); walk1)
  rename_i cl _ lcl _ _ gl _ og0 hsys _ _ hog _ lgl h1 _ F1 N1
  replace F1 := (show Fr _ _ _ (mp [(Str.ofString "groups", _), (Str.ofString "common_params", _), (Str.ofString "mnemonics", _)]) from F1)
  have HL := News.isList N1 (.tail _ (.tail _ (.tail _ htl)))
  have HN := (N1 _ (.tail _ (.tail _ (.tail _ htl)))).2.1
  have hgc : gl ≠ cl := Nat.ne_of_gt lgl.1
  have hg76 : gl ≠ 76 := Nat.ne_of_gt lgl.2.1
  have hc76 : cl ≠ 76 := Nat.ne_of_gt lcl.1
  refine for_listI rfl HL HN (by rfl) (by rfl) (by passes_own) F1 N1 (fun i m' nw g => DJ w tl cl gl Ss news i m' nw g) ?_ ?_ ?_
  · refine ⟨_, _, _, og0, [], 0, [], [], oA, [], [], news, mp_canon [Str.ofString "mnemonics", Str.ofString "common_params", Str.ofString "groups", Str.ofString "mnemonic", Str.ofString "share", Str.ofString "group"] _ (by rfl), rfl, rfl, ?_, tA, G, hog, .nil, .nil, List.nodup_nil, (fun q hq => nomatch hq), fun _ q => q, Nat.le_refl _, Nat.le_refl _, fun q hq => nomatch hq⟩
    intro p hp
    exact ⟨Nat.ne_of_lt (allLt_lt lgl.2.2 p hp), Nat.ne_of_lt (allLt_lt lcl.2 p hp), hne p hp⟩
  · rintro I i v m₁ news₁ g₁ own h2 tk2 hv hJ9 hI hown ⟨oI, hoI⟩ F2 N2
    k_fold
    obtain ⟨u1, u2, u3, og, crefs, cn, kvs, ls, oA1, cps, grs, Y, rfl, hdec, rfl, hY, tA1, G1, hog1, hC, hGr, hnd, hlso, hold, hl1, hl2, hl3⟩ := hJ9
    obtain ⟨S, tm, rfl, hSi⟩ := hT.item hv
    have hi9 : i < 10 := Nat.lt_of_lt_of_le (List.getElem?_eq_some_iff.mp hv).1 hlen
    have hGS : Good S := hG S (List.mem_of_getElem? hSi)
    replace F2 := (show Fr _ _ _ (mp ((Str.ofString "mnemonic", some _) :: _)) from F2)
    have htY : (tl, listOf tvs.toArray tn) ∈ Y := hold _ htl
    have hIx : ∀ p ∈ (gl, og) :: (cl, listOf (List.toArray crefs) cn) :: (76, oA1) :: Y, p.1 ≠ I := fun p hp e => hI p hp (List.mem_singleton.mpr e)
    have hownx : ∀ p ∈ own, p.1 ≠ gl ∧ p.1 ≠ cl ∧ p.1 ≠ 76 := by
      intro p hp
      rcases List.mem_cons.mp (hown p hp) with e | e
      · rw [e]
        exact ⟨fun q => hIx _ (.head _) q.symm, fun q => hIx _ (.tail _ (.head _)) q.symm, fun q => hIx _ (.tail _ (.tail _ (.head _))) q.symm⟩
      · rw [List.mem_singleton.mp e]
        exact hY _ htY
    repeat ((fail_if_success (with_reducible show wpAny _ _ (call (Value.ref _) _ _) _ _ _)); first | (dsimp only; (with_reducible show wpAny _ _ (call (Value.ref _) _ _) _ _ _)) | k_unfold | walk1 | (dsimp only; walk1) | (leave1; try dsimp only))
    walk1
    rename_i q1 hq1 F3 N3 lq1
    refine' call_meth ?k1 ?k2 ?_
    case k1 => exact N3
    case k2 => exact .head _
    refine' fm_good w S _ hGS oA1 tA1 (news := (gl, og) :: (cl, listOf (List.toArray crefs) cn) :: (Y ++ own)) ?kN ?kne ?kC G1 ?kB ?kF ?kX ?kT ?kk ?kd ?ku ?_
    case kN =>
      exact News.sub N3 (by walk_at "mine sub")
    case kne =>
      intro q hq
      simp only [List.mem_append, List.mem_cons] at hq
      rcases hq with rfl | rfl | h | h
      · exact hg76
      · exact hc76
      · exact (hY _ h).2.2
      · exact (hownx _ h).2.2
    case kC => exact C76.keeps FG1.keep
    case kB => k_asm
    case kF => k_asm
    case kX => k_asm
    case kT => k_asm
    case kk => rfl
    case kd => walk_at "mine depth"
    case ku => walk_at "mine depth"
    intro x d od h3 tk3 g3 oA2 G2 tA2 F4 N4 lx1 lx2 hSx
    repeat ((fail_if_success (with_reducible show wpAny _ _ (exec (Stmt.If _ _ _ _) _) _ _ _)); first | (dsimp only; (with_reducible show wpAny _ _ (exec (Stmt.If _ _ _ _) _) _ _ _)) | k_unfold | walk1 | (dsimp only; walk1) | (leave1; try dsimp only))
    obtain ⟨J1, hJ1⟩ : ∃ J : Flow → Shared → Prop, ∀ f s', J f s' ↔ DJ1 g1 L1 g3 s.drawn s.os tl cl gl I x d S tm u3 og oA2 od own Y cps f s' := ⟨_, fun _ _ => Iff.rfl⟩
    refine wpAny_mono (Q := J1) ?_ ?_ (fun _ _ e => e)
    ·
      have hS0 := hSx
      obtain ⟨k1, k2, k3, k4, k5, k6, k7, k8, k9, t1, t3, t4, t5, t6, t7, t8, tb, rfl⟩ := hSx
      rename News _ _ _ _ => NA
      unfold shObj at NA
      repeat ((fail_if_success (with_reducible show wpAny _ _ (call (Value.ref 367) _ _) _ _ _)); first | (dsimp only; (with_reducible show wpAny _ _ (call (Value.ref 367) _ _) _ _ _)) | k_unfold | walk1 | (dsimp only; walk1) | (leave1; try dsimp only))
      refine' common_spec w S x d _ hS0 (.head _) (.tail _ (.head _)) ?kN ?kB ?kF ?kX ?kT ?kk ?kd ?ku ?_ rfl
      case kN => k_asm
      case kB => k_asm
      case kF => k_asm
      case kX => k_asm
      case kT => k_asm
      case kk => rfl
      case kd => walk_at "mine depth"
      case ku => walk_at "mine depth"
      intro c cx r1 r3 r5 r6 h4 tk4 F5 N5 lc
      repeat ((fail_if_success (with_reducible show wpAny _ _ (compareOp CmpOp.NotIn _ _) _ _ _)); first | (dsimp only; (with_reducible show wpAny _ _ (compareOp CmpOp.NotIn _ _) _ _ _)) | k_unfold | walk1 | (dsimp only; walk1) | (leave1; try dsimp only))
      rename News _ _ _ _ => N6
      rename Fr _ _ _ _ => F6
      refine' notIn_cp F6 N6 X1 lc ?hl (hC.mono ?hm) ?ku ?_
      case hl => exact .tail _ (.tail _ (.tail _ (.tail _ (.head _))))
      case hm => exact fun p hp => .tail _ (.tail _ (.tail _ (.tail _ (.tail _ (List.mem_append_left _ hp)))))
      case ku => walk_at "mine depth"
      have hYd : ∀ p ∈ Y, p.1 < d := fun p hp => lx1 p (.tail _ (.tail _ (.tail _ (List.mem_append_left _ hp))))
      have hgd : gl < d := lx1 _ (.tail _ (.head _))
      have hcd : cl < d := lx1 _ (.tail _ (.tail _ (.head _)))
      have h7d : 76 < d := lx1 _ (.head _)
      have hId : I < d := lx1 _ (.tail _ (.tail _ (.tail _ (List.mem_append_right _ hoI))))
      have ne4 : ∀ y, @LE.le Nat _ d y → y ≠ gl ∧ y ≠ cl ∧ y ≠ 76 ∧ y ≠ I := fun y hy => ⟨Nat.ne_of_gt (Nat.lt_of_lt_of_le hgd hy), Nat.ne_of_gt (Nat.lt_of_lt_of_le hcd hy), Nat.ne_of_gt (Nat.lt_of_lt_of_le h7d hy), Nat.ne_of_gt (Nat.lt_of_lt_of_le hId hy)⟩
      have hY4 : ∀ p ∈ Y, p.1 ≠ gl ∧ p.1 ≠ cl ∧ p.1 ≠ 76 ∧ p.1 ≠ I := fun p hp => ⟨(hY p hp).1, (hY p hp).2.1, (hY p hp).2.2, hIx p (.tail _ (.tail _ (.tail _ hp)))⟩
      have hadd : addC cps S = if cps.any (fun y => decide (cpK y = cpK S)) then cps else cps ++ [S] := rfl
      cases hb : cps.any (fun y => decide (cpK y = cpK S)) with
      | true =>
        rw [hb, if_pos rfl] at hadd
        k_steps
        rename News _ _ _ _ => N8
        rename Fr _ _ _ _ => F8
        rw [hJ1]
        refine ⟨rfl, crefs, cn, _, _, (x, instObj 415 d) :: (d, _) :: Y, rfl, ?_, ?_, ?_, fun p hp => .tail _ (.tail _ hp), .head _, .tail _ (.head _), by rw [hadd]; exact hC.mono fun p hp => .tail _ (.tail _ hp)⟩
        · replace F8 := (show Fr _ _ _ (mp ((Str.ofString "share", some _) :: _)) from F8)
          rw [mp_canon [Str.ofString "mnemonics", Str.ofString "common_params", Str.ofString "groups", Str.ofString "mnemonic", Str.ofString "share", Str.ofString "group"] _ (by rfl)] at F8
          exact F8
        · exact News.sub N8 (by walk_at "mine sub")
        · intro q hq
          rcases List.mem_cons.mp hq with rfl | hq
          · exact ne4 _ (Nat.le_of_lt lx2)
          · rcases List.mem_cons.mp hq with rfl | hq
            · exact ne4 _ (Nat.le_refl _)
            · exact hY4 q hq
      | false =>
        rw [hb, if_neg (by decide)] at hadd
        repeat ((fail_if_success (with_reducible show wpAny _ _ (call (Value.ref 367) _ _) _ _ _)); first | (dsimp only; (with_reducible show wpAny _ _ (call (Value.ref 367) _ _) _ _ _)) | k_unfold | walk1 | (dsimp only; walk1) | (leave1; try dsimp only))
        refine' common_spec w S x d _ hS0 (.tail _ (.head _)) (.tail _ (.tail _ (.head _))) ?kN ?kB ?kF ?kX ?kT ?kk ?kd ?ku ?_ rfl
        case kN => k_asm
        case kB => k_asm
        case kF => k_asm
        case kX => k_asm
        case kT => k_asm
        case kk => rfl
        case kd => walk_at "mine depth"
        case ku => walk_at "mine depth"
        intro c2 cx2 v1 v3 v5 v6 h5 tk5 F7 N7 lc2
        repeat ((fail_if_success (with_reducible show wpAny _ _ (call (Value.builtin "list.append") _ _) _ _ _)); first | (dsimp only; (with_reducible show wpAny _ _ (call (Value.builtin "list.append") _ _) _ _ _)) | k_unfold | walk1 | (dsimp only; walk1) | (leave1; try dsimp only))
        rename News _ _ _ _ => N8
        rename Fr _ _ _ _ => F8
        have hxc : x < c2 := lc2 _ (.tail _ (.head _))
        refine append_K (its := List.toArray crefs) (n := cn) F8 (news := (cl, listOf (List.toArray crefs) cn) :: (gl, og) :: (76, oA2) :: (c2, ntObj 250 cx2 (cpV S v1 v3 v5 v6)) :: (x, instObj 415 d) :: (d, shObj w S k1 k2 k3 k4 k5 k6 k7 k8 k9 t1 t3 t4 t5 t6 t7 t8 tb) :: (Y ++ own)) (News.sub N8 ?_) (.head ?_) ?_ ?_
        · walk_at "mine sub"
        · intro q hq
          simp only [List.mem_append, List.mem_cons] at hq
          rcases hq with rfl | rfl | rfl | rfl | rfl | h | h
          · exact hgc
          · exact Ne.symm hc76
          · exact (ne4 _ (Nat.le_of_lt (Nat.lt_trans lx2 hxc))).2.1
          · exact (ne4 _ (Nat.le_of_lt lx2)).2.1
          · exact (ne4 _ (Nat.le_refl _)).2.1
          · exact (hY _ h).2.1
          · exact (hownx _ h).2.1
        · intro h9 F9 N9
          rw [List.push_toArray] at N9
          k_steps
          rename News _ _ _ _ => NB
          rename Fr _ _ _ _ => FB
          rw [hJ1]
          refine ⟨rfl, crefs ++ [.ref c2], cn + 1, _, _, (c2, ntObj 250 cx2 (cpV S v1 v3 v5 v6)) :: (x, instObj 415 d) :: (d, _) :: Y, rfl, ?_, ?_, ?_, fun p hp => .tail _ (.tail _ (.tail _ hp)), .tail _ (.head _), .tail _ (.tail _ (.head _)), by rw [hadd]; exact CpsIn.snoc (hC.mono fun p hp => .tail _ (.tail _ (.tail _ hp))) (.head _)⟩
          · replace FB := (show Fr _ _ _ (mp ((Str.ofString "share", some _) :: _)) from FB)
            rw [mp_canon [Str.ofString "mnemonics", Str.ofString "common_params", Str.ofString "groups", Str.ofString "mnemonic", Str.ofString "share", Str.ofString "group"] _ (by rfl)] at FB
            exact FB
          · exact News.sub NB (by walk_at "mine sub")
          · intro q hq
            rcases List.mem_cons.mp hq with rfl | hq
            · exact ne4 _ (Nat.le_of_lt (Nat.lt_trans lx2 hxc))
            · rcases List.mem_cons.mp hq with rfl | hq
              · exact ne4 _ (Nat.le_of_lt lx2)
              · rcases List.mem_cons.mp hq with rfl | hq
                · exact ne4 _ (Nat.le_refl _)
                · exact hY4 q hq
        · rw [sizeLine_eq, List.size_toArray, hC.len]; omega
    · rintro f s' hf
      rw [hJ1] at hf
      obtain ⟨rfl, crefs', cn', h4, tk4, Y4, rfl, F5, N5, hY4, hYY, hx4, hd4, hC4⟩ := hf
      dsimp only
      clear hJ1 J1
      have hS0 := hSx
      obtain ⟨k1, k2, k3, k4, k5, k6, k7, k8, k9, t1, t3, t4, t5, t6, t7, t8, tb, rfl⟩ := hSx
      have hx5 : (x, instObj 415 d) ∈ (gl, og) :: (cl, listOf (List.toArray crefs') cn') :: (76, oA2) :: (Y4 ++ own) := .tail _ (.tail _ (.tail _ (List.mem_append_left _ hx4)))
      have hd5 : (d, _) ∈ (gl, og) :: (cl, listOf (List.toArray crefs') cn') :: (76, oA2) :: (Y4 ++ own) := .tail _ (.tail _ (.tail _ (List.mem_append_left _ hd4)))
      unfold shObj at hd5
      repeat ((fail_if_success (with_reducible show wpAny _ _ (exec (Stmt.Assign _ _ _) _) _ _ _)); first | (dsimp only; (with_reducible show wpAny _ _ (exec (Stmt.Assign _ _ _) _) _ _ _)) | k_unfold | walk1 | (dsimp only; walk1) | (leave1; try dsimp only))
      obtain ⟨J2, hJ2⟩ : ∃ J : Flow → Shared → Prop, ∀ f s', J f s' ↔ DJ2 w g1 L1 g3 s.drawn s.os tl cl gl I x S tm oA2 crefs' cn' own Y4 news grs i f s' := ⟨_, fun _ _ => Iff.rfl⟩
      refine wpAny_mono (Q := J2) ?_ ?_ (fun _ _ e => e)
      ·
        repeat ((fail_if_success (with_reducible show wpAny _ _ (call (Value.ref 513) _ _) _ _ _)); first | (dsimp only; (with_reducible show wpAny _ _ (call (Value.ref 513) _ _) _ _ _)) | k_unfold | walk1 | (dsimp only; walk1) | (leave1; try dsimp only))
        refine' newgroup_spec w ?kN ?kB ?kF ?kX ?kT ?kk ?kd ?ku ?_ rfl
        case kN => k_asm
        case kB => k_asm
        case kF => k_asm
        case kX => k_asm
        case kT => k_asm
        case kk => rfl
        case kd => walk_at "mine depth"
        case ku => walk_at "mine depth"
        intro g ga l k h5 tk5 F6 N6 lg1 lg2 lg3
        repeat ((fail_if_success (with_reducible show wpAny _ _ (call (Value.builtin "dict.setdefault") _ _) _ _ _)); first | (dsimp only; (with_reducible show wpAny _ _ (call (Value.builtin "dict.setdefault") _ _) _ _ _)) | k_unfold | walk1 | (dsimp only; walk1) | (leave1; try dsimp only))
        rename News _ _ _ _ => N7
        rename Fr _ _ _ _ => F7
        rcases hGr.find S.gi with ⟨hva, hng⟩ | ⟨g', ga', l', k', vs', n', Ss', kp, kq, gp, gq, lp, lq, rfl, rfl, rfl, hva, hng, z1, z2, z3, z4, z5, z6⟩
        · have hz9 : kvs.length ≤ sizeLine := by rw [hGr.lenK, sizeLine_eq]; omega
          refine' kob_setdef_new (knd := PySem.intKind _ _) (o := og) (news := (gl, og) :: (l, listOf #[] 0) :: (g, instObj 513 ga) :: (ga, grObj w l k) :: (cl, listOf (List.toArray crefs') cn') :: (76, oA2) :: (Y4 ++ own)) F7 (News.sub N7 ?hp) (.head ?hu) hog1 hsys (intKind_is _ _ _ _) (PySem.F.args_dict_setdefault_3 _ _ _) hva hz9 ?_
          case hp =>
            walk_at "mine sub"
          case hu =>
            intro q hq
            simp only [List.mem_append, List.mem_cons] at hq
            rcases hq with rfl | rfl | rfl | rfl | rfl | h | h
            · exact Nat.ne_of_gt (Nat.lt_trans (lg1 _ (.head _)) (Nat.lt_trans lg2 lg3))
            · exact Nat.ne_of_gt (Nat.lt_trans (lg1 _ (.head _)) lg2)
            · exact Nat.ne_of_gt (lg1 _ (.head _))
            · exact Ne.symm hgc
            · exact Ne.symm hg76
            · exact (hY4 _ h).1
            · exact (hownx _ h).1
          intro h6 o6 F8 N8 hog6
          rw [stored_absent hva] at hog6
          k_steps
          rename News _ _ _ _ => N9
          rename Fr _ _ _ _ => F9
          rw [hJ2]
          have lgl4 : ∀ p ∈ Y4 ++ own, p.1 < ga := fun p hp => lg1 p (.tail _ (.tail _ (.tail _ hp)))
          have hnew : ∀ b, (∃ o, (b, o) ∈ Y4) → @LT.lt Nat _ b l := fun b ⟨o, h⟩ => Nat.lt_trans (Nat.lt_trans (lgl4 _ (List.mem_append_left _ h)) lg2) lg3
          have ne4 : ∀ y, @LE.le Nat _ ga y → y ≠ gl ∧ y ≠ cl ∧ y ≠ 76 ∧ y ≠ I := fun y hy => ⟨Nat.ne_of_gt (Nat.lt_of_lt_of_le (lg1 _ (.head _)) hy), Nat.ne_of_gt (Nat.lt_of_lt_of_le (lg1 _ (.tail _ (.head _))) hy), Nat.ne_of_gt (Nat.lt_of_lt_of_le (lg1 _ (.tail _ (.tail _ (.head _)))) hy), Nat.ne_of_gt (Nat.lt_of_lt_of_le (lgl4 _ (List.mem_append_right _ hoI)) hy)⟩
          have hG4 : GrsIn w Y4 kvs grs ls := hGr.mono hYY
          refine ⟨rfl, o6, kvs, [], grs, [], ls, [], g, ga, l, k, [], 0, [], _, _, (l, listOf #[] 0) :: (g, instObj 513 ga) :: (ga, grObj w l k) :: Y4, rfl, ?_, ?_, ?_, fun p hp => .tail _ (.tail _ (.tail _ hp)), hog6, ?_, .tail _ (.head _), .tail _ (.tail _ (.head _)), .head _, .nil, hG4.mono fun p hp => .tail _ (.tail _ (.tail _ hp)), .nil, ?_, ?_, ?_, ?_⟩
          · replace F9 := (show Fr _ _ _ (mp ((Str.ofString "group", some _) :: _)) from F9)
            rw [mp_canon [Str.ofString "mnemonics", Str.ofString "common_params", Str.ofString "groups", Str.ofString "mnemonic", Str.ofString "share", Str.ofString "group"] _ (by rfl)] at F9
            exact F9
          · exact News.sub N9 (by walk_at "mine sub")
          · intro q hq
            rcases List.mem_cons.mp hq with rfl | hq
            · exact ne4 _ (Nat.le_of_lt (Nat.lt_trans lg2 lg3))
            · rcases List.mem_cons.mp hq with rfl | hq
              · exact ne4 _ (Nat.le_of_lt lg2)
              · rcases List.mem_cons.mp hq with rfl | hq
                · exact ne4 _ (Nat.le_refl _)
                · exact hY4 q hq
          · rw [updG_new hng]; rfl
          · rw [List.nodup_append]
            refine ⟨hnd, (by simp), ?_⟩
            intro b hb c hc e
            rw [List.mem_singleton.mp hc] at e
            exact Nat.ne_of_lt (hnew b (hG4.lsIn b hb)) e
          · intro b hb p hp
            rcases List.mem_append.mp hb with hb | hb
            · exact hlso b hb p hp
            · rw [List.mem_singleton.mp hb]
              exact Nat.ne_of_lt (hnew p.1 ⟨p.2, hYY _ (hold p hp)⟩)
          · exact hl2
          · intro q hq
            rcases List.mem_append.mp hq with hq | hq
            · exact hl3 q hq
            · rw [List.mem_singleton.mp hq]; exact Nat.zero_le _
        · have hlk := hGr.lenK
          have hz9 : (kp ++ ((S.gi : Int), Value.ref g') :: kq).length ≤ sizeLine := by rw [hlk, sizeLine_eq]; omega
          refine' kob_setdef_there (knd := PySem.intKind _ _) N7 (.tail _ (.tail _ (.tail _ (.head _)))) hog1 hsys (intKind_is _ _ _ _) (PySem.F.args_dict_setdefault_3 _ _ _) hva hz9 ?_
          k_steps
          rename News _ _ _ _ => N9
          rename Fr _ _ _ _ => F9
          rw [hJ2]
          refine ⟨rfl, og, kp, kq, gp, gq, lp, lq, g', ga', l', k', vs', n', Ss', _, _, Y4, rfl, ?_, ?_, hY4, fun _ h => h, hog1, updG_at hng, hYY _ z1, hYY _ z2, hYY _ z3, z4.mono hYY, z5.mono hYY, z6.mono hYY, hnd, hlso, ?_, hl3⟩
          · replace F9 := (show Fr _ _ _ (mp ((Str.ofString "group", some _) :: _)) from F9)
            rw [mp_canon [Str.ofString "mnemonics", Str.ofString "common_params", Str.ofString "groups", Str.ofString "mnemonic", Str.ofString "share", Str.ofString "group"] _ (by rfl)] at F9
            exact F9
          · exact News.sub N9 fun q hq => .tail _ (.tail _ (.tail _ hq))
          · rw [List.length_append, List.length_cons] at hl2; omega
      · rintro f s' hf
        rw [hJ2] at hf
        obtain ⟨rfl, og', kp, kq, gp, gq, lp, lq, g, ga, l, k, vs, n, Ss', h5, tk5, Y5, rfl, F6, N6, hY5, hYY5, hog5, hupd, w1, w2, w3, w4, w5, w6, w7, w8, w9, w10⟩ := hf
        dsimp only
        clear hJ2 J2
        have hg5 : (g, instObj 513 ga) ∈ (gl, og') :: (cl, listOf (List.toArray crefs') cn') :: (76, oA2) :: (Y5 ++ own) := .tail _ (.tail _ (.tail _ (List.mem_append_left _ w1)))
        have hga5 : (ga, grObj w l k) ∈ (gl, og') :: (cl, listOf (List.toArray crefs') cn') :: (76, oA2) :: (Y5 ++ own) := .tail _ (.tail _ (.tail _ (List.mem_append_left _ w2)))
        unfold grObj at hga5
        repeat ((fail_if_success (with_reducible show wpAny _ _ (call (Value.ref 468) _ _) _ _ _)); first | (dsimp only; (with_reducible show wpAny _ _ (call (Value.ref 468) _ _) _ _ _)) | k_unfold | walk1 | (dsimp only; walk1) | (leave1; try dsimp only))
        rename News _ _ _ _ => N7
        rename Fr _ _ _ _ => F7
        have hl5 : (l, listOf (List.toArray vs) n) ∈ (gl, og') :: (cl, listOf (List.toArray crefs') cn') :: (76, oA2) :: (Y5 ++ own) := .tail _ (.tail _ (.tail _ (List.mem_append_left _ w3)))
        have N8 := News.off N7 hl5
        have hofl : ∀ p ∈ off l Y5, p ∈ off l ((gl, og') :: (cl, listOf (List.toArray crefs') cn') :: (76, oA2) :: (Y5 ++ own)) := fun p hp => mem_off (.tail _ (.tail _ (.tail _ (List.mem_append_left _ (off_sub p hp))))) (off_ne p hp)
        have N5l : News g1 L1 _ Y5 := News.sub N7 fun p hp => .tail _ (.tail _ (.tail _ (List.mem_append_left _ hp)))
        have hx6 : (x, instObj 415 d) ∈ off l Y5 := off_of N5l w3 (hYY5 _ hx4) (ref_list _)
        have hd6 : (d, shObj w S k1 k2 k3 k4 k5 k6 k7 k8 k9 t1 t3 t4 t5 t6 t7 t8 tb) ∈ off l Y5 := off_of N5l w3 (hYY5 _ hd4) (by rw [hS0.cls]; exact dict_list)
        have hg6 : (g, instObj 513 ga) ∈ off l Y5 := off_of N5l w3 w1 (ref_list _)
        have hga6 : (ga, grObj w l k) ∈ off l Y5 := off_of N5l w3 w2 dict_list
        have hV6 : ShsIn w (off l Y5) vs Ss' := w4.off N5l w3 rfl
        have hlI : l ≠ I := (hY5 _ w3).2.2.2
        have hltl : tl ≠ l := w8 l (by simp) _ htl
        refine' add_spec w S g ga l x d k _ vs n Ss' (hofl _ hg6) (hofl _ hga6) (hV6.mono hofl) hS0 (hofl _ hx6) (hofl _ hd6) off_ne ?hv N8 ?kB ?kF ?kX ?kT ?kk ?kd ?ku ?_ ?_ rfl
        case hv =>
          have := w10 (S.gi, Ss') (by simp)
          have h2 := w4.len
          dsimp only at this
          omega
        case kB => k_asm
        case kF => k_asm
        case kX => k_asm
        case kT => k_asm
        case kk => rfl
        case kd => walk_at "mine depth"
        case ku => walk_at "mine depth"
        · intro hbad vs' n' h6 tk6 F8 N9 hV9
          k_steps
          rename News _ _ _ _ => NA
          rename Fr _ _ _ _ => FA
          have htake : Ss.take (i + 1) = Ss.take i ++ [S] := by rw [List.take_add_one, hSi]; rfl
          have hdn : decN (Ss.take (i + 1)) = some (addC cps S, gp ++ (S.gi, addN Ss' S) :: gq) := by
            rw [htake, decN_snoc, hdec]
            show (updG S grs).map _ = _
            rw [hupd, hbad]; rfl
          have hY6 : ∀ p ∈ (l, listOf (List.toArray vs') n') :: off l Y5, p.1 ≠ gl ∧ p.1 ≠ cl ∧ p.1 ≠ 76 ∧ p.1 ≠ I := by
            intro q hq
            rcases List.mem_cons.mp hq with rfl | hq
            · exact hY5 (l, listOf (List.toArray vs) n) w3
            · exact hY5 q (off_sub q hq)
          have hnin : l ∉ lp ∧ l ∉ lq := by
            rw [List.nodup_append] at w7
            refine ⟨fun q => w7.2.2 l q l (.head _) rfl, fun q => ?_⟩
            have := w7.2.1
            rw [List.nodup_cons] at this
            exact this.1 q
          refine ⟨_, _, _, _, (gl, og') :: (cl, listOf (List.toArray crefs') cn') :: (76, oA2) :: (((l, listOf (List.toArray vs') n') :: off l Y5) ++ own), (gl, og') :: (cl, listOf (List.toArray crefs') cn') :: (76, oA2) :: ((l, listOf (List.toArray vs') n') :: off l Y5), rfl, FA, ?_, ?_, ?_, ?_, ?_⟩
          · refine News.sub NA ?_
            intro q hq
            simp only [List.mem_append, List.mem_cons] at hq
            rcases hq with rfl | rfl | rfl | (rfl | hq) | hq
            · exact .tail _ (mem_off (.head _) (Ne.symm (hY5 _ w3).1))
            · exact .tail _ (mem_off (.tail _ (.head _)) (Ne.symm (hY5 _ w3).2.1))
            · exact .tail _ (mem_off (.tail _ (.tail _ (.head _))) (Ne.symm (hY5 _ w3).2.2.1))
            · exact .head _
            · exact .tail _ (hofl q hq)
            · refine .tail _ (mem_off (.tail _ (.tail _ (.tail _ (List.mem_append_right _ hq)))) ?_)
              rcases List.mem_cons.mp (hown q hq) with e | e
              · rw [e]; exact Ne.symm hlI
              · rw [List.mem_singleton.mp e]; exact hltl
          · exact fun p hp => .tail _ (.tail _ (.tail _ (List.mem_append_right _ hp)))
          · walk_at "mine sub"
          · intro q hq hqI
            have hqI' := List.mem_singleton.mp hqI
            rcases List.mem_cons.mp hq with rfl | hq
            · exact hIx _ (.head _) hqI'
            · rcases List.mem_cons.mp hq with rfl | hq
              · exact hIx _ (.tail _ (.head _)) hqI'
              · rcases List.mem_cons.mp hq with rfl | hq
                · exact hIx _ (.tail _ (.tail _ (.head _))) hqI'
                · exact (hY6 q hq).2.2.2 hqI'
          · refine ⟨_, _, _, og', crefs', cn', _, _, oA2, _, _, (l, listOf (List.toArray vs') n') :: off l Y5, rfl, hdn, rfl, fun p hp => ⟨(hY6 p hp).1, (hY6 p hp).2.1, (hY6 p hp).2.2.1⟩, tA2, G2, hog5, ?_, GrsIn.append ((w5.off N5l w3 rfl hnin.1).mono fun p hp => .tail _ hp) (.cons (.tail _ hg6) (.tail _ hga6) (.head _) (hV9 _ (hV6.mono fun p hp => .tail _ hp) (.tail _ hx6) (.tail _ hd6)) ((w6.off N5l w3 rfl hnin.2).mono fun p hp => .tail _ hp)), w7, w8, ?_, ?_, ?_, ?_⟩
            · exact ((hC4.mono hYY5).off N5l w3 rfl).mono fun p hp => .tail _ hp
            · intro p hp
              exact .tail _ (mem_off (hYY5 _ (hYY _ (hold _ hp))) (w8 l (by simp) p hp))
            · have : (addC cps S).length ≤ cps.length + 1 := by
                unfold addC; split
                · exact Nat.le_succ _
                · rw [List.length_append]; exact Nat.le_refl _
              omega
            · rw [List.length_append, List.length_cons]; omega
            · intro q hq
              have hnl : (addN Ss' S).length ≤ Ss'.length + 1 := by
                unfold addN; split
                · exact Nat.le_succ _
                · rw [List.length_append]; exact Nat.le_refl _
              have h9 : Ss'.length ≤ i := w10 (S.gi, Ss') (by simp)
              rcases List.mem_append.mp hq with hq | hq
              · exact Nat.le_succ_of_le (w10 q (List.mem_append_left _ hq))
              · rcases List.mem_cons.mp hq with rfl | hq
                · dsimp only; omega
                · exact Nat.le_succ_of_le (w10 q (List.mem_append_right _ (.tail _ hq)))
        · rintro hbad nw9 g9 e9 t9 vs9 h9 tk9 gs9 ⟨rfl, rfl⟩ F9 U9 R9
          k_steps
          rename_i h10 R10 U10
          refine raised ?_ _ _ _ _ _ _ _ _ ⟨oA2, rfl, tA2, G2⟩ FG1 U10 (raised_sub R10 ?_)
          rotate_left
          · intro q hq
            rcases List.mem_cons.mp hq with rfl | h
            · exact mem_off (.tail _ (.tail _ (.head _))) (Ne.symm (hY5 _ w3).2.2.1)
            · exact mem_off (.tail _ (.tail _ (.tail _ (List.mem_append_left _ (hYY5 _ (hYY _ (hold _ h))))))) (w8 l (by simp) q h)
          intro cps' grs' hd'
          have htake : Ss = Ss.take i ++ [S] ++ Ss.drop (i + 1) := by
            have e1 : Ss.take (i + 1) = Ss.take i ++ [S] := by rw [List.take_add_one, hSi]; rfl
            rw [← e1, List.take_append_drop]
          have hn : decN (Ss.take i ++ [S]) = none := by
            rw [decN_snoc, hdec]
            show (updG S grs).map _ = _
            rw [hupd, hbad]; rfl
          rw [htake, decN_none _ _ hn] at hd'
          cases hd'
  · rintro m' nw g' h' tk ⟨u1, u2, u3, og, crefs, cn, kvs, ls, oA1, cps, grs, Y, rfl, hdec, rfl, hY, tA1, G1, hog1, hC, hGr, hnd, hlso, hold, hl1, hl2, hl3⟩ F2 N2
    rw [List.take_of_length_le (by rw [hT.len]; exact Nat.le_refl _)] at hdec
    repeat ((fail_if_success (with_reducible show wpAny _ _ (call (Value.builtin "len") _ _) _ _ _)); first | (dsimp only; (with_reducible show wpAny _ _ (call (Value.builtin "len") _ _) _ _ _)) | k_unfold | walk1 | (dsimp only; walk1) | (leave1; try dsimp only))
    have hcl : crefs.length ≤ 10 := by
      rw [hC.len]
      exact Nat.le_trans hl1 hlen
    refine call_len_list (News.isList N2 (.tail _ (.head _))) (by rw [List.size_toArray]; omega) ?_
    rw [List.size_toArray, hC.len]
    k_steps
    · rename_i R9 U9
      refine raised ?_ _ _ _ _ _ _ _ _ ⟨oA1, rfl, tA1, G1⟩ FG1 U9 (raised_sub R9 ?_)
      rotate_left
      · intro q hq
        simp only [List.mem_cons] at hq ⊢
        rcases hq with h | h
        · simp [h]
        · simp [hold _ h]
      intro cps' grs' hd'
      rw [hdec] at hd'
      cases hd'
      intro e
      exact absurd (show ((cps.length : Nat) : Int) = 1 by omega) (by assumption)
    ·
      rename News _ _ _ _ => N3
      rename Fr _ _ _ _ => F3
      refine ret cps grs hdec (by omega) gl og kvs ls oA1 Y _ _ _ G1 tA1 F3 (News.sub N3 ?_) lgl.2.1 (fun p hp => allLt_lt lgl.2.2 p hp) hog1 hGr hold (fun p hp => ⟨(hY p hp).2.2, (hY p hp).1⟩)
      walk_at "mine sub"
end
section
theorem offM38 : True := by w_top off; trivial
local macro_rules | `(tactic| walk_at "mine pad") => `(tactic| skip)
open PySem.SeqAt
set_option maxRecDepth 100000
set_option maxHeartbeats 4000000
variable {p : Program} {loose : List Str} {mean : ExcName → Option Value} {mg mb : Str → Option Value}
  {dp un : Nat} {gd : Option (List Code)} {cn : Str} {cs : Scope} {a : Addr} {ccd : Value} {cl : List (Str × Addr)} {outer : List Env}
  {A₀ : Around} {E Q : Value → Shared → Prop} {s : Shared} {base h₀ : Heap} {L : Addr} {m : Str → Option Value} {news : List (Addr × Obj)}
theorem draw_spec (w : World) (fd fl : Addr) (sd : Int) (ts : Tok) (n n2 : Nat) (vs : List Value) (ns : List Int) (many : Int) (tm : Tok) (hi : IntsAre vs ns) (hlen : ns.length ≤ 63) (hsd : 0 ≤ sd ∧ sd < 2147483648) (hm : 0 < many) (hff : fd ≠ fl) (hf1 : ∀ p ∈ news, p.1 ≠ fd) (hf2 : ∀ p ∈ news, p.1 ≠ fl)
  (N : News h₀ L s.heap ((fd, listOf #[.int sd ts, .ref fl] n) :: (fl, listOf vs.toArray n2) :: news)) (B : Below A₀ base outer h₀) (F : Fr h₀ L s.heap m) (X : (Mine.hd.heap_1 w.params).In h₀) (T : Top p loose mean mg mb h₀)
  (hk : cs.kind = .function) (hd : dp + 30 < recursionLimit) (hu : un + 200 < cLine)
  (ret : ∀ r t sd' t' vs' ns' n' n2' h' tk', 0 ≤ r → r < many → 0 ≤ sd' ∧ sd' < 2147483648 → IntsAre vs' ns' → ns'.length ≤ 63 → Fr h₀ L h' m → News h₀ L h' ((fd, listOf #[.int sd' t', .ref fl] n') :: (fl, listOf (List.toArray vs') n2') :: news) → Q (.int r t) { s with heap := h', toks := tk' })
  (hrw : PySem.Challenge.rw_ja0052_01 = PySem.Challenge.rw_ja0052_01) :
  wpAny (model PySem.Challenge.pw_ja0052_01 w) (ktrTop dp un gd cn cs L a ccd cl outer) (call (.ref 538) [.ref fd, .int many tm]) Q E s := by
  refine wpAny_noRaise ?_
  revert X hrw
  k_fill
  intro X hrw
  clear hrw
  refine wpAny_call ?_
  (k_dflt (refine' code_def ?k1 ?k2 ?k3 ?k4 ?k5 ?kA ?kF ?kK ?k6 ?k7 ?k8 ?k9 ?kB ?_ ?c2 ?c3 ?c4 ?c5; (case kA => first | with_reducible assumption | exact rfl); (case kF => first | with_reducible assumption | exact rfl); (case kK => first | with_reducible assumption | exact rfl | assumption); (case k1 => k_asm); (case k2 => k_asm); (case k3 => k_asm); (case k4 => k_asm); (case k5 => k_asm); (case k6 => k_is); (case k7 => k_is); (case k8 => k_room); (case k9 => exact BindsTo.of_eq rfl); (case c5 => decide); (case kB => exact locs rfl); (case c2 => exact rfl); (case c3 => exact rfl); (case c4 => exact rfl); k_whole; intro g1 L1 _ FG1 F0 N0 B1 X1 T1; (try dsimp only); (try k_fold)))
  refine letA ?_
  intro A9
  have hf3 : ∀ p ∈ (fl, listOf vs.toArray n2) :: news, p.1 ≠ fd := by
    intro p hp
    rcases List.mem_cons.mp hp with rfl | hp
    · exact Ne.symm hff
    · exact hf1 p hp
  have hf4 : ∀ p ∈ (fd, listOf #[.int sd ts, .ref fl] n) :: news, p.1 ≠ fl := by
    intro p hp
    rcases List.mem_cons.mp hp with rfl | hp
    · exact hff
    · exact hf2 p hp
  cases hi with
  | nil =>
    repeat ((fail_if_success (with_reducible show wpAny _ _ (setItem _ _ _) _ _ _)); first | (dsimp only; (with_reducible show wpAny _ _ (setItem _ _ _) _ _ _)) | k_unfold | walk1 | (dsimp only; walk1) | (leave1; try dsimp only))
    rename News _ _ _ _ => N2
    rename Fr _ _ _ _ => F2
    refine ki_set F2 N2 (by decide) (by decide) rfl (.head hf3) ?_
    intro h3 F3 N3
    k_steps
    rename News _ _ _ _ => N4
    rename Fr _ _ _ _ => F4
    have e1 := fmod_lo (sd * 48271 + 11) (n := 2147483647) (by decide)
    have e2 := fmod_hi (sd * 48271 + 11) (n := 2147483647) (by decide)
    exact ret _ _ _ _ [] [] _ _ _ _ (fmod_lo _ hm) (fmod_hi _ hm) ⟨e1, by omega⟩ .nil (by decide) F4 (News.sub N4 (by walk_at "mine sub"))
  | cons i t hi' =>
    rename_i vs' ns'
    have hl' := hi'.length
    rw [List.length_cons] at hlen
    have hc9 : IntsAre (Value.int i t :: vs') (i :: ns') := .cons i t hi'
    repeat ((fail_if_success (with_reducible show wpAny _ _ (call (Value.builtin "list.pop") _ _) _ _ _)); first | (dsimp only; (with_reducible show wpAny _ _ (call (Value.builtin "list.pop") _ _) _ _ _)) | k_unfold | walk1 | (dsimp only; walk1) | (leave1; try dsimp only))
    rename News _ _ _ _ => N2
    rename Fr _ _ _ _ => F2
    refine' kl_popAt (k := 0) (p := []) (q := vs') (y := .int i t) ?F ?N ?k1 ?k2 ?k3 ?U ?k4 ?_
    case F => exact F2
    case N => exact N2
    case U => exact .tail hff (.head hf2)
    case k1 => rfl
    case k2 => simp [seqIndex?]
    case k3 => rfl
    case k4 =>
      rw [sizeLine_eq]
      simp only [List.length_cons]
      omega
    intro h3 F3 N3
    k_steps
    rename News _ _ _ _ => N4
    rename Fr _ _ _ _ => F4
    exact ret _ _ _ _ vs' ns' _ _ _ _ (fmod_lo _ hm) (fmod_hi _ hm) hsd hi' (by omega) F4 (News.sub N4 (by walk_at "mine sub"))
theorem draw_n (w : World) (fd fl : Addr) (sd : Int) (ts : Tok) (n n2 : Nat) (vs : List Value) (ns : List Int) (many : Int) (tm : Tok) (hi : IntsAre vs ns) (hlen : ns.length ≤ 63) (hsd : 0 ≤ sd ∧ sd < 2147483648) (hm : 0 < many) (hff : fd ≠ fl) (hf1 : ∀ p ∈ news, p.1 ≠ fd) (hf2 : ∀ p ∈ news, p.1 ≠ fl)
  (N : News h₀ L s.heap ((fd, listOf #[.int sd ts, .ref fl] n) :: (fl, listOf vs.toArray n2) :: news)) (B : Below A₀ base outer h₀) (F : Fr h₀ L s.heap m) (X : (Mine.hd.heap_1 w.params).In h₀) (T : Top p loose mean mg mb h₀)
  (hk : cs.kind = .function) (hd : dp + 30 < recursionLimit) (hu : un + 200 < cLine)
  (ret : ∀ (r : Nat) t sd' t' vs' ns' n' n2' h' tk', (r : Int) < many → 0 ≤ sd' ∧ sd' < 2147483648 → IntsAre vs' ns' → ns'.length ≤ 63 → Fr h₀ L h' m → News h₀ L h' ((fd, listOf #[.int sd' t', .ref fl] n') :: (fl, listOf (List.toArray vs') n2') :: news) → Q (.int (r : Int) t) { s with heap := h', toks := tk' })
  (hrw : PySem.Challenge.rw_ja0052_01 = PySem.Challenge.rw_ja0052_01) :
  wpAny (model PySem.Challenge.pw_ja0052_01 w) (ktrTop dp un gd cn cs L a ccd cl outer) (call (.ref 538) [.ref fd, .int many tm]) Q E s := draw_spec w fd fl sd ts n n2 vs ns many tm hi hlen hsd hm hff hf1 hf2 N B F X T hk hd hu (fun r t sd' t' vs' ns' n' n2' h' tk' lo h1 h2 h3 h4 F' N' => by
    obtain ⟨k, rfl⟩ := Int.eq_ofNat_of_zero_le lo
    exact ret k t sd' t' vs' ns' n' n2' h' tk' h1 h2 h3 h4 F' N') hrw
end
section
theorem offM39 : True := by w_top off; trivial
open PySem.SeqAt
set_option maxRecDepth 100000
set_option maxHeartbeats 4000000
variable {p : Program} {loose : List Str} {mean : ExcName → Option Value} {mg mb : Str → Option Value}
  {dp un : Nat} {gd : Option (List Code)} {cn : Str} {cs : Scope} {a : Addr} {ccd : Value} {cl : List (Str × Addr)} {outer : List Env}
  {A₀ : Around} {E Q : Value → Shared → Prop} {s : Shared} {base h₀ : Heap} {L : Addr} {m : Str → Option Value} {news : List (Addr × Obj)}
theorem append_I {prog : Program} {w : World} {A : Around} {D : Addr} {us : List Value} {cn : Nat} {rest : List (Addr × Obj)} {x : Int} {t : Tok} (F : Fr h₀ L s.heap m) (N : News h₀ L s.heap ((D, listOf us.toArray cn) :: rest)) (hr : ∀ p ∈ rest, p.1 ≠ D) (hz : us.length ≤ sizeLine)
    (h : ∀ y ty h', y = x → Fr h₀ L h' m → News h₀ L h' ((D, listOf (List.toArray (us ++ [.int y ty])) (cn + 1)) :: rest) → Q .none { s with heap := h' }) : wpAny (model prog w) A (call (.builtin "list.append") [.ref D, .int x t]) Q E s := by
  refine append_K (its := List.toArray us) (n := cn) F N (.head hr) ?_ ?_
  · intro h9 F9 N9
    rw [List.push_toArray] at N9
    exact h _ _ _ rfl F9 N9
  · rw [List.size_toArray]; exact hz
theorem small0 : ∀ n : Nat, n < 64 → Builtin.Range.small 0 (n : Int) 1 = true ∧ Builtin.Range.rangeSize 0 (n : Int) 1 = (n : Int) := by decide
inductive OctJ (fd fl D : Addr) (sz : Nat) (tz : Tok) (sd' : Int) (t' : Tok) (n' n2' : Nat) (vs' : List Value) (news : List (Addr × Obj)) (gs : Array GenState) (i : Nat) (m' : Str → Option Value) (nw : List (Addr × Obj)) (g : Array GenState) : Prop
  | mk  (num : Int) (tn : Tok) (us : List Value) (ks : List Int) (cn : Nat) (u3 : Option Value)
    (c0 : m' = mp [(Str.ofString "feed", some (Value.ref fd)), (Str.ofString "size", some (Value.int (sz : Int) tz)), (Str.ofString "number", some (Value.int num tn)), (Str.ofString "found", some (Value.ref D)), (Str.ofString "k", u3)])
    (c1 : nw = (D, listOf us.toArray cn) :: (fd, listOf #[.int sd' t', .ref fl] n') :: (fl, listOf (List.toArray vs') n2') :: news)
    (c2 : IntsAre us ks)
    (c3 : KBa.In ks)
    (c4 : ks.length = i)
    (c5 : g = gs)
theorem octets_spec (w : World) (fd fl : Addr) (sd : Int) (ts : Tok) (n n2 : Nat) (vs : List Value) (ns : List Int) (sz : Nat) (tz : Tok) (hi : IntsAre vs ns) (hlen : ns.length ≤ 63) (hsd : 0 ≤ sd ∧ sd < 2147483648) (hz : 16 ≤ sz ∧ sz ≤ 24) (hff : fd ≠ fl) (hf1 : ∀ p ∈ news, p.1 ≠ fd) (hf2 : ∀ p ∈ news, p.1 ≠ fl)
  (N : News h₀ L s.heap ((fd, listOf #[.int sd ts, .ref fl] n) :: (fl, listOf vs.toArray n2) :: news)) (B : Below A₀ base outer h₀) (F : Fr h₀ L s.heap m) (X : (Mine.hd.heap_1 w.params).In h₀) (T : Top p loose mean mg mb h₀)
  (hk : cs.kind = .function) (hd : dp + 60 < recursionLimit) (hu : un + 400 < cLine)
  (ret : ∀ b t sd' t' vs' ns' n' n2' h' tk', Array.size b = sz → 0 ≤ sd' ∧ sd' < 2147483648 → IntsAre vs' ns' → ns'.length ≤ 63 → Fr h₀ L h' m → News h₀ L h' ((fd, listOf #[.int sd' t', .ref fl] n') :: (fl, listOf (List.toArray vs') n2') :: news) → Q (.bytes b t) { s with heap := h', toks := tk' })
  (hrw : PySem.Challenge.rw_ja0052_01 = PySem.Challenge.rw_ja0052_01) :
  wpAny (model PySem.Challenge.pw_ja0052_01 w) (ktrTop dp un gd cn cs L a ccd cl outer) (call (.ref 545) [.ref fd, .int (sz : Int) tz]) Q E s := by
  refine wpAny_noRaise ?_
  revert X hrw
  k_fill
  intro X hrw
  clear hrw
  refine wpAny_call ?_
  (k_dflt (refine' code_def ?k1 ?k2 ?k3 ?k4 ?k5 ?kA ?kF ?kK ?k6 ?k7 ?k8 ?k9 ?kB ?_ ?c2 ?c3 ?c4 ?c5; (case kA => first | with_reducible assumption | exact rfl); (case kF => first | with_reducible assumption | exact rfl); (case kK => first | with_reducible assumption | exact rfl | assumption); (case k1 => k_asm); (case k2 => k_asm); (case k3 => k_asm); (case k4 => k_asm); (case k5 => k_asm); (case k6 => k_is); (case k7 => k_is); (case k8 => k_room); (case k9 => exact BindsTo.of_eq rfl); (case c5 => decide); (case kB => exact locs rfl); (case c2 => exact rfl); (case c3 => exact rfl); (case c4 => exact rfl); k_whole; intro g1 L1 _ FG1 F0 N0 B1 X1 T1; (try dsimp only); (try k_fold)))
  refine letA ?_
  intro A9
  replace F0 := fr_lookup (show Fr _ _ _ (fun y => List.lookup y [(Str.ofString "size", Value.int (sz : Int) tz), (Str.ofString "feed", Value.ref fd)]) from F0)
  dsimp only [List.map] at F0
  have hz1 : (sz : Int) ≤ 1000000 := by omega
  have hz2 : (0 : Int) ≤ (sz : Int) := by omega
  repeat ((fail_if_success (with_reducible show wpAny _ _ (call (Value.ref 538) _ _) _ _ _)); first | (dsimp only; (with_reducible show wpAny _ _ (call (Value.ref 538) _ _) _ _ _)) | k_unfold | walk1 | (dsimp only; walk1) | (leave1; try dsimp only))
  refine' draw_spec w fd fl sd ts n n2 vs ns _ _ hi hlen hsd ?hm hff hf1 hf2 ?kN ?kB ?kF ?kX ?kT ?kk ?kd ?ku ?_ rfl
  case hm => exact Int.pow_pos (by decide)
  case kN => k_asm
  case kB => k_asm
  case kF => k_asm
  case kX => k_asm
  case kT => k_asm
  case kk => rfl
  case kd => walk_at "mine depth"
  case ku => walk_at "mine depth"
  intro r t sd' t' vs' ns' n' n2' h1 tk1 hr0 hr1 hsd' hi' hlen' F2 N2
  have hz3 : (sz : Int) - 2 ≤ 1000000 := by omega
  have hz4 : (0 : Int) ≤ (sz : Int) - 2 := by omega
  repeat ((fail_if_success (with_reducible show wpAny _ _ (exec (Stmt.For _ _ _ _ _) _) _ _ _)); first | (dsimp only; (with_reducible show wpAny _ _ (exec (Stmt.For _ _ _ _ _) _) _ _ _)) | k_unfold | walk1 | (dsimp only; walk1) | (leave1; try dsimp only))
  ·
    refine For_ ?_
    repeat ((fail_if_success (with_reducible show wpAny _ _ (pyIter _) _ _ _)); first | (dsimp only; (with_reducible show wpAny _ _ (pyIter _) _ _ _)) | k_unfold | walk1 | (dsimp only; walk1) | (leave1; try dsimp only))
    rename_i R4 F4 N4 K4
    rename_i D _ lD _ _ _ _ hge _ _ _ _ _
    have hfd : fd ≠ D := Nat.ne_of_lt lD.1
    have hfl : fl ≠ D := Nat.ne_of_lt lD.2.1
    replace F4 := (show Fr _ _ _ (mp [(Str.ofString "found", _), (Str.ofString "number", _), (Str.ofString "size", _), (Str.ofString "feed", _)]) from F4)
    refine for_rangeI (n := sz) rfl R4 (small0 sz (by omega)).1 (small0 sz (by omega)).2 (by rfl) (by rfl) (by passes_own) F4 N4
      (OctJ fd fl D sz tz sd' t' n' n2' vs' news s.gens) ?_ ?_ ?_
    · exact ⟨_, _, [], [], 0, _, mp_canon [Str.ofString "feed", Str.ofString "size", Str.ofString "number", Str.ofString "found", Str.ofString "k"] _ (by rfl), rfl, .nil, (fun x hx => nomatch hx), rfl, rfl⟩
    · rintro I i t5 m₁ news₁ g₁ own h5 tk5 hi5 hJ9 hI hown ⟨oI, hoI⟩ F5 N5
      k_fold
      obtain ⟨num, tn, us, ks, cn, u3, rfl, rfl, hius, hin, hkl, rfl⟩ := hJ9
      replace F5 := (show Fr _ _ _ (mp ((Str.ofString "k", some _) :: _)) from F5)
      repeat ((fail_if_success (with_reducible show wpAny _ _ (call (Value.builtin "list.append") _ _) _ _ _)); first | (dsimp only; (with_reducible show wpAny _ _ (call (Value.builtin "list.append") _ _) _ _ _)) | k_unfold | walk1 | (dsimp only; walk1) | (leave1; try dsimp only))
      rename News _ _ _ _ => N6
      rename Fr _ _ _ _ => F6
      have hul := hius.length
      refine append_I (us := us) (cn := cn) (rest := (fd, listOf #[.int sd' t', .ref fl] n') :: (fl, listOf (List.toArray vs') n2') :: (news ++ own)) F6 (News.sub N6 ?_) ?_ (by rw [sizeLine_eq]; omega) ?_
      · walk_at "mine sub"
      · intro q hq
        simp only [List.mem_append, List.mem_cons] at hq
        rcases hq with rfl | rfl | h | h
        · exact hfd
        · exact hfl
        · exact Nat.ne_of_lt (allLt_lt lD.2.2 q h)
        · have := hown q h
          rw [List.mem_singleton.mp this]
          exact fun e => hI _ (.head _) (List.mem_singleton.mpr e.symm)
      · intro y ty h9 hy F9 N9
        k_steps
        rename News _ _ _ _ => NB
        rename Fr _ _ _ _ => FB
        replace FB := (show Fr _ _ _ (mp ((Str.ofString "number", some _) :: _)) from FB)
        refine ⟨_, _, _, _, _, (D, listOf (List.toArray (us ++ [.int y ty])) (cn + 1)) :: (fd, listOf #[.int sd' t', .ref fl] n') :: (fl, listOf (List.toArray vs') n2') :: news, rfl, FB, NB, ?_, ?_, ?_, ⟨_, _, us ++ [.int y ty], ks ++ [y], cn + 1, _, mp_canon [Str.ofString "feed", Str.ofString "size", Str.ofString "number", Str.ofString "found", Str.ofString "k"] _ (by rfl), rfl, IntsAre.append hius (.cons _ _ .nil), ?_, by rw [List.length_append, hkl]; rfl, rfl⟩⟩
        · exact fun p hp => .tail _ (.tail _ (.tail _ (List.mem_append_right _ hp)))
        · walk_at "mine sub"
        · intro q hq
          rcases List.mem_cons.mp hq with rfl | hq
          · exact hI (D, listOf us.toArray cn) (.head _)
          · exact hI q (.tail _ hq)
        · intro x hx
          rcases List.mem_append.mp hx with hx | hx
          · exact hin x hx
          · rw [List.mem_singleton.mp hx, hy]
            exact ⟨fmod_lo _ (by decide), fmod_hi _ (by decide)⟩
    · rintro m' nw g' h' tk' ⟨num, tn, us, ks, cn, u3, rfl, rfl, hius, hin, hkl, rfl⟩ F5 N5
      repeat ((fail_if_success (with_reducible show wpAny _ _ (call (Value.type "bytes") _ _) _ _ _)); first | (dsimp only; (with_reducible show wpAny _ _ (call (Value.type "bytes") _ _) _ _ _)) | k_unfold | walk1 | (dsimp only; walk1) | (leave1; try dsimp only))
      refine' KBa.make_K ?F ?N ?h ?l hius hin ?z ?_
      case l => exact News.isList N5 (.head _)
      case F => exact F5
      case N => exact N5
      case h => rfl
      case z => omega
      intro h6 t6 k6 F6 N6 _
      k_steps
      rename News _ _ _ _ => N7
      rename Fr _ _ _ _ => F7
      exact ret _ _ _ _ _ _ _ _ _ _ (by rw [byteArr_size]; exact hkl) hsd' hi' hlen' F7 (News.sub N7 (by walk_at "mine sub"))
  · repeat ((fail_if_success (with_reducible show wpAny _ _ (exec (Stmt.For _ _ _ _ _) _) _ _ _)); first | (dsimp only; (with_reducible show wpAny _ _ (exec (Stmt.For _ _ _ _ _) _) _ _ _)) | k_unfold | walk1 | (dsimp only; walk1) | (leave1; try dsimp only))
    refine For_ ?_
    repeat ((fail_if_success (with_reducible show wpAny _ _ (pyIter _) _ _ _)); first | (dsimp only; (with_reducible show wpAny _ _ (pyIter _) _ _ _)) | k_unfold | walk1 | (dsimp only; walk1) | (leave1; try dsimp only))
    rename_i R4 F4 N4 K4
    rename_i D _ lD _ _ _ _ hge _ _ _ _ _
    have hfd : fd ≠ D := Nat.ne_of_lt lD.1
    have hfl : fl ≠ D := Nat.ne_of_lt lD.2.1
    replace F4 := (show Fr _ _ _ (mp [(Str.ofString "found", _), (Str.ofString "number", _), (Str.ofString "size", _), (Str.ofString "feed", _)]) from F4)
    refine for_rangeI (n := sz) rfl R4 (small0 sz (by omega)).1 (small0 sz (by omega)).2 (by rfl) (by rfl) (by passes_own) F4 N4
      (OctJ fd fl D sz tz sd' t' n' n2' vs' news s.gens) ?_ ?_ ?_
    · exact ⟨_, _, [], [], 0, _, mp_canon [Str.ofString "feed", Str.ofString "size", Str.ofString "number", Str.ofString "found", Str.ofString "k"] _ (by rfl), rfl, .nil, (fun x hx => nomatch hx), rfl, rfl⟩
    · rintro I i t5 m₁ news₁ g₁ own h5 tk5 hi5 hJ9 hI hown ⟨oI, hoI⟩ F5 N5
      k_fold
      obtain ⟨num, tn, us, ks, cn, u3, rfl, rfl, hius, hin, hkl, rfl⟩ := hJ9
      replace F5 := (show Fr _ _ _ (mp ((Str.ofString "k", some _) :: _)) from F5)
      repeat ((fail_if_success (with_reducible show wpAny _ _ (call (Value.builtin "list.append") _ _) _ _ _)); first | (dsimp only; (with_reducible show wpAny _ _ (call (Value.builtin "list.append") _ _) _ _ _)) | k_unfold | walk1 | (dsimp only; walk1) | (leave1; try dsimp only))
      rename News _ _ _ _ => N6
      rename Fr _ _ _ _ => F6
      have hul := hius.length
      refine append_I (us := us) (cn := cn) (rest := (fd, listOf #[.int sd' t', .ref fl] n') :: (fl, listOf (List.toArray vs') n2') :: (news ++ own)) F6 (News.sub N6 ?_) ?_ (by rw [sizeLine_eq]; omega) ?_
      · walk_at "mine sub"
      · intro q hq
        simp only [List.mem_append, List.mem_cons] at hq
        rcases hq with rfl | rfl | h | h
        · exact hfd
        · exact hfl
        · exact Nat.ne_of_lt (allLt_lt lD.2.2 q h)
        · have := hown q h
          rw [List.mem_singleton.mp this]
          exact fun e => hI _ (.head _) (List.mem_singleton.mpr e.symm)
      · intro y ty h9 hy F9 N9
        k_steps
        rename News _ _ _ _ => NB
        rename Fr _ _ _ _ => FB
        replace FB := (show Fr _ _ _ (mp ((Str.ofString "number", some _) :: _)) from FB)
        refine ⟨_, _, _, _, _, (D, listOf (List.toArray (us ++ [.int y ty])) (cn + 1)) :: (fd, listOf #[.int sd' t', .ref fl] n') :: (fl, listOf (List.toArray vs') n2') :: news, rfl, FB, NB, ?_, ?_, ?_, ⟨_, _, us ++ [.int y ty], ks ++ [y], cn + 1, _, mp_canon [Str.ofString "feed", Str.ofString "size", Str.ofString "number", Str.ofString "found", Str.ofString "k"] _ (by rfl), rfl, IntsAre.append hius (.cons _ _ .nil), ?_, by rw [List.length_append, hkl]; rfl, rfl⟩⟩
        · exact fun p hp => .tail _ (.tail _ (.tail _ (List.mem_append_right _ hp)))
        · walk_at "mine sub"
        · intro q hq
          rcases List.mem_cons.mp hq with rfl | hq
          · exact hI (D, listOf us.toArray cn) (.head _)
          · exact hI q (.tail _ hq)
        · intro x hx
          rcases List.mem_append.mp hx with hx | hx
          · exact hin x hx
          · rw [List.mem_singleton.mp hx, hy]
            exact ⟨fmod_lo _ (by decide), fmod_hi _ (by decide)⟩
    · rintro m' nw g' h' tk' ⟨num, tn, us, ks, cn, u3, rfl, rfl, hius, hin, hkl, rfl⟩ F5 N5
      repeat ((fail_if_success (with_reducible show wpAny _ _ (call (Value.type "bytes") _ _) _ _ _)); first | (dsimp only; (with_reducible show wpAny _ _ (call (Value.type "bytes") _ _) _ _ _)) | k_unfold | walk1 | (dsimp only; walk1) | (leave1; try dsimp only))
      refine' KBa.make_K ?F ?N ?h ?l hius hin ?z ?_
      case l => exact News.isList N5 (.head _)
      case F => exact F5
      case N => exact N5
      case h => rfl
      case z => omega
      intro h6 t6 k6 F6 N6 _
      k_steps
      rename News _ _ _ _ => N7
      rename Fr _ _ _ _ => F7
      exact ret _ _ _ _ _ _ _ _ _ _ (by rw [byteArr_size]; exact hkl) hsd' hi' hlen' F7 (News.sub N7 (by walk_at "mine sub"))
end
section
theorem offM40 : True := by w_top off; trivial
local macro_rules | `(tactic| walk_at "mine pad") => `(tactic| skip)
open PySem.SeqAt
set_option maxRecDepth 100000
set_option maxHeartbeats 4000000
variable {p : Program} {loose : List Str} {mean : ExcName → Option Value} {mg mb : Str → Option Value}
  {dp un : Nat} {gd : Option (List Code)} {cn : Str} {cs : Scope} {a : Addr} {ccd : Value} {cl : List (Str × Addr)} {outer : List Env}
  {A₀ : Around} {E Q : Value → Shared → Prop} {s : Shared} {base h₀ : Heap} {L : Addr} {m : Str → Option Value} {news : List (Addr × Obj)}
theorem isInt_of {vs : List Value} {ns : List Int} (h : IntsAre vs ns) : ∀ {i : Nat} {v : Value}, vs[i]? = some v → ∃ x t, v = .int x t := by
  induction h with
  | nil => intro i v e; simp at e
  | cons x t _ ih =>
    intro i v e
    cases i with
    | zero => simp at e; exact ⟨x, t, e.symm⟩
    | succ i => exact ih (i := i) (by simpa using e)
theorem baseL {g h : Heap} {L : Addr} {m : Str → Option Value} {l : Addr} {its : Array Value} (x : g.IsList l its) (F : Fr g L h m) : h.IsList l its :=
  let ⟨o, e, r⟩ := x; ⟨o, F.keep _ _ e, r⟩
local macro_rules | `(tactic| is_list) => `(tactic| first | exact ledL (by assumption) (by walk_at "mine mem") | exact baseL (by with_reducible assumption) (by assumption))
inductive FeedJ (l : Addr) (i : Nat) (m' : Str → Option Value) : Prop
  | mk  (sd : Int) (t : Tok) (u1 : Option Value)
    (c0 : m' = mp [(Str.ofString "script", some (Value.ref l)), (Str.ofString "seed", some (Value.int sd t)), (Str.ofString "number", u1)])
    (c1 : 0 ≤ sd)
    (c2 : sd < 1000003)
theorem feed_spec (w : World) (l : Addr) (vs : List Value) (ns : List Int) (hl : h₀.IsList l vs.toArray) (hi : IntsAre vs ns) (hlen : ns.length ≤ 63) (N : News h₀ L s.heap news) (B : Below A₀ base outer h₀) (F : Fr h₀ L s.heap m) (X : (Mine.hd.heap_1 w.params).In h₀) (T : Top p loose mean mg mb h₀)
  (hk : cs.kind = .function) (hd : dp + 30 < recursionLimit) (hu : un + 200 < cLine)
  (ret : ∀ fd fl sd ts vs' ns' n n2 h' tk', 0 ≤ sd ∧ sd < 2147483648 → IntsAre vs' ns' → ns'.length ≤ 63 → Fr h₀ L h' m → News h₀ L h' ((fd, listOf #[.int sd ts, .ref fl] n) :: (fl, listOf (List.toArray vs') n2) :: news) → (∀ p ∈ news, p.1 < fl) → @LT.lt Nat _ fl fd → Q (.ref fd) { s with heap := h', toks := tk' })
  (hrw : PySem.Challenge.rw_ja0052_01 = PySem.Challenge.rw_ja0052_01) :
  wpAny (model PySem.Challenge.pw_ja0052_01 w) (ktrTop dp un gd cn cs L a ccd cl outer) (call (.ref 531) [.ref l]) Q E s := by
  refine wpAny_noRaise ?_
  revert X hrw
  k_fill
  intro X hrw
  clear hrw
  refine wpAny_call ?_
  (k_dflt (refine' code_def ?k1 ?k2 ?k3 ?k4 ?k5 ?kA ?kF ?kK ?k6 ?k7 ?k8 ?k9 ?kB ?_ ?c2 ?c3 ?c4 ?c5; (case kA => first | with_reducible assumption | exact rfl); (case kF => first | with_reducible assumption | exact rfl); (case kK => first | with_reducible assumption | exact rfl | assumption); (case k1 => k_asm); (case k2 => k_asm); (case k3 => k_asm); (case k4 => k_asm); (case k5 => k_asm); (case k6 => k_is); (case k7 => k_is); (case k8 => k_room); (case k9 => exact BindsTo.of_eq rfl); (case c5 => decide); (case kB => exact locs rfl); (case c2 => exact rfl); (case c3 => exact rfl); (case c4 => exact rfl); k_whole; intro g1 L1 _ FG1 F0 N0 B1 X1 T1; (try dsimp only); (try k_fold)))
  refine letA ?_
  intro A9
  replace F0 := fr_lookup (show Fr _ _ _ (fun y => List.lookup y [(Str.ofString "script", Value.ref l)]) from F0)
  dsimp only [List.map] at F0
  have hlg : g1.IsList l vs.toArray := baseL hl FG1
  repeat ((fail_if_success (with_reducible show wpAny _ _ (exec (Stmt.For _ _ _ _ _) _) _ _ _)); first | (dsimp only; (with_reducible show wpAny _ _ (exec (Stmt.For _ _ _ _ _) _) _ _ _)) | k_unfold | walk1 | (dsimp only; walk1) | (leave1; try dsimp only))
  refine For_ ?_
  repeat ((fail_if_success (with_reducible show wpAny _ _ (pyIter _) _ _ _)); first | (dsimp only; (with_reducible show wpAny _ _ (pyIter _) _ _ _)) | k_unfold | walk1 | (dsimp only; walk1) | (leave1; try dsimp only))
  rename_i D ws _ F1 N1 lD hiw _ _
  rw [List.take_of_length_le hlen] at hiw
  replace F1 := (show Fr _ _ _ (mp [(Str.ofString "seed", _), (Str.ofString "script", _)]) from F1)
  have HL := News.isList N1 (.head _)
  have HN := (N1 _ (.head _)).2.1
  refine for_listK rfl HL HN (by rfl) (by rfl) (by passes_own) F1 N1
    (FeedJ l) ?_ ?_ ?_
  · exact ⟨7, _, _, mp_canon [Str.ofString "script", Str.ofString "seed", Str.ofString "number"] _ (by rfl), by decide, by decide⟩
  · rintro i v m₁ own h tk hv hJ9 F2 N2
    k_fold
    obtain ⟨sd, t, u1, rfl, hs1, hs2⟩ := hJ9
    obtain ⟨x, tx, rfl⟩ := isInt_of hiw hv
    replace F2 := (show Fr _ _ _ (mp ((Str.ofString "number", some _) :: _)) from F2)
    k_steps
    rename News _ _ _ _ => N3
    rename Fr _ _ _ _ => F3
    replace F3 := (show Fr _ _ _ (mp ((Str.ofString "seed", some _) :: _)) from F3)
    exact TurnK.end F3 N3 (fun _ h => h) ⟨_, _, _, mp_canon [Str.ofString "script", Str.ofString "seed", Str.ofString "number"] ((_, _) :: (_, _) :: _) (by rfl), fmod_lo _ (by decide), fmod_hi _ (by decide)⟩
  · rintro m' h' tk ⟨sd, t, u1, rfl, hs1, hs2⟩ F2 N2
    k_steps
    rename News _ _ _ _ => N3
    rename Fr _ _ _ _ => F3
    rename (_ < _ ∧ _ < _ ∧ _ < _ ∧ AllLt _ _) => l2
    rename IntsAre _ _ => hw
    rename (_ < _ ∧ _ < _ ∧ AllLt _ _) => l3
    refine ret _ _ sd _ _ _ _ _ _ _ ⟨hs1, by omega⟩ hw ?_ F3 (News.sub N3 (by walk_at "mine sub")) ?_ l2.1
    · rw [List.length_take]; omega
    · exact fun p hp => allLt_lt l3.2.2 p hp
end
section
set_option maxRecDepth 100000
set_option maxHeartbeats 1000000
section
variable {M : Model} {A : Around} {R : GenEnd} {Y : Protocol} {n : Nat} {s₀ : Shared} {c : Code} {fs : List Frame} {s : Shared} {env : Env}
  {K : Flow → Sem Fin} {H : Value → Sem Fin} {gd : Bool → Bool} {lv : List Value → List Value}
/-- the frame that waits for a for loop in a generator's body -/
def forRet (env : Env) (K : Flow → Sem Fin) (H : Value → Sem Fin) (gd : Bool → Bool) (lv : List Value → List Value) (c : Code) (p : Pos) : Frame :=
  .ret (fun r => ((match r with | .ok f => (.pure f : Sem Flow) | .error e => .raise e).onRaise fun (x : Value) => do
        if (← field x 1) == Value.none then unsupported "frame.own-activation:exception-without-traceback"
        setFlight x env.frame).wrap K H gd lv) none (gd false) (lv []) c p []
theorem seg_For {target iter : Expr} {body : List Stmt} {pos : Pos}
    (h : wpAny M (A.over c fs) (eval iter env) (fun x s₁ => wpAny M (A.over c fs) (pyIter x) (fun it s₂ => ∀ p, Seg M A R Y n s₀ (.forLoop target it body [] env) (M.den (.forLoop target it body [] env)) (forRet env K H gd lv c p :: fs) s₂)
      (fun x s' => Seg M A R Y n s₀ c (H x) fs s') s₁) (fun x s' => Seg M A R Y n s₀ c (H x) fs s') s)
    (hs : ∀ x, foldedSetIterable iter env x = pure x := by intro _; rfl) :
    Seg M A R Y n s₀ c ((exec (.For target iter body [] pos) env).wrap K H gd lv) fs s := by
  rw [exec_For]
  refine seg_bind_wrap (wpAny_standAt ?_)
  refine seg_bind_wrap (wpAny_mono h (fun x s₁ h₁ => ?_) fun _ _ e => e)
  refine seg_bind_wrap (wpAny_of_eq (hs x) ?_)
  refine seg_bind_wrap (wpAny_standAt ?_)
  refine seg_bind_wrap (wpAny_holding (wpAny_mono h₁ (fun it s₂ h₂ => ?_) fun _ _ e => e))
  exact seg_call h₂
end
section
variable {prog : Program} {w : World} {A : Around} {R : GenEnd} {Y : Protocol} {n : Nat} {s₀ : Shared} {fs : List Frame} {s : Shared} {env : Env}
theorem seg_forLoop {x : Str} {px : Pos} {it : Value} {body : List Stmt}
    (h : wpAny (model prog w) (A.over (.forLoop (.Name x px) it body [] env) fs) (pyNext it) (fun r s₁ => match r with
      | none => Seg (model prog w) A R Y n s₀ (.block [] env) (leafOf (.ok .next)) fs s₁
      | some v => wpAny (model prog w) (A.over (.forLoop (.Name x px) it body [] env) fs) (assign (.Name x px) env v) (fun _ s₂ => Seg (model prog w) A R Y n s₀ (.forLoop (.Name x px) it body [] env) ((execs body env).wrap (fun f => match f with
            | .next | .cont => .pure (.again (.forLoop (.Name x px) it body [] env))
            | .brk => .pure (.done .next)
            | .ret v => .pure (.done (.ret v))) (fun e => (do noteFrame e env; theTreesLotGoes e : Sem Unit).wrap (fun _ => .raise e) .raise id id) id id) fs s₂) (fun _ _ => False) s₁) (fun _ _ => False) s) :
    Seg (model prog w) A R Y n s₀ (.forLoop (.Name x px) it body [] env) ((model prog w).den (.forLoop (.Name x px) it body [] env)) fs s := by
  show Seg _ A R Y n s₀ _ ((forTurn (.Name x px) it body [] env).onRaise (fun x => do noteFrame x env; theTreesLotGoes x)) fs s
  unfold forTurn
  rw [Sem.onRaise_eq_wrap]
  refine seg_bind_wrap (wpAny_standAt ?_)
  refine seg_bind_wrap (wpAny_onRaise (wpAny_mono h (fun r s₁ h₁ => ?_) fun _ _ e => e.elim))
  cases r with
  | none =>
    exact seg_again rfl h₁
  | some v =>
    dsimp only at h₁ ⊢
    refine seg_bind_wrap (wpAny_of_eq (rfl : letOwnedTupleGo (.Name x px) it v = pure ()) ?_)
    refine seg_bind_wrap (wpAny_mono h₁ (fun _ s₂ h₂ => ?_) fun _ _ e => e.elim)
    rw [Sem.bind_eq_wrap', Sem.wrap_wrap]
    rw [Sem.wrap_congr (execs body env) _ _ (K' := fun f => match f with
            | .next | .cont => .pure (.again (.forLoop (.Name x px) it body [] env))
            | .brk => .pure (.done .next)
            | .ret v => .pure (.done (.ret v))) (H' := (fun e => (do noteFrame e env; theTreesLotGoes e : Sem Unit).wrap (fun _ => .raise e) .raise id id))
        (fun f => by cases f <;> rfl)
        (fun e => by first | exact Sem.bind_eq_wrap _ _ | (show (do noteFrame e env; theTreesLotGoes e : Sem Unit).bind (fun _ => .raise e) = _; rw [Sem.bind_eq_wrap]))]
    exact h₂
/-- how a generator that walks a list ends, and what it hands out -/
def gfR (C I : Addr) : GenEnd := fun n s₀ r s₁ => r = .ok (.ret .none) ∧ (n = 0 ∧ GenSince C [I] s₀ s₁)
def gfY (C I l : Addr) (its : Array Value) : Protocol := fun m s₀ v s kap =>
  its[its.size - 1 - m]? = some v ∧ GenSince C [I] s₀ s ∧ ((∃ o, s.heap.get? I = some o) ∧ ∃ o, s.heap.get? C = some o) ∧ ∀ s'' : Shared, (∀ b ∈ [C, I, l], ∀ o, s.heap.get? b = some o → s''.heap.get? b = some o) → kap (.send .none) s''
theorem gf_loop {x : Str} {px pn ypos epos : Pos} {C I l : Addr} {its : Array Value} (hC : env.locals = C) (hx : env.kindOf x = some .local)
    (hp : (env.scope.kind == .class || (env.scope.kind == .module && env.locals != env.globals)) = false)
    (hco : env.scope.isCoroutine = false) (hint : interactive env = false) (hIC : I ≠ C) (hlC : l ≠ C) (hIl : I ≠ l)
    (hfs : splitAtGen fs = none) (hfg : fs.any Frame.guarded = false) (hh : (A.over (.forLoop (.Name x px) (.ref I) [.Expr (.Yield (some (.Name x pn)) ypos) epos] [] env) fs).handled = none)
    (hld : ∀ (A' : Around) E' Q v (s : Shared) m, s.heap.Ns C m → m x = some v → Q v s → wpAny (model prog w) A' (eval (.Name x pn) env) Q E' s)
    (fin : ∀ s₀ s, GenSince C [I] s₀ s → Seg (model prog w) A (gfR C I) (gfY C I l its) 0 s₀ (.block [] env) (leafOf (.ok .next)) fs s) :
    ∀ (k i : Nat) (s₀ s : Shared) (m : Str → Option Value), its.size - i = k → i ≤ its.size → s.heap.IsListIter I l i → s.heap.IsList l its → s.heap.Ns C m → GenSince C [I] s₀ s →
      Seg (model prog w) A (gfR C I) (gfY C I l its) k s₀ (.forLoop (.Name x px) (.ref I) [.Expr (.Yield (some (.Name x pn)) ypos) epos] [] env)
        ((model prog w).den (.forLoop (.Name x px) (.ref I) [.Expr (.Yield (some (.Name x pn)) ypos) epos] [] env)) fs s := by
  have W := Walks.list (prog := prog) (w := w) hh I l (Ne.symm hIl) its
  subst hC
  intro k
  induction k with
  | zero =>
    intro i s₀ s m hk hi hit hl hn hs
    have hin : i = its.size := eq_of_sub hk hi
    subst hin
    refine seg_forLoop (W.done s _ _ ⟨hit, hl⟩ fun h' tk hk' => ?_)
    refine fin _ _ (hs.step fun b o _ hw e => hk' b o hw e)
  | succ k ih =>
    intro i s₀ s m hk hi hit hl hn hs
    have hlt : i < its.size := lt_of_sub hk
    refine seg_forLoop (W.item i s _ _ hlt ⟨hit, hl⟩ fun v h₁ tk₁ hPv hst₁ hk₁ => ?_)
    dsimp only
    have hCw : env.locals ∉ [I] := fun q => hIC (List.mem_singleton.mp q).symm
    refine wpAny_assign_Name (wpAny_storeName_local hx (hn.at' fun o e => hk₁ _ o hCw e) (fun h₂ hn₂ hs₂ => ?_) hp)
    have up₂ : ∀ b o, b ≠ env.locals → b ∉ [I] → s.heap.get? b = some o → h₂.get? b = some o := fun b o hbC hbw e => hs₂.extBut b o hbC (hk₁ b o hbw e)
    have hst₂ := W.frame (i + 1) _ h₂ hst₁ fun b hb o e => hs₂.extBut b o (fun h => by
      rcases List.mem_cons.mp hb with q | hb
      · exact hIC (q.symm.trans h)
      · exact hlC ((List.mem_singleton.mp hb).symm.trans h)) e
    refine seg_execs_cons ?_
    refine seg_Expr_Yield hfs rfl hfg ?_ hco hint
    refine hld _ _ _ v _ _ hn₂ (by simp) ?_
    intro kap hkap
    refine ⟨?_, hs.step fun b o hbC hbw e => up₂ b o hbC hbw e, ⟨let ⟨o, e, _⟩ := hst₂.1; ⟨o, e⟩, let ⟨o, _, _, e, _⟩ := hn₂; ⟨o, e⟩⟩, ?_⟩
    · rw [show its.size - 1 - k = i from sub_last hk hlt]
      exact hPv
    · intro s'' hal
      refine hkap _ _ ?_
      refine seg_execs_nil ?_
      refine seg_again rfl (ih (i + 1) s'' s'' _ (sub_step hk) hlt ?_ ?_ (hn₂.at' fun o e => hal _ (.head _) o e) (GenSince.refl _ _ _))
      · obtain ⟨o, e, r⟩ := hst₂.1
        exact ⟨o, hal I (.tail _ (.head _)) _ e, r⟩
      · exact hst₂.2.at fun o e => hal l (.tail _ (.tail _ (.head _))) o e
theorem gf_start {x : Str} {px pn ypos epos fpos : Pos} {iter : Expr} {C I l : Addr} {its : Array Value} {m : Str → Option Value} (hC : env.locals = C) (hx : env.kindOf x = some .local)
    (hp : (env.scope.kind == .class || (env.scope.kind == .module && env.locals != env.globals)) = false)
    (hco : env.scope.isCoroutine = false) (hint : interactive env = false) (hIC : I ≠ C) (hlC : l ≠ C) (hIl : I ≠ l) (hh : A.handled = none)
    (hld : ∀ (A' : Around) E' Q v (s : Shared) m, s.heap.Ns C m → m x = some v → Q v s → wpAny (model prog w) A' (eval (.Name x pn) env) Q E' s)
    (hit : ∀ (A' : Around) E' Q, (∀ tk, Q (.ref l) { s with toks := tk }) → wpAny (model prog w) A' (eval iter env) Q E' s)
    (hl : s.heap.IsList l its) (hn : s.heap.Ns C m) (hsz : s.heap.objs.size = I) (hs : GenSince C [I] s₀ s)
    (hsi : ∀ x, foldedSetIterable iter env x = pure x := by intro _; rfl) :
    Seg (model prog w) A (gfR C I) (gfY C I l its) its.size s₀ (.func [.For (.Name x px) iter [.Expr (.Yield (some (.Name x pn)) ypos) epos] [] fpos] env)
      ((model prog w).den (.func [.For (.Name x px) iter [.Expr (.Yield (some (.Name x pn)) ypos) epos] [] fpos] env)) [] s := by
  subst hsz
  refine seg_func ?_
  refine seg_execs_cons ?_
  refine seg_For (hit _ _ _ fun tk => ?_) hsi
  refine wpAny_pyIter_list hl ?_
  intro p
  refine' gf_loop hC hx hp hco hint hIC hlC hIl ?f1 ?f2 ?f3 hld ?_ its.size 0 _ _ m (Nat.sub_zero _) (Nat.zero_le _) ?g1 ?g2 ?g3 ?_
  case g1 => exact ⟨_, Heap.get?_push_at rfl rfl, rfl, rfl⟩
  case g2 => exact hl.push _
  case g3 => exact hn.push _
  case f1 => rfl
  case f2 => rfl
  case f3 => exact hh
  · intro s₁ s₂ hs₂
    refine seg_leaf (.ok .next) ?_
    exact seg_end (.ok (.ret .none)) ⟨rfl, rfl, hs₂⟩
  · exact hs.step fun b o _ _ e => Heap.get?_push_of_some _ e
/-- a generator that walks a list, suspended ahead of item `j` -/
def GF (prog : Program) (w : World) (A : Around) (a : Addr) (g : Nat) (fp : List Addr) (C I l : Addr) (its : Array Value) (j : Nat) (s : Shared) : Prop :=
  s.heap.IsGen a g ∧ s.heap.NoLimit ∧ ∃ gs, s.gens[g]? = some gs ∧ ∀ s'' : Shared, (∀ b ∈ C :: l :: fp, ∀ o, s.heap.get? b = some o → s''.heap.get? b = some o) → (if j = 0 then s''.heap.objs.size = I else ∀ o, s.heap.get? I = some o → s''.heap.get? I = some o) →
    gs.Goes (model prog w) A.in1 (gfR C I) (gfY C I l its) (its.size - j) (.send .none) s''
theorem GF.at {a : Addr} {g : Nat} {fp : List Addr} {C I l : Addr} {its : Array Value} {j : Nat} (x : GF prog w A a g fp C I l its j s) {h : Heap} {tk : Nat} (ha : ∀ o, s.heap.get? a = some o → h.get? a = some o) (hst : ∀ o, s.heap.get? cStatics = some o → h.get? cStatics = some o)
    (hk : ∀ b ∈ C :: l :: fp, ∀ o, s.heap.get? b = some o → h.get? b = some o) (hI : j ≠ 0 → ∀ o, s.heap.get? I = some o → h.get? I = some o) : GF prog w A a g fp C I l its j { s with heap := h, toks := tk } := by
  obtain ⟨hg, hl, gs, hgs, hgo⟩ := x
  refine ⟨let ⟨o, nm, qn, ho, r⟩ := hg; ⟨o, nm, qn, ha o ho, r⟩, let ⟨mc, hns, hnn⟩ := hl; ⟨mc, hns.at' hst, hnn⟩, gs, hgs, fun s'' h1 h2 => hgo s'' (fun b hb o e => h1 b hb o (hk b hb o e)) ?_⟩
  split at h2
  · rename_i hj; rw [if_pos hj]; exact h2
  · rename_i hj; rw [if_neg hj]; exact fun o e => h2 o (hI hj o e)
theorem gf_item {E : Value → Shared → Prop} {Q : Option Value → Shared → Prop} {a : Addr} {g : Nat} {fp : List Addr} {C I l : Addr} {its : Array Value} {j : Nat} (x : GF prog w A a g fp C I l its j s) (hh : A.handled = none) (hroom : A.depth < recursionLimit) (hj : j < its.size)
    (hsz : if j = 0 then s.heap.objs.size = I else True) (haC : a ≠ C) (haI : a ≠ I) (hsC : cStatics ≠ C) (hsI : cStatics ≠ I)
    (h : ∀ v h' tk' g', its[j]? = some v → GF prog w A a g fp C I l its (j + 1) ⟨h', g', s.drawn, tk', s.os⟩ → GenOnly g s.gens g' → (∀ b o, b ≠ C → b ≠ I → s.heap.get? b = some o → h'.get? b = some o) → (∃ o, h'.get? I = some o) → (∃ o, h'.get? C = some o) → Q (some v) ⟨h', g', s.drawn, tk', s.os⟩) :
    wpAny (model prog w) A (pyNext (.ref a)) Q E s := by
  obtain ⟨hg, hl, gs, hgs, hgo⟩ := x
  obtain ⟨m, hm⟩ : ∃ m, its.size - j = m + 1 := ⟨its.size - j - 1, (Nat.sub_add_cancel (Nat.sub_pos_of_lt hj)).symm⟩
  have hgo0 := hgo (s.setGen g .running) (fun _ _ _ e => e) (by
    split
    · rename_i hj0; rw [if_pos hj0] at hsz; exact hsz
    · exact fun _ e => e)
  rw [hm] at hgo0
  refine wpAny_pyNext_gen (P := fun n s₀ s₁ => n = 0 ∧ GenSince C [I] s₀ s₁) hh hl hroom hg hgs hgo0 (fun v s₁ gs' hv => ?_) (fun s₁ hp h' hk => ?_)
  · obtain ⟨hv1, ⟨h₁, tk₁, rfl, hk₁⟩, ⟨hoI, hoC⟩, hkap⟩ := hv
    rw [show its.size - 1 - (m + 1 - 1) = j from sub_last hm hj] at hv1
    have up : ∀ b o, b ≠ C → b ≠ I → s.heap.get? b = some o → h₁.get? b = some o := fun b o h1 h2 e => hk₁ b o h1 (fun q => h2 (List.mem_singleton.mp q)) e
    refine h v h₁ tk₁ _ hv1 ⟨let ⟨o, nm, qn, ho, r⟩ := hg; ⟨o, nm, qn, up a o haC haI ho, r⟩, (let ⟨mc, hns, hnn⟩ := hl; ⟨mc, hns.at' fun o e => up _ o hsC hsI e, hnn⟩), gs', setGen_self (gs := .running) (setGen_self hgs), fun s'' h1 h2 => ?_⟩
      ((GenOnly.setGen s g .running).trans (GenOnly.setGen (s.setGen g .running) g gs')) up hoI hoC
    rw [show its.size - (j + 1) = m from sub_step hm]
    refine hkap s'' fun b hb o e => ?_
    rcases List.mem_cons.mp hb with rfl | hb
    · exact h1 _ (.head _) o e
    · rcases List.mem_cons.mp hb with rfl | hb
      · exact (by simpa using h2 : ∀ o, h₁.get? b = some o → s''.heap.get? b = some o) o e
      · rw [List.mem_singleton.mp hb] at e ⊢
        exact h1 _ (.tail _ (.head _)) o e
  · exact absurd hp.1 (Nat.succ_ne_zero m)
theorem gf_done {E : Value → Shared → Prop} {Q : Option Value → Shared → Prop} {a : Addr} {g : Nat} {fp : List Addr} {C I l : Addr} {its : Array Value} (x : GF prog w A a g fp C I l its its.size s) (hh : A.handled = none) (hroom : A.depth < recursionLimit)
    (hsz : if its.size = 0 then s.heap.objs.size = I else True)
    (h : ∀ h' tk' g', GenOnly g s.gens g' → g'[g]? = some .finished → (∀ b o, b ≠ C → b ≠ I → s.heap.get? b = some o → h'.get? b = some o) → Q none ⟨h', g', s.drawn, tk', s.os⟩) :
    wpAny (model prog w) A (pyNext (.ref a)) Q E s := by
  obtain ⟨hg, hl, gs, hgs, hgo⟩ := x
  have hgo0 := hgo (s.setGen g .running) (fun _ _ _ e => e) (by
    split
    · rename_i hj0; rw [if_pos hj0] at hsz; exact hsz
    · exact fun _ e => e)
  rw [Nat.sub_self] at hgo0
  refine wpAny_pyNext_gen (P := fun n s₀ s₁ => n = 0 ∧ GenSince C [I] s₀ s₁) hh hl hroom hg hgs hgo0 (fun v s₁ gs' hv => ?_) (fun s₁ hp h' hk => ?_)
  · obtain ⟨_, _, _, hkap⟩ := hv
    exact False.elim (hkap s₁ fun _ _ _ e => e)
  · obtain ⟨_, h₁, tk₁, rfl, hk₁⟩ := hp
    exact h h' tk₁ _ ((GenOnly.setGen s g .running).trans (GenOnly.setGen (s.setGen g .running) g .finished)) (setGen_self (gs := .running) (setGen_self hgs)) fun b o h1 h2 e => hk b o (hk₁ b o h1 (fun q => h2 (List.mem_singleton.mp q)) e)
end
end
section
open PyProof.Rows.LCg (NsObj lst lst_snoc Off3 Off1 ns_obj fr_but news_but)
set_option maxRecDepth 100000
set_option maxHeartbeats 1000000
inductive GEnd (h₀ : Heap) (L : Addr) (m : Str → Option Value) (s₁ : Shared) (own : List (Addr × Obj)) (J : Value → List (Addr × Obj) → Prop) (y : Value) (s₂ : Shared) : Prop
  | mk (h' : _) (tk : _) (all : _) (nw : _)
    (c0 : s₂ = ⟨h', s₁.gens, s₁.drawn, tk, s₁.os⟩)
    (c1 : Fr h₀ L h' m)
    (c2 : News h₀ L h' all)
    (c3 : (∀ p ∈ own ++ nw, p ∈ all))
    (c4 : (∀ p ∈ nw, ∀ q ∈ own, p.1 ≠ q.1))
    (c5 : J y nw)
inductive GSt (prog : Program) (w : World) (A : Around) (a g : Nat) (fp : List Addr) (C l : Addr) (its : Array Value) (oa : Obj) (h₀ : Heap) (L : Addr) (m : Str → Option Value) (J : Nat → List Value → List (Addr × Obj) → Prop) (s₂ : Shared) (k : Nat) (s' : Shared) : Prop
  | mk (h' : Heap) (tk : Nat) (g' : Array GenState) (i : Nat) (ys : List Value) (m' : Str → Option Value) (nw : List (Addr × Obj)) (oC' : Obj)
    (c0 : s' = ⟨h', g', s₂.drawn, tk, s₂.os⟩) (c1 : i ≤ its.size) (c2 : k = its.size + 1 - i) (c3 : ys.length = i) (c4 : GF prog w A a g fp C (a + 3) l its i ⟨h', g', s₂.drawn, tk, s₂.os⟩) (c5 : Fr h₀ L h' m) (c6 : h'.Ns (a + 2) m')
    (c7 : News h₀ L h' ((a + 1, lst ys) :: (a, oa) :: (C, oC') :: nw)) (c8 : ∀ p ∈ nw, p.1 ≠ a ∧ p.1 ≠ C ∧ p.1 ≠ a + 1 ∧ p.1 ≠ a + 2 ∧ p.1 ≠ a + 3)
    (c9 : if i = 0 then h'.objs.size = a + 3 else ∃ oI, h'.get? (a + 3) = some oI) (c10 : GenOnly g s₂.gens g') (c11 : J i ys nw)
section
variable {prog : Program} {w : World} {A : Around} {E : Value → Shared → Prop} {s : Shared} {h₀ : Heap} {L : Addr} {m : Str → Option Value} {env : Env}
theorem block_G {elt iter : Expr} {x : Str} {px : Pos} {scope : Scope} {cl : List (Str × Addr)} {pos : Pos} {s₂ : Shared} {a g : Nat} {fp : List Addr} {C l : Addr} {its : Array Value} {oa oC : Obj} {news hd : List (Addr × Obj)}
    {J : Nat → List Value → List (Addr × Obj) → Prop} {RR : Value → Addr → Result → Shared → Prop}
    (G0 : GF prog w A a g fp C (a + 3) l its 0 s₂) (hh : A.handled = none) (hroom : A.depth < recursionLimit) (hsz : its.size ≤ sizeLine) (hsize : s₂.heap.objs.size = a + 1)
    (hcell : ∀ y ∈ scope.names, y.2 ≠ .cell) (hkind : scope.kind = .function) (hx : scope.names.lookup x = some .local)
    (F : Fr h₀ L s₂.heap m) (N : News h₀ L s₂.heap ((a, oa) :: (C, oC) :: news)) (haC : @Ne Nat a C) (hoff : ∀ p ∈ news, p.1 ≠ a ∧ p.1 ≠ C)
    (held : ∀ b ∈ l :: fp, (∃ o, h₀.get? b = some o) ∨ ∃ o, (b, o) ∈ hd) (hJh : ∀ i ys nw, J i ys nw → ∀ p ∈ hd, p ∈ nw) (hst : ∃ o, h₀.get? cStatics = some o)
    (h0 : J 0 [] news)
    (turn : ∀ i ys nw v I oI oC' CC oCC D m₂ h g' tk (E' : Value → Shared → Prop), its[i]? = some v → ys.length = i → J i ys nw → NsObj oCC m₂ → m₂ x = some v → Fr h₀ L h m → News h₀ L h ([(CC, oCC), (D, lst ys), (I, oI), (a, oa), (C, oC')] ++ nw) → (∀ p ∈ nw, ∀ q ∈ [(CC, oCC), (D, lst ys), (I, oI), (a, oa), (C, oC')], p.1 ≠ q.1) →
      wpAny (model prog w) A (eval elt (compEnvC scope cl CC env)) (GEnd h₀ L m ⟨h, g', s₂.drawn, tk, s₂.os⟩ [(CC, oCC), (D, lst ys), (I, oI), (a, oa), (C, oC')] (fun y nw => J (i + 1) (ys ++ [y]) nw)) E' ⟨h, g', s₂.drawn, tk, s₂.os⟩)
    (hRR : ∀ D CC h tk g' m' ys nw, ys.length = its.size → Fr h₀ L h m → News h₀ L h ((D, lst ys) :: nw) → (∀ p ∈ nw, p.1 ≠ D) → h.Ns CC m' → h₀.get? CC = none → CC ≠ L → D ≠ CC → (∀ p ∈ nw, p.1 ≠ CC) → GenOnly g s₂.gens g' → g'[g]? = some .finished → J its.size ys nw → RR (.ref D) CC (.ok .next) ⟨h, g', s₂.drawn, tk, s₂.os⟩) :
    wpAny (model prog w) A (newList []) (fun acc s₃ => wpAny (model prog w) A (newFunctionEnv scope env.globals cl [] env.qual none .none (some env)) (fun cenv s₄ =>
      codeAny (model prog w) A (.compStart (.ListComp elt [⟨.Name x px, iter, [], 0⟩] scope pos) 0 (.ref a) acc { cenv with scope := relabel scope env }) (RR acc cenv.locals) s₄) E s₃) E s₂ := by
  refine wpAny_newObj_type (wpAny_newFunctionEnv hcell (by intro y hy; simp at hy) (fun h₁ hns₁ hsb₁ => ?_) hkind)
  dsimp only at hns₁ hsb₁ ⊢
  generalize hH2 : s₂.heap.push { cls := .type "list", dict := none, data := .seq ([] : List Value).toArray } = H2 at hns₁ hsb₁ ⊢
  have hC2 : H2.objs.size = a + 2 := by rw [← hH2, Heap.size_push, hsize]
  rw [hC2] at hns₁ hsb₁
  rw [hsize, hC2]
  have old : ∀ b o, s₂.heap.get? b = some o → h₁.get? b = some o := fun b o e => by
    have hb := Heap.lt_size e
    rw [hsize] at hb
    exact hsb₁.extBut b o (Nat.ne_of_lt (Nat.lt_succ_of_lt hb)) (Heap.get?_push_of_some _ (hH2 ▸ Heap.get?_push_of_some _ e))
  have hacc : h₁.get? (a + 1) = some (lst []) := hsb₁.extBut _ _ (Nat.ne_of_lt (Nat.lt_succ_self _)) (Heap.get?_push_of_some _ (hH2 ▸ Heap.get?_push_at hsize.symm rfl))
  have hsz1 : h₁.objs.size = a + 3 := by rw [hsb₁.1, Heap.size_push, hC2]
  have small : ∀ b o, s₂.heap.get? b = some o → b ≠ a + 1 ∧ b ≠ a + 2 ∧ b ≠ a + 3 := fun b o e => by
    have hb := Heap.lt_size e
    rw [hsize] at hb
    exact ⟨Nat.ne_of_lt hb, Nat.ne_of_lt (Nat.lt_succ_of_lt hb), Nat.ne_of_lt (Nat.lt_succ_of_lt (Nat.lt_succ_of_lt hb))⟩
  have fresh₀ : ∀ b, a + 1 ≤ b → h₀.get? b = none := fun b hb => by
    cases e : h₀.get? b with
    | none => rfl
    | some o' =>
      have := Heap.lt_size (F.keep b o' e)
      rw [hsize] at this
      exact absurd this (Nat.not_lt.mpr hb)
  have hL : L < a + 1 := by have := F.ns.lt; rwa [hsize] at this
  have ha1 := N (a, oa) (.head _)
  have hc1 := N (C, oC) (.tail _ (.head _))
  have hCs := small C _ hc1.1
  obtain ⟨oS, hoS⟩ := hst
  have hSC : cStatics ≠ C := fun e => by rw [e, hc1.2.2] at hoS; cases hoS
  have hSI : cStatics ≠ a + 3 := (small _ _ (F.keep _ _ hoS)).2.2
  have hbase : ∀ b o, h₀.get? b = some o → b ≠ C ∧ b ≠ a + 3 := fun b o e => ⟨(fun q => by rw [q, hc1.2.2] at e; cases e), (small _ _ (F.keep _ _ e)).2.2⟩
  have loop : ∀ s₃ : Shared, s₃ = { s₂ with heap := h₁, toks := s₂.toks + ([] : List (Str × Value)).length } →
      codeAny (model prog w) A (.compLoop (.ListComp elt [⟨.Name x px, iter, [], 0⟩] scope pos) 0 (.ref a) (.ref (a + 1)) (compEnvC scope cl (a + 2) env))
        (RR (.ref (a + 1)) (a + 2)) s₃ := by
    rintro s₃ rfl
    refine codeAny_compLoop_tests
      (GSt prog w A a g fp C l its oa h₀ L m J s₂) ?_ (its.size + 1)
      ⟨h₁, _, s₂.gens, 0, [], _, news, oC, rfl, Nat.zero_le _, rfl, rfl, ?_, F.keeps old, hns₁, ?_, ?_, by rw [if_pos rfl]; exact hsz1, ⟨rfl, fun _ _ => rfl⟩, h0⟩
    · rintro k s' ⟨h', tk, g', i, ys, m', nw, oC', rfl, hi, rfl, hyl, hG, F', hn', N', off', hI, hgo, hJ⟩
      have haa := N' (a, oa) (.tail _ (.head _))
      have hcc := N' (C, oC') (.tail _ (.tail _ (.head _)))
      have hdd := N' (a + 1, lst ys) (.head _)
      have hIs : if i = 0 then h'.objs.size = a + 3 else True := by
        split
        · rename_i hi0; rw [if_pos hi0] at hI; exact hI
        · trivial
      -- what stands in the generator's way, behind a step of it
      have move : ∀ h₂ : Heap, (∀ b o, b ≠ C → b ≠ a + 3 → h'.get? b = some o → h₂.get? b = some o) → Fr h₀ L h₂ m ∧ h₂.Ns (a + 2) m' ∧ (∀ p ∈ (a + 1, lst ys) :: (a, oa) :: nw, h₂.get? p.1 = some p.2) := fun h₂ hk =>
        ⟨⟨F'.ns.at' fun o e => hk L o (Ne.symm hc1.2.1) (Nat.ne_of_lt (Nat.lt_succ_of_lt (Nat.lt_succ_of_lt hL))) e, fun b o e => hk b o (hbase b o e).1 (hbase b o e).2 (F'.keep b o e), F'.above⟩,
         hn'.at' fun o e => hk _ o (Ne.symm hCs.2.1) (Nat.ne_of_lt (Nat.lt_succ_self _)) e, fun p hp => by
          rcases List.mem_cons.mp hp with rfl | hp
          · exact hk _ _ (Ne.symm hCs.1) (Nat.ne_of_lt (Nat.lt_succ_of_lt (Nat.lt_succ_self _))) hdd.1
          · rcases List.mem_cons.mp hp with rfl | hp
            · exact hk _ _ haC (Nat.ne_of_lt (Nat.lt_succ_of_lt (Nat.lt_succ_of_lt (Nat.lt_succ_self _)))) haa.1
            · exact hk _ _ (off' p hp).2.1 (off' p hp).2.2.2.2 (N' p (.tail _ (.tail _ (.tail _ hp)))).1⟩
      by_cases hlt : i < its.size
      · refine gf_item hG hh hroom hlt hIs haC (Nat.ne_of_lt (Nat.lt_succ_of_lt (Nat.lt_succ_of_lt (Nat.lt_succ_self _)))) hSC hSI ?_
        intro v h₂ tk₂ g₂ hv G₂ go₂ hk₂ ⟨oI, hoI⟩ ⟨oC₂, hoC₂⟩
        obtain ⟨F₂, hn₂, K₂⟩ := move h₂ hk₂
        refine wpAny_assign_Name (wpAny_storeName_local (lookup_relabel_local hx) hn₂ (fun h₃ hn₃ hs₃ => ?_) (by simp [compEnvC, relabel, hkind]))
        refine wpAny_tests_nil ?_
        simp only [if_true]
        obtain ⟨oCC, heC, hoCC⟩ := ns_obj hn₃
        have hCCL : @Ne Nat (a + 2) L := Nat.ne_of_gt (Nat.lt_succ_of_lt hL)
        have F₃ : Fr h₀ L h₃ m := F₂.change hs₃ hCCL (fresh₀ _ (Nat.le_succ _))
        have hIL : @Ne Nat (a + 3) L := Nat.ne_of_gt (Nat.lt_succ_of_lt (Nat.lt_succ_of_lt hL))
        have hDL : @Ne Nat (a + 1) L := Nat.ne_of_gt hL
        have keep₃ : ∀ b o, b ≠ a + 2 → h₂.get? b = some o → h₃.get? b = some o := fun b o hb e => hs₃.extBut b o hb e
        have ha2 : @Ne Nat a (a + 2) := Nat.ne_of_lt (Nat.lt_succ_of_lt (Nat.lt_succ_self _))
        have h32 : @Ne Nat (a + 3) (a + 2) := Nat.ne_of_gt (Nat.lt_succ_self _)
        have h12 : @Ne Nat (a + 1) (a + 2) := Nat.ne_of_lt (Nat.lt_succ_self _)
        have N₃ : News h₀ L h₃ ([(a + 2, oCC), (a + 1, lst ys), (a + 3, oI), (a, oa), (C, oC₂)] ++ nw) := fun p hp => by
          rcases List.mem_append.mp hp with hp | hp
          · rcases List.mem_cons.mp hp with rfl | hp
            · exact ⟨heC, hCCL, fresh₀ _ (Nat.le_succ _)⟩
            · rcases List.mem_cons.mp hp with rfl | hp
              · exact ⟨keep₃ _ _ h12 (K₂ _ (.head _)), hdd.2⟩
              · rcases List.mem_cons.mp hp with rfl | hp
                · exact ⟨keep₃ _ _ h32 hoI, hIL, fresh₀ _ (Nat.le_succ_of_le (Nat.le_succ _))⟩
                · rcases List.mem_cons.mp hp with rfl | hp
                  · exact ⟨keep₃ _ _ ha2 (K₂ _ (.tail _ (.head _))), haa.2⟩
                  · rw [List.mem_singleton.mp hp]
                    exact ⟨keep₃ _ _ hCs.2.1 hoC₂, hc1.2⟩
          · exact ⟨keep₃ _ _ (off' p hp).2.2.2.1 (K₂ _ (.tail _ (.tail _ hp))), (N' p (.tail _ (.tail _ (.tail _ hp)))).2⟩
        refine wpAny_mono (turn i ys nw v (a + 3) oI oC₂ (a + 2) oCC (a + 1) _ h₃ g₂ _ _ (by simpa using hv) hyl hJ hoCC (by simp) F₃ N₃ ?_) (fun y s₄ h₄ => ?_) fun _ _ e => e
        · intro p hp q hq
          have z := off' p hp
          rcases List.mem_cons.mp hq with rfl | hq
          · exact z.2.2.2.1
          · rcases List.mem_cons.mp hq with rfl | hq
            · exact z.2.2.1
            · rcases List.mem_cons.mp hq with rfl | hq
              · exact z.2.2.2.2
              · rcases List.mem_cons.mp hq with rfl | hq
                · exact z.1
                · rw [List.mem_singleton.mp hq]; exact z.2.1
        obtain ⟨h₄, tk₄, all, nw₄, rfl, F₄, Nall, hall, off₄, J₄⟩ := h₄
        have zin : ∀ p ∈ [(a + 2, oCC), (a + 1, lst ys), (a + 3, oI), (a, oa), (C, oC₂)], h₄.get? p.1 = some p.2 := fun p hp => (Nall p (hall p (List.mem_append_left _ hp))).1
        have N₄ : ∀ p ∈ nw₄, h₄.get? p.1 = some p.2 := fun p hp => (Nall p (hall p (List.mem_append_right _ hp))).1
        have zC := zin (a + 2, oCC) (.head _)
        have zD := zin (a + 1, lst ys) (.tail _ (.head _))
        have zI := zin (a + 3, oI) (.tail _ (.tail _ (.head _)))
        have za := zin (a, oa) (.tail _ (.tail _ (.tail _ (.head _))))
        have zCC := zin (C, oC₂) (.tail _ (.tail _ (.tail _ (.tail _ (.head _)))))
        refine append_at (hsz := by show ys.toArray.size ≤ sizeLine; rw [List.size_toArray, hyl]; exact Nat.le_trans hi hsz) zD fun h₅ hs₅ hD₅ => ?_
        have keep₅ : ∀ b o, b ≠ a + 1 → h₄.get? b = some o → h₅.get? b = some o := fun b o hb e => hs₅.extBut b o hb e
        have off₄' : ∀ p ∈ nw₄, p.1 ≠ a ∧ p.1 ≠ C ∧ p.1 ≠ a + 1 ∧ p.1 ≠ a + 2 ∧ p.1 ≠ a + 3 := fun p hp =>
          ⟨off₄ p hp (a, oa) (.tail _ (.tail _ (.tail _ (.head _)))), off₄ p hp (C, oC₂) (.tail _ (.tail _ (.tail _ (.tail _ (.head _))))), off₄ p hp (a + 1, lst ys) (.tail _ (.head _)), off₄ p hp (a + 2, oCC) (.head _), off₄ p hp (a + 3, oI) (.tail _ (.tail _ (.head _)))⟩
        have h31 : @Ne Nat (a + 3) (a + 1) := Nat.ne_of_gt (Nat.lt_succ_of_lt (Nat.lt_succ_self _))
        have ha1' : @Ne Nat a (a + 1) := Nat.ne_of_lt (Nat.lt_succ_self _)
        refine ⟨its.size + 1 - (i + 1), sub_dec hlt, h₅, tk₄, g₂, i + 1, ys ++ [y], _, nw₄, oC₂, rfl, hlt, rfl, by rw [List.length_append, List.length_singleton, hyl], ?_, F₄.change hs₅ hDL (fresh₀ _ (Nat.le_refl _)), (hoCC.ns zC).sameBut hs₅ (Ne.symm h12), ?_, off₄', by rw [if_neg (Nat.succ_ne_zero _)]; exact ⟨oI, keep₅ _ _ h31 zI⟩, hgo.trans go₂, J₄⟩
        · refine G₂.at (s := ⟨h₂, g₂, s₂.drawn, tk₂, s₂.os⟩) (fun o e => ?_) (fun o e => ?_) (fun b hb o e => ?_) (fun _ o e => ?_)
          · have := K₂ _ (.tail _ (.head _))
            rw [show h₂.get? a = some o from e] at this
            rw [show o = oa from Option.some.inj this]
            exact keep₅ _ _ ha1' za
          · have := F₂.keep _ _ hoS
            rw [show h₂.get? cStatics = some o from e] at this
            rw [show o = oS from Option.some.inj this]
            exact keep₅ _ _ (fun q => by rw [q, fresh₀ _ (Nat.le_refl _)] at hoS; cases hoS) (F₄.keep _ _ hoS)
          · rcases List.mem_cons.mp hb with rfl | hb
            · rw [show h₂.get? b = some o from e] at hoC₂
              rw [show o = oC₂ from Option.some.inj hoC₂]
              exact keep₅ _ _ hCs.1 zCC
            · rcases held b hb with ⟨o', e'⟩ | ⟨o', e'⟩
              · have := F₂.keep _ _ e'
                rw [show h₂.get? b = some o from e] at this
                rw [show o = o' from Option.some.inj this]
                exact keep₅ _ _ (fun q => by rw [q, fresh₀ _ (Nat.le_refl _)] at e'; cases e') (F₄.keep _ _ e')
              · have q1 := hJh _ _ _ hJ _ e'
                have q2 := hJh _ _ _ J₄ _ e'
                have := K₂ _ (.tail _ (.tail _ q1))
                rw [show h₂.get? b = some o from e] at this
                rw [show o = o' from Option.some.inj this]
                exact keep₅ _ _ (off₄' _ q2).2.2.1 (N₄ _ q2)
          · rw [show h₂.get? (a + 3) = some o from e] at hoI
            rw [show o = oI from Option.some.inj hoI]
            exact keep₅ _ _ h31 zI
        · intro p hp
          rcases List.mem_cons.mp hp with rfl | hp
          · exact ⟨hD₅.trans (congrArg some (lst_snoc ys y)), hDL, fresh₀ _ (Nat.le_refl _)⟩
          · rcases List.mem_cons.mp hp with rfl | hp
            · exact ⟨keep₅ _ _ ha1' za, haa.2⟩
            · rcases List.mem_cons.mp hp with rfl | hp
              · exact ⟨keep₅ _ _ hCs.1 zCC, hc1.2⟩
              · exact ⟨keep₅ _ _ (off₄' p hp).2.2.1 (N₄ p hp), (Nall p (hall p (List.mem_append_right _ hp))).2⟩
      · obtain rfl : i = its.size := Nat.le_antisymm hi (Nat.not_lt.mp hlt)
        refine gf_done hG hh hroom hIs ?_
        intro h₂ tk₂ g₂ go₂ hg₂ hk₂
        obtain ⟨F₂, hn₂, K₂⟩ := move h₂ hk₂
        refine hRR _ _ h₂ tk₂ _ _ ys nw hyl F₂ (fun p hp => ?_) (fun p hp => (off' p hp).2.2.1) hn₂ (fresh₀ _ (Nat.le_succ _)) (Nat.ne_of_gt (Nat.lt_succ_of_lt hL)) (Nat.ne_of_lt (Nat.lt_succ_self _)) (fun p hp => (off' p hp).2.2.2.1) (hgo.trans go₂) hg₂ hJ
        rcases List.mem_cons.mp hp with rfl | hp
        · exact ⟨K₂ _ (.head _), hdd.2⟩
        · exact ⟨K₂ _ (.tail _ (.tail _ hp)), (N' p (.tail _ (.tail _ (.tail _ hp)))).2⟩
    · refine G0.at (s := s₂) (fun o e => old _ o e) (fun o e => old _ o e) (fun b _ o e => old b o e) (fun hz => absurd rfl hz)
    · intro p hp
      rcases List.mem_cons.mp hp with rfl | hp
      · exact ⟨hacc, Nat.ne_of_gt hL, fresh₀ _ (Nat.le_refl _)⟩
      · exact ⟨old _ _ (N p hp).1, (N p hp).2⟩
    · intro p hp
      have q := small p.1 p.2 (N p (.tail _ (.tail _ hp))).1
      exact ⟨(hoff p hp).1, (hoff p hp).2, q⟩
  exact codeAny_compStart_list (loop _ rfl) (wpAny_pyIter_gen (G0.1.keeps old) (loop _ rfl))
/-- the source of a list comprehension: a generator that walks a list -/
inductive CSrcG (prog : Program) (w : World) (A : Around) (h₀ : Heap) (L : Addr) (m : Str → Option Value) (env : Env) (elt : Expr) (x : Str) (scope : Scope) (cl : List (Str × Addr)) (Q : Value → Shared → Prop) (it : Value) (s₂ : Shared) : Prop
  | mk (a g : Nat) (fp : List Addr) (C l : Addr) (its : Array Value) (oa oC : Obj) (news hd : List (Addr × Obj)) (J : Nat → List Value → List (Addr × Obj) → Prop)
    (c0 : it = .ref a)
    (c1 : GF prog w A a g fp C (a + 3) l its 0 s₂)
    (c2 : its.size ≤ sizeLine)
    (c3 : s₂.heap.objs.size = a + 1)
    (c4 : Fr h₀ L s₂.heap m)
    (c5 : News h₀ L s₂.heap ((a, oa) :: (C, oC) :: news))
    (c6 : @Ne Nat a C)
    (c7 : (∀ p ∈ news, p.1 ≠ a ∧ p.1 ≠ C))
    (c8 : (∀ b ∈ l :: fp, (∃ o, h₀.get? b = some o) ∨ ∃ o, (b, o) ∈ hd))
    (c9 : (∀ i ys nw, J i ys nw → ∀ p ∈ hd, p ∈ nw))
    (c10 : (∃ o, h₀.get? cStatics = some o))
    (c11 : J 0 [] news)
    (c12 : (∀ i ys nw v I oI oC' CC oCC D m₂ h g' tk (E' : Value → Shared → Prop), its[i]? = some v → ys.length = i → J i ys nw → NsObj oCC m₂ → m₂ x = some v → Fr h₀ L h m → News h₀ L h ([(CC, oCC), (D, lst ys), (I, oI), (a, oa), (C, oC')] ++ nw) → (∀ p ∈ nw, ∀ q ∈ [(CC, oCC), (D, lst ys), (I, oI), (a, oa), (C, oC')], p.1 ≠ q.1) →       wpAny (model prog w) A (eval elt (compEnvC scope cl CC env)) (GEnd h₀ L m ⟨h, g', s₂.drawn, tk, s₂.os⟩ [(CC, oCC), (D, lst ys), (I, oI), (a, oa), (C, oC')] (fun y nw => J (i + 1) (ys ++ [y]) nw)) E' ⟨h, g', s₂.drawn, tk, s₂.os⟩))
    (c13 : (∀ D h tk g' ys nw, ys.length = its.size → Fr h₀ L h m → News h₀ L h ((D, lst ys) :: nw) → (∀ p ∈ nw, p.1 ≠ D) → GenOnly g s₂.gens g' → g'[g]? = some .finished → J its.size ys nw → Q (.ref D) ⟨h, g', s₂.drawn, tk, s₂.os⟩))
theorem ListComp_G {elt iter : Expr} {x : Str} {px : Pos} {scope : Scope} {cl : List (Str × Addr)} {pos : Pos} {Q : Value → Shared → Prop} (hh : A.handled = none) (hroom : A.depth < recursionLimit) (_F₀ : Fr h₀ L s.heap m)
    (hclos : closureFor scope env = pure cl) (hcell : ∀ y ∈ scope.names, y.2 ≠ .cell) (hkind : scope.kind = .function)
    (hnames : ∀ y ∈ scope.names, y.2 = .local → scope.names.lookup y.1 = some .local) (hx : scope.names.lookup x = some .local)
    (h : wpAny (model prog w) A (eval iter env) (fun xv s₁ => wpAny (model prog w) A (pyIter xv) (CSrcG prog w A h₀ L m env elt x scope cl Q) E s₁) E s)
    (hs : ∀ x, foldedSetIterable iter env x = pure x := by intro _; rfl) :
    wpAny (model prog w) A (eval (.ListComp elt [⟨.Name x px, iter, [], 0⟩] scope pos) env) Q E s := by
  rw [eval_ListComp]
  refine wpAny_comprehension_free (use := none) rfl hs hclos hkind hnames (wpAny_mono h (fun xv s₁ h₁ => wpAny_mono h₁ (fun it s₂ h₂ => ?_) fun _ _ e => e) fun _ _ e => e)
  obtain ⟨a, g, fp, C, l, its, oa, oC, news, hd, J, rfl, G0, hsz, hsize, F, N, haC, hoff, held, hJh, hst, h0, turn, fin⟩ := h₂
  refine block_G G0 hh hroom hsz hsize hcell hkind hx F N haC hoff held hJh hst h0 turn ?_
  intro D CC h tk g' m' ys nw hyl F' N' o1 hn hC₀ hCL hDC offC go hg hJ'
  refine ⟨m', hn, fun h'' hs'' => fin D h'' tk g' ys nw hyl (F'.change hs'' hCL hC₀) (fun p hp => ?_) o1 go hg hJ'⟩
  refine ⟨hs''.extBut _ _ ?_ (N' p hp).1, (N' p hp).2⟩
  rcases List.mem_cons.mp hp with rfl | hp
  · exact hDC
  · exact offC p hp
end
end
section
theorem offM43 : True := by w_top off; trivial
open PySem.SeqAt
set_option maxRecDepth 100000
set_option maxHeartbeats 4000000
variable {p : Program} {loose : List Str} {mean : ExcName → Option Value} {mg mb : Str → Option Value}
  {dp un : Nat} {gd : Option (List Code)} {cn : Str} {cs : Scope} {a : Addr} {ccd : Value} {cl : List (Str × Addr)} {outer : List Env}
  {A₀ : Around} {E Q : Value → Shared → Prop} {s : Shared} {base h₀ : Heap} {L : Addr} {m : Str → Option Value} {news : List (Addr × Obj)}
theorem code_genK {K : Frag} {prog : Program} {w : World} {A : Around} {R : Result → Shared → Prop} {name qual : Str} {params : Arguments} {body : List Stmt} {scope : Scope} {dV kV doc pm cdv ct oc : Value} {an od : Option Addr} {osl : Array (Option Value)} {f : Addr} {args : Args} {binds : List (Str × Value)}
    (F : Fr h₀ L s.heap m) (N : News h₀ L s.heap news) (X₀ : K.In h₀) (T : Top p loose mean mg mb h₀)
    (ho : K.lookup f = some ⟨oc, od, .func (fnOf name qual params body scope dV kV doc pm an cdv ct), osl⟩) (hcd : codeIn K cdv qual = true) (hroom : A.depth < recursionLimit)
    (hbind : BindsTo s (fnOf name qual params body scope dV kV doc pm an cdv ct) args binds) (hloc : ∀ y ∈ binds, scope.names.lookup y.1 = some .local)
    (h : ∀ (a C : Nat) oa oC h' tk, h'.objs.size = a + 1 → C + 1 = a → @LT.lt Nat _ L C → Fr h₀ L h' m → News h₀ L h' ((a, oa) :: (C, oC) :: news) → (∀ p ∈ news, p.1 < C) → h'.Ns C (fun y => binds.reverse.lookup y) → h'.IsGen a s.gens.size → h'.NoLimit → (∀ b o, h₀.get? b = some o → b < C) →
      R (.ok (.ret (.ref a))) ⟨h', s.gens.push (.fresh (.func body (envOf qual scope C f cdv))), s.drawn, tk, s.os⟩)
    (hco : scope.isCoroutine = false) (hgen : scope.isGenerator = true) (hk : scope.kind = .function)
    (hcell : ∀ x ∈ scope.names, x.2 ≠ .cell) : codeAny (model prog w) A (.call (.ref f) args) R s := by
  have X := X₀.keeps F.keep
  refine codeAny_call_generator hroom (X _ _ ho) rfl hco hgen rfl (codeRec_of X hcd) (hbind _ _ _ _ ?_)
  refine wpAny_newFunctionEnv hcell hloc (fun h₁ hns hsb => ⟨?_, ?_⟩) hk
  · exact (T.nolimit.keeps F.keep).keeps fun b o e => hsb.extBut b o (Nat.ne_of_lt (Heap.lt_size e)) (Heap.get?_push_of_some _ e)
  · have old : ∀ b o, s.heap.get? b = some o → h₁.get? b = some o := fun b o e => hsb.extBut b o (Nat.ne_of_lt (Heap.lt_size e)) (Heap.get?_push_of_some _ e)
    have hs1 : h₁.objs.size = s.heap.objs.size + 1 := by rw [hsb.1, Heap.size_push]
    have hL : L < s.heap.objs.size := F.ns.lt
    have fresh : ∀ b, @LE.le Nat _ s.heap.objs.size b → h₀.get? b = none := fun b hb => by
      cases e : h₀.get? b with
      | none => rfl
      | some o => exact absurd (Heap.lt_size (F.keep b o e)) (Nat.not_lt.mpr hb)
    obtain ⟨oC, hoC⟩ := ns_get hns
    let go : Obj := { cls := .type "generator", data := .fields #[.int s.gens.size 0, .str name (s.toks + binds.length), .str qual (s.toks + binds.length + 1)] }
    have keep : ∀ b o, h₁.get? b = some o → (h₁.push go).get? b = some o := fun b o e => Heap.get?_push_of_some _ e
    refine h h₁.objs.size s.heap.objs.size go oC (h₁.push go) _ (Heap.size_push ..) hs1.symm hL ⟨F.ns.at' fun o e => keep _ _ (old _ _ e), fun b o e => keep _ _ (old _ _ (F.keep b o e)), F.above⟩ ?_ (fun p hp => Heap.lt_size (N p hp).1) (hns.at' fun o e => keep _ _ e) ⟨go, _, _, Heap.get?_push_size _ rfl, rfl, rfl, rfl⟩ ?_ (fun b o e => Heap.lt_size (F.keep b o e))
    · intro p hp
      rcases List.mem_cons.mp hp with rfl | hp
      · exact ⟨Heap.get?_push_size _ rfl, Nat.ne_of_gt (by rw [hs1]; exact Nat.lt_succ_of_lt hL), fresh _ (by rw [hs1]; exact Nat.le_succ _)⟩
      · rcases List.mem_cons.mp hp with rfl | hp
        · exact ⟨keep _ _ hoC, Nat.ne_of_gt hL, fresh _ (Nat.le_refl _)⟩
        · exact ⟨keep _ _ (old _ _ (N p hp).1), (N p hp).2⟩
    · exact (T.nolimit.keeps F.keep).keeps fun b o e => keep _ _ (old _ _ e)
theorem owit_gen {M : Model} {A : Around} {E : Value → Shared → Prop} {s : Shared} {Q : Value → Shared → Prop} {a g : Nat} (hg : s.heap.IsGen a g) (h : Q (.ref a) s) : OwitIt M A Q E (.ref a) s := by
  unfold OwitIt
  exact wpAny_specialOf hg.typeIs slot_gen_next.lookup h
theorem iter_spec (w : World) (gx ga l a₀ : Addr) (k : Tok) (vs : List Value) (n : Nat) (hg : (gx, instObj 513 ga) ∈ news) (hgd : (ga, grObj w l k) ∈ news) (hl : (l, listOf vs.toArray n) ∈ news) (N : News h₀ L s.heap news) (B : Below A₀ base outer h₀) (F : Fr h₀ L s.heap m) (X : (Mine.hd.heap_1 w.params).In h₀) (T : Top p loose mean mg mb h₀)
  (hk : cs.kind = .function) (hd : dp + 30 < recursionLimit) (hu : un + 200 < cLine)
  (ret : ∀ a C oa oC h' tk' gs, h'.objs.size = a + 1 → @Ne Nat a C → Fr h₀ L h' m → News h₀ L h' ((a, oa) :: (C, oC) :: news) → (∀ p ∈ news, p.1 ≠ a ∧ p.1 ≠ C) →
    GF PySem.Challenge.pw_ja0052_01 w (ktrTop dp un gd cn cs L a₀ ccd cl outer) a s.gens.size (gx :: ga :: baseOf h₀) C (a + 3) l vs.toArray 0 ⟨h', s.gens.push gs, s.drawn, tk', s.os⟩ → Q (.ref a) ⟨h', s.gens.push gs, s.drawn, tk', s.os⟩)
  (hrw : PySem.Challenge.rw_ja0052_01 = PySem.Challenge.rw_ja0052_01) :
  wpAny (model PySem.Challenge.pw_ja0052_01 w) (ktrTop dp un gd cn cs L a₀ ccd cl outer) (pyIter (.ref gx)) Q E s := by
  revert X hrw
  k_fill
  intro X hrw
  clear hrw
  refine' owit_iter ?F ?X ?I ?hs ?hf ?_
  case F => k_asm
  case X => k_asm
  case I => k_inst
  case hs => k_is
  case hf => k_is
  refine wpAny_call ?_
  refine' code_genK ?kF ?kN ?kX ?kT ?ko ?kc ?kr ?kb ?kl ?_ ?k1 ?k2 ?k3 ?k4
  case kF => exact F
  case kN => exact N
  case kX => exact X
  case kT => exact T
  case ko => exact rfl
  case kc => k_is
  case kr => k_room
  case kb => exact BindsTo.of_eq rfl
  case kl => exact locs rfl
  case k1 => exact rfl
  case k2 => exact rfl
  case k3 => exact rfl
  case k4 => decide
  intro a C oa oC h' tk hsz haC hLC F1 N1 lC hns hgen hlim hbase
  replace hns := (show h'.Ns C (fun y => List.lookup y [(Str.ofString "self", Value.ref gx)]) from hns)
  have hga1 : C < a := by omega
  have hC3 : C < a + 3 := by omega
  dsimp only
  refine owit_gen hgen ?_
  refine ret a C oa oC h' tk _ hsz (Nat.ne_of_gt hga1) F1 N1 (fun p hp => ⟨Nat.ne_of_lt (Nat.lt_trans (lC p hp) hga1), Nat.ne_of_lt (lC p hp)⟩) ⟨hgen, hlim, _, Array.getElem?_push_size .., fun s'' hal hsz2 => ⟨rfl, ?_⟩⟩
  rw [if_pos rfl] at hsz2
  have gC := fun b (hb : b ∈ C :: l :: gx :: ga :: baseOf h₀) => hal b hb
  have hl1 := (N1 _ (.tail _ (.tail _ hl)))
  have hgx1 := (N1 _ (.tail _ (.tail _ hg)))
  have hgd1 := (N1 _ (.tail _ (.tail _ hgd)))
  have ltl := lC _ hl
  have F2 : Fr h₀ C s''.heap (fun y => List.lookup y [(Str.ofString "self", Value.ref gx)]) := ⟨hns.at' fun o e => hal _ (.head _) o e, fun b o e => hal b (.tail _ (.tail _ (.tail _ (.tail _ (mem_baseOf e))))) o (F1.keep b o e), Nat.le_trans F.above (Nat.le_of_lt hLC)⟩
  have N2 : News h₀ C s''.heap [(gx, instObj 513 ga), (ga, grObj w l k), (l, listOf vs.toArray n)] := by
    intro q hq
    rcases List.mem_cons.mp hq with rfl | hq
    · exact ⟨hal _ (.tail _ (.tail _ (.head _))) _ hgx1.1, Nat.ne_of_lt (lC _ hg), hgx1.2.2⟩
    · rcases List.mem_cons.mp hq with rfl | hq
      · exact ⟨hal _ (.tail _ (.tail _ (.tail _ (.head _)))) _ hgd1.1, Nat.ne_of_lt (lC _ hgd), hgd1.2.2⟩
      · rw [List.mem_singleton.mp hq]
        exact ⟨hal _ (.tail _ (.head _)) _ hl1.1, Nat.ne_of_lt ltl, hl1.2.2⟩
  refine' gf_start (m := fun y => List.lookup y [(Str.ofString "self", Value.ref gx)]) ?k1 ?k2 ?k3 ?k4 ?k5 ?k6 ?k7 ?k8 ?k9 ?k10 ?k11 ?k12 ?k13 ?k14 ?k15 ?k16
  case k1 => exact rfl
  case k2 => exact rfl
  case k3 => exact rfl
  case k4 => exact rfl
  case k5 => exact rfl
  case k6 => exact Nat.ne_of_gt hC3
  case k7 => exact Nat.ne_of_lt ltl
  case k8 => exact Nat.ne_of_gt (Nat.lt_trans ltl hC3)
  case k9 => exact rfl
  case k10 =>
    intro A' E' Q' v s3 m3 hns3 hv hQ
    exact ld (h₀ := ⟨#[], {}⟩) ⟨hns3, (fun b o e => by cases (show (none : Option Obj) = some o from e)), Nat.zero_le _⟩ hv hQ
  case k11 =>
    intro A' E' Q' hQ
    replace F2 := fr_lookup F2
    dsimp only [List.map] at F2
    unfold grObj at N2
    k_steps
    exact hQ _
  case k12 => exact News.isList N2 (.tail _ (.tail _ (.head _)))
  case k13 => exact F2.ns
  case k14 => exact hsz2
  case k15 => exact GenSince.refl _ _ _
  case k16 => intro _; rfl
end
section
theorem offM44 : True := by w_top off; trivial
local macro_rules | `(tactic| walk_at "mine pad") => `(tactic| skip)
open PySem.SeqAt
set_option maxRecDepth 100000
set_option maxHeartbeats 4000000
variable {p : Program} {loose : List Str} {mean : ExcName → Option Value} {mg mb : Str → Option Value}
  {dp un : Nat} {gd : Option (List Code)} {cn : Str} {cs : Scope} {a : Addr} {ccd : Value} {cl : List (Str × Addr)} {outer : List Env}
  {A₀ : Around} {E Q : Value → Shared → Prop} {s : Shared} {base h₀ : Heap} {L : Addr} {m : Str → Option Value} {news : List (Addr × Obj)}
noncomputable def lawB : List Stmt := match H.stT 45 with
  | .FunctionDef _ _ b _ _ _ _ _ _ _ => b
  | _ => []
noncomputable def lawSc : Scope := match H.stT 45 with
  | .FunctionDef _ _ _ _ _ _ s _ _ _ => s
  | _ => default
noncomputable abbrev lawE (L a : Addr) (cd : Value) : Env := envOf (Str.ofString "law") lawSc L a cd
/-- the parts that are drawn -/
def row8 (S : Sh) (t1 t3 t4 t5 t6 t7 t8 : Tok) : Array Value := #[.int (S.id : Int) t1, .bool S.ext, .int (S.exp : Int) t3, .int (S.gi : Int) t4, .int (S.gt : Int) t5, .int (S.gc : Int) t6, .int (S.ix : Int) t7, .int (S.mt : Int) t8]
structure OwnOk (S : Sh) : Prop where
  id : S.id < 32768
  exp : S.exp < 15
  gi : S.gi < 15
  gt : 1 ≤ S.gt ∧ S.gt ≤ 7
  gc : 8 ≤ S.gc ∧ S.gc ≤ 15
  ix : S.ix < 14
  mt : 1 ≤ S.mt ∧ S.mt ≤ 15
def ValOk (v : Array UInt8) : Prop := 16 ≤ v.size ∧ v.size ≤ 24 ∧ v.size % 2 = 0
theorem sz_ok {d : Nat} (h : d < 5) : 16 ≤ 16 + 2 * d ∧ 16 + 2 * d ≤ 24 := ⟨Nat.le_add_right _ _, Nat.add_le_add_left (Nat.mul_le_mul_left 2 (Nat.le_of_lt_succ h)) 16⟩
theorem val_ok {v : Array UInt8} {d : Nat} (h : v.size = 16 + 2 * d) (hd : d < 5) : ValOk v := by
  unfold ValOk
  rw [h]
  exact ⟨(sz_ok hd).1, (sz_ok hd).2, Nat.add_mul_mod_self_left 16 2 d⟩
theorem law_p1 (w : World) (l : Addr) (vs : List Value) (ns : List Int) (oA oB : Obj) (hl : h₀.IsList l vs.toArray) (hi : IntsAre vs ns) (hlen : ns.length ≤ 63) {Q : Flow → Shared → Prop}
  (N : News h₀ L s.heap [(76, oA), (99, oB)]) (B : Below A₀ base outer h₀) (F : Fr h₀ L s.heap (mp [(Str.ofString "script", some (Value.ref l))])) (X : (Mine.hd.heap_1 w.params).In h₀) (T : Top p loose mean mg mb h₀)
  (hd : dp + 300 < recursionLimit) (hu : un + 1500 < cLine)
  (next : ∀ fd fl sd ts n n2 vs' ns' (many : Nat) tm (tw : Bool) (val : Array UInt8) tv ow (S : Sh) t1 t3 t4 t5 t6 t7 t8 n3 h' tk', IntsAre vs' ns' → ns'.length ≤ 63 → 0 ≤ sd ∧ sd < 2147483648 → many < 4 → ValOk val → OwnOk S →
    Fr h₀ L h' (mp [(Str.ofString "script", some (Value.ref l)), (Str.ofString "feed", some (Value.ref fd)), (Str.ofString "many", some (Value.int (many : Int) tm)), (Str.ofString "twice", some (Value.bool tw)), (Str.ofString "value", some (Value.bytes val tv)), (Str.ofString "own", some (Value.ref ow))]) →
    News h₀ L h' ((ow, listOf (row8 S t1 t3 t4 t5 t6 t7 t8) n3) :: (fd, listOf #[.int sd ts, .ref fl] n) :: (fl, listOf (List.toArray vs') n2) :: [(76, oA), (99, oB)]) → @LT.lt Nat _ 99 fl → @LT.lt Nat _ fl fd → @LT.lt Nat _ fd ow →
    wpAny (model PySem.Challenge.pw_ja0052_01 w) (ktrTop dp un gd (Str.ofString "law") lawSc L a ccd [] outer) (execs (lawB.drop 5) (lawE L a ccd)) Q (fun _ _ => False) ⟨h', s.gens, s.drawn, tk', s.os⟩)
  (hrw : PySem.Challenge.rw_ja0052_01 = PySem.Challenge.rw_ja0052_01) :
  wpAny (model PySem.Challenge.pw_ja0052_01 w) (ktrTop dp un gd (Str.ofString "law") lawSc L a ccd [] outer) (execs lawB (lawE L a ccd)) Q (fun _ _ => False) s := by
  revert X hrw
  k_fill
  intro X hrw
  clear hrw
  have e : lawSc = lawSc := rfl
  conv at e => rhs; whnf
  have eb : lawB = lawB := rfl
  conv at eb => rhs; whnf
  rw [eb]
  generalize hnx : List.drop 5 _ = rest at next
  rw [e] at next ⊢
  repeat ((fail_if_success (with_reducible show wpAny _ _ (call (Value.ref 531) _ _) _ _ _)); first | (dsimp only; (with_reducible show wpAny _ _ (call (Value.ref 531) _ _) _ _ _)) | k_unfold | walk1 | (dsimp only; walk1) | (leave1; try dsimp only))
  refine' feed_spec w l vs ns hl hi hlen ?kN ?kB ?kF ?kX ?kT ?kk ?kd ?ku ?_ rfl
  case kN => k_asm
  case kB => k_asm
  case kF => k_asm
  case kX => k_asm
  case kT => k_asm
  case kk => rfl
  case kd => walk_at "mine depth"
  case ku => walk_at "mine depth"
  intro fd fl sd0 ts0 vs0 ns0 n0 m0 g0 tk0 hs0 hi0 hl0 F0 N0 lf1 lf2
  have hff : fd ≠ fl := Nat.ne_of_gt lf2
  have hf1 : ∀ q ∈ [(76, oA), (99, oB)], q.1 ≠ fd := fun q hq => Nat.ne_of_lt (Nat.lt_trans (lf1 q hq) lf2)
  have hf2 : ∀ q ∈ [(76, oA), (99, oB)], q.1 ≠ fl := fun q hq => Nat.ne_of_lt (lf1 q hq)
  repeat ((fail_if_success (with_reducible show wpAny _ _ (call (Value.ref 538) _ _) _ _ _)); first | (dsimp only; (with_reducible show wpAny _ _ (call (Value.ref 538) _ _) _ _ _)) | k_unfold | walk1 | (dsimp only; walk1) | (leave1; try dsimp only))
  refine' draw_n w fd fl _ _ _ _ _ _ _ _ hi0 hl0 hs0 ?hm hff ?h1 ?h2 ?kN ?kB ?kF ?kX ?kT ?kk ?kd ?ku ?_ rfl
  case kN => k_asm
  case hm => decide
  case h1 => exact hf1
  case h2 => exact hf2
  case kB => k_asm
  case kF => k_asm
  case kX => k_asm
  case kT => k_asm
  case kk => rfl
  case kd => walk_at "mine depth"
  case ku => walk_at "mine depth"
  intro many t0 sd1 ts1 vs1 ns1 n1 m1 g0 tk0 hi_0 hs1 hi1 hl1 F0 N0
  repeat ((fail_if_success (with_reducible show wpAny _ _ (call (Value.ref 538) _ _) _ _ _)); first | (dsimp only; (with_reducible show wpAny _ _ (call (Value.ref 538) _ _) _ _ _)) | k_unfold | walk1 | (dsimp only; walk1) | (leave1; try dsimp only))
  refine' draw_n w fd fl _ _ _ _ _ _ _ _ hi1 hl1 hs1 ?hm hff ?h1 ?h2 ?kN ?kB ?kF ?kX ?kT ?kk ?kd ?ku ?_ rfl
  case kN => k_asm
  case hm => decide
  case h1 => exact hf1
  case h2 => exact hf2
  case kB => k_asm
  case kF => k_asm
  case kX => k_asm
  case kT => k_asm
  case kk => rfl
  case kd => walk_at "mine depth"
  case ku => walk_at "mine depth"
  intro r1 t1 sd2 ts2 vs2 ns2 n2 m2 g1 tk1 hi_1 hs2 hi2 hl2 F1 N1
  repeat ((fail_if_success (with_reducible show wpAny _ _ (call (Value.ref 538) _ _) _ _ _)); first | (dsimp only; (with_reducible show wpAny _ _ (call (Value.ref 538) _ _) _ _ _)) | k_unfold | walk1 | (dsimp only; walk1) | (leave1; try dsimp only))
  refine' draw_n w fd fl _ _ _ _ _ _ _ _ hi2 hl2 hs2 ?hm hff ?h1 ?h2 ?kN ?kB ?kF ?kX ?kT ?kk ?kd ?ku ?_ rfl
  case kN => k_asm
  case hm => decide
  case h1 => exact hf1
  case h2 => exact hf2
  case kB => k_asm
  case kF => k_asm
  case kX => k_asm
  case kT => k_asm
  case kk => rfl
  case kd => walk_at "mine depth"
  case ku => walk_at "mine depth"
  intro d9 t2 sd3 ts3 vs3 ns3 n3 m3 g2 tk2 hi_2 hs3 hi3 hl3 F2 N2
  repeat ((fail_if_success (with_reducible show wpAny _ _ (call (Value.ref 545) _ _) _ _ _)); first | (dsimp only; (with_reducible show wpAny _ _ (call (Value.ref 545) _ _) _ _ _)) | k_unfold | walk1 | (dsimp only; walk1) | (leave1; try dsimp only))
  have e16 : (16 : Int) + 2 * (d9 : Int) = ((16 + 2 * d9 : Nat) : Int) := rfl
  rw [e16]
  refine' octets_spec w fd fl _ _ _ _ _ _ (16 + 2 * d9) _ hi3 hl3 hs3 (sz_ok (Int.ofNat_lt.mp hi_2)) hff ?h1 ?h2 ?kN ?kB ?kF ?kX ?kT ?kk ?kd ?ku ?_ rfl
  case kN => k_asm
  case h1 => exact hf1
  case h2 => exact hf2
  case kB => k_asm
  case kF => k_asm
  case kX => k_asm
  case kT => k_asm
  case kk => rfl
  case kd => walk_at "mine depth"
  case ku => walk_at "mine depth"
  intro val tv sd4 ts4 vs4 ns4 n4 m4 g9 tk9 hval hs4 hi4 hl4 F9 N9
  repeat ((fail_if_success (with_reducible show wpAny _ _ (call (Value.ref 538) _ _) _ _ _)); first | (dsimp only; (with_reducible show wpAny _ _ (call (Value.ref 538) _ _) _ _ _)) | k_unfold | walk1 | (dsimp only; walk1) | (leave1; try dsimp only))
  refine' draw_n w fd fl _ _ _ _ _ _ _ _ hi4 hl4 hs4 ?hm hff ?h1 ?h2 ?kN ?kB ?kF ?kX ?kT ?kk ?kd ?ku ?_ rfl
  case kN => k_asm
  case hm => decide
  case h1 => exact hf1
  case h2 => exact hf2
  case kB => k_asm
  case kF => k_asm
  case kX => k_asm
  case kT => k_asm
  case kk => rfl
  case kd => walk_at "mine depth"
  case ku => walk_at "mine depth"
  intro a4 t4 sd5 ts5 vs5 ns5 n5 m5 g4 tk4 hi_4 hs5 hi5 hl5 F4 N4
  repeat ((fail_if_success (with_reducible show wpAny _ _ (call (Value.ref 538) _ _) _ _ _)); first | (dsimp only; (with_reducible show wpAny _ _ (call (Value.ref 538) _ _) _ _ _)) | k_unfold | walk1 | (dsimp only; walk1) | (leave1; try dsimp only))
  refine' draw_n w fd fl _ _ _ _ _ _ _ _ hi5 hl5 hs5 ?hm hff ?h1 ?h2 ?kN ?kB ?kF ?kX ?kT ?kk ?kd ?ku ?_ rfl
  case kN => k_asm
  case hm => decide
  case h1 => exact hf1
  case h2 => exact hf2
  case kB => k_asm
  case kF => k_asm
  case kX => k_asm
  case kT => k_asm
  case kk => rfl
  case kd => walk_at "mine depth"
  case ku => walk_at "mine depth"
  intro r5 t5 sd6 ts6 vs6 ns6 n6 m6 g5 tk5 hi_5 hs6 hi6 hl6 F5 N5
  repeat ((fail_if_success (with_reducible show wpAny _ _ (call (Value.ref 538) _ _) _ _ _)); first | (dsimp only; (with_reducible show wpAny _ _ (call (Value.ref 538) _ _) _ _ _)) | k_unfold | walk1 | (dsimp only; walk1) | (leave1; try dsimp only))
  refine' draw_n w fd fl _ _ _ _ _ _ _ _ hi6 hl6 hs6 ?hm hff ?h1 ?h2 ?kN ?kB ?kF ?kX ?kT ?kk ?kd ?ku ?_ rfl
  case kN => k_asm
  case hm => decide
  case h1 => exact hf1
  case h2 => exact hf2
  case kB => k_asm
  case kF => k_asm
  case kX => k_asm
  case kT => k_asm
  case kk => rfl
  case kd => walk_at "mine depth"
  case ku => walk_at "mine depth"
  intro a6 t6 sd7 ts7 vs7 ns7 n7 m7 g6 tk6 hi_6 hs7 hi7 hl7 F6 N6
  repeat ((fail_if_success (with_reducible show wpAny _ _ (call (Value.ref 538) _ _) _ _ _)); first | (dsimp only; (with_reducible show wpAny _ _ (call (Value.ref 538) _ _) _ _ _)) | k_unfold | walk1 | (dsimp only; walk1) | (leave1; try dsimp only))
  refine' draw_n w fd fl _ _ _ _ _ _ _ _ hi7 hl7 hs7 ?hm hff ?h1 ?h2 ?kN ?kB ?kF ?kX ?kT ?kk ?kd ?ku ?_ rfl
  case kN => k_asm
  case hm => decide
  case h1 => exact hf1
  case h2 => exact hf2
  case kB => k_asm
  case kF => k_asm
  case kX => k_asm
  case kT => k_asm
  case kk => rfl
  case kd => walk_at "mine depth"
  case ku => walk_at "mine depth"
  intro a7 t7 sd8 ts8 vs8 ns8 n8 m8 g7 tk7 hi_7 hs8 hi8 hl8 F7 N7
  repeat ((fail_if_success (with_reducible show wpAny _ _ (call (Value.ref 538) _ _) _ _ _)); first | (dsimp only; (with_reducible show wpAny _ _ (call (Value.ref 538) _ _) _ _ _)) | k_unfold | walk1 | (dsimp only; walk1) | (leave1; try dsimp only))
  refine' draw_n w fd fl _ _ _ _ _ _ _ _ hi8 hl8 hs8 ?hm hff ?h1 ?h2 ?kN ?kB ?kF ?kX ?kT ?kk ?kd ?ku ?_ rfl
  case kN => k_asm
  case hm => decide
  case h1 => exact hf1
  case h2 => exact hf2
  case kB => k_asm
  case kF => k_asm
  case kX => k_asm
  case kT => k_asm
  case kk => rfl
  case kd => walk_at "mine depth"
  case ku => walk_at "mine depth"
  intro a8 t8 sd9 ts9 vs9 ns9 n9 m9 g8 tk8 hi_8 hs9 hi9 hl9 F8 N8
  repeat ((fail_if_success (with_reducible show wpAny _ _ (call (Value.ref 538) _ _) _ _ _)); first | (dsimp only; (with_reducible show wpAny _ _ (call (Value.ref 538) _ _) _ _ _)) | k_unfold | walk1 | (dsimp only; walk1) | (leave1; try dsimp only))
  refine' draw_n w fd fl _ _ _ _ _ _ _ _ hi9 hl9 hs9 ?hm hff ?h1 ?h2 ?kN ?kB ?kF ?kX ?kT ?kk ?kd ?ku ?_ rfl
  case kN => k_asm
  case hm => decide
  case h1 => exact hf1
  case h2 => exact hf2
  case kB => k_asm
  case kF => k_asm
  case kX => k_asm
  case kT => k_asm
  case kk => rfl
  case kd => walk_at "mine depth"
  case ku => walk_at "mine depth"
  intro a9 t9 sd10 ts10 vs10 ns10 n10 m10 g9 tk9 hi_9 hs10 hi10 hl10 F9 N9
  repeat ((fail_if_success (with_reducible show wpAny _ _ (call (Value.ref 538) _ _) _ _ _)); first | (dsimp only; (with_reducible show wpAny _ _ (call (Value.ref 538) _ _) _ _ _)) | k_unfold | walk1 | (dsimp only; walk1) | (leave1; try dsimp only))
  refine' draw_n w fd fl _ _ _ _ _ _ _ _ hi10 hl10 hs10 ?hm hff ?h1 ?h2 ?kN ?kB ?kF ?kX ?kT ?kk ?kd ?ku ?_ rfl
  case kN => k_asm
  case hm => decide
  case h1 => exact hf1
  case h2 => exact hf2
  case kB => k_asm
  case kF => k_asm
  case kX => k_asm
  case kT => k_asm
  case kk => rfl
  case kd => walk_at "mine depth"
  case ku => walk_at "mine depth"
  intro a10 t10 sd11 ts11 vs11 ns11 n11 m11 g10 tk10 hi_10 hs11 hi11 hl11 F10 N10
  repeat ((fail_if_success (with_reducible show wpAny _ _ (call (Value.ref 538) _ _) _ _ _)); first | (dsimp only; (with_reducible show wpAny _ _ (call (Value.ref 538) _ _) _ _ _)) | k_unfold | walk1 | (dsimp only; walk1) | (leave1; try dsimp only))
  refine' draw_n w fd fl _ _ _ _ _ _ _ _ hi11 hl11 hs11 ?hm hff ?h1 ?h2 ?kN ?kB ?kF ?kX ?kT ?kk ?kd ?ku ?_ rfl
  case kN => k_asm
  case hm => decide
  case h1 => exact hf1
  case h2 => exact hf2
  case kB => k_asm
  case kF => k_asm
  case kX => k_asm
  case kT => k_asm
  case kk => rfl
  case kd => walk_at "mine depth"
  case ku => walk_at "mine depth"
  intro a11 t11 sd12 ts12 vs12 ns12 n12 m12 g11 tk11 hi_11 hs12 hi12 hl12 F11 N11
  repeat ((fail_if_success (with_reducible show wpAny _ _ (execs (Stmt.Assign _ (Expr.List [] _) _ :: _) _) _ _ _)); first | (dsimp only; (with_reducible show wpAny _ _ (execs (Stmt.Assign _ (Expr.List [] _) _ :: _) _) _ _ _)) | k_unfold | walk1 | (dsimp only; walk1) | (leave1; try dsimp only))
  rename News _ _ _ _ => NZ
  rename Fr _ _ _ _ => FZ
  have e8 : (1 : Int) + (a8 : Int) = ((1 + a8 : Nat) : Int) := rfl
  have e9 : (8 : Int) + (a9 : Int) = ((8 + a9 : Nat) : Int) := rfl
  have e11 : (1 : Int) + (a11 : Int) = ((1 + a11 : Nat) : Int) := rfl
  rw [e8, e9, e11] at NZ
  rw [← hnx] at next
  rename_i ow _ lw _ _
  replace FZ := (show Fr _ _ _ (mp [(Str.ofString "own", _), (Str.ofString "value", _), (Str.ofString "twice", _), (Str.ofString "many", _), (Str.ofString "feed", _), (Str.ofString "script", _)]) from FZ)
  rw [mp_canon [Str.ofString "script", Str.ofString "feed", Str.ofString "many", Str.ofString "twice", Str.ofString "value", Str.ofString "own"] _ (by rfl)] at FZ
  exact next fd fl sd12 ts12 n12 m12 vs12 ns12 many t0 ((r1 : Int) == 0) val tv ow ⟨a4, ((r5 : Int) == 1), a6, a7, 1 + a8, 8 + a9, a10, 1 + a11, #[]⟩ t4 t6 t7 tk8 tk9 t10 tk11 0 _ _ hi12 hl12 hs12 (Int.ofNat_lt.mp hi_0) (val_ok hval (Int.ofNat_lt.mp hi_2)) ⟨(by show a4 < 32768; exact Int.ofNat_lt.mp hi_4), (by show a6 < 15; exact Int.ofNat_lt.mp hi_6), (by show a7 < 15; exact Int.ofNat_lt.mp hi_7), (by show 1 ≤ 1 + a8 ∧ 1 + a8 ≤ 7; exact ⟨Nat.le_add_right _ _, Nat.add_le_add_left (Nat.le_of_lt_succ (Int.ofNat_lt.mp hi_8)) _⟩), (by show 8 ≤ 8 + a9 ∧ 8 + a9 ≤ 15; exact ⟨Nat.le_add_right _ _, Nat.add_le_add_left (Nat.le_of_lt_succ (Int.ofNat_lt.mp hi_9)) _⟩), (by show a10 < 14; exact Int.ofNat_lt.mp hi_10), (by show 1 ≤ 1 + a11 ∧ 1 + a11 ≤ 15; exact ⟨Nat.le_add_right _ _, Nat.add_le_add_left (Nat.le_of_lt_succ (Int.ofNat_lt.mp hi_11)) _⟩)⟩ FZ NZ (lf1 (99, oB) (.tail _ (.head _))) lf2 lw.1
end
section
theorem offM45 : True := by w_top off; trivial
open PySem.SeqAt
open PyProof.Rows.LCg (NsObj lst lst_snoc Off3 Off1 ns_obj fr_but news_but)
set_option maxRecDepth 100000
set_option maxHeartbeats 4000000
variable {p : Program} {loose : List Str} {mean : ExcName → Option Value} {mg mb : Str → Option Value}
  {dp un : Nat} {gd : Option (List Code)} {cn : Str} {cs : Scope} {a : Addr} {ccd : Value} {cl : List (Str × Addr)} {outer : List Env}
  {A₀ : Around} {E Q : Value → Shared → Prop} {s : Shared} {base h₀ : Heap} {L : Addr} {m : Str → Option Value} {news : List (Addr × Obj)}
/-- a comprehension over bytes -/
theorem comp_bytes {prog : Program} {w : World} {A : Around} {env : Env} {elt : Expr} {x : Str} {scope : Scope} {cl : List (Str × Addr)} {b : Array UInt8} {t : Tok} (hh : A.handled = none)
    (J : Nat → List Value → List (Addr × Obj) → Array GenState → Prop)
    (F : Fr h₀ L s.heap m) (N : News h₀ L s.heap news) (hk : b.size ≤ 1000000) (h0 : J 0 [] news s.gens)
    (turn : ∀ i ys news' g (c : UInt8) u I oI C oC D m₂ h tk (E' : Value → Shared → Prop), b[i]? = some c → ys.length = i → J i ys news' g → NsObj oC m₂ → m₂ x = some (.int (c.toNat : Int) u) → Fr h₀ L h m → News h₀ L h ((I, oI) :: (C, oC) :: (D, lst ys) :: news') → (∀ p ∈ news', p.1 ≠ I ∧ p.1 ≠ C ∧ p.1 ≠ D) → ((@Ne Nat I C) ∧ (@Ne Nat I D) ∧ (@Ne Nat C D)) → @LT.lt Nat _ I D → @LT.lt Nat _ D C →
      wpAny (model prog w) A (eval elt (compEnvC scope cl C env)) (CEnd h₀ L m ⟨h, g, s.drawn, tk, s.os⟩ I oI C oC D (lst ys) (fun y news' g' => J (i + 1) (ys ++ [y]) news' g')) E' ⟨h, g, s.drawn, tk, s.os⟩)
    (done : ∀ D h tk g' ys news', (∀ p ∈ news, p.1 < D) → ys.length = b.size → Fr h₀ L h m → News h₀ L h ((D, lst ys) :: news') → (∀ p ∈ news', p.1 ≠ D) → J b.size ys news' g' → Q (.ref D) ⟨h, g', s.drawn, tk, s.os⟩) :
    wpAny (model prog w) A (pyIter (.bytes b t)) (CSrc prog w A h₀ L m env elt x scope cl Q) E s := by
  refine KBw.pyIter_bytes ?_
  have W := KBw.walks (prog := prog) (w := w) hh s.heap.objs.size b t
  have up : ∀ q o, s.heap.get? q = some o → (s.heap.push { cls := .type "bytes_iterator", data := .fields #[.bytes b t, .int 0 0] }).get? q = some o := fun q o e => Heap.get?_push_of_some _ e
  refine ⟨s.heap.objs.size, _, b.size, _, _, news, J, rfl, W, Nat.le_trans hk (by decide), fun i h st => ?_, ?_, ⟨_, Heap.get?_push_size _ rfl, rfl, rfl⟩, ?_, F.push _, fun p hp => ⟨up _ _ (N p hp).1, (N p hp).2⟩, Nat.ne_of_lt F.ns.lt, none_at_size F, fun p hp => Nat.ne_of_lt (Heap.lt_size (N p hp).1), h0, ?_, ?_⟩
  · obtain ⟨o, e, _⟩ := st; exact ⟨o, e⟩
  · intro i h h' o ys nw g' st e e' _ N' hJ
    obtain ⟨o', q, r⟩ := st
    rw [e] at q; cases q
    exact ⟨o, e', r⟩
  · intro q hq
    show q < (s.heap.push _).objs.size
    rw [Heap.size_push, List.mem_singleton.mp hq]
    exact Nat.lt_succ_self _
  · rintro i ys news' g v oI C oC D m₂ h tk E' hi hl' ⟨c, u, hc, rfl⟩ hJ hoC hx F' N' off' hne h1 h2 h3
    exact turn i ys news' g c u _ oI C oC D m₂ h tk E' hc hl' hJ hoC hx F' N' off' hne h1 h2
  · intro D h tk g' ys news' hDs hlen F' N' ne hJ
    refine done D h tk g' ys news' (fun p hp => ?_) hlen F' N' ne hJ
    rw [hDs]
    show p.1 < (s.heap.push _).objs.size
    rw [Heap.size_push]
    exact Nat.lt_succ_of_lt (Heap.lt_size (N p hp).1)
noncomputable def rowB : List Stmt := match (lawB.drop 6).head? with
  | some (Stmt.For _ _ b _ _) => b
  | _ => []
def row9 (S : Sh) (t1 t3 t4 t5 t6 t7 t8 tb : Tok) : Array Value := #[.int (S.id : Int) t1, .bool S.ext, .int (S.exp : Int) t3, .int (S.gi : Int) t4, .int (S.gt : Int) t5, .int (S.gc : Int) t6, .int (S.ix : Int) t7, .int (S.mt : Int) t8, .bytes S.val tb]
inductive IsRow (S : Sh) (o : Obj) : Prop
  | mk (t1 : _) (t3 : _) (t4 : _) (t5 : _) (t6 : _) (t7 : _) (t8 : _) (tb : _) (n : _)
    (c0 : o = listOf (row9 S t1 t3 t4 t5 t6 t7 t8 tb) n)
theorem row_tail (w : World) (fd fl r rl : Addr) (sd : Int) (ts : Tok) (n n2 rn n8 : Nat) (vs refs : List Value) (ns : List Int) (S : Sh) (t1 t3 t4 t5 t6 t7 t8 : Tok) (val : Array UInt8) (tv : Tok) (v1 v3 v4 v6 v7 v8 v10 : Option Value) (hi : IntsAre vs ns) (hlen : ns.length ≤ 63) (hsd : 0 ≤ sd ∧ sd < 2147483648) (hval : ValOk val) (hrn : refs.length ≤ 100) {Q : Flow → Shared → Prop}
  (hff : fd ≠ fl) (hrl : r ≠ rl) (hfr : fd ≠ r ∧ fd ≠ rl ∧ fl ≠ r ∧ fl ≠ rl) (hne : ∀ q ∈ news, q.1 ≠ fd ∧ q.1 ≠ fl ∧ q.1 ≠ r ∧ q.1 ≠ rl)
  (N : News h₀ L s.heap ((fd, listOf #[.int sd ts, .ref fl] n) :: (fl, listOf (List.toArray vs) n2) :: (r, listOf (row8 S t1 t3 t4 t5 t6 t7 t8) n8) :: (rl, listOf (List.toArray refs) rn) :: news)) (B : Below A₀ base outer h₀)
  (F : Fr h₀ L s.heap (mp [(Str.ofString "script", v1), (Str.ofString "feed", some (Value.ref fd)), (Str.ofString "many", v3), (Str.ofString "twice", v4), (Str.ofString "value", some (Value.bytes val tv)), (Str.ofString "own", v6), (Str.ofString "rows", some (Value.ref rl)), (Str.ofString "k", v8), (Str.ofString "row", some (Value.ref r)), (Str.ofString "turned", v10)])) (X : (Mine.hd.heap_1 w.params).In h₀) (T : Top p loose mean mg mb h₀)
  (hd : dp + 300 < recursionLimit) (hu : un + 1500 < cLine)
  (next : ∀ sd' ts' n' n2' vs' ns' (val' : Array UInt8) o h' tk', IntsAre vs' ns' → ns'.length ≤ 63 → 0 ≤ sd' ∧ sd' < 2147483648 → val'.size = val.size → IsRow { S with val := val' } o →
    Fr h₀ L h' (mp [(Str.ofString "script", v1), (Str.ofString "feed", some (Value.ref fd)), (Str.ofString "many", v3), (Str.ofString "twice", v4), (Str.ofString "value", some (Value.bytes val tv)), (Str.ofString "own", v6), (Str.ofString "rows", some (Value.ref rl)), (Str.ofString "k", v8), (Str.ofString "row", some (Value.ref r)), (Str.ofString "turned", v10)]) →
    News h₀ L h' ((rl, listOf (List.toArray (refs ++ [.ref r])) (rn + 1)) :: (r, o) :: (fd, listOf #[.int sd' ts', .ref fl] n') :: (fl, listOf (List.toArray vs') n2') :: news) → Q .next ⟨h', s.gens, s.drawn, tk', s.os⟩)
  (hrw : PySem.Challenge.rw_ja0052_01 = PySem.Challenge.rw_ja0052_01) :
  wpAny (model PySem.Challenge.pw_ja0052_01 w) (ktrTop dp un gd (Str.ofString "law") lawSc L a ccd [] outer) (execs (rowB.drop 6) (lawE L a ccd)) Q E s := by
  revert X hrw
  k_fill
  intro X hrw
  clear hrw
  have e : lawSc = lawSc := rfl
  conv at e => rhs; whnf
  have eb : rowB.drop 6 = rowB.drop 6 := rfl
  conv at eb => rhs; whnf
  rw [eb, e]
  repeat ((fail_if_success (with_reducible show wpAny _ _ (call (Value.ref 538) _ _) _ _ _)); first | (dsimp only; (with_reducible show wpAny _ _ (call (Value.ref 538) _ _) _ _ _)) | k_unfold | walk1 | (dsimp only; walk1) | (leave1; try dsimp only))
  refine' draw_spec w fd fl _ _ _ _ _ _ _ _ hi hlen hsd ?hm hff ?h1 ?h2 ?kN ?kB ?kF ?kX ?kT ?kk ?kd ?ku ?_ rfl
  case kN => k_asm
  case hm => decide
  case h1 =>
    intro q hq
    simp only [List.mem_cons] at hq
    rcases hq with rfl | rfl | h
    · exact Ne.symm hfr.1
    · exact Ne.symm hfr.2.1
    · exact (hne q h).1
  case h2 =>
    intro q hq
    simp only [List.mem_cons] at hq
    rcases hq with rfl | rfl | h
    · exact Ne.symm hfr.2.2.1
    · exact Ne.symm hfr.2.2.2
    · exact (hne q h).2.1
  case kB => k_asm
  case kF => k_asm
  case kX => k_asm
  case kT => k_asm
  case kk => rfl
  case kd => walk_at "mine depth"
  case ku => walk_at "mine depth"
  intro r0 t0 sd1 ts1 vs1 ns1 n1 m1 g0 tk0 lo0 hi_0 hs1 hi1 hl1 F0 N0
  repeat ((fail_if_success (with_reducible show wpAny _ _ (call (Value.builtin "list.append") _ _) _ _ _)); first | (dsimp only; (with_reducible show wpAny _ _ (call (Value.builtin "list.append") _ _) _ _ _)) | k_unfold | walk1 | (dsimp only; walk1) | (leave1; try dsimp only))
  ·
    rename News _ _ _ _ => N2
    rename Fr _ _ _ _ => F2
    refine append_K (its := row8 S t1 t3 t4 t5 t6 t7 t8) (n := n8) F2 (news := (r, listOf (row8 S t1 t3 t4 t5 t6 t7 t8) n8) :: (fd, listOf #[.int sd1 ts1, .ref fl] n1) :: (fl, listOf (List.toArray vs1) m1) :: (rl, listOf (List.toArray refs) rn) :: news) (News.sub N2 ?_) (.head ?_) ?_ (by show (8 : Nat) ≤ sizeLine; rw [sizeLine_eq]; decide)
    · walk_at "mine sub"
    · intro q hq
      simp only [List.mem_cons] at hq
      rcases hq with rfl | rfl | rfl | h
      · exact hfr.1
      · exact hfr.2.2.1
      · exact Ne.symm hrl
      · exact (hne q h).2.2.1
    intro h3 F3 N3
    repeat ((fail_if_success (with_reducible show wpAny _ _ (call (Value.builtin "list.append") _ _) _ _ _)); first | (dsimp only; (with_reducible show wpAny _ _ (call (Value.builtin "list.append") _ _) _ _ _)) | k_unfold | walk1 | (dsimp only; walk1) | (leave1; try dsimp only))
    rename News _ _ _ _ => N4
    rename Fr _ _ _ _ => F4
    refine append_K (its := List.toArray refs) (n := rn) F4 (news := (rl, listOf (List.toArray refs) rn) :: (r, listOf (row9 { S with val := val } t1 t3 t4 t5 t6 t7 t8 tv) (n8 + 1)) :: (fd, listOf #[.int sd1 ts1, .ref fl] n1) :: (fl, listOf (List.toArray vs1) m1) :: news) (News.sub N4 ?_) (.head ?_) ?_ (by rw [List.size_toArray, sizeLine_eq]; omega)
    · intro q hq
      simp only [List.mem_cons] at hq
      rcases hq with rfl | rfl | rfl | rfl | h
      · exact .tail _ (.tail _ (.tail _ (.head _)))
      · exact .head _
      · exact .tail _ (.head _)
      · exact .tail _ (.tail _ (.head _))
      · exact .tail _ (.tail _ (.tail _ (.tail _ h)))
    · intro q hq
      simp only [List.mem_cons] at hq
      rcases hq with rfl | rfl | rfl | h
      · exact hrl
      · exact hfr.2.1
      · exact hfr.2.2.2
      · exact (hne q h).2.2.2
    intro h5 F5 N5
    rw [List.push_toArray] at N5
    k_steps
    rename News _ _ _ _ => N6
    rename Fr _ _ _ _ => F6
    exact next sd1 ts1 n1 m1 vs1 ns1 _ _ _ _ hi1 hl1 hs1 rfl ⟨t1, t3, t4, t5, t6, t7, t8, tv, n8 + 1, rfl⟩ F6 N6
  · repeat ((fail_if_success (with_reducible show wpAny _ _ (eval (Expr.ListComp _ _ _ _) _) _ _ _)); first | (dsimp only; (with_reducible show wpAny _ _ (eval (Expr.ListComp _ _ _ _) _) _ _ _)) | k_unfold | walk1 | (dsimp only; walk1) | (leave1; try dsimp only))
    refine ListComp_J (by k_asm) (by with_unfolding_all rfl) (by decide) (by rfl) (by decide) (by rfl) ?_
    repeat ((fail_if_success (with_reducible show wpAny _ _ (pyIter _) _ _ _)); first | (dsimp only; (with_reducible show wpAny _ _ (pyIter _) _ _ _)) | k_unfold | walk1 | (dsimp only; walk1) | (leave1; try dsimp only))
    rename News _ _ _ _ => N1
    rename Fr _ _ _ _ => F1
    have hsz := hval
    unfold ValOk at hsz
    refine comp_bytes rfl (fun i ys nw g => nw = (fd, listOf #[.int sd1 ts1, .ref fl] n1) :: (fl, listOf (List.toArray vs1) m1) :: (r, listOf (row8 S t1 t3 t4 t5 t6 t7 t8) n8) :: (rl, listOf (List.toArray refs) rn) :: news ∧ g = s.gens ∧ ∃ ks, IntsAre ys ks ∧ KBa.In ks ∧ ks.length = i) F1 N1 (by omega) ⟨rfl, rfl, [], .nil, (fun x hx => nomatch hx), rfl⟩ ?_ ?_
    · rintro i ys _ g c u I oI C oC D m₂ h tk E' hc hyl hJ9 hoC hx F3 N3 off3 ne3 lID lDC
      k_fold
      obtain ⟨rfl, rfl, ks, hys, hin, hkl⟩ := hJ9
      k_steps
      rename News _ _ _ _ => N4
      rename Fr _ _ _ _ => F4
      refine ⟨_, _, _, _, _, rfl, F4, N4, fun p hp => hp, off3, rfl, rfl, ks ++ [_], IntsAre.append hys (.cons _ _ .nil), ?_, by rw [List.length_append, hkl]; rfl⟩
      intro x hx
      rcases List.mem_append.mp hx with hx | hx
      · exact hin x hx
      · rw [List.mem_singleton.mp hx]
        have hc9 := UInt8.toNat_lt c
        have := bXor_n c.toNat 3
        rw [show ((3 : Nat) : Int) = 3 from rfl] at this
        rw [this]
        have h9 : c.toNat ^^^ 3 < 2 ^ 8 := Nat.xor_lt_two_pow hc9 (by decide)
        omega
    · rintro D h tk g ys _ hDs hlen F3 N3 ne ⟨rfl, rfl, ks, hys, hin, hkl⟩
      repeat ((fail_if_success (with_reducible show wpAny _ _ (call (Value.type "bytes") _ _) _ _ _)); first | (dsimp only; (with_reducible show wpAny _ _ (call (Value.type "bytes") _ _) _ _ _)) | k_unfold | walk1 | (dsimp only; walk1) | (leave1; try dsimp only))
      rename News _ _ _ _ => N4
      rename Fr _ _ _ _ => F4
      refine' KBa.make_K ?yF ?yN ?yh ?yl hys hin ?yz ?_
      case yl => exact News.isList N4 (.head _)
      case yF => exact F4
      case yN => exact N4
      case yh => rfl
      case yz => omega
      intro h6 t9 k6 F6 N6 _
      repeat ((fail_if_success (with_reducible show wpAny _ _ (call (Value.builtin "list.append") _ _) _ _ _)); first | (dsimp only; (with_reducible show wpAny _ _ (call (Value.builtin "list.append") _ _) _ _ _)) | k_unfold | walk1 | (dsimp only; walk1) | (leave1; try dsimp only))
      rename News _ _ _ _ => N2
      rename Fr _ _ _ _ => F2
      refine append_K (its := row8 S t1 t3 t4 t5 t6 t7 t8) (n := n8) F2 (news := (r, listOf (row8 S t1 t3 t4 t5 t6 t7 t8) n8) :: (fd, listOf #[.int sd1 ts1, .ref fl] n1) :: (fl, listOf (List.toArray vs1) m1) :: (rl, listOf (List.toArray refs) rn) :: news) (News.sub N2 ?_) (.head ?_) ?_ (by show (8 : Nat) ≤ sizeLine; rw [sizeLine_eq]; decide)
      · walk_at "mine sub"
      · intro q hq
        simp only [List.mem_cons] at hq
        rcases hq with rfl | rfl | rfl | h
        · exact hfr.1
        · exact hfr.2.2.1
        · exact Ne.symm hrl
        · exact (hne q h).2.2.1
      intro h3 F3 N3
      repeat ((fail_if_success (with_reducible show wpAny _ _ (call (Value.builtin "list.append") _ _) _ _ _)); first | (dsimp only; (with_reducible show wpAny _ _ (call (Value.builtin "list.append") _ _) _ _ _)) | k_unfold | walk1 | (dsimp only; walk1) | (leave1; try dsimp only))
      rename News _ _ _ _ => N4
      rename Fr _ _ _ _ => F4
      refine append_K (its := List.toArray refs) (n := rn) F4 (news := (rl, listOf (List.toArray refs) rn) :: (r, listOf (row9 { S with val := byteArr ks } t1 t3 t4 t5 t6 t7 t8 t9) (n8 + 1)) :: (fd, listOf #[.int sd1 ts1, .ref fl] n1) :: (fl, listOf (List.toArray vs1) m1) :: news) (News.sub N4 ?_) (.head ?_) ?_ (by rw [List.size_toArray, sizeLine_eq]; omega)
      · intro q hq
        simp only [List.mem_cons] at hq
        rcases hq with rfl | rfl | rfl | rfl | h
        · exact .tail _ (.tail _ (.tail _ (.head _)))
        · exact .head _
        · exact .tail _ (.head _)
        · exact .tail _ (.tail _ (.head _))
        · exact .tail _ (.tail _ (.tail _ (.tail _ h)))
      · intro q hq
        simp only [List.mem_cons] at hq
        rcases hq with rfl | rfl | rfl | h
        · exact hrl
        · exact hfr.2.1
        · exact hfr.2.2.2
        · exact (hne q h).2.2.2
      intro h5 F5 N5
      rw [List.push_toArray] at N5
      k_steps
      rename News _ _ _ _ => N6
      rename Fr _ _ _ _ => F6
      exact next sd1 ts1 n1 m1 vs1 ns1 _ _ _ _ hi1 hl1 hs1 (by rw [byteArr_size]; exact hkl) ⟨t1, t3, t4, t5, t6, t7, t8, t9, n8 + 1, rfl⟩ F6 N6
end
section
theorem offM46 : True := by w_top off; trivial
local macro_rules | `(tactic| walk_at "mine pad") => `(tactic| skip)
open PySem.SeqAt
set_option maxRecDepth 100000
set_option maxHeartbeats 40000000
variable {p : Program} {loose : List Str} {mean : ExcName → Option Value} {mg mb : Str → Option Value}
  {dp un : Nat} {gd : Option (List Code)} {cn : Str} {cs : Scope} {a : Addr} {ccd : Value} {cl : List (Str × Addr)} {outer : List Env}
  {A₀ : Around} {E Q : Value → Shared → Prop} {s : Shared} {base h₀ : Heap} {L : Addr} {m : Str → Option Value} {news : List (Addr × Obj)}
structure RowOk (S : Sh) : Prop where
  id : S.id < 32768
  exp : S.exp < 16
  gi : S.gi < 16
  gt : 1 ≤ S.gt ∧ S.gt ≤ 8
  gc : 8 ≤ S.gc ∧ S.gc ≤ 16
  ix : S.ix < 16
  mt : 1 ≤ S.mt ∧ S.mt ≤ 16
theorem fmN (x : Nat) : ((x : Int) + 1).fmod 32768 = (((x + 1) % 32768 : Nat) : Int) := by
  rw [Int.fmod_eq_emod_of_nonneg _ (by decide)]; rfl
def turnS (t : Nat) (S : Sh) : Sh := match t with
  | 0 => { S with id := (S.id + 1) % 32768 }
  | 1 => { S with ext := !S.ext }
  | 2 => { S with exp := (S.exp + 1) % 32768 }
  | 3 => { S with gi := (S.gi + 1) % 32768 }
  | 4 => { S with gt := (S.gt + 1) % 32768 }
  | 5 => { S with gc := (S.gc + 1) % 32768 }
  | 6 => { S with ix := (S.ix + 1) % 32768 }
  | 7 => { S with mt := (S.mt + 1) % 32768 }
  | 8 => { S with gi := S.gi + 1, mt := S.mt + 1 }
  | 9 => { S with gi := S.gi + 1, mt := S.mt + 1 }
  | 10 => { S with ix := S.ix + 1 }
  | 11 => { S with ix := S.ix + 1 }
  | 12 => { S with ix := S.ix + 1 }
  | _ => S
theorem ml {x n : Nat} (h : x < n) (hn : n < 32768) : (x + 1) % 32768 < n + 1 := by rw [Nat.mod_eq_of_lt (Nat.lt_of_le_of_lt h hn)]; exact Nat.succ_lt_succ h
theorem mr {x a b : Nat} (h : a ≤ x ∧ x ≤ b) (hn : b < 32767) : a ≤ (x + 1) % 32768 ∧ (x + 1) % 32768 ≤ b + 1 := by
  rw [Nat.mod_eq_of_lt (Nat.lt_of_le_of_lt (Nat.succ_le_succ h.2) (Nat.succ_lt_succ hn))]; exact ⟨Nat.le_succ_of_le h.1, Nat.succ_le_succ h.2⟩
theorem turn_ok {S : Sh} (h : OwnOk S) (t : Nat) (v : Array UInt8) : RowOk { turnS t S with val := v } := by
  obtain ⟨h1, h2, h3, h4, h5, h6, h7⟩ := h
  have w2 : S.exp < 16 := Nat.lt_succ_of_lt h2
  have w3 : S.gi < 16 := Nat.lt_succ_of_lt h3
  have w4 : 1 ≤ S.gt ∧ S.gt ≤ 8 := ⟨h4.1, Nat.le_succ_of_le h4.2⟩
  have w5 : 8 ≤ S.gc ∧ S.gc ≤ 16 := ⟨h5.1, Nat.le_succ_of_le h5.2⟩
  have w6 : S.ix < 16 := Nat.lt_succ_of_lt (Nat.lt_succ_of_lt h6)
  have w7 : 1 ≤ S.mt ∧ S.mt ≤ 16 := ⟨h7.1, Nat.le_succ_of_le h7.2⟩
  unfold turnS
  split <;> constructor <;> dsimp only <;> first | assumption | exact Nat.mod_lt _ (by decide) | exact ml h2 (by decide) | exact ml h3 (by decide) | exact ml (Nat.lt_succ_of_lt h6) (by decide) | exact mr h4 (by decide) | exact mr h5 (by decide) | exact mr h7 (by decide) | exact Nat.succ_lt_succ h3 | exact Nat.succ_lt_succ (Nat.lt_succ_of_lt h6) | exact ⟨Nat.le_succ_of_le h7.1, Nat.succ_le_succ h7.2⟩
def isI (x : Int) : Value → Bool
  | .int k _ => k == x
  | _ => false
theorem in_tupI {prog : Program} {w : World} {A : Around} {Q E : Value → Shared → Prop} {D : Addr} {its : Array Value} {n : Nat} {x : Int} {t : Tok} (N : News h₀ L s.heap news) (hm : (D, ({ cls := .type "tuple", data := .seq its n } : Obj)) ∈ news) (hall : (its.toList.all fun y => match y with | .int _ _ => true | _ => false) = true) (h : Q (.bool (its.any (isI x))) s) :
    wpAny (model prog w) A (compareOp .In (.int x t) (.ref D)) Q E s := by
  refine in_tupleAt (isI x) ⟨_, (N _ hm).1, rfl, n, rfl⟩ ?_ h
  intro y hy
  have := List.all_eq_true.mp hall y (by simpa using hy)
  cases y with
  | int k u => exact EqAt.int_int k u x t
  | _ => cases this
theorem anyI (ps : List (Int × Tok)) (x : Int) : Array.any (ps.map fun p => Value.int p.1 p.2).toArray (isI x) = (ps.map (·.1)).any (· == x) := by
  rw [List.any_toArray]
  induction ps with
  | nil => rfl
  | cons p r ih => simp only [List.map_cons, List.any_cons, ih]; rfl
theorem tab7t : ∀ t : Nat, t < 16 → ([0, 2, 3, 4, 5, 6, 7] : List Int).any (· == (t : Int)) = true → t = 0 ∨ t = 2 ∨ t = 3 ∨ t = 4 ∨ t = 5 ∨ t = 6 ∨ t = 7 := by decide
theorem tab7f : ∀ t : Nat, t < 16 → ([0, 2, 3, 4, 5, 6, 7] : List Int).any (· == (t : Int)) = false → t = 1 ∨ 8 ≤ t := by decide
theorem tab2t : ∀ t : Nat, t < 16 → ([8, 9] : List Int).any (· == (t : Int)) = true → t = 8 ∨ t = 9 := by decide
theorem tab2f : ∀ t : Nat, t < 16 → ([8, 9] : List Int).any (· == (t : Int)) = false → t ≠ 8 ∧ t ≠ 9 := by decide
theorem tab3t : ∀ t : Nat, t < 16 → ([10, 11, 12] : List Int).any (· == (t : Int)) = true → t = 10 ∨ t = 11 ∨ t = 12 := by decide
theorem tab3f : ∀ t : Nat, t < 16 → ([10, 11, 12] : List Int).any (· == (t : Int)) = false → t ≠ 10 ∧ t ≠ 11 ∧ t ≠ 12 := by decide
inductive IsRow8 (S : Sh) (o : Obj) : Prop
  | mk (t1 : _) (t3 : _) (t4 : _) (t5 : _) (t6 : _) (t7 : _) (t8 : _) (n : _)
    (c0 : o = listOf (row8 S t1 t3 t4 t5 t6 t7 t8) n)
def s1 (t : Nat) (S : Sh) : Sh := if t = 1 ∨ 8 ≤ t then S else turnS t S
def s2 (t : Nat) (S : Sh) : Sh := if 8 ≤ t then S else turnS t S
def s3 (t : Nat) (S : Sh) : Sh := if 10 ≤ t then S else turnS t S
theorem turn_rest {S : Sh} {tt : Nat} (h : tt ≠ 10 ∧ tt ≠ 11 ∧ tt ≠ 12) (h16 : tt < 16) : turnS tt S = s3 tt S := by
  unfold s3
  split
  · have hc : tt = 13 ∨ tt = 14 ∨ tt = 15 := (by decide : ∀ t, t < 16 → (10 ≤ t ∧ t ≠ 10 ∧ t ≠ 11 ∧ t ≠ 12) → t = 13 ∨ t = 14 ∨ t = 15) tt h16 ⟨by assumption, h⟩
    rcases hc with rfl | rfl | rfl <;> rfl
  · rfl
theorem tab7n : ∀ t : Nat, t < 16 → (t = 0 ∨ t = 2 ∨ t = 3 ∨ t = 4 ∨ t = 5 ∨ t = 6 ∨ t = 7) → ¬ (t = 1 ∨ 8 ≤ t) := by decide
theorem turn_at (S : Sh) (t1 t3 t4 t5 t6 t7 t8 : Tok) {tt n : Nat} (h : tt = 0 ∨ tt = 2 ∨ tt = 3 ∨ tt = 4 ∨ tt = 5 ∨ tt = 6 ∨ tt = 7) :
    ∃ (x : Nat) (t : Tok), (row8 S t1 t3 t4 t5 t6 t7 t8)[tt]? = some (.int (x : Int) t) ∧ ∀ u, ∃ q, PySem.W.ki_setL (row8 S t1 t3 t4 t5 t6 t7 t8).toList tt (.int (((x + 1) % 32768 : Nat) : Int) u) = some q ∧ IsRow8 (turnS tt S) (listOf q.toArray n) := by
  rcases h with rfl | rfl | rfl | rfl | rfl | rfl | rfl <;> exact ⟨_, _, rfl, fun u => ⟨_, rfl, ⟨_, _, _, _, _, _, _, _, rfl⟩⟩⟩
inductive RTJ (h₀ : Heap) (L : Addr) (gs : Array GenState) (dr : Drawn) (os : OsState) (v1 v3 v4 v8 : Option Value) (fd fl ow rl r : Addr) (val : Array UInt8) (tv : Tok) (tt : Nat) (t0 : Tok) (sd1 : Int) (ts1 : Tok) (n1 m1 rn n8 : Nat) (vs1 refs : List Value) (S : Sh) (t1 t3 t4 t5 t6 t7 t8 : Tok) (news : List (Addr × Obj)) (S9 : Sh) (f : Flow) (s' : Shared) : Prop
  | mk (z0 : f = Flow.next) (o : _) (h' : _) (tk' : _) (nx : _)
    (c0 : s' = ⟨h', gs, dr, tk', os⟩)
    (c1 : Fr h₀ L h' (mp [(Str.ofString "script", v1), (Str.ofString "feed", some (Value.ref fd)), (Str.ofString "many", v3), (Str.ofString "twice", v4), (Str.ofString "value", some (Value.bytes val tv)), (Str.ofString "own", some (Value.ref ow)), (Str.ofString "rows", some (Value.ref rl)), (Str.ofString "k", v8), (Str.ofString "row", some (Value.ref r)), (Str.ofString "turned", some (Value.int (tt : Int) t0))]))
    (c2 : News h₀ L h' nx)
    (c3 : (∀ q ∈ (fd, listOf #[.int sd1 ts1, .ref fl] n1) :: (fl, listOf (List.toArray vs1) m1) :: (r, o) :: (rl, listOf (List.toArray refs) rn) :: (ow, listOf (row8 S t1 t3 t4 t5 t6 t7 t8) n8) :: news, q ∈ nx))
    (c4 : IsRow8 S9 o)
theorem row_turn (w : World) (fd fl ow rl : Addr) (sd : Int) (ts : Tok) (n n2 rn n8 : Nat) (vs refs : List Value) (ns : List Int) (S : Sh) (t1 t3 t4 t5 t6 t7 t8 : Tok) (val : Array UInt8) (tv : Tok) (v1 v3 v4 v8 v9 v10 : Option Value) (hi : IntsAre vs ns) (hlen : ns.length ≤ 63) (hsd : 0 ≤ sd ∧ sd < 2147483648) (hval : ValOk val) (hS : OwnOk S) (hrn : refs.length ≤ 100) {Q : Flow → Shared → Prop}
  (hff : fd ≠ fl) (hfr : fd ≠ rl ∧ fl ≠ rl ∧ fd ≠ ow ∧ fl ≠ ow ∧ rl ≠ ow) (hne : ∀ q ∈ news, q.1 ≠ fd ∧ q.1 ≠ fl ∧ q.1 ≠ rl)
  (N : News h₀ L s.heap ((fd, listOf #[.int sd ts, .ref fl] n) :: (fl, listOf (List.toArray vs) n2) :: (ow, listOf (row8 S t1 t3 t4 t5 t6 t7 t8) n8) :: (rl, listOf (List.toArray refs) rn) :: news)) (B : Below A₀ base outer h₀)
  (F : Fr h₀ L s.heap (mp [(Str.ofString "script", v1), (Str.ofString "feed", some (Value.ref fd)), (Str.ofString "many", v3), (Str.ofString "twice", v4), (Str.ofString "value", some (Value.bytes val tv)), (Str.ofString "own", some (Value.ref ow)), (Str.ofString "rows", some (Value.ref rl)), (Str.ofString "k", v8), (Str.ofString "row", v9), (Str.ofString "turned", v10)])) (X : (Mine.hd.heap_1 w.params).In h₀) (T : Top p loose mean mg mb h₀)
  (hd : dp + 300 < recursionLimit) (hu : un + 1500 < cLine)
  (next : ∀ r S' sd' ts' n' n2' vs' ns' o u10 h' tk', IntsAre vs' ns' → ns'.length ≤ 63 → 0 ≤ sd' ∧ sd' < 2147483648 → S'.val.size = val.size → RowOk S' → IsRow S' o →
    Fr h₀ L h' (mp [(Str.ofString "script", v1), (Str.ofString "feed", some (Value.ref fd)), (Str.ofString "many", v3), (Str.ofString "twice", v4), (Str.ofString "value", some (Value.bytes val tv)), (Str.ofString "own", some (Value.ref ow)), (Str.ofString "rows", some (Value.ref rl)), (Str.ofString "k", v8), (Str.ofString "row", some (Value.ref r)), (Str.ofString "turned", u10)]) →
    News h₀ L h' ((rl, listOf (List.toArray (refs ++ [.ref r])) (rn + 1)) :: (r, o) :: (fd, listOf #[.int sd' ts', .ref fl] n') :: (fl, listOf (List.toArray vs') n2') :: (ow, listOf (row8 S t1 t3 t4 t5 t6 t7 t8) n8) :: news) → (∀ q ∈ (fd, listOf #[.int sd ts, .ref fl] n) :: (fl, listOf (List.toArray vs) n2) :: (ow, listOf (row8 S t1 t3 t4 t5 t6 t7 t8) n8) :: (rl, listOf (List.toArray refs) rn) :: news, q.1 < r) → Q .next ⟨h', s.gens, s.drawn, tk', s.os⟩)
  (hrw : PySem.Challenge.rw_ja0052_01 = PySem.Challenge.rw_ja0052_01) :
  wpAny (model PySem.Challenge.pw_ja0052_01 w) (ktrTop dp un gd (Str.ofString "law") lawSc L a ccd [] outer) (execs rowB (lawE L a ccd)) Q E s := by
  have tail := @row_tail
  generalize hrb : rowB.drop 6 = rest at tail
  revert X hrw
  k_fill
  intro X hrw
  clear hrw
  have e : lawSc = lawSc := rfl
  conv at e => rhs; whnf
  have eb : rowB = rowB := rfl
  conv at eb => rhs; whnf
  rw [eb] at hrb ⊢
  rw [e]
  repeat ((fail_if_success (with_reducible show wpAny _ _ (call (Value.ref 538) _ _) _ _ _)); first | (dsimp only; (with_reducible show wpAny _ _ (call (Value.ref 538) _ _) _ _ _)) | k_unfold | walk1 | (dsimp only; walk1) | (leave1; try dsimp only))
  rename News _ _ _ _ => N1
  rename_i r c8 _ lr _ _ _
  have hne2 : ∀ q ∈ (r, listOf (row8 S t1 t3 t4 t5 t6 t7 t8) c8) :: (rl, listOf (List.toArray refs) rn) :: (ow, listOf (row8 S t1 t3 t4 t5 t6 t7 t8) n8) :: news, q.1 ≠ fd ∧ q.1 ≠ fl := by
    intro q hq
    simp only [List.mem_cons] at hq
    rcases hq with rfl | rfl | rfl | h
    · exact ⟨Nat.ne_of_gt lr.1, Nat.ne_of_gt lr.2.1⟩
    · exact ⟨Ne.symm hfr.1, Ne.symm hfr.2.1⟩
    · exact ⟨Ne.symm hfr.2.2.1, Ne.symm hfr.2.2.2.1⟩
    · exact ⟨(hne q h).1, (hne q h).2.1⟩
  refine' draw_n (news := (r, listOf (row8 S t1 t3 t4 t5 t6 t7 t8) c8) :: (rl, listOf (List.toArray refs) rn) :: (ow, listOf (row8 S t1 t3 t4 t5 t6 t7 t8) n8) :: news) w fd fl sd ts n n2 vs ns _ _ hi hlen hsd ?hm hff (fun q hq => (hne2 q hq).1) (fun q hq => (hne2 q hq).2) ?kN ?kB ?kF ?kX ?kT ?kk ?kd ?ku ?_ rfl
  case kN =>
    refine News.sub N1 ?_
    intro q hq
    simp only [List.mem_cons] at hq
    rcases hq with rfl | rfl | rfl | rfl | rfl | h
    · exact .tail _ (.head _)
    · exact .tail _ (.tail _ (.head _))
    · exact .head _
    · exact .tail _ (.tail _ (.tail _ (.tail _ (.head _))))
    · exact .tail _ (.tail _ (.tail _ (.head _)))
    · exact .tail _ (.tail _ (.tail _ (.tail _ (.tail _ h))))
  case hm => decide
  case kB => k_asm
  case kF => k_asm
  case kX => k_asm
  case kT => k_asm
  case kk => rfl
  case kd => walk_at "mine depth"
  case ku => walk_at "mine depth"
  intro tt t0 sd1 ts1 vs1 ns1 n1 m1 g0 tk0 hi_0 hs1 hi1 hl1 F0 N0
  clear N1
  unfold row8 at N0
  have htt : tt < 16 := Int.ofNat_lt.mp hi_0
  clear hi_0 hne2
  obtain ⟨J, hJ⟩ : ∃ J : (Nat → Sh → Sh) → Flow → Shared → Prop, ∀ f9 f s', J f9 f s' ↔ RTJ h₀ L s.gens s.drawn s.os v1 v3 v4 v8 fd fl ow rl r val tv tt t0 sd1 ts1 n1 m1 rn n8 vs1 refs S t1 t3 t4 t5 t6 t7 t8 news (f9 tt S) f s' := ⟨_, fun _ _ _ => Iff.rfl⟩
  repeat ((fail_if_success (with_reducible show wpAny _ _ (exec (Stmt.If _ _ _ _) _) _ _ _)); first | (dsimp only; (with_reducible show wpAny _ _ (exec (Stmt.If _ _ _ _) _) _ _ _)) | k_unfold | walk1 | (dsimp only; walk1) | (leave1; try dsimp only))
  rename Fr _ _ _ _ => FA
  replace FA := (show Fr _ _ _ (mp ((Str.ofString "turned", some _) :: (Str.ofString "row", some _) :: _)) from FA)
  rw [mp_canon [Str.ofString "script", Str.ofString "feed", Str.ofString "many", Str.ofString "twice", Str.ofString "value", Str.ofString "own", Str.ofString "rows", Str.ofString "k", Str.ofString "row", Str.ofString "turned"] _ (by rfl)] at FA
  replace FA := (show Fr _ _ _ (mp [(Str.ofString "script", v1), (Str.ofString "feed", some (Value.ref fd)), (Str.ofString "many", v3), (Str.ofString "twice", v4), (Str.ofString "value", some (Value.bytes val tv)), (Str.ofString "own", some (Value.ref ow)), (Str.ofString "rows", some (Value.ref rl)), (Str.ofString "k", v8), (Str.ofString "row", some (Value.ref r)), (Str.ofString "turned", some (Value.int (tt : Int) t0))]) from FA)
  refine wpAny_mono (Q := J s1) ?_ ?_ (fun _ _ e => e)
  ·
    repeat ((fail_if_success (with_reducible show wpAny _ _ (compareOp _ _ _) _ _ _)); first | (dsimp only; (with_reducible show wpAny _ _ (compareOp _ _ _) _ _ _)) | k_unfold | walk1 | (dsimp only; walk1) | (leave1; try dsimp only))
    rename News _ _ _ _ => NB
    refine in_tupI NB (.head _) (by rfl) ?_
    generalize hb : Array.any _ _ = bb
    cases bb with
    | true =>
      have hc := tab7t tt htt ((anyI [(0, _), (2, _), (3, _), (4, _), (5, _), (6, _), (7, _)] tt).symm.trans hb)
      clear hb
      obtain ⟨x9, w9, e9, hset⟩ := turn_at S t1 t3 t4 t5 t6 t7 t8 hc
      have hf9 : (tt : Int) < 2 ^ 63 := Int.lt_trans (Int.ofNat_lt.mpr htt) (by decide)
      repeat ((fail_if_success (with_reducible show wpAny _ _ (subscriptTail _ _ _ _) _ _ _)); first | (dsimp only; (with_reducible show wpAny _ _ (subscriptTail _ _ _ _) _ _ _)) | k_unfold | walk1 | (dsimp only; walk1) | (leave1; try dsimp only))
      rename News _ _ _ _ => NC
      refine item_listR (x := .int (x9 : Int) w9) (News.isList NC (.tail _ (.tail _ (.tail _ (.head _))))) (Int.natCast_nonneg _) hf9 e9 ?_
      repeat ((fail_if_success (with_reducible show wpAny _ _ (setItem _ _ _) _ _ _)); first | (dsimp only; (with_reducible show wpAny _ _ (setItem _ _ _) _ _ _)) | k_unfold | walk1 | (dsimp only; walk1) | (leave1; try dsimp only))
      rename News _ _ _ _ => ND
      rename Fr _ _ _ _ => FD
      rw [fmN]
      obtain ⟨q9, eq9, hq9⟩ := hset _
      refine ki_set FD ND (Int.natCast_nonneg _) hf9 eq9 (by k_upd) ?_
      intro h9 FC NC
      k_steps
      rw [hJ]
      refine ⟨rfl, _, _, _, _, rfl, FC, NC, fun q hq => .tail _ (hq), ?_⟩
      rw [show s1 tt S = turnS tt S from if_neg (tab7n tt htt hc)]
      exact hq9
    | false =>
      have hc := tab7f tt htt ((anyI [(0, _), (2, _), (3, _), (4, _), (5, _), (6, _), (7, _)] tt).symm.trans hb)
      clear hb
      k_steps
      rename News _ _ _ _ => NC
      rename Fr _ _ _ _ => FC
      rw [hJ]
      try simp only [fmN] at NC
      refine ⟨rfl, _, _, _, _, rfl, FC, NC, fun q hq => .tail _ (hq), ?_⟩
      rw [show s1 _ S = S from if_pos hc]
      exact ⟨_, _, _, _, _, _, _, _, rfl⟩
  · rintro f s' hf
    rw [hJ] at hf
    obtain ⟨rfl, o, h2, tk2, nx, rfl, FD, ND0, hsub, u1, u3, u4, u5, u6, u7, u8, c9, rfl⟩ := hf
    have ND := News.sub ND0 hsub
    clear ND0 hsub
    dsimp only
    unfold row8 at ND
    repeat ((fail_if_success (with_reducible show wpAny _ _ (exec (Stmt.If _ _ _ _) _) _ _ _)); first | (dsimp only; (with_reducible show wpAny _ _ (exec (Stmt.If _ _ _ _) _) _ _ _)) | k_unfold | walk1 | (dsimp only; walk1) | (leave1; try dsimp only))
    refine wpAny_mono (Q := J s2) ?_ ?_ (fun _ _ e => e)
    ·
      k_steps
      · have h1 : tt = 1 := by omega
        subst h1
        rename News _ _ _ _ => NC
        rename Fr _ _ _ _ => FC
        rw [hJ]
        try simp only [fmN] at NC
        refine ⟨rfl, _, _, _, _, rfl, FC, NC, fun q hq => hq, ?_⟩
        rw [show s2 _ S = turnS _ S from if_neg (by decide)]; dsimp only [turnS, s1]; rw [if_pos (by decide)]
        exact ⟨_, _, _, _, _, _, _, _, rfl⟩
      · have h1 : tt ≠ 1 := by omega
        rename News _ _ _ _ => NC
        rename Fr _ _ _ _ => FC
        rw [hJ]
        try simp only [fmN] at NC
        refine ⟨rfl, _, _, _, _, rfl, FC, NC, fun q hq => hq, ?_⟩
        rw [show s2 tt S = s1 tt S from by unfold s1 s2; split <;> split <;> first | rfl | omega]
        exact ⟨_, _, _, _, _, _, _, _, rfl⟩
    · rintro f s' hf
      rw [hJ] at hf
      obtain ⟨rfl, o, h3, tk3, nx, rfl, FD, ND0, hsub, u1, u3, u4, u5, u6, u7, u8, c9, rfl⟩ := hf
      have ND := News.sub ND0 hsub
      clear ND0 hsub
      dsimp only
      unfold row8 at ND
      repeat ((fail_if_success (with_reducible show wpAny _ _ (exec (Stmt.If _ _ _ _) _) _ _ _)); first | (dsimp only; (with_reducible show wpAny _ _ (exec (Stmt.If _ _ _ _) _) _ _ _)) | k_unfold | walk1 | (dsimp only; walk1) | (leave1; try dsimp only))
      refine wpAny_mono (Q := J s3) ?_ ?_ (fun _ _ e => e)
      ·
        repeat ((fail_if_success (with_reducible show wpAny _ _ (compareOp _ _ _) _ _ _)); first | (dsimp only; (with_reducible show wpAny _ _ (compareOp _ _ _) _ _ _)) | k_unfold | walk1 | (dsimp only; walk1) | (leave1; try dsimp only))
        rename News _ _ _ _ => NB
        refine in_tupI NB (.head _) (by rfl) ?_
        generalize hb : Array.any _ _ = bb
        cases bb with
        | true =>
          have hc := tab2t tt htt ((anyI [(8, _), (9, _)] tt).symm.trans hb)
          clear hb
          k_steps
          rename News _ _ _ _ => NC
          rename Fr _ _ _ _ => FC
          rw [hJ]
          try simp only [fmN] at NC
          refine ⟨rfl, _, _, _, _, rfl, FC, NC, fun q hq => .tail _ (hq), ?_⟩
          rcases hc with rfl | rfl <;> exact ⟨_, _, _, _, _, _, _, _, rfl⟩
        | false =>
          have hc := tab2f tt htt ((anyI [(8, _), (9, _)] tt).symm.trans hb)
          clear hb
          k_steps
          rename News _ _ _ _ => NC
          rename Fr _ _ _ _ => FC
          rw [hJ]
          try simp only [fmN] at NC
          refine ⟨rfl, _, _, _, _, rfl, FC, NC, fun q hq => .tail _ (hq), ?_⟩
          rw [show s3 tt S = s2 tt S from by unfold s3 s2; split <;> split <;> first | rfl | omega]
          exact ⟨_, _, _, _, _, _, _, _, rfl⟩
      · rintro f s' hf
        rw [hJ] at hf
        obtain ⟨rfl, o, h4, tk4, nx, rfl, FD, ND0, hsub, u1, u3, u4, u5, u6, u7, u8, c9, rfl⟩ := hf
        have ND := News.sub ND0 hsub
        clear ND0 hsub
        dsimp only
        unfold row8 at ND
        repeat ((fail_if_success (with_reducible show wpAny _ _ (exec (Stmt.If _ _ _ _) _) _ _ _)); first | (dsimp only; (with_reducible show wpAny _ _ (exec (Stmt.If _ _ _ _) _) _ _ _)) | k_unfold | walk1 | (dsimp only; walk1) | (leave1; try dsimp only))
        refine wpAny_mono (Q := J turnS) ?_ ?_ (fun _ _ e => e)
        ·
          repeat ((fail_if_success (with_reducible show wpAny _ _ (compareOp _ _ _) _ _ _)); first | (dsimp only; (with_reducible show wpAny _ _ (compareOp _ _ _) _ _ _)) | k_unfold | walk1 | (dsimp only; walk1) | (leave1; try dsimp only))
          rename News _ _ _ _ => NB
          refine in_tupI NB (.head _) (by rfl) ?_
          generalize hb : Array.any _ _ = bb
          cases bb with
          | true =>
            have hc := tab3t tt htt ((anyI [(10, _), (11, _), (12, _)] tt).symm.trans hb)
            clear hb
            k_steps
            rename News _ _ _ _ => NC
            rename Fr _ _ _ _ => FC
            rw [hJ]
            try simp only [fmN] at NC
            refine ⟨rfl, _, _, _, _, rfl, FC, NC, fun q hq => .tail _ (hq), ?_⟩
            rcases hc with rfl | rfl | rfl <;> exact ⟨_, _, _, _, _, _, _, _, rfl⟩
          | false =>
            have hc := tab3f tt htt ((anyI [(10, _), (11, _), (12, _)] tt).symm.trans hb)
            clear hb
            k_steps
            rename News _ _ _ _ => NC
            rename Fr _ _ _ _ => FC
            rw [hJ]
            try simp only [fmN] at NC
            refine ⟨rfl, _, _, _, _, rfl, FC, NC, fun q hq => .tail _ (hq), ?_⟩
            rw [turn_rest hc htt]
            exact ⟨_, _, _, _, _, _, _, _, rfl⟩
        · rintro f s' hf
          rw [hJ] at hf
          obtain ⟨rfl, o, h5, tk5, nx, rfl, FD, ND0, hsub, u1, u3, u4, u5, u6, u7, u8, c9, rfl⟩ := hf
          have ND := News.sub ND0 hsub
          clear ND0 hsub
          dsimp only
          rw [← hrb] at tail
          have hnew : ∀ q ∈ (ow, listOf (row8 S t1 t3 t4 t5 t6 t7 t8) n8) :: news, q.1 ≠ fd ∧ q.1 ≠ fl ∧ q.1 ≠ r ∧ q.1 ≠ rl := by
            intro q hq
            rcases List.mem_cons.mp hq with rfl | hq
            · exact ⟨Ne.symm hfr.2.2.1, Ne.symm hfr.2.2.2.1, Nat.ne_of_lt lr.2.2.1, Ne.symm hfr.2.2.2.2⟩
            · exact ⟨(hne q hq).1, (hne q hq).2.1, Nat.ne_of_lt (allLt_lt lr.2.2.2.2 q hq), (hne q hq).2.2⟩
          rw [← e]
          refine tail w fd fl r rl sd1 ts1 n1 m1 rn c9 vs1 refs ns1 (turnS tt S) u1 u3 u4 u5 u6 u7 u8 val tv _ _ _ _ none _ _ hi1 hl1 hs1 hval hrn hff (Nat.ne_of_gt lr.2.2.2.1) ⟨Nat.ne_of_lt lr.1, hfr.1, Nat.ne_of_lt lr.2.1, hfr.2.1⟩ hnew ND B FD X T hd hu ?_ rfl
          intro sd' ts' n' n2' vs' ns' val' o' h' tk' q1 q2 q3 q4 q5 q6 q7
          refine next r { turnS tt S with val := val' } sd' ts' n' n2' vs' ns' o' _ h' tk' q1 q2 q3 q4 (turn_ok hS tt val') q5 q6 q7 ?_
          intro q hq
          simp only [List.mem_cons] at hq
          rcases hq with rfl | rfl | rfl | rfl | h
          · exact lr.1
          · exact lr.2.1
          · exact lr.2.2.1
          · exact lr.2.2.2.1
          · exact allLt_lt lr.2.2.2.2 q h
end
section
theorem offM47 : True := by w_top off; trivial
open PySem.SeqAt
set_option maxRecDepth 100000
set_option maxHeartbeats 40000000
variable {p : Program} {loose : List Str} {mean : ExcName → Option Value} {mg mb : Str → Option Value}
  {dp un : Nat} {gd : Option (List Code)} {cn : Str} {cs : Scope} {a : Addr} {ccd : Value} {cl : List (Str × Addr)} {outer : List Env}
  {A₀ : Around} {E Q : Value → Shared → Prop} {s : Shared} {base h₀ : Heap} {L : Addr} {m : Str → Option Value} {news : List (Addr × Obj)}
/-- a list's refs tell rows -/
inductive RowsIn (news : List (Addr × Obj)) : List Value → List Sh → Prop where
  | nil : RowsIn news [] []
  | cons {r : Addr} {o : Obj} {S : Sh} {vs : List Value} {Ss : List Sh} : (r, o) ∈ news → IsRow S o → RowsIn news vs Ss → RowsIn news (.ref r :: vs) (S :: Ss)
theorem RowsIn.mono {a b : List (Addr × Obj)} {vs : List Value} {Ss : List Sh} (h : RowsIn a vs Ss) (k : ∀ p ∈ a, p ∈ b) : RowsIn b vs Ss := by
  induction h with
  | nil => exact .nil
  | cons h1 h2 _ ih => exact .cons (k _ h1) h2 ih
theorem RowsIn.len {a : List (Addr × Obj)} {vs : List Value} {Ss : List Sh} (h : RowsIn a vs Ss) : vs.length = Ss.length := by
  induction h with
  | nil => rfl
  | cons _ _ _ ih => simp [ih]
theorem RowsIn.snoc {a : List (Addr × Obj)} {vs : List Value} {Ss : List Sh} {r : Addr} {o : Obj} {S : Sh} (h : RowsIn a vs Ss) (h1 : (r, o) ∈ a) (h2 : IsRow S o) : RowsIn a (vs ++ [.ref r]) (Ss ++ [S]) := by
  induction h with
  | nil => exact .cons h1 h2 .nil
  | cons q1 q2 _ ih => exact .cons q1 q2 ih
def RowFit (v : Array UInt8) (S : Sh) : Prop := RowOk S ∧ S.val.size = v.size
inductive RowsJ (v1 : Option Value) (fd fl ow rl : Addr) (many : Nat) (tm : Tok) (tw : Bool) (val : Array UInt8) (tv : Tok) (S0 : Sh) (t1 t3 t4 t5 t6 t7 t8 : Tok) (n8 : Nat) (oA oB : Obj) (gs : Array GenState) (i : Nat) (m' : Str → Option Value) (nw : List (Addr × Obj)) (g : Array GenState) : Prop
  | mk  (sd' : _) (ts' : _) (n' : _) (n2' : _) (vs' : _) (ns' : _) (refs : _) (rn : _) (Ss : _) (u8 : _) (u9 : _) (u10 : _) (Y : _)
    (c0 : m' = mp [(Str.ofString "script", v1), (Str.ofString "feed", some (Value.ref fd)), (Str.ofString "many", some (Value.int (many : Int) tm)), (Str.ofString "twice", some (Value.bool tw)), (Str.ofString "value", some (Value.bytes val tv)), (Str.ofString "own", some (Value.ref ow)), (Str.ofString "rows", some (Value.ref rl)), (Str.ofString "k", u8), (Str.ofString "row", u9), (Str.ofString "turned", u10)])
    (c1 : nw = (rl, listOf (List.toArray refs) rn) :: (fd, listOf #[.int sd' ts', .ref fl] n') :: (fl, listOf (List.toArray vs') n2') :: (ow, listOf (row8 S0 t1 t3 t4 t5 t6 t7 t8) n8) :: (76, oA) :: (99, oB) :: Y)
    (c2 : IntsAre vs' ns')
    (c3 : ns'.length ≤ 63)
    (c4 : (0 ≤ sd' ∧ sd' < 2147483648))
    (c5 : RowsIn Y refs Ss)
    (c6 : Ss.length = i)
    (c7 : (∀ S ∈ Ss, RowFit val S))
    (c8 : (∀ q ∈ Y, @LT.lt Nat _ rl q.1))
    (c9 : g = gs)
theorem law_p2 (w : World) (fd fl ow : Addr) (sd : Int) (ts : Tok) (n n2 n8 : Nat) (vs : List Value) (ns : List Int) (S0 : Sh) (t1 t3 t4 t5 t6 t7 t8 : Tok) (many : Nat) (tm : Tok) (tw : Bool) (val : Array UInt8) (tv : Tok) (v1 : Option Value) (oA oB : Obj) (hi : IntsAre vs ns) (hlen : ns.length ≤ 63) (hsd : 0 ≤ sd ∧ sd < 2147483648) (hm : many < 4) (hval : ValOk val) (hS : OwnOk S0) {Q : Flow → Shared → Prop}
  (l1 : @LT.lt Nat _ 99 fl) (l2 : @LT.lt Nat _ fl fd) (l3 : @LT.lt Nat _ fd ow)
  (N : News h₀ L s.heap ((ow, listOf (row8 S0 t1 t3 t4 t5 t6 t7 t8) n8) :: (fd, listOf #[.int sd ts, .ref fl] n) :: (fl, listOf (List.toArray vs) n2) :: [(76, oA), (99, oB)])) (B : Below A₀ base outer h₀)
  (F : Fr h₀ L s.heap (mp [(Str.ofString "script", v1), (Str.ofString "feed", some (Value.ref fd)), (Str.ofString "many", some (Value.int (many : Int) tm)), (Str.ofString "twice", some (Value.bool tw)), (Str.ofString "value", some (Value.bytes val tv)), (Str.ofString "own", some (Value.ref ow))])) (X : (Mine.hd.heap_1 w.params).In h₀) (T : Top p loose mean mg mb h₀)
  (hd : dp + 300 < recursionLimit) (hu : un + 1500 < cLine)
  (next : ∀ rl refs rn Ss u2 u5 u6 u8 u9 u10 Y h' tk', RowsIn Y refs Ss → Ss.length = many → (∀ S ∈ Ss, RowFit val S) →
    Fr h₀ L h' (mp [(Str.ofString "script", v1), (Str.ofString "feed", u2), (Str.ofString "many", some (Value.int (many : Int) tm)), (Str.ofString "twice", some (Value.bool tw)), (Str.ofString "value", u5), (Str.ofString "own", u6), (Str.ofString "rows", some (Value.ref rl)), (Str.ofString "k", u8), (Str.ofString "row", u9), (Str.ofString "turned", u10)]) →
    News h₀ L h' ((rl, listOf (List.toArray refs) rn) :: (76, oA) :: (99, oB) :: Y) → @LT.lt Nat _ 99 rl → (∀ q ∈ Y, @LT.lt Nat _ rl q.1) →
    wpAny (model PySem.Challenge.pw_ja0052_01 w) (ktrTop dp un gd (Str.ofString "law") lawSc L a ccd [] outer) (execs (lawB.drop 7) (lawE L a ccd)) Q (fun _ _ => False) ⟨h', s.gens, s.drawn, tk', s.os⟩)
  (hrw : PySem.Challenge.rw_ja0052_01 = PySem.Challenge.rw_ja0052_01) :
  wpAny (model PySem.Challenge.pw_ja0052_01 w) (ktrTop dp un gd (Str.ofString "law") lawSc L a ccd [] outer) (execs (lawB.drop 5) (lawE L a ccd)) Q (fun _ _ => False) s := by
  have turn := @row_turn
  generalize hrb : rowB = body at turn
  conv at hrb => lhs; whnf
  revert X hrw
  k_fill
  intro X hrw
  clear hrw
  have e : lawSc = lawSc := rfl
  conv at e => rhs; whnf
  have eb : lawB.drop 5 = lawB.drop 5 := rfl
  conv at eb => rhs; whnf
  rw [eb]
  generalize hnx : List.drop 7 _ = rest at next
  rw [e] at next ⊢
  repeat ((fail_if_success (with_reducible show wpAny _ _ (exec (Stmt.For _ _ _ _ _) _) _ _ _)); first | (dsimp only; (with_reducible show wpAny _ _ (exec (Stmt.For _ _ _ _ _) _) _ _ _)) | k_unfold | walk1 | (dsimp only; walk1) | (leave1; try dsimp only))
  refine For_ ?_
  repeat ((fail_if_success (with_reducible show wpAny _ _ (pyIter _) _ _ _)); first | (dsimp only; (with_reducible show wpAny _ _ (pyIter _) _ _ _)) | k_unfold | walk1 | (dsimp only; walk1) | (leave1; try dsimp only))
  rename_i R4 F4 N4 K4
  rename_i rl _ lrl _ _ _ _ h7 _ _ _ _
  replace F4 := (show Fr _ _ _ (mp ((Str.ofString "rows", some _) :: _)) from F4)
  replace N4 : News h₀ L h7 ((rl, listOf (List.toArray []) 0) :: (fd, listOf #[.int sd ts, .ref fl] n) :: (fl, listOf (List.toArray vs) n2) :: (ow, listOf (row8 S0 t1 t3 t4 t5 t6 t7 t8) n8) :: (76, oA) :: (99, oB) :: []) := by
    exact News.sub N4 (by walk_at "mine sub")
  refine for_rangeI (n := many) rfl R4 (small0 many (by omega)).1 (small0 many (by omega)).2 (by rfl) (by rfl) (by passes_own) F4 N4
    (RowsJ v1 fd fl ow rl many tm tw val tv S0 t1 t3 t4 t5 t6 t7 t8 n8 oA oB s.gens) ?_ ?_ ?_
  · exact ⟨sd, ts, n, n2, vs, ns, [], 0, [], _, _, _, [], mp_canon [Str.ofString "script", Str.ofString "feed", Str.ofString "many", Str.ofString "twice", Str.ofString "value", Str.ofString "own", Str.ofString "rows", Str.ofString "k", Str.ofString "row", Str.ofString "turned"] _ (by rfl), rfl, hi, hlen, hsd, .nil, rfl, (fun S h => nomatch h), (fun q h => nomatch h), rfl⟩
  · rintro I i ti m₁ news₁ g₁ own h5 tk5 hi5 hJ9 hI hown ⟨oI, hoI⟩ F5 N5
    k_fold
    obtain ⟨sd', ts', n', n2', vs', ns', refs, rn, Ss, u8, u9, u10, Y, rfl, rfl, hi1, hl1, hs1, hR, hSl, hSf, hY, rfl⟩ := hJ9
    replace F5 := (show Fr _ _ _ (mp ((Str.ofString "k", some _) :: _)) from F5)
    rw [mp_canon [Str.ofString "script", Str.ofString "feed", Str.ofString "many", Str.ofString "twice", Str.ofString "value", Str.ofString "own", Str.ofString "rows", Str.ofString "k", Str.ofString "row", Str.ofString "turned"] _ (by rfl)] at F5
    rw [← hrb] at turn
    rw [← e]
    have hIx : ∀ q ∈ (rl, listOf (List.toArray refs) rn) :: (fd, listOf #[.int sd' ts', .ref fl] n') :: (fl, listOf (List.toArray vs') n2') :: (ow, listOf (row8 S0 t1 t3 t4 t5 t6 t7 t8) n8) :: (76, oA) :: (99, oB) :: Y, q.1 ≠ I := fun q hq ee => hI q hq (List.mem_singleton.mpr ee)
    have hrf := hR.len
    refine turn w fd fl ow rl sd' ts' n' n2' rn n8 vs' refs ns' S0 t1 t3 t4 t5 t6 t7 t8 val tv v1 _ _ _ _ _ hi1 hl1 hs1 hval hS (by omega) (Nat.ne_of_gt l2) ⟨Nat.ne_of_lt lrl.2.1, Nat.ne_of_lt lrl.2.2.1, Nat.ne_of_lt l3, Nat.ne_of_lt (Nat.lt_trans l2 l3), Nat.ne_of_gt lrl.1⟩ (news := (76, oA) :: (99, oB) :: (Y ++ own)) ?_ ?_ B F5 X T hd hu ?_ rfl
    · intro q hq
      simp only [List.mem_cons, List.mem_append] at hq
      rcases hq with rfl | rfl | h | h
      · exact ⟨Nat.ne_of_lt (by omega), Nat.ne_of_lt (by omega), Nat.ne_of_lt (by omega)⟩
      · exact ⟨Nat.ne_of_lt (by omega), Nat.ne_of_lt (by omega), Nat.ne_of_lt (by omega)⟩
      · have := hY q h
        exact ⟨Nat.ne_of_gt (Nat.lt_trans lrl.2.1 this), Nat.ne_of_gt (Nat.lt_trans lrl.2.2.1 this), Nat.ne_of_gt this⟩
      · rw [List.mem_singleton.mp (hown q h)]
        exact ⟨fun q => hIx _ (.tail _ (.head _)) q.symm, fun q => hIx _ (.tail _ (.tail _ (.head _))) q.symm, fun q => hIx _ (.head _) q.symm⟩
    · exact News.sub N5 (by walk_at "mine sub")
    intro r S' sd2 ts2 n3 n4 vs2 ns2 o u9' h' tk' q1 q2 q3 q4 q5 q6 F6 N6 lr
    refine ⟨h', tk', _, _, _, (rl, listOf (List.toArray (refs ++ [.ref r])) (rn + 1)) :: (fd, listOf #[.int sd2 ts2, .ref fl] n3) :: (fl, listOf (List.toArray vs2) n4) :: (ow, listOf (row8 S0 t1 t3 t4 t5 t6 t7 t8) n8) :: (76, oA) :: (99, oB) :: ((r, o) :: Y), rfl, F6, N6, ?_, ?_, ?_, ⟨sd2, ts2, n3, n4, vs2, ns2, refs ++ [.ref r], rn + 1, Ss ++ [S'], _, _, _, (r, o) :: Y, rfl, rfl, q1, q2, q3, RowsIn.snoc (hR.mono fun q h => .tail _ h) (.head _) q6, by rw [List.length_append, hSl]; rfl, ?_, ?_, rfl⟩⟩
    · intro q hq
      simp only [List.mem_append, List.mem_cons]
      simp [hq]
    · walk_at "mine sub"
    · intro q hq hqI
      have hqI' := List.mem_singleton.mp hqI
      simp only [List.mem_cons] at hq
      rcases hq with rfl | rfl | rfl | rfl | rfl | rfl | rfl | h
      · exact hIx _ (.head _) hqI'
      · exact hIx (fd, _) (.tail _ (.head _)) hqI'
      · exact hIx (fl, _) (.tail _ (.tail _ (.head _))) hqI'
      · exact hIx _ (.tail _ (.tail _ (.tail _ (.head _)))) hqI'
      · exact hIx _ (.tail _ (.tail _ (.tail _ (.tail _ (.head _))))) hqI'
      · exact hIx _ (.tail _ (.tail _ (.tail _ (.tail _ (.tail _ (.head _)))))) hqI'
      · have := lr (I, oI) (by simp [hoI])
        dsimp only at this hqI'
        exact absurd hqI' (Nat.ne_of_gt this)
      · exact hIx q (.tail _ (.tail _ (.tail _ (.tail _ (.tail _ (.tail _ h)))))) hqI'
    · intro S hS'
      rcases List.mem_append.mp hS' with hS' | hS'
      · exact hSf S hS'
      · rw [List.mem_singleton.mp hS']; exact ⟨q5, q4⟩
    · intro q hq
      rcases List.mem_cons.mp hq with rfl | hq
      · exact lr _ (.tail _ (.tail _ (.tail _ (.head _))))
      · exact hY q hq
  · rintro m' nw g' h' tk' ⟨sd', ts', n', n2', vs', ns', refs, rn, Ss, u8, u9, u10, Y, rfl, rfl, hi1, hl1, hs1, hR, hSl, hSf, hY, rfl⟩ F5 N5
    rw [← hnx] at next
    refine next rl refs rn Ss _ _ _ u8 u9 u10 Y h' tk' hR hSl hSf F5 (News.sub N5 ?_) lrl.2.2.2.2 hY
    walk_at "mine sub"
end
section
theorem offM48 : True := by w_top off; trivial
local macro_rules | `(tactic| walk_at "mine pad") => `(tactic| skip)
open PySem.SeqAt
set_option maxRecDepth 100000
set_option maxHeartbeats 40000000
variable {p : Program} {loose : List Str} {mean : ExcName → Option Value} {mg mb : Str → Option Value}
  {dp un : Nat} {gd : Option (List Code)} {cn : Str} {cs : Scope} {a : Addr} {ccd : Value} {cl : List (Str × Addr)} {outer : List Env}
  {A₀ : Around} {E Q : Value → Shared → Prop} {s : Shared} {base h₀ : Heap} {L : Addr} {m : Str → Option Value} {news : List (Addr × Obj)}
theorem pick_take (vs : List Value) (k : Nat) : kms_pick vs.toArray.toList none (some (k : Int)) = vs.take k := by
  rw [List.toList_toArray]
  unfold kms_pick kms_lo kms_hi
  dsimp only
  rw [if_neg (by omega), List.drop_zero, Nat.sub_zero, Int.toNat_natCast]
  rcases Nat.le_total k vs.length with h | h
  · rw [Nat.min_eq_left h]
  · rw [Nat.min_eq_right h, List.take_of_length_le (Nat.le_refl _), List.take_of_length_le h]
theorem slice_take {prog : Program} {w : World} {A : Around} {Q : Value → Shared → Prop} {l : Addr} {vs : List Value} {nn : Nat} {value slice : PySem.Expr} {vl vu : Value} {k : Nat} (F : Fr h₀ L s.heap m) (N : News h₀ L s.heap news) (hl : (l, listOf vs.toArray nn) ∈ news) (pl : IsPart vl none) (pu : IsPart vu (some (k : Int)))
    (h : ∀ D h', Fr h₀ L h' m → News h₀ L h' ((D, listOf (List.toArray (vs.take k)) 0) :: news) → (∀ p ∈ news, p.1 < D) → Q (.ref D) { s with heap := h' })
    (hs : subscripted slice false (.ref l) (.ref s.heap.objs.size) = operate [.ref s.heap.objs.size, .ref l] (getItem (.ref l) (.ref s.heap.objs.size))) (ht : ∀ r, letTemporaryGo value (.ref l) r = pure ()) (hz : vs.length ≤ 1000) :
    wpAny (model prog w) A (subscriptTail value slice (.ref l) (.ref s.heap.objs.size)) Q E { s with heap := s.heap.push { cls := .type "slice", data := .fields #[vl, vu, .none] } } :=
  kms_slice_lit F N (News.isList N hl) pl pu (pick_take vs k) h hs ht (by rw [List.size_toArray, sizeLine_eq]; omega)
theorem add_ls {prog : Program} {w : World} {A : Around} {Q : Value → Shared → Prop} {a b : Addr} {vs ws : List Value} {na nb : Nat} (F : Fr h₀ L s.heap m) (N : News h₀ L s.heap news) (ha : (a, listOf vs.toArray na) ∈ news) (hb : (b, listOf ws.toArray nb) ∈ news)
    (h : ∀ D h', Fr h₀ L h' m → News h₀ L h' ((D, listOf (List.toArray (vs ++ ws)) 0) :: news) → (∀ p ∈ news, p.1 < D) → Q (.ref D) { s with heap := h' })
    (hz : vs.length + ws.length ≤ 1000) : wpAny (model prog w) A (binaryOp .Add (.ref a) (.ref b)) Q E s :=
  kmk_add_lit F N (News.isList N ha) (News.isList N hb) (by rw [List.toList_toArray, List.toList_toArray]) h (by rw [List.toList_toArray, List.toList_toArray, sizeLine_eq]; omega)
theorem RowsIn.take {a : List (Addr × Obj)} {vs : List Value} {Ss : List Sh} (h : RowsIn a vs Ss) (k : Nat) : RowsIn a (vs.take k) (Ss.take k) := by
  induction h generalizing k with
  | nil => rw [List.take_nil, List.take_nil]; exact .nil
  | cons h1 h2 _ ih =>
    cases k with
    | zero => exact .nil
    | succ k => exact .cons h1 h2 (ih k)
theorem RowsIn.app {a : List (Addr × Obj)} {vs vs' : List Value} {Ss Ss' : List Sh} (h : RowsIn a vs Ss) (h' : RowsIn a vs' Ss') : RowsIn a (vs ++ vs') (Ss ++ Ss') := by
  induction h with
  | nil => exact h'
  | cons h1 h2 _ ih => exact .cons h1 h2 ih
theorem law_p3 (w : World) (rl : Addr) (refs : List Value) (rn : Nat) (Ss : List Sh) (Y : List (Addr × Obj)) (many : Nat) (tm : Tok) (tw : Bool) (v1 u2 u5 u6 u8 u9 u10 : Option Value) (oA oB : Obj) (hm : many < 4) (hR : RowsIn Y refs Ss) (hSl : Ss.length = many) {Q : Flow → Shared → Prop}
  (l1 : @LT.lt Nat _ 99 rl) (hY : ∀ q ∈ Y, @LT.lt Nat _ rl q.1)
  (N : News h₀ L s.heap ((rl, listOf (List.toArray refs) rn) :: (76, oA) :: (99, oB) :: Y)) (B : Below A₀ base outer h₀)
  (F : Fr h₀ L s.heap (mp [(Str.ofString "script", v1), (Str.ofString "feed", u2), (Str.ofString "many", some (Value.int (many : Int) tm)), (Str.ofString "twice", some (Value.bool tw)), (Str.ofString "value", u5), (Str.ofString "own", u6), (Str.ofString "rows", some (Value.ref rl)), (Str.ofString "k", u8), (Str.ofString "row", u9), (Str.ofString "turned", u10)])) (X : (Mine.hd.heap_1 w.params).In h₀) (T : Top p loose mean mg mb h₀)
  (hd : dp + 300 < recursionLimit) (hu : un + 1500 < cLine)
  (next : ∀ rl refs rn Y h' tk', RowsIn Y refs (if tw then Ss ++ Ss.take 1 else Ss) →
    Fr h₀ L h' (mp [(Str.ofString "script", v1), (Str.ofString "feed", u2), (Str.ofString "many", some (Value.int (many : Int) tm)), (Str.ofString "twice", some (Value.bool tw)), (Str.ofString "value", u5), (Str.ofString "own", u6), (Str.ofString "rows", some (Value.ref rl)), (Str.ofString "k", u8), (Str.ofString "row", u9), (Str.ofString "turned", u10)]) →
    News h₀ L h' ((rl, listOf (List.toArray refs) rn) :: (76, oA) :: (99, oB) :: Y) → @LT.lt Nat _ 99 rl → (∀ q ∈ Y, @LT.lt Nat _ 99 q.1 ∧ q.1 ≠ rl) →
    wpAny (model PySem.Challenge.pw_ja0052_01 w) (ktrTop dp un gd (Str.ofString "law") lawSc L a ccd [] outer) (execs (lawB.drop 8) (lawE L a ccd)) Q (fun _ _ => False) ⟨h', s.gens, s.drawn, tk', s.os⟩)
  (hrw : PySem.Challenge.rw_ja0052_01 = PySem.Challenge.rw_ja0052_01) :
  wpAny (model PySem.Challenge.pw_ja0052_01 w) (ktrTop dp un gd (Str.ofString "law") lawSc L a ccd [] outer) (execs (lawB.drop 7) (lawE L a ccd)) Q (fun _ _ => False) s := by
  revert X hrw
  k_fill
  intro X hrw
  clear hrw
  have e : lawSc = lawSc := rfl
  conv at e => rhs; whnf
  have eb : lawB.drop 7 = lawB.drop 7 := rfl
  conv at eb => rhs; whnf
  rw [eb]
  generalize hnx : List.drop 8 _ = rest at next
  rw [e] at next ⊢
  have hrf := hR.len
  cases tw with
  | false =>
    repeat ((fail_if_success (with_reducible show wpAny _ _ (execs (Stmt.Assign _ _ _ :: _) _) _ _ _)); first | (dsimp only; (with_reducible show wpAny _ _ (execs (Stmt.Assign _ _ _ :: _) _) _ _ _)) | k_unfold | walk1 | (dsimp only; walk1) | (leave1; try dsimp only))
    rw [← hnx] at next
    refine next rl refs rn Y _ _ (by simpa using hR) F N l1 fun q hq => ⟨Nat.lt_trans l1 (hY q hq), Nat.ne_of_gt (hY q hq)⟩
  | true =>
    repeat ((fail_if_success (with_reducible show wpAny _ _ (subscriptTail _ _ _ _) _ _ _)); first | (dsimp only; (with_reducible show wpAny _ _ (subscriptTail _ _ _ _) _ _ _)) | k_unfold | walk1 | (dsimp only; walk1) | (leave1; try dsimp only))
    refine' slice_take (vs := refs) (k := 1) ?yF ?yN ?yl ?yp ?yq ?_ ?ys ?yt ?yz
    case yF => k_asm
    case yN => k_asm
    case yl => exact .head _
    case yp => kmk_part
    case yq => exact IsPart.int 1 _
    case ys => with_unfolding_all rfl
    case yt => kmk_pure
    case yz => omega
    intro D1 h1 F1 N1 ld1
    repeat ((fail_if_success (with_reducible show wpAny _ _ (binaryOp _ _ _) _ _ _)); first | (dsimp only; (with_reducible show wpAny _ _ (binaryOp _ _ _) _ _ _)) | k_unfold | walk1 | (dsimp only; walk1) | (leave1; try dsimp only))
    rename News _ _ _ _ => N2
    rename Fr _ _ _ _ => F2
    refine add_ls (vs := refs) (ws := refs.take 1) F2 N2 (.tail _ (.head _)) (.head _) ?_ (by rw [List.length_take]; omega)
    intro D2 h2 F3 N3 ld2
    repeat ((fail_if_success (with_reducible show wpAny _ _ (execs (Stmt.Assign _ _ _ :: _) _) _ _ _)); first | (dsimp only; (with_reducible show wpAny _ _ (execs (Stmt.Assign _ _ _ :: _) _) _ _ _)) | k_unfold | walk1 | (dsimp only; walk1) | (leave1; try dsimp only))
    rename News _ _ _ _ => N4
    rename Fr _ _ _ _ => F4
    replace F4 := (show Fr _ _ _ (mp ((Str.ofString "rows", some _) :: _)) from F4)
    rw [mp_canon [Str.ofString "script", Str.ofString "feed", Str.ofString "many", Str.ofString "twice", Str.ofString "value", Str.ofString "own", Str.ofString "rows", Str.ofString "k", Str.ofString "row", Str.ofString "turned"] _ (by rfl)] at F4
    rw [← hnx] at next
    have hl2 := ld2 (rl, listOf (List.toArray refs) rn) (.tail _ (.head _))
    refine next D2 _ 0 Y _ _ (by simpa using hR.app (hR.take 1)) F4 (News.sub N4 ?_) (Nat.lt_trans l1 hl2) fun q hq => ⟨Nat.lt_trans l1 (hY q hq), Nat.ne_of_lt (ld2 q (.tail _ (.tail _ (.tail _ (.tail _ hq)))))⟩
    walk_at "mine sub"
end
section
open PyProof.Rows.LCg (NsObj lst lst_snoc Off3 Off1 ns_obj fr_but news_but)
set_option maxRecDepth 100000
set_option maxHeartbeats 1000000
section
variable {prog : Program} {w : World} {A : Around} {E : Value → Shared → Prop} {s : Shared} {h₀ : Heap} {L : Addr} {m : Str → Option Value} {env : Env}
theorem hide_at (h : Heap) (C : Addr) : ∃ h₃, Heap.SameBut C h h₃ ∧ h₃.get? C = none := by
  refine ⟨h.update C fun o => { o with data := .freed }, Heap.SameBut.update _ _ _, ?_⟩
  obtain ⟨objs, l⟩ := h
  simp only [Heap.update, Heap.get?, Array.getElem?_modify, if_true]
  cases objs[C]? with
  | none => rfl
  | some o => rfl
/-- the name that takes the list is stored before the comprehension's own names go -/
def AsgQ (h₀ : Heap) (L : Addr) (m : Str → Option Value) (y : Str) (Q : Flow → Shared → Prop) (v : Value) (s' : Shared) : Prop :=
  ∃ all, News h₀ L s'.heap all ∧ ∀ h₂ tk, Fr h₀ L h₂ (fun z => if z = y then some v else m z) → News h₀ L h₂ all → Q .next { s' with heap := h₂, toks := tk }
theorem asg_fin {y : Str} {py : Pos} {Q : Flow → Shared → Prop} {C D : Addr} {m' : Str → Option Value} {s' : Shared} (hLe : env.locals = L) (hy : env.kindOf y = some .local) (hp : (env.scope.kind == .class || (env.scope.kind == .module && env.locals != env.globals)) = false)
    (F : Fr h₀ L s'.heap m) (hn : s'.heap.Ns C m') (hCL : C ≠ L) (hC₀ : h₀.get? C = none)
    (fin : ∀ h₃, Fr h₀ L h₃ m → Heap.SameBut C s'.heap h₃ → AsgQ h₀ L m y Q (.ref D) { s' with heap := h₃ }) :
    wpAny (model prog w) A (assign (.Name y py) env (.ref D)) (fun _ s'' => ∃ m, s''.heap.Ns C m ∧ ∀ h', Heap.SameBut C s''.heap h' → Q .next { s'' with heap := h' }) E s' := by
  subst hLe
  refine wpAny_assign_Name (wpAny_storeName_local hy F.ns (fun h₂ hn₂ hs₂ => ?_) hp)
  have hL₀ : h₀.get? env.locals = none := Heap.get?_none_of_le F.above
  have F₂ : Fr h₀ env.locals h₂ (fun z => if z = y then some (.ref D) else m z) := ⟨hn₂, fun b o e => hs₂.extBut b o (fun q => by rw [q, hL₀] at e; cases e) (F.keep b o e), F.above⟩
  refine ⟨m', hn.sameBut hs₂ hCL, fun h'' hs'' => ?_⟩
  obtain ⟨h₃, hs₃, hC₃⟩ := hide_at s'.heap C
  obtain ⟨all, Na, q⟩ := fin h₃ (F.change hs₃ hCL hC₀) hs₃
  refine q h'' _ (F₂.change hs'' hCL hC₀) fun p hp => ?_
  have z := Na p hp
  have hpC : p.1 ≠ C := fun e => by have z1 : h₃.get? p.1 = some p.2 := z.1; rw [e, hC₃] at z1; cases z1
  have z1 : s'.heap.get? p.1 = some p.2 := (hs₃.2 _ hpC).symm.trans z.1
  exact ⟨hs''.extBut _ _ hpC (hs₂.extBut _ _ z.2.1 z1), z.2⟩
theorem Assign_ListComp_J {elt iter : Expr} {x y : Str} {px py : Pos} {scope : Scope} {cl : List (Str × Addr)} {pos spos : Pos} {Q : Flow → Shared → Prop} (_F₀ : Fr h₀ L s.heap m) (hLe : env.locals = L)
    (hsw : swapsWith (.ListComp elt [⟨.Name x px, iter, [], 0⟩] scope pos) (some (.Name y py)) spos.line env = pure true)
    (hclos : closureFor scope env = pure cl) (hcell : ∀ y ∈ scope.names, y.2 ≠ .cell) (hkind : scope.kind = .function)
    (hnames : ∀ y ∈ scope.names, y.2 = .local → scope.names.lookup y.1 = some .local) (hx : scope.names.lookup x = some .local)
    (hy : env.kindOf y = some .local) (hp : (env.scope.kind == .class || (env.scope.kind == .module && env.locals != env.globals)) = false)
    (h : wpAny (model prog w) A (eval iter env) (fun xv s₁ => wpAny (model prog w) A (pyIter xv) (CSrc prog w A h₀ L m env elt x scope cl (AsgQ h₀ L m y Q)) E s₁) E s)
    (hs : ∀ x, foldedSetIterable iter env x = pure x := by intro _; rfl) :
    wpAny (model prog w) A (exec (.Assign [.Name y py] (.ListComp elt [⟨.Name x px, iter, [], 0⟩] scope pos) spos) env) Q E s := by
  rw [exec_Assign_Name_used _ _ _ _ hsw]
  refine wpAny_bind (wpAny_standAt (wpAny_bind ?_))
  show wpAny _ A (do let _ ← comprehension (.ListComp elt [⟨.Name x px, iter, [], 0⟩] scope pos) scope env _ (newList []) false (eval iter env) (some (assign (.Name y py) env))) _ _ s
  refine wpAny_bind (wpAny_mono (wpAny_comprehension_free (use := some (assign (.Name y py) env)) (Q := fun _ s' => Q .next s') rfl hs hclos hkind hnames
    (wpAny_mono h (fun xv s₁ h₁ => wpAny_mono h₁ (fun it s₂ h₂ => ?_) fun _ _ e => e) fun _ _ e => e)) (fun _ s' hq => wpAny_pure (wpAny_pure hq)) fun _ _ e => e)
  obtain ⟨I, fp, n, P, St, news, J, rfl, W, hsz, hIo, hSt, hst, hfp, F, N, hIL, hI₀, off, hJ, turn, fin⟩ := h₂
  refine block_J W hsz hIo hSt hcell hkind hx hst hfp F N hIL hI₀ off hJ turn ?_
  intro D C h tk g' m' ys news' hDs hyl F' N' o1 hn hC₀ hD₀ hCL hDL hCD offC hJ'
  refine asg_fin (s' := ⟨h, g', s₂.drawn, tk, s₂.os⟩) hLe hy hp F' hn hCL hC₀ fun h₃ F₃ hs₃ => fin D h₃ tk g' ys news' hDs hyl F₃ (fun p hp => ?_) o1 hJ'
  refine ⟨hs₃.extBut _ _ ?_ (N' p hp).1, (N' p hp).2⟩
  rcases List.mem_cons.mp hp with rfl | hp
  · exact Ne.symm hCD
  · exact offC p hp
theorem Assign_ListComp_G {elt iter : Expr} {x y : Str} {px py : Pos} {scope : Scope} {cl : List (Str × Addr)} {pos spos : Pos} {Q : Flow → Shared → Prop} (hh : A.handled = none) (hroom : A.depth < recursionLimit) (_F₀ : Fr h₀ L s.heap m) (hLe : env.locals = L)
    (hsw : swapsWith (.ListComp elt [⟨.Name x px, iter, [], 0⟩] scope pos) (some (.Name y py)) spos.line env = pure true)
    (hclos : closureFor scope env = pure cl) (hcell : ∀ y ∈ scope.names, y.2 ≠ .cell) (hkind : scope.kind = .function)
    (hnames : ∀ y ∈ scope.names, y.2 = .local → scope.names.lookup y.1 = some .local) (hx : scope.names.lookup x = some .local)
    (hy : env.kindOf y = some .local) (hp : (env.scope.kind == .class || (env.scope.kind == .module && env.locals != env.globals)) = false)
    (h : wpAny (model prog w) A (eval iter env) (fun xv s₁ => wpAny (model prog w) A (pyIter xv) (CSrcG prog w A h₀ L m env elt x scope cl (AsgQ h₀ L m y Q)) E s₁) E s)
    (hs : ∀ x, foldedSetIterable iter env x = pure x := by intro _; rfl) :
    wpAny (model prog w) A (exec (.Assign [.Name y py] (.ListComp elt [⟨.Name x px, iter, [], 0⟩] scope pos) spos) env) Q E s := by
  rw [exec_Assign_Name_used _ _ _ _ hsw]
  refine wpAny_bind (wpAny_standAt (wpAny_bind ?_))
  show wpAny _ A (do let _ ← comprehension (.ListComp elt [⟨.Name x px, iter, [], 0⟩] scope pos) scope env _ (newList []) false (eval iter env) (some (assign (.Name y py) env))) _ _ s
  refine wpAny_bind (wpAny_mono (wpAny_comprehension_free (use := some (assign (.Name y py) env)) (Q := fun _ s' => Q .next s') rfl hs hclos hkind hnames
    (wpAny_mono h (fun xv s₁ h₁ => wpAny_mono h₁ (fun it s₂ h₂ => ?_) fun _ _ e => e) fun _ _ e => e)) (fun _ s' hq => wpAny_pure (wpAny_pure hq)) fun _ _ e => e)
  obtain ⟨a, g, fp, C, l, its, oa, oC, news, hd, J, rfl, G0, hsz, hsize, F, N, haC, hoff, held, hJh, hst, h0, turn, fin⟩ := h₂
  refine block_G G0 hh hroom hsz hsize hcell hkind hx F N haC hoff held hJh hst h0 turn ?_
  intro D CC h tk g' m' ys nw hyl F' N' o1 hn hC₀ hCL hDC offC go hg hJ'
  refine asg_fin (s' := ⟨h, g', s₂.drawn, tk, s₂.os⟩) hLe hy hp F' hn hCL hC₀ fun h₃ F₃ hs₃ => fin D h₃ tk g' ys nw hyl F₃ (fun p hp => ?_) o1 go hg hJ'
  refine ⟨hs₃.extBut _ _ ?_ (N' p hp).1, (N' p hp).2⟩
  rcases List.mem_cons.mp hp with rfl | hp
  · exact hDC
  · exact offC p hp
end
end
section
theorem offM49 : True := by w_top off; trivial
open PySem.SeqAt
open PyProof.Rows.LCg (NsObj lst lst_snoc Off3 Off1 ns_obj fr_but news_but)
set_option maxRecDepth 100000
set_option maxHeartbeats 40000000
variable {p : Program} {loose : List Str} {mean : ExcName → Option Value} {mg mb : Str → Option Value}
  {dp un : Nat} {gd : Option (List Code)} {cn : Str} {cs : Scope} {a : Addr} {ccd : Value} {cl : List (Str × Addr)} {outer : List Env}
  {A₀ : Around} {E Q : Value → Shared → Prop} {s : Shared} {base h₀ : Heap} {L : Addr} {m : Str → Option Value} {news : List (Addr × Obj)}
theorem row_good {v : Array UInt8} {S : Sh} (hv : ValOk v) (h : RowFit v S) : Good S := by
  obtain ⟨⟨h1, h2, h3, h4, h5, h6, h7⟩, h8⟩ := h
  obtain ⟨q1, q2, q3⟩ := hv
  refine ⟨⟨h1, h2, h3, ⟨h4.1, Nat.le_trans h4.2 (by decide)⟩, ⟨Nat.le_trans (by decide) h5.1, h5.2⟩, h6, h7⟩, ?_, ?_, ?_, ?_⟩ <;> first | (rw [h8]; assumption) | exact Nat.le_trans h4.2 h5.1 | omega
theorem RowsIn.item {nw : List (Addr × Obj)} {vs : List Value} {Ss : List Sh} (h : RowsIn nw vs Ss) : ∀ {i : Nat} {v : Value}, vs[i]? = some v → ∃ r o S, v = .ref r ∧ (r, o) ∈ nw ∧ IsRow S o ∧ Ss[i]? = some S := by
  induction h with
  | nil => intro i v e; simp at e
  | cons h1 h2 _ ih =>
    intro i v e
    cases i with
    | zero => simp at e; subst e; exact ⟨_, _, _, rfl, h1, h2, rfl⟩
    | succ i => simpa using ih (i := i) (v := v) (by simpa using e)
theorem TxIn.snoc {vs : List Value} {Ss : List Sh} {S : Sh} {t : Tok} (h : TxIn vs Ss) : TxIn (vs ++ [.str (mnemS (allN S)) t]) (Ss ++ [S]) := by
  induction h with
  | nil => exact .cons t .nil
  | cons t' _ ih => exact .cons t' ih
theorem TxIn.take {vs : List Value} {Ss : List Sh} (h : TxIn vs Ss) (k : Nat) : TxIn (vs.take k) (Ss.take k) := by
  induction h generalizing k with
  | nil => rw [List.take_nil, List.take_nil]; exact .nil
  | cons t _ ih =>
    cases k with
    | zero => exact .nil
    | succ k => exact .cons t (ih k)
theorem TxIn.app {vs vs' : List Value} {Ss Ss' : List Sh} (h : TxIn vs Ss) (h' : TxIn vs' Ss') : TxIn (vs ++ vs') (Ss ++ Ss') := by
  induction h with
  | nil => exact h'
  | cons t _ ih => exact .cons t ih
theorem law_p4 (w : World) (rl : Addr) (refs : List Value) (rn : Nat) (Ss : List Sh) (Y : List (Addr × Obj)) (many : Nat) (tm : Tok) (tw : Bool) (val : Array UInt8) (v1 u2 v4 u5 u6 u8 u9 u10 : Option Value) (oA oB : Obj) (hm : many < 4) (hSl : Ss.length = many) (hval : ValOk val) (hSf : ∀ S ∈ Ss, RowFit val S) (hR : RowsIn Y refs (if tw then Ss ++ Ss.take 1 else Ss)) {Q : Flow → Shared → Prop}
  (tA : TabOk oA) (tB : TabOk oB) (C76 : CodeHd h₀ 80 76) (C99 : CodeHd h₀ 103 99) (G : AllBare s.gens)
  (l1 : @LT.lt Nat _ 99 rl) (hY : ∀ q ∈ Y, @LT.lt Nat _ 99 q.1 ∧ q.1 ≠ rl)
  (N : News h₀ L s.heap ((rl, listOf (List.toArray refs) rn) :: (76, oA) :: (99, oB) :: Y)) (B : Below A₀ base outer h₀)
  (F : Fr h₀ L s.heap (mp [(Str.ofString "script", v1), (Str.ofString "feed", u2), (Str.ofString "many", some (Value.int (many : Int) tm)), (Str.ofString "twice", v4), (Str.ofString "value", u5), (Str.ofString "own", u6), (Str.ofString "rows", some (Value.ref rl)), (Str.ofString "k", u8), (Str.ofString "row", u9), (Str.ofString "turned", u10)])) (X : (Mine.hd.heap_1 w.params).In h₀) (T : Top p loose mean mg mb h₀)
  (hd : dp + 300 < recursionLimit) (hu : un + 1500 < cLine)
  (next : ∀ tl tvs tn oA oB h' tk' g', AllBare g' → TabOk oA → TabOk oB → TxIn tvs (if tw then Ss ++ Ss.take 1 else Ss) →
    Fr h₀ L h' (mp [(Str.ofString "script", v1), (Str.ofString "feed", u2), (Str.ofString "many", some (Value.int (many : Int) tm)), (Str.ofString "twice", v4), (Str.ofString "value", u5), (Str.ofString "own", u6), (Str.ofString "rows", some (Value.ref rl)), (Str.ofString "k", u8), (Str.ofString "row", u9), (Str.ofString "turned", u10), (Str.ofString "texts", some (Value.ref tl))]) →
    News h₀ L h' ((tl, listOf (List.toArray tvs) tn) :: (rl, listOf (List.toArray refs) rn) :: (76, oA) :: (99, oB) :: Y) → (∀ q ∈ (rl, listOf (List.toArray refs) rn) :: Y, @LT.lt Nat _ q.1 tl) →
    wpAny (model PySem.Challenge.pw_ja0052_01 w) (ktrTop dp un gd (Str.ofString "law") lawSc L a ccd [] outer) (execs (lawB.drop 10) (lawE L a ccd)) Q (fun _ _ => False) ⟨h', g', s.drawn, tk', s.os⟩)
  (hrw : PySem.Challenge.rw_ja0052_01 = PySem.Challenge.rw_ja0052_01) :
  wpAny (model PySem.Challenge.pw_ja0052_01 w) (ktrTop dp un gd (Str.ofString "law") lawSc L a ccd [] outer) (execs (lawB.drop 8) (lawE L a ccd)) Q (fun _ _ => False) s := by
  revert X hrw
  k_fill
  intro X hrw
  clear hrw
  have e : lawSc = lawSc := rfl
  conv at e => rhs; whnf
  have eb : lawB.drop 8 = lawB.drop 8 := rfl
  conv at eb => rhs; whnf
  rw [eb]
  generalize hnx : List.drop 10 _ = rest at next
  rw [e] at next ⊢
  have hrf := hR.len
  have hrl : refs.length ≤ 6 := by
    rw [hrf]; split
    · rw [List.length_append, List.length_take]; omega
    · omega
  have hmle : many ≤ refs.length := by
    rw [hrf]; split
    · rw [List.length_append]; omega
    · omega
  repeat ((fail_if_success (with_reducible show wpAny _ _ (exec (Stmt.Assign _ _ _) _) _ _ _)); first | (dsimp only; (with_reducible show wpAny _ _ (exec (Stmt.Assign _ _ _) _) _ _ _)) | k_unfold | walk1 | (dsimp only; walk1) | (leave1; try dsimp only))
  refine Assign_ListComp_J (by k_asm) (by rfl) (by with_unfolding_all rfl) (by with_unfolding_all rfl) (by decide) (by rfl) (by decide) (by rfl) (by rfl) (by rfl) ?_
  repeat ((fail_if_success (with_reducible show wpAny _ _ (subscriptTail _ _ _ _) _ _ _)); first | (dsimp only; (with_reducible show wpAny _ _ (subscriptTail _ _ _ _) _ _ _)) | k_unfold | walk1 | (dsimp only; walk1) | (leave1; try dsimp only))
  refine' slice_take (vs := refs) (k := many) ?yF ?yN ?yl ?yp ?yq ?_ ?ys ?yt ?yz
  case yF => k_asm
  case yN => k_asm
  case yl => exact .head _
  case yp => kmk_part
  case yq => exact IsPart.int _ _
  case ys => with_unfolding_all rfl
  case yt => kmk_pure
  case yz => first | exact Nat.le_trans hrl (by decide) | omega
  intro D1 h1 F1 N1 ld1
  repeat ((fail_if_success (with_reducible show wpAny _ _ (pyIter _) _ _ _)); first | (dsimp only; (with_reducible show wpAny _ _ (pyIter _) _ _ _)) | k_unfold | walk1 | (dsimp only; walk1) | (leave1; try dsimp only))
  have hRt : RowsIn Y (refs.take many) Ss := by
    have := hR.take many
    have e1 : (if tw = true then Ss ++ Ss.take 1 else Ss).take many = Ss := by
      split
      · rw [List.take_append_of_le_length (by omega), List.take_of_length_le (by omega)]
      · rw [List.take_of_length_le (by omega)]
    rw [e1] at this
    exact this
  have hrt := hRt.len
  rename News _ _ _ _ => N2
  rename Fr _ _ _ _ => F2
  refine comp_list rfl (fun i ys nw g => ∃ oA oB, nw = (76, oA) :: (99, oB) :: (D1, listOf (List.toArray (refs.take many)) 0) :: (rl, listOf (List.toArray refs) rn) :: Y ∧ AllBare g ∧ TabOk oA ∧ TabOk oB ∧ TxIn ys (Ss.take i)) F2 N2 (.head _) (by rw [hrt]; omega) ?_ ?_ ⟨oA, oB, rfl, G, tA, tB, .nil⟩ ?_ ?_
  · walk_at "mine sub"
  · rintro i ys nw g ⟨oA, oB, rfl, _⟩
    exact .tail _ (.tail _ (.head _))
  · rintro i ys _ g v I oI C oC D m₂ h tk E' hv hyl hJ9 hoC hx F3 N3 off3 ne3 lID lDC lI
    k_fold
    obtain ⟨oA1, oB1, rfl, G1, tA1, tB1, hys⟩ := hJ9
    obtain ⟨r, o, S, rfl, hro, ⟨t1, t3, t4, t5, t6, t7, t8, tb, nr, rfl⟩, hSi⟩ := hRt.item hv
    have hro2 : (r, listOf (row9 S t1 t3 t4 t5 t6 t7 t8 tb) nr) ∈ (I, oI) :: (C, oC) :: (D, lst ys) :: (76, oA1) :: (99, oB1) :: (D1, listOf (List.toArray (refs.take many)) 0) :: (rl, listOf (List.toArray refs) rn) :: Y := .tail _ (.tail _ (.tail _ (.tail _ (.tail _ (.tail _ (.tail _ hro))))))
    unfold row9 at hro2
    repeat ((fail_if_success (with_reducible show wpAny _ _ (call (Value.ref 415) _ _) _ _ _)); first | (dsimp only; (with_reducible show wpAny _ _ (call (Value.ref 415) _ _) _ _ _)) | k_unfold | walk1 | (dsimp only; walk1) | (leave1; try dsimp only))
    rename News _ _ _ _ => N4
    rename Fr _ _ _ _ => F4
    refine share_new w S _ _ _ _ _ _ _ _ _ _ _ _ _ _ _ rfl rfl rfl rfl rfl rfl rfl N4 B F4 X T rfl (by walk_at "mine depth") (by walk_at "mine depth") ?_ rfl
    intro x d od h5 tk5 F5 N5 ld5 lx5 hS5
    obtain ⟨k1, k2, k3, k4, k5, k6, k7, k8, k9, u1, u3, u4, u5, u6, u7, u8, ub, rfl⟩ := hS5
    unfold shObj at N5
    repeat ((fail_if_success (with_reducible show wpAny _ _ (call _ _ _) _ _ _)); first | (dsimp only; (with_reducible show wpAny _ _ (call _ _ _) _ _ _)) | k_unfold | walk1 | (dsimp only; walk1) | (leave1; try dsimp only))
    rename News _ _ _ _ => N6
    rename Fr _ _ _ _ => F6
    have gS := row_good hval (hSf S (List.mem_of_getElem? hSi))
    have hIrl : @LT.lt Nat _ 99 I := Nat.lt_trans l1 (lI (rl, _) (.tail _ (.head _)))
    have hrlD : @LT.lt Nat _ rl D1 := ld1 (rl, _) (.head _)
    refine mnemonic_spec w S x d _ oA1 oB1 ⟨k1, k2, k3, k4, k5, k6, k7, k8, k9, u1, u3, u4, u5, u6, u7, u8, ub, rfl⟩ gS.hi gS.ok tA1 tB1 (news := (x, instObj 415 d) :: (d, shObj w S k1 k2 k3 k4 k5 k6 k7 k8 k9 u1 u3 u4 u5 u6 u7 u8 ub) :: (I, oI) :: (C, oC) :: (D, lst ys) :: (D1, listOf (List.toArray (refs.take many)) 0) :: (rl, listOf (List.toArray refs) rn) :: Y) (News.sub N6 ?_) (.head _) (.tail _ (.head _)) ?_ C76 C99 G1 B F6 X T rfl (by walk_at "mine depth") (by walk_at "mine depth") ?_ rfl
    · intro q hq
      simp only [List.mem_cons] at hq ⊢
      rcases hq with h | h | h | h | h | h | h | h | h | h <;> first | (simp [h]; done) | exact .inr (.inl h)
    · intro q hq
      have hdI := ld5 (I, oI) (by simp)
      simp only [List.mem_cons] at hq
      rcases hq with rfl | rfl | rfl | rfl | rfl | rfl | rfl | h
      · exact Nat.lt_trans hIrl (Nat.lt_trans hdI lx5)
      · exact Nat.lt_trans hIrl hdI
      · exact hIrl
      · exact Nat.lt_trans hIrl (Nat.lt_trans lID lDC)
      · exact Nat.lt_trans hIrl lID
      · exact Nat.lt_trans l1 hrlD
      · exact l1
      · exact (hY q h).1
    intro t h7 tk7 g7 oA2 oB2 G2 tA2 tB2 F7 N7
    refine ⟨h7, tk7, g7, _, (76, oA2) :: (99, oB2) :: (D1, listOf (List.toArray (refs.take many)) 0) :: (rl, listOf (List.toArray refs) rn) :: Y, rfl, F7, N7, ?_, ?_, oA2, oB2, rfl, G2, tA2, tB2, ?_⟩
    · walk_at "mine sub"
    · intro q hq
      simp only [List.mem_cons] at hq
      rcases hq with rfl | rfl | rfl | rfl | h
      · exact off3 (76, oA1) (by simp)
      · exact off3 (99, oB1) (by simp)
      · exact off3 _ (by simp)
      · exact off3 _ (by simp)
      · exact off3 q (by simp [h])
    · rw [List.take_add_one, hSi]
      exact TxIn.snoc hys
  · intro D h5 tk5 g5 ys nw lD hyl F5 N5 ne5 hJ
    obtain ⟨oA2, oB2, rfl, G2, tA2, tB2, hys⟩ := hJ
    refine ⟨_, N5, fun h6 tk6 F6 N6 => ?_⟩
    rw [hrt, List.take_of_length_le (Nat.le_refl _)] at hys
    rename News _ _ _ _ => N7
    rename Fr _ _ _ _ => F7
    replace F7 := (show Fr _ _ _ (mp ((Str.ofString "texts", some _) :: _)) from F7)
    rw [mp_canon [Str.ofString "script", Str.ofString "feed", Str.ofString "many", Str.ofString "twice", Str.ofString "value", Str.ofString "own", Str.ofString "rows", Str.ofString "k", Str.ofString "row", Str.ofString "turned", Str.ofString "texts"] _ (by rfl)] at F7
    repeat ((fail_if_success (with_reducible show wpAny _ _ (call (Value.builtin "len") _ _) _ _ _)); first | (dsimp only; (with_reducible show wpAny _ _ (call (Value.builtin "len") _ _) _ _ _)) | k_unfold | walk1 | (dsimp only; walk1) | (leave1; try dsimp only))
    rename News _ _ _ _ => N8
    refine call_len_list (News.isList N8 (.tail _ (.tail _ (.tail _ (.tail _ (.head _)))))) (by rw [List.size_toArray]; exact fit63 hrl (by decide)) ?_
    repeat ((fail_if_success (with_reducible show wpAny _ _ (subscriptTail _ _ _ _) _ _ _)); first | (dsimp only; (with_reducible show wpAny _ _ (subscriptTail _ _ _ _) _ _ _)) | k_unfold | walk1 | (dsimp only; walk1) | (leave1; try dsimp only))
    rename News _ _ _ _ => N9
    refine' slice_take (vs := ys) (k := refs.length - many) ?yF ?yN ?yl ?yp ?yq ?_ ?ys ?yt ?yz
    case yF => k_asm
    case yN => k_asm
    case yl => exact .head _
    case yp => kmk_part
    case yq =>
      have hh : ((List.toArray refs).size : Int) - (many : Int) = ((refs.length - many : Nat) : Int) := by
        rw [List.size_toArray]
        exact (Int.ofNat_sub hmle).symm
      rw [← hh]
      exact IsPart.int _ _
    case ys => with_unfolding_all rfl
    case yt => kmk_pure
    case yz => omega
    intro D2 h8 F8 N8' ld2
    repeat ((fail_if_success (with_reducible show wpAny _ _ (binaryOp _ _ _) _ _ _)); first | (dsimp only; (with_reducible show wpAny _ _ (binaryOp _ _ _) _ _ _)) | k_unfold | walk1 | (dsimp only; walk1) | (leave1; try dsimp only))
    rename News _ _ _ _ => N10
    rename Fr _ _ _ _ => F10
    refine add_ls (vs := ys) (ws := ys.take (refs.length - many)) F10 N10 (.tail _ (.head _)) (.head _) ?_ (by rw [List.length_take]; omega)
    intro D3 h9 F9 N9' ld3
    repeat ((fail_if_success (with_reducible show wpAny _ _ (execs (Stmt.Assign _ _ _ :: _) _) _ _ _)); first | (dsimp only; (with_reducible show wpAny _ _ (execs (Stmt.Assign _ _ _ :: _) _) _ _ _)) | k_unfold | walk1 | (dsimp only; walk1) | (leave1; try dsimp only))
    rename News _ _ _ _ => N11
    rename Fr _ _ _ _ => F11
    replace F11 := (show Fr _ _ _ (mp ((Str.ofString "texts", some _) :: _)) from F11)
    rw [mp_canon [Str.ofString "script", Str.ofString "feed", Str.ofString "many", Str.ofString "twice", Str.ofString "value", Str.ofString "own", Str.ofString "rows", Str.ofString "k", Str.ofString "row", Str.ofString "turned", Str.ofString "texts"] _ (by rfl)] at F11
    rw [← hnx] at next
    refine next D3 (ys ++ ys.take (refs.length - many)) 0 oA2 oB2 _ _ _ G2 tA2 tB2 ?_ F11 (News.sub N11 ?_) ?_
    · cases tw with
      | true =>
        have h1 : refs.length - many = (Ss.take 1).length := by
          rw [hrf, if_pos rfl, List.length_append, hSl]; exact Nat.add_sub_cancel_left ..
        have h2 : Ss.take (refs.length - many) = Ss.take 1 := by
          rw [h1, List.length_take, ← List.take_take, List.take_of_length_le (Nat.le_refl _)]
        have := hys.app (hys.take (refs.length - many))
        rw [h2] at this
        exact this
      | false =>
        have h1 : refs.length - many = 0 := by
          rw [hrf, if_neg (by decide), hSl]; exact Nat.sub_self _
        rw [h1, List.take_zero, List.append_nil]
        exact hys
    · walk_at "mine sub"
    · intro q hq
      exact ld3 q (.tail _ (.tail _ (.tail _ (.tail _ (.tail _ hq)))))
end
section
theorem offM50 : True := by w_top off; trivial
local macro_rules | `(tactic| walk_at "mine pad") => `(tactic| skip)
open PySem.SeqAt
set_option maxRecDepth 100000
set_option maxHeartbeats 4000000
variable {p : Program} {loose : List Str} {mean : ExcName → Option Value} {mg mb : Str → Option Value}
  {dp un : Nat} {gd : Option (List Code)} {cn : Str} {cs : Scope} {a : Addr} {ccd : Value} {cl : List (Str × Addr)} {outer : List Env}
  {A₀ : Around} {E Q : Value → Shared → Prop} {s : Shared} {base h₀ : Heap} {L : Addr} {m : Str → Option Value} {news : List (Addr × Obj)}
theorem row_eq (A : Around) (s : Shared) (S S' : Sh) (t1 t3 t4 t5 t6 t7 t8 tb u1 u3 u4 u5 u6 u7 u8 ub : Tok) : ∃ e : Nat → Bool, (∀ j (h1 : j < (row9 S t1 t3 t4 t5 t6 t7 t8 tb).size) (h2 : j < (row9 S' u1 u3 u4 u5 u6 u7 u8 ub).size), EqAt A s (row9 S t1 t3 t4 t5 t6 t7 t8 tb)[j] (row9 S' u1 u3 u4 u5 u6 u7 u8 ub)[j] (e j)) ∧ (List.range (row9 S t1 t3 t4 t5 t6 t7 t8 tb).size).all e = shB S S' := by
  refine ⟨fun j => ([((S.id : Int) == (S'.id : Int)), (S.ext == S'.ext), ((S.exp : Int) == (S'.exp : Int)), ((S.gi : Int) == (S'.gi : Int)), ((S.gt : Int) == (S'.gt : Int)), ((S.gc : Int) == (S'.gc : Int)), ((S.ix : Int) == (S'.ix : Int)), ((S.mt : Int) == (S'.mt : Int)), (S.val.toList == S'.val.toList)] : List Bool).getD j true, ?_, ?_⟩
  · intro j h1 h2
    have hj : j = 0 ∨ j = 1 ∨ j = 2 ∨ j = 3 ∨ j = 4 ∨ j = 5 ∨ j = 6 ∨ j = 7 ∨ j = 8 := (by decide : ∀ j, j < 9 → j = 0 ∨ j = 1 ∨ j = 2 ∨ j = 3 ∨ j = 4 ∨ j = 5 ∨ j = 6 ∨ j = 7 ∨ j = 8) j h1
    rcases hj with rfl | rfl | rfl | rfl | rfl | rfl | rfl | rfl | rfl
    · exact EqAt.int_int _ _ _ _
    · exact EqAt.bool_bool _ _
    · exact EqAt.int_int _ _ _ _
    · exact EqAt.int_int _ _ _ _
    · exact EqAt.int_int _ _ _ _
    · exact EqAt.int_int _ _ _ _
    · exact EqAt.int_int _ _ _ _
    · exact EqAt.int_int _ _ _ _
    · exact eqAt_bytes _ _ _ _
  · show ((((S.id : Int) == (S'.id : Int)) && ((S.ext == S'.ext) && (((S.exp : Int) == (S'.exp : Int)) && (((S.gi : Int) == (S'.gi : Int)) && (((S.gt : Int) == (S'.gt : Int)) && (((S.gc : Int) == (S'.gc : Int)) && (((S.ix : Int) == (S'.ix : Int)) && (((S.mt : Int) == (S'.mt : Int)) && ((S.val.toList == S'.val.toList) && true)))))))))) = _
    rw [Bool.eq_iff_iff]
    simp only [shB, Bool.and_eq_true, beq_iff_eq, and_true, decide_eq_true_eq, gpK, Prod.mk.injEq, Int.natCast_inj]
    constructor
    · rintro ⟨a1, a2, a3, a4, a5, a6, a7, a8, a9⟩; exact ⟨⟨a1, a2, a3, a4, a5, a6, a8⟩, a7, a9⟩
    · rintro ⟨⟨a1, a2, a3, a4, a5, a6, a8⟩, a7, a9⟩; exact ⟨a1, a2, a3, a4, a5, a6, a7, a8, a9⟩
theorem row_inj {S S' : Sh} {o : Obj} (h : IsRow S o) (h' : IsRow S' o) : S = S' := by
  obtain ⟨t1, t3, t4, t5, t6, t7, t8, tb, n, rfl⟩ := h
  obtain ⟨u1, u3, u4, u5, u6, u7, u8, ub, n', e⟩ := h'
  simp only [W.listOf, row9, Obj.mk.injEq, Data.seq.injEq, Array.mk.injEq, List.cons.injEq, Value.int.injEq, Value.bool.injEq, Value.bytes.injEq, Int.natCast_inj, and_true, true_and] at e
  obtain ⟨⟨⟨q1, -⟩, q2, ⟨q3, -⟩, ⟨q4, -⟩, ⟨q5, -⟩, ⟨q6, -⟩, ⟨q7, -⟩, ⟨q8, -⟩, q9, -⟩, -⟩ := e
  cases S; cases S'; simp only at *; subst q1 q2 q3 q4 q5 q6 q7 q8 q9; rfl
theorem row_at {A : Around} {s : Shared} {r r' : Addr} {S S' : Sh} {o o' : Obj} (h1 : s.heap.get? r = some o) (h2 : s.heap.get? r' = some o') (hS : IsRow S o) (hS' : IsRow S' o') (hu : A.units < cLine) : EqAt A s (.ref r) (.ref r') (shB S S') := by
  by_cases e : r = r'
  · subst e
    rw [h1] at h2
    cases h2
    rw [row_inj hS hS', (shB_iff _ _).mpr rfl]
    exact EqAt.same _
  · obtain ⟨t1, t3, t4, t5, t6, t7, t8, tb, n, rfl⟩ := hS
    obtain ⟨u1, u3, u4, u5, u6, u7, u8, ub, n', rfl⟩ := hS'
    obtain ⟨f, hf, hall⟩ := row_eq A.in1 s S S' t1 t3 t4 t5 t6 t7 t8 tb u1 u3 u4 u5 u6 u7 u8 ub
    refine EqAt.of_refs e ?_
    rw [← hall]
    exact RcAt.lists ⟨_, h1, rfl, _, rfl⟩ ⟨_, h2, rfl, _, rfl⟩ rfl hu hf
theorem cpl_ne {prog : Program} {w : World} {A : Around} {Q : Value → Shared → Prop} {a b : Addr} {S S' : Sh} {t1 t3 t5 t6 u1 u3 u5 u6 : Tok} {n n' : Nat} (N : News h₀ L s.heap news) (h1 : (a, listOf (cpV S t1 t3 t5 t6) n) ∈ news) (h2 : (b, listOf (cpV S' u1 u3 u5 u6) n') ∈ news) (hu : A.units < cLine) (h : Q (.bool (!decide (cpK S = cpK S'))) s) :
    wpAny (model prog w) A (compareOp .NotEq (.ref a) (.ref b)) Q E s := by
  obtain ⟨e, he, hall⟩ := cp_eq A.in1 s S S' t1 t3 t5 t6 u1 u3 u5 u6
  rw [← hall] at h
  exact RcNeAt.lists ⟨_, (N _ h1).1, rfl, _, rfl⟩ ⟨_, (N _ h2).1, rfl, _, rfl⟩ rfl hu he prog w E Q h
theorem RowsIn.get {nw : List (Addr × Obj)} {vs : List Value} {Ss : List Sh} (h : RowsIn nw vs Ss) : ∀ (i : Nat) (h1 : i < vs.length) (h2 : i < Ss.length), ∃ r o, vs[i] = .ref r ∧ (r, o) ∈ nw ∧ IsRow Ss[i] o := by
  induction h with
  | nil => intro i h1; exact absurd h1 (Nat.not_lt_zero _)
  | cons q1 q2 _ ih =>
    intro i h1 h2
    cases i with
    | zero => exact ⟨_, _, rfl, q1, q2⟩
    | succ i => simpa using ih i (by simpa using h1) (by simpa using h2)
def eqL : List Sh → List Sh → Bool
  | [], [] => true
  | S :: r, T :: q => shB S T && eqL r q
  | _, _ => false
theorem eqL_iff : ∀ (a b : List Sh), eqL a b = true ↔ a = b
  | [], [] => by simp [eqL]
  | [], _ :: _ => by simp [eqL]
  | _ :: _, [] => by simp [eqL]
  | S :: r, T :: q => by simp [eqL, shB_iff, eqL_iff r q]
theorem eqL_range : ∀ (a b : List Sh), a.length = b.length → ((List.range a.length).all fun j => (match a[j]?, b[j]? with | some x, some y => shB x y | _, _ => true)) = eqL a b
  | [], [], _ => rfl
  | [], _ :: _, h => by simp at h
  | _ :: _, [], h => by simp at h
  | S :: r, T :: q, h => by
    have ih := eqL_range r q (by simpa using h)
    rw [List.length_cons, List.range_succ_eq_map, List.all_cons, List.all_map]
    simp only [List.getElem?_cons_zero, eqL]
    rw [← ih]
    congr 1
/-- `!=` of two lists of rows -/
theorem rows_ne {prog : Program} {w : World} {A : Around} {Q : Value → Shared → Prop} {a b : Addr} {vs vs' : List Value} {Ss Ss' : List Sh} {n n' : Nat} (N : News h₀ L s.heap news) (h1 : (a, listOf vs.toArray n) ∈ news) (h2 : (b, listOf vs'.toArray n') ∈ news) (R : RowsIn news vs Ss) (R' : RowsIn news vs' Ss') (hu : A.units + 2 < cLine) (h : Q (.bool (!eqL Ss Ss')) s) :
    wpAny (model prog w) A (compareOp .NotEq (.ref a) (.ref b)) Q E s := by
  have z1 := R.len
  have z2 := R'.len
  by_cases hl : vs.length = vs'.length
  · have hs : Ss.length = Ss'.length := by rw [← z1, ← z2, hl]
    rw [← eqL_range _ _ hs, ← z1] at h
    refine RcNeAt.lists (e := fun j => (match Ss[j]?, Ss'[j]? with | some x, some y => shB x y | _, _ => true)) ⟨_, (N _ h1).1, rfl, _, rfl⟩ ⟨_, (N _ h2).1, rfl, _, rfl⟩ (by simp [hl]) (by omega) ?_ prog w E Q (by simpa using h)
    intro j q1 q2
    have q1' : j < vs.length := by simpa using q1
    have q2' : j < vs'.length := by simpa using q2
    obtain ⟨r, o, e1, e2, e3⟩ := R.get j q1' (by rw [← z1]; exact q1')
    obtain ⟨r', o', e1', e2', e3'⟩ := R'.get j q2' (by rw [← z2]; exact q2')
    have k1 : Ss[j]? = some (Ss[j]'(by rw [← z1]; exact q1')) := List.getElem?_eq_getElem _
    have k2 : Ss'[j]? = some (Ss'[j]'(by rw [← z2]; exact q2')) := List.getElem?_eq_getElem _
    rw [k1, k2]
    simp only [List.getElem_toArray]
    rw [e1, e1']
    exact row_at (N _ e2).1 (N _ e2').1 e3 e3' (by show (Around.in1 A).units < _; simp only; omega)
  · have hs : eqL Ss Ss' = false := Bool.eq_false_iff.mpr fun q => hl (by rw [z1, z2, (eqL_iff _ _).mp q])
    rw [hs] at h
    exact RcNeAt.lists_lengths ⟨_, (N _ h1).1, rfl, _, rfl⟩ ⟨_, (N _ h2).1, rfl, _, rfl⟩ (by simpa using hl) (by omega) prog w E Q h
open Classical in
noncomputable def hitR (nw : List (Addr × Obj)) (S : Sh) (y : Value) : Bool := decide (∃ r o S', y = .ref r ∧ (r, o) ∈ nw ∧ IsRow S' o ∧ shB S' S = true)
open Classical in
theorem hitR_of {h : Heap} {S S0 : Sh} {r : Addr} {o : Obj} (N : News h₀ L h news) (h1 : (r, o) ∈ news) (h2 : IsRow S0 o) : hitR news S (.ref r) = shB S0 S := by
  unfold hitR
  cases hb : shB S0 S with
  | true => exact decide_eq_true ⟨r, o, S0, rfl, h1, h2, hb⟩
  | false =>
    refine decide_eq_false ?_
    rintro ⟨r', o', S', e, q1, q2, q3⟩
    cases e
    have : o' = o := Option.some.inj ((N _ q1).1.symm.trans (N _ h1).1)
    subst this
    rw [row_inj q2 h2, hb] at q3
    cases q3
theorem hitR_any {h : Heap} {S : Sh} (N : News h₀ L h news) : ∀ {vs : List Value} {Ss : List Sh}, RowsIn news vs Ss → vs.any (hitR news S) = Ss.any (fun y => shB y S)
  | _, _, .nil => rfl
  | _, _, .cons h1 h2 r => by rw [List.any_cons, List.any_cons, hitR_of N h1 h2, hitR_any N r]
theorem RowsIn.mem {nw : List (Addr × Obj)} {vs : List Value} {Ss : List Sh} (h : RowsIn nw vs Ss) : ∀ y ∈ vs, ∃ r o S, y = .ref r ∧ (r, o) ∈ nw ∧ IsRow S o := by
  induction h with
  | nil => intro y hy; cases hy
  | cons q1 q2 _ ih =>
    intro y hy
    rcases List.mem_cons.mp hy with rfl | hy
    · exact ⟨_, _, _, rfl, q1, q2⟩
    · exact ih y hy
/-- `row not in group` -/
theorem notIn_rows {prog : Program} {w : World} {A : Around} {Q : Value → Shared → Prop} {a r : Addr} {o : Obj} {vs : List Value} {Ss : List Sh} {S : Sh} {n : Nat} (N : News h₀ L s.heap news) (h1 : (a, listOf vs.toArray n) ∈ news) (R : RowsIn news vs Ss) (hr : (r, o) ∈ news) (hS : IsRow S o) (hu : A.units + 2 < cLine) (h : Q (.bool (!Ss.any fun y => shB y S)) s) :
    wpAny (model prog w) A (compareOp .NotIn (.ref r) (.ref a)) Q E s := by
  refine notIn_listAt (hitR news S) ⟨_, (N _ h1).1, rfl, _, rfl⟩ ?_ ?_
  · intro y hy
    obtain ⟨r', o', S', rfl, q1, q2⟩ := R.mem y (by simpa using hy)
    rw [hitR_of N q1 q2]
    exact row_at (N _ q1).1 (N _ hr).1 q2 hS (by show (Around.in1 A).units < _; simp only; omega)
  · rw [List.any_toArray, hitR_any N R]
    exact h
theorem row_not_refs {nw : List (Addr × Obj)} {S : Sh} {o : Obj} {vs : List Value} {Ss : List Sh} {n : Nat} (hS : IsRow S o) (R : RowsIn nw vs Ss) (e : o = listOf vs.toArray n) : False := by
  obtain ⟨t1, t3, t4, t5, t6, t7, t8, tb, n', rfl⟩ := hS
  simp only [W.listOf, row9, Obj.mk.injEq, Data.seq.injEq, Array.mk.injEq, and_true, true_and] at e
  have e1 := e.1
  cases R with
  | nil => cases e1
  | cons _ _ _ => cases e1
theorem RowsIn.off {nw : List (Addr × Obj)} {l : Addr} {gs : List Value} {Gs : List Sh} {n : Nat} {h : Heap} (N : News h₀ L h nw) (hl : (l, listOf gs.toArray n) ∈ nw) (hg : RowsIn nw gs Gs) {vs : List Value} {Ss : List Sh} (H : RowsIn nw vs Ss) : RowsIn (Mine.off l nw) vs Ss := by
  induction H with
  | nil => exact .nil
  | cons h1 h2 _ ih =>
    refine .cons (mem_off h1 fun e => ?_) h2 ih
    refine row_not_refs h2 hg (n := n) ?_
    dsimp only at e
    subst e
    exact Option.some.inj ((N _ h1).1.symm.trans (N _ hl).1)
/-- the places, the lists due at them -/
inductive DueW (V : List (Addr × Obj)) (c : Nat) : List Value → List Value → List (Nat × List Sh) → List (Addr × Obj) → Prop where
  | nil : DueW V c [] [] [] []
  | cons {g n : Nat} {t : Tok} {l : Addr} {gs pvs dvs : List Value} {Gs : List Sh} {D : List (Nat × List Sh)} {Z : List (Addr × Obj)} : RowsIn V gs Gs → gs.length ≤ c → DueW V c pvs dvs D Z → DueW V c (.int (g : Int) t :: pvs) (.ref l :: dvs) ((g, Gs) :: D) ((l, listOf gs.toArray n) :: Z)
theorem DueW.mono {V V' Z : List (Addr × Obj)} {c c' : Nat} {pvs dvs : List Value} {D : List (Nat × List Sh)} (H : DueW V c pvs dvs D Z) (k : ∀ p ∈ V, p ∈ V') (hc : c ≤ c') : DueW V' c' pvs dvs D Z := by
  induction H with
  | nil => exact .nil
  | cons h2 h3 _ ih => exact .cons (h2.mono k) (Nat.le_trans h3 hc) ih
theorem DueW.append {V Z Z' : List (Addr × Obj)} {c : Nat} {pvs dvs pvs' dvs' : List Value} {D D' : List (Nat × List Sh)} (H : DueW V c pvs dvs D Z) (H' : DueW V c pvs' dvs' D' Z') : DueW V c (pvs ++ pvs') (dvs ++ dvs') (D ++ D') (Z ++ Z') := by
  induction H with
  | nil => exact H'
  | cons h2 h3 _ ih => exact .cons h2 h3 ih
theorem DueW.len {V Z : List (Addr × Obj)} {c : Nat} {pvs dvs : List Value} {D : List (Nat × List Sh)} (H : DueW V c pvs dvs D Z) : pvs.length = D.length ∧ dvs.length = D.length ∧ Z.length = D.length := by
  induction H with
  | nil => exact ⟨rfl, rfl, rfl⟩
  | cons _ _ _ ih => simp [ih]
theorem DueW.ints {V Z : List (Addr × Obj)} {c : Nat} {pvs dvs : List Value} {D : List (Nat × List Sh)} (H : DueW V c pvs dvs D Z) : IntsAre pvs (D.map fun p => (p.1 : Int)) := by
  induction H with
  | nil => exact .nil
  | cons _ _ _ ih => exact .cons _ _ ih
inductive DueFind (V Z : List (Addr × Obj)) (c : Nat) (pvs dvs : List Value) (D : List (Nat × List Sh)) (gi : Nat) : Prop
  | mk  (l : _) (t : _) (gs : _) (n : _) (Gs : _) (pp : _) (pq : _) (dp : _) (dq : _) (Dp : _) (Dq : _) (Zp : _) (Zq : _)
    (c0 : pvs = pp ++ .int (gi : Int) t :: pq)
    (c1 : dvs = dp ++ .ref l :: dq)
    (c2 : D = Dp ++ (gi, Gs) :: Dq)
    (c3 : Z = Zp ++ (l, listOf (List.toArray gs) n) :: Zq)
    (c4 : (∀ p ∈ Dp, p.1 ≠ gi))
    (c5 : RowsIn V gs Gs)
    (c6 : gs.length ≤ c)
    (c7 : DueW V c pp dp Dp Zp)
    (c8 : DueW V c pq dq Dq Zq)
theorem DueW.find {V Z : List (Addr × Obj)} {c : Nat} {pvs dvs : List Value} {D : List (Nat × List Sh)} (gi : Nat) (H : DueW V c pvs dvs D Z) :
    (∀ p ∈ D, p.1 ≠ gi) ∨ DueFind V Z c pvs dvs D gi := by
  induction H with
  | nil => exact .inl fun p hp => nomatch hp
  | cons h2 h3 r ih =>
    rename_i g n t l gs pvs dvs Gs D Z
    by_cases e : g = gi
    · subst e
      exact .inr ⟨l, t, gs, n, Gs, [], pvs, [], dvs, [], D, [], Z, rfl, rfl, rfl, rfl, (fun p hp => nomatch hp), h2, h3, .nil, r⟩
    · rcases ih with q2 | ⟨l', t', gs', n', Gs', pp, pq, dp, dq, Dp, Dq, Zp, Zq, rfl, rfl, rfl, rfl, q5, q7, q8, q9, q10⟩
      · refine .inl fun p hp => ?_
        rcases List.mem_cons.mp hp with rfl | hp
        · exact e
        · exact q2 p hp
      · refine .inr ⟨l', t', gs', n', Gs', _ :: pp, pq, _ :: dp, dq, (g, Gs) :: Dp, Dq, _ :: Zp, Zq, rfl, rfl, rfl, rfl, fun p hp => ?_, q7, q8, .cons h2 h3 q9, q10⟩
        rcases List.mem_cons.mp hp with rfl | hp
        · exact e
        · exact q5 p hp
theorem DueW.any {V Z : List (Addr × Obj)} {c : Nat} {pvs dvs : List Value} {D : List (Nat × List Sh)} (gi : Nat) (_ : DueW V c pvs dvs D Z) : (D.map fun p => (p.1 : Int)).any (· == (gi : Int)) = true ↔ ∃ p ∈ D, p.1 = gi := by
  simp only [List.any_map, List.any_eq_true, Function.comp_apply, beq_iff_eq, Int.natCast_inj]
/-- one row put in -/
def addD (S : Sh) : List (Nat × List Sh) → List (Nat × List Sh)
  | [] => [(S.gi, [S])]
  | (g, Ss) :: r => if g = S.gi then (g, addN Ss S) :: r else (g, Ss) :: addD S r
def mtOk (Ss : List Sh) (S : Sh) : Bool := match Ss with
  | [] => true
  | S0 :: _ => decide (S0.mt = S.mt)
def okD (S : Sh) : List (Nat × List Sh) → Bool
  | [] => true
  | (g, Ss) :: r => if g = S.gi then mtOk Ss S else okD S r
theorem addD_new {S : Sh} : ∀ {D : List (Nat × List Sh)}, (∀ p ∈ D, p.1 ≠ S.gi) → addD S D = D ++ [(S.gi, [S])] ∧ okD S D = true
  | [], _ => ⟨rfl, rfl⟩
  | (k, Ss) :: r, h => by
    have := addD_new (D := r) fun p hp => h p (.tail _ hp)
    simp only [addD, okD]
    rw [if_neg (h _ (.head _)), if_neg (h _ (.head _)), this.1]
    exact ⟨rfl, this.2⟩
theorem addD_at {S : Sh} {Ss : List Sh} {Dq : List (Nat × List Sh)} : ∀ {Dp : List (Nat × List Sh)}, (∀ p ∈ Dp, p.1 ≠ S.gi) → addD S (Dp ++ (S.gi, Ss) :: Dq) = Dp ++ (S.gi, addN Ss S) :: Dq ∧ okD S (Dp ++ (S.gi, Ss) :: Dq) = mtOk Ss S
  | [], _ => by simp [addD, okD]
  | (k, Ts) :: r, h => by
    have := addD_at (S := S) (Ss := Ss) (Dq := Dq) (Dp := r) fun p hp => h p (.tail _ hp)
    simp only [addD, okD, List.cons_append]
    rw [if_neg (h _ (.head _)), if_neg (h _ (.head _)), this.1]
    exact ⟨rfl, this.2⟩
def lawS (R0 : Sh) (bD : Bool × List (Nat × List Sh)) (S : Sh) : Bool × List (Nat × List Sh) := (bD.1 && decide (cpK S = cpK R0) && okD S bD.2, addD S bD.2)
end
section
theorem offM51 : True := by w_top off; trivial
open PySem.SeqAt
set_option maxRecDepth 100000
set_option maxHeartbeats 40000000
variable {p : Program} {loose : List Str} {mean : ExcName → Option Value} {mg mb : Str → Option Value}
  {dp un : Nat} {gd : Option (List Code)} {cn : Str} {cs : Scope} {a : Addr} {ccd : Value} {cl : List (Str × Addr)} {outer : List Env}
  {A₀ : Around} {E Q : Value → Shared → Prop} {s : Shared} {base h₀ : Heap} {L : Addr} {m : Str → Option Value} {news : List (Addr × Obj)}
noncomputable def dueB : List Stmt := match (lawB.drop 13).head? with
  | some (Stmt.For _ _ b _ _) => b
  | _ => []
theorem places_index {prog : Program} {w : World} {A : Around} {Q : Value → Shared → Prop} {pl : Addr} {pp pq : List Value} {ns : List Int} {k : Int} {t u : Tok} (hl : s.heap.IsList pl (List.toArray (pp ++ .int k t :: pq))) (hi : IntsAre pp ns) (hne : ∀ x ∈ ns, x ≠ k) (hq : ∃ ms, IntsAre pq ms) (hz : pp.length ≤ 1000)
    (h : Q (.int (pp.length : Nat) s.toks) { s with toks := s.toks + 1 }) :
    wpAny (model prog w) A (call (.builtin "list.index") [.ref pl, .int k u]) Q E s := by
  obtain ⟨⟨cls, dd, data, sl⟩, ho, hc, n, hd⟩ := id hl
  simp only at hc hd
  subst hc hd
  obtain ⟨ms, hq⟩ := hq
  refine call_meets PySem.F.slot_list_index ⟨_, ho, rfl⟩ PySem.F.entry_list_index (PySem.F.args_list_index_2 _ _)
    (list_indexAt pl _ n dd sl (.int k u) (isInt k) pp.length (by simp) (by omega) ?_ ?_) ⟨ho, fun y hy => (eq_isInt k u (hi.append (.cons k t hq)) y (by simpa using hy)).at _ _, h⟩
  · simp [isInt]
  · intro j hjs hlt
    have : (List.toArray (pp ++ .int k t :: pq))[j] = pp[j] := by simp [hlt]
    rw [this, isInt_at k hi j hlt (by have := hi.length; omega)]
    simpa using hne _ (List.getElem_mem _)
theorem append_V {prog : Program} {w : World} {A : Around} {Q : Value → Shared → Prop} {D : Addr} {us : List Value} {cn : Nat} {rest : List (Addr × Obj)} {x : Value} (F : Fr h₀ L s.heap m) (N : News h₀ L s.heap ((D, listOf us.toArray cn) :: rest)) (hr : ∀ p ∈ rest, p.1 ≠ D) (hz : us.length ≤ sizeLine)
    (h : ∀ h', Fr h₀ L h' m → News h₀ L h' ((D, listOf (List.toArray (us ++ [x])) (cn + 1)) :: rest) → Q .none { s with heap := h' }) : wpAny (model prog w) A (call (.builtin "list.append") [.ref D, x]) Q E s := by
  refine append_K (its := List.toArray us) (n := cn) F N (.head hr) ?_ ?_
  · intro h9 F9 N9
    rw [List.push_toArray] at N9
    exact h _ F9 N9
  · rw [List.size_toArray]; exact hz
theorem due_c (w : World) (dpt : Nat) (pl dl l r : Addr) (pp pq dp dq gs : List Value) (pn dn gn nr : Nat) (ns ms : List Int) (S : Sh) (Gs : List Sh) (t : Tok) (t1 t3 t4 t5 t6 t7 t8 tb : Tok) (b : Bool) (u1 u2 u3 u4 u5 u6 u7 u8 u10 u11 ug : Option Value) (hi : IntsAre pp ns) (hj : IntsAre pq ms) (hne : ∀ x ∈ ns, x ≠ (S.gi : Int)) (hpd : pp.length = dp.length) (hsz : pp.length + pq.length ≤ 100) (hszd : dp.length + dq.length ≤ 100) (hgs : gs.length ≤ 100) (hR : RowsIn ((r, listOf (row9 S t1 t3 t4 t5 t6 t7 t8 tb) nr) :: news) gs Gs) {Q : Flow → Shared → Prop}
  (hoff : ∀ q ∈ news, q.1 ≠ l) (hdis : pl ≠ l ∧ dl ≠ l ∧ r ≠ l)
  (N : News h₀ L s.heap ((pl, listOf (List.toArray (pp ++ .int (S.gi : Int) t :: pq)) pn) :: (dl, listOf (List.toArray (dp ++ .ref l :: dq)) dn) :: (l, listOf (List.toArray gs) gn) :: (r, listOf (row9 S t1 t3 t4 t5 t6 t7 t8 tb) nr) :: news)) (B : Below A₀ base outer h₀)
  (F : Fr h₀ L s.heap (mp [(Str.ofString "script", u1), (Str.ofString "feed", u2), (Str.ofString "many", u3), (Str.ofString "twice", u4), (Str.ofString "value", u5), (Str.ofString "own", u6), (Str.ofString "rows", u7), (Str.ofString "k", u8), (Str.ofString "row", some (Value.ref r)), (Str.ofString "turned", u10), (Str.ofString "texts", u11), (Str.ofString "right", some (Value.bool b)), (Str.ofString "places", some (Value.ref pl)), (Str.ofString "due", some (Value.ref dl)), (Str.ofString "group", ug)])) (X : (Mine.hd.heap_1 w.params).In h₀) (T : Top p loose mean mg mb h₀)
  (hd : dpt + 300 < recursionLimit) (hu : un + 1500 < cLine)
  (next : ∀ gs' gn' h' tk', (∀ nw, RowsIn nw gs Gs → (r, listOf (row9 S t1 t3 t4 t5 t6 t7 t8 tb) nr) ∈ nw → RowsIn nw gs' (addN Gs S)) → gs'.length ≤ gs.length + 1 →
    Fr h₀ L h' (mp [(Str.ofString "script", u1), (Str.ofString "feed", u2), (Str.ofString "many", u3), (Str.ofString "twice", u4), (Str.ofString "value", u5), (Str.ofString "own", u6), (Str.ofString "rows", u7), (Str.ofString "k", u8), (Str.ofString "row", some (Value.ref r)), (Str.ofString "turned", u10), (Str.ofString "texts", u11), (Str.ofString "right", some (Value.bool (b && mtOk Gs S))), (Str.ofString "places", some (Value.ref pl)), (Str.ofString "due", some (Value.ref dl)), (Str.ofString "group", some (Value.ref l))]) →
    News h₀ L h' ((pl, listOf (List.toArray (pp ++ .int (S.gi : Int) t :: pq)) pn) :: (dl, listOf (List.toArray (dp ++ .ref l :: dq)) dn) :: (l, listOf (List.toArray gs') gn') :: (r, listOf (row9 S t1 t3 t4 t5 t6 t7 t8 tb) nr) :: news) → Q .next ⟨h', s.gens, s.drawn, tk', s.os⟩)
  (hrw : PySem.Challenge.rw_ja0052_01 = PySem.Challenge.rw_ja0052_01) :
  wpAny (model PySem.Challenge.pw_ja0052_01 w) (ktrTop dpt un gd (Str.ofString "law") lawSc L a ccd [] outer) (execs (dueB.drop 2) (lawE L a ccd)) Q (fun _ _ => False) s := by
  revert X hrw
  k_fill
  intro X hrw
  clear hrw
  have e : lawSc = lawSc := rfl
  conv at e => rhs; whnf
  have eb : dueB.drop 2 = dueB.drop 2 := rfl
  conv at eb => rhs; whnf
  rw [eb, e]
  have N0 := N
  unfold row9 at N
  repeat ((fail_if_success (with_reducible show wpAny _ _ (call (Value.builtin _) _ _) _ _ _)); first | (dsimp only; (with_reducible show wpAny _ _ (call (Value.builtin _) _ _) _ _ _)) | k_unfold | walk1 | (dsimp only; walk1) | (leave1; try dsimp only))
  rename News _ _ _ _ => N1
  refine places_index (News.isList N1 (.head _)) hi hne ⟨ms, hj⟩ (by omega) ?_
  repeat ((fail_if_success (with_reducible show wpAny _ _ (subscriptTail _ _ _ _) _ _ _)); first | (dsimp only; (with_reducible show wpAny _ _ (subscriptTail _ _ _ _) _ _ _)) | k_unfold | walk1 | (dsimp only; walk1) | (leave1; try dsimp only))
  rename News _ _ _ _ => N2
  refine item_listR (x := .ref l) (News.isList N2 (.tail _ (.head _))) (by omega) (by omega) (by rw [hpd]; simp) ?_
  repeat ((fail_if_success (with_reducible show wpAny _ _ (exec (Stmt.If _ _ _ _) _) _ _ _)); first | (dsimp only; (with_reducible show wpAny _ _ (exec (Stmt.If _ _ _ _) _) _ _ _)) | k_unfold | walk1 | (dsimp only; walk1) | (leave1; try dsimp only))
  (try dsimp only)
  rename News _ _ _ _ => N3
  rename Fr _ _ _ _ => F3
  replace F3 := (show Fr _ _ _ (mp ((Str.ofString "group", some _) :: _)) from F3)
  rw [mp_canon [Str.ofString "script", Str.ofString "feed", Str.ofString "many", Str.ofString "twice", Str.ofString "value", Str.ofString "own", Str.ofString "rows", Str.ofString "k", Str.ofString "row", Str.ofString "turned", Str.ofString "texts", Str.ofString "right", Str.ofString "places", Str.ofString "due", Str.ofString "group"] _ (by rfl)] at F3
  obtain ⟨J, hJ⟩ : ∃ J : Flow → Shared → Prop, ∀ f s', J f s' ↔ (f = .next ∧ ∃ h tk, s' = ⟨h, s.gens, s.drawn, tk, s.os⟩ ∧ Fr h₀ L h (mp [(Str.ofString "script", u1), (Str.ofString "feed", u2), (Str.ofString "many", u3), (Str.ofString "twice", u4), (Str.ofString "value", u5), (Str.ofString "own", u6), (Str.ofString "rows", u7), (Str.ofString "k", u8), (Str.ofString "row", some (Value.ref r)), (Str.ofString "turned", u10), (Str.ofString "texts", u11), (Str.ofString "right", some (Value.bool (b && mtOk Gs S))), (Str.ofString "places", some (Value.ref pl)), (Str.ofString "due", some (Value.ref dl)), (Str.ofString "group", some (Value.ref l))]) ∧ News h₀ L h ((pl, listOf (List.toArray (pp ++ .int (S.gi : Int) t :: pq)) pn) :: (dl, listOf (List.toArray (dp ++ .ref l :: dq)) dn) :: (l, listOf (List.toArray gs) gn) :: (r, listOf (row9 S t1 t3 t4 t5 t6 t7 t8 tb) nr) :: news)) := ⟨_, fun _ _ => Iff.rfl⟩
  refine wpAny_mono (Q := J) ?_ ?_ (fun _ _ e => e)
  · cases hR with
    | nil =>
      k_steps
      rename News _ _ _ _ => N4
      rename Fr _ _ _ _ => F4
      rw [hJ]
      refine ⟨rfl, _, _, rfl, ?_, N4⟩
      rw [show (b && mtOk [] S) = b from Bool.and_true b]
      exact F4
    | cons q1 q2 q3 =>
      obtain ⟨w1, w3, w4, w5, w6, w7, w8, wb, wn, rfl⟩ := q2
      rename_i r0 S0 gs0 Gs0
      repeat ((fail_if_success (with_reducible show wpAny _ _ (subscriptTail _ _ _ _) _ _ _)); first | (dsimp only; (with_reducible show wpAny _ _ (subscriptTail _ _ _ _) _ _ _)) | k_unfold | walk1 | (dsimp only; walk1) | (leave1; try dsimp only))
      refine item_listR (x := .ref r0) (News.isList N3 (.tail _ (.tail _ (.head _)))) (by decide) (by decide) (by rfl) ?_
      repeat ((fail_if_success (with_reducible show wpAny _ _ (subscriptTail _ _ _ _) _ _ _)); first | (dsimp only; (with_reducible show wpAny _ _ (subscriptTail _ _ _ _) _ _ _)) | k_unfold | walk1 | (dsimp only; walk1) | (leave1; try dsimp only))
      refine item_listR (x := .int (S0.mt : Int) w8) (News.isList N3 (.tail _ (.tail _ (.tail _ q1)))) (by decide) (by decide) (by rfl) ?_
      repeat ((fail_if_success (with_reducible show wpAny _ _ (compareOp _ _ _) _ _ _)); first | (dsimp only; (with_reducible show wpAny _ _ (compareOp _ _ _) _ _ _)) | k_unfold | walk1 | (dsimp only; walk1) | (leave1; try dsimp only))
      k_steps
      · rename_i hm _ _ _ _
        rename News _ _ _ _ => N4
        rename Fr _ _ _ _ => F4
        replace F4 := (show Fr _ _ _ (mp ((Str.ofString "right", some _) :: _)) from F4)
        rw [mp_canon [Str.ofString "script", Str.ofString "feed", Str.ofString "many", Str.ofString "twice", Str.ofString "value", Str.ofString "own", Str.ofString "rows", Str.ofString "k", Str.ofString "row", Str.ofString "turned", Str.ofString "texts", Str.ofString "right", Str.ofString "places", Str.ofString "due", Str.ofString "group"] _ (by rfl)] at F4
        rw [hJ]
        refine ⟨rfl, _, _, rfl, ?_, N4⟩
        rw [show mtOk (S0 :: Gs0) S = false from decide_eq_false (by omega), Bool.and_false]
        exact F4
      · rename_i hm _
        rename News _ _ _ _ => N4
        rename Fr _ _ _ _ => F4
        rw [hJ]
        refine ⟨rfl, _, _, rfl, ?_, N4⟩
        rw [show mtOk (S0 :: Gs0) S = true from decide_eq_true (by omega), Bool.and_true]
        exact F4
  · rintro f s' hf
    rw [hJ] at hf
    obtain ⟨rfl, h2, tk2, rfl, F2, N2⟩ := hf
    clear hJ
    dsimp only
    repeat ((fail_if_success (with_reducible show wpAny _ _ (compareOp _ _ _) _ _ _)); first | (dsimp only; (with_reducible show wpAny _ _ (compareOp _ _ _) _ _ _)) | k_unfold | walk1 | (dsimp only; walk1) | (leave1; try dsimp only))
    rename News _ _ _ _ => N4
    rename Fr _ _ _ _ => F4
    refine notIn_rows N4 (.tail _ (.tail _ (.head _))) (hR.mono ?_) (.tail _ (.tail _ (.tail _ (.head _)))) ⟨t1, t3, t4, t5, t6, t7, t8, tb, nr, rfl⟩ (by k_units) ?_
    · intro q hq
      exact .tail _ (.tail _ (.tail _ hq))
    generalize hb : (Gs.any fun y => shB y S) = bb
    cases bb with
    | true =>
      k_steps
      rename News _ _ _ _ => N5
      rename Fr _ _ _ _ => F5
      refine next gs gn _ _ (fun nw h _ => ?_) (Nat.le_succ _) F5 N5
      unfold addN
      rw [if_pos hb]
      exact h
    | false =>
      repeat ((fail_if_success (with_reducible show wpAny _ _ (call (Value.builtin "list.append") _ _) _ _ _)); first | (dsimp only; (with_reducible show wpAny _ _ (call (Value.builtin "list.append") _ _) _ _ _)) | k_unfold | walk1 | (dsimp only; walk1) | (leave1; try dsimp only))
      rename News _ _ _ _ => N6
      rename Fr _ _ _ _ => F6
      refine append_V (us := gs) (cn := gn) (rest := (pl, listOf (List.toArray (pp ++ .int (S.gi : Int) t :: pq)) pn) :: (dl, listOf (List.toArray (dp ++ .ref l :: dq)) dn) :: (r, listOf (row9 S t1 t3 t4 t5 t6 t7 t8 tb) nr) :: news) F6 (News.sub N6 ?_) ?_ (by rw [sizeLine_eq]; omega) ?_
      · walk_at "mine sub"
      · intro q hq
        simp only [List.mem_cons] at hq
        rcases hq with rfl | rfl | rfl | h
        · exact hdis.1
        · exact hdis.2.1
        · exact hdis.2.2
        · exact hoff q h
      intro h3 F7 N7
      k_steps
      rename News _ _ _ _ => N5
      rename Fr _ _ _ _ => F5
      refine next (gs ++ [.ref r]) (gn + 1) _ _ (fun nw h hr => ?_) (by simp) F5 ?_
      · unfold addN
        rw [if_neg (by rw [hb]; decide)]
        exact h.snoc hr ⟨t1, t3, t4, t5, t6, t7, t8, tb, nr, rfl⟩
      · exact News.sub N5 (by walk_at "mine sub")
end
section
theorem offM52 : True := by w_top off; trivial
local macro_rules | `(tactic| walk_at "mine pad") => `(tactic| skip)
open PySem.SeqAt
set_option maxRecDepth 100000
set_option maxHeartbeats 40000000
variable {p : Program} {loose : List Str} {mean : ExcName → Option Value} {mg mb : Str → Option Value}
  {dp un : Nat} {gd : Option (List Code)} {cn : Str} {cs : Scope} {a : Addr} {ccd : Value} {cl : List (Str × Addr)} {outer : List Env}
  {A₀ : Around} {E Q : Value → Shared → Prop} {s : Shared} {base h₀ : Heap} {L : Addr} {m : Str → Option Value} {news : List (Addr × Obj)}
theorem tail_ops {prog : Program} {w : World} {A : Around} {value slice : PySem.Expr} {o i : Value} {T id : String} {ops : List Value} {Q : Value → Shared → Prop} (hT : s.TypeIs o T)
    (hl : typeLookup (.type T) "__getitem__" = pure (some (.builtin id))) (h : wpAny (model prog w) A (getItem o i) Q E s)
    (hs : subscripted slice false o i = operate ops (getItem o i)) :
    wpAny (model prog w) A (subscriptTail value slice o i) Q E s := by
  unfold subscriptTail
  refine wpAny_bind ?_
  rw [getitemInPython_of_ne hT.not_modules]
  refine wpAny_bind (wpAny_specialOf hT hl ?_)
  have fin : wpAny (model prog w) A (subscripted slice false o i) (fun r s₃ => wpAny (model prog w) A (letTemporaryGo value o r >>= fun _ => pure r) Q E s₃) E s := by
    rw [hs]
    exact wpAny_operating (wpAny_mono h (fun r s₃ h₃ => wpAny_bind (wpAny_letTemporaryGo (wpAny_pure h₃))) fun _ _ x => x)
  first
    | exact wpAny_pure (wpAny_bind fin)
    | exact wpAny_bind (wpAny_pure (wpAny_bind fin))
    | exact wpAny_bind fin
theorem slice_at {prog : Program} {w : World} {A : Around} {Q : Value → Shared → Prop} {l : Addr} {its : Array Value} {nn : Nat} {ws : List Value} {value slice : PySem.Expr} {vl vu : Value} {lo hi : Option Int} (F : Fr h₀ L s.heap m) (N : News h₀ L s.heap news) (hl : (l, listOf its nn) ∈ news) (pl : IsPart vl lo) (pu : IsPart vu hi) (he : kms_pick its.toList lo hi = ws)
    (h : ∀ D h', Fr h₀ L h' m → News h₀ L h' ((D, listOf (List.toArray ws) 0) :: news) → (∀ p ∈ news, p.1 < D) → Q (.ref D) { s with heap := h' })
    (hs : subscripted slice false (.ref l) (.ref s.heap.objs.size) = operate [.ref s.heap.objs.size, .ref l] (getItem (.ref l) (.ref s.heap.objs.size))) (hz : its.size ≤ 1000) :
    wpAny (model prog w) A (subscriptTail value slice (.ref l) (.ref s.heap.objs.size)) Q E { s with heap := s.heap.push { cls := .type "slice", data := .fields #[vl, vu, .none] } } := by
  have hl' : s.heap.IsList l its := News.isList N hl
  refine tail_ops (Heap.IsList.typeIs (s := { s with heap := s.heap.push { cls := .type "slice", data := .fields #[vl, vu, .none] } }) (hl'.push _)) list_getitem_lookup
    (wpAny_getItem_list_slice (hl'.push _) (Heap.IsSliceOf.new ..) pl pu .none (by simp) ?_ (by rw [sizeLine_eq]; omega)) hs
  have N1 := News.push (F.push { cls := .type "slice", data := .fields #[vl, vu, .none] }) (N.grown fun _ _ e => Heap.get?_push_of_some _ e) { cls := .type "list", data := .seq (slicePick its lo hi none) }
  rw [Heap.size_push, kms_pick_eq, he] at N1
  rw [kms_pick_eq, he]
  show Q (.ref (s.heap.push _).objs.size) _
  rw [Heap.size_push]
  exact h _ _ ((F.push _).push _) N1 fun p hp => Nat.lt_succ_of_lt (Heap.lt_size (N p hp).1)
theorem due_a (w : World) (dpt : Nat) (rl r r0 : Addr) (refs : List Value) (rn nr n0 : Nat) (S S0 : Sh) (t1 t3 t4 t5 t6 t7 t8 tb w1 w3 w4 w5 w6 w7 w8 wb : Tok) (b : Bool) (u1 u2 u3 u4 u5 u6 u8 u10 u11 u13 u14 ug : Option Value) (hsz : refs.length ≤ 100) {Q : Flow → Shared → Prop}
  (hr0 : (r0, listOf (row9 S0 w1 w3 w4 w5 w6 w7 w8 wb) n0) ∈ (r, listOf (row9 S t1 t3 t4 t5 t6 t7 t8 tb) nr) :: news)
  (N : News h₀ L s.heap ((rl, listOf (List.toArray (.ref r0 :: refs)) rn) :: (r, listOf (row9 S t1 t3 t4 t5 t6 t7 t8 tb) nr) :: news)) (B : Below A₀ base outer h₀)
  (F : Fr h₀ L s.heap (mp [(Str.ofString "script", u1), (Str.ofString "feed", u2), (Str.ofString "many", u3), (Str.ofString "twice", u4), (Str.ofString "value", u5), (Str.ofString "own", u6), (Str.ofString "rows", some (Value.ref rl)), (Str.ofString "k", u8), (Str.ofString "row", some (Value.ref r)), (Str.ofString "turned", u10), (Str.ofString "texts", u11), (Str.ofString "right", some (Value.bool b)), (Str.ofString "places", u13), (Str.ofString "due", u14), (Str.ofString "group", ug)])) (X : (Mine.hd.heap_1 w.params).In h₀) (T : Top p loose mean mg mb h₀)
  (hd : dpt + 300 < recursionLimit) (hu : un + 1500 < cLine)
  (next : ∀ h' tk',
    Fr h₀ L h' (mp [(Str.ofString "script", u1), (Str.ofString "feed", u2), (Str.ofString "many", u3), (Str.ofString "twice", u4), (Str.ofString "value", u5), (Str.ofString "own", u6), (Str.ofString "rows", some (Value.ref rl)), (Str.ofString "k", u8), (Str.ofString "row", some (Value.ref r)), (Str.ofString "turned", u10), (Str.ofString "texts", u11), (Str.ofString "right", some (Value.bool (b && decide (cpK S = cpK S0)))), (Str.ofString "places", u13), (Str.ofString "due", u14), (Str.ofString "group", ug)]) →
    News h₀ L h' ((rl, listOf (List.toArray (.ref r0 :: refs)) rn) :: (r, listOf (row9 S t1 t3 t4 t5 t6 t7 t8 tb) nr) :: news) →
    wpAny (model PySem.Challenge.pw_ja0052_01 w) (ktrTop dpt un gd (Str.ofString "law") lawSc L a ccd [] outer) (execs (dueB.drop 1) (lawE L a ccd)) Q (fun _ _ => False) ⟨h', s.gens, s.drawn, tk', s.os⟩)
  (hrw : PySem.Challenge.rw_ja0052_01 = PySem.Challenge.rw_ja0052_01) :
  wpAny (model PySem.Challenge.pw_ja0052_01 w) (ktrTop dpt un gd (Str.ofString "law") lawSc L a ccd [] outer) (execs dueB (lawE L a ccd)) Q (fun _ _ => False) s := by
  revert X hrw
  k_fill
  intro X hrw
  clear hrw
  have e : lawSc = lawSc := rfl
  conv at e => rhs; whnf
  have eb : dueB = dueB := rfl
  conv at eb => rhs; whnf
  rw [eb]
  generalize hnx : List.drop 1 _ = rest at next
  rw [e] at next ⊢
  have hr1 : (r0, listOf (row9 S0 w1 w3 w4 w5 w6 w7 w8 wb) n0) ∈ (rl, listOf (List.toArray (.ref r0 :: refs)) rn) :: (r, listOf (row9 S t1 t3 t4 t5 t6 t7 t8 tb) nr) :: news := .tail _ hr0
  repeat ((fail_if_success (with_reducible show wpAny _ _ (subscriptTail _ _ _ _) _ _ _)); first | (dsimp only; (with_reducible show wpAny _ _ (subscriptTail _ _ _ _) _ _ _)) | k_unfold | walk1 | (dsimp only; walk1) | (leave1; try dsimp only))
  rename News _ _ _ _ => NA
  refine' slice_at (its := row9 S t1 t3 t4 t5 t6 t7 t8 tb) (ws := [.int (S.id : Int) t1, .bool S.ext, .int (S.exp : Int) t3]) (lo := none) (hi := some 3) ?yF ?yN ?yl ?yp ?yq (by rfl) ?_ ?ys ?yz
  case yF => k_asm
  case yN => exact NA
  case yl => exact .tail _ (.head _)
  case yp => kmk_part
  case yq => kmk_part
  case ys => with_unfolding_all rfl
  case yz => exact (by decide : (9 : Nat) ≤ 1000)
  clear NA
  intro D1 h1 F1 N1 ld1
  (try dsimp only)
  repeat ((fail_if_success (with_reducible show wpAny _ _ (subscriptTail _ _ _ _) _ _ _)); first | (dsimp only; (with_reducible show wpAny _ _ (subscriptTail _ _ _ _) _ _ _)) | k_unfold | walk1 | (dsimp only; walk1) | (leave1; try dsimp only))
  rename News _ _ _ _ => NA
  refine' slice_at (its := row9 S t1 t3 t4 t5 t6 t7 t8 tb) (ws := [.int (S.gt : Int) t5, .int (S.gc : Int) t6]) (lo := some 4) (hi := some 6) ?yF ?yN ?yl ?yp ?yq (by rfl) ?_ ?ys ?yz
  case yF => k_asm
  case yN => exact NA
  case yl => exact .tail _ (.tail _ (.head _))
  case yp => kmk_part
  case yq => kmk_part
  case ys => with_unfolding_all rfl
  case yz => exact (by decide : (9 : Nat) ≤ 1000)
  clear NA
  intro D2 h2 F2 N2 ld2
  (try dsimp only)
  repeat ((fail_if_success (with_reducible show wpAny _ _ (binaryOp _ _ _) _ _ _)); first | (dsimp only; (with_reducible show wpAny _ _ (binaryOp _ _ _) _ _ _)) | k_unfold | walk1 | (dsimp only; walk1) | (leave1; try dsimp only))
  rename News _ _ _ _ => NA
  rename Fr _ _ _ _ => FA
  refine add_ls (vs := [.int (S.id : Int) t1, .bool S.ext, .int (S.exp : Int) t3]) (ws := [.int (S.gt : Int) t5, .int (S.gc : Int) t6]) FA NA (.tail _ (.head _)) (.head _) ?_ (by decide : (3 + 2 : Nat) ≤ 1000)
  clear NA FA
  intro D3 h3 F3 N3 ld3
  (try dsimp only)
  repeat ((fail_if_success (with_reducible show wpAny _ _ (subscriptTail _ _ _ _) _ _ _)); first | (dsimp only; (with_reducible show wpAny _ _ (subscriptTail _ _ _ _) _ _ _)) | k_unfold | walk1 | (dsimp only; walk1) | (leave1; try dsimp only))
  rename News _ _ _ _ => NA
  refine item_listR (x := .ref r0) (News.isList NA (.tail _ (.tail _ (.tail _ (.head _))))) (by decide) (by decide) (by rfl) ?_
  repeat ((fail_if_success (with_reducible show wpAny _ _ (subscriptTail _ _ _ _) _ _ _)); first | (dsimp only; (with_reducible show wpAny _ _ (subscriptTail _ _ _ _) _ _ _)) | k_unfold | walk1 | (dsimp only; walk1) | (leave1; try dsimp only))
  rename News _ _ _ _ => NA
  refine' slice_at (its := row9 S0 w1 w3 w4 w5 w6 w7 w8 wb) (ws := [.int (S0.id : Int) w1, .bool S0.ext, .int (S0.exp : Int) w3]) (lo := none) (hi := some 3) ?yF ?yN ?yl ?yp ?yq (by rfl) ?_ ?ys ?yz
  case yF => k_asm
  case yN => exact NA
  case yl => exact .tail _ (.tail _ (.tail _ (hr1)))
  case yp => kmk_part
  case yq => kmk_part
  case ys => with_unfolding_all rfl
  case yz => exact (by decide : (9 : Nat) ≤ 1000)
  clear NA
  intro D4 h4 F4 N4 ld4
  (try dsimp only)
  repeat ((fail_if_success (with_reducible show wpAny _ _ (subscriptTail _ _ _ _) _ _ _)); first | (dsimp only; (with_reducible show wpAny _ _ (subscriptTail _ _ _ _) _ _ _)) | k_unfold | walk1 | (dsimp only; walk1) | (leave1; try dsimp only))
  rename News _ _ _ _ => NA
  refine item_listR (x := .ref r0) (News.isList NA (.tail _ (.tail _ (.tail _ (.tail _ (.head _)))))) (by decide) (by decide) (by rfl) ?_
  repeat ((fail_if_success (with_reducible show wpAny _ _ (subscriptTail _ _ _ _) _ _ _)); first | (dsimp only; (with_reducible show wpAny _ _ (subscriptTail _ _ _ _) _ _ _)) | k_unfold | walk1 | (dsimp only; walk1) | (leave1; try dsimp only))
  rename News _ _ _ _ => NA
  refine' slice_at (its := row9 S0 w1 w3 w4 w5 w6 w7 w8 wb) (ws := [.int (S0.gt : Int) w5, .int (S0.gc : Int) w6]) (lo := some 4) (hi := some 6) ?yF ?yN ?yl ?yp ?yq (by rfl) ?_ ?ys ?yz
  case yF => k_asm
  case yN => exact NA
  case yl => exact .tail _ (.tail _ (.tail _ (.tail _ (hr1))))
  case yp => kmk_part
  case yq => kmk_part
  case ys => with_unfolding_all rfl
  case yz => exact (by decide : (9 : Nat) ≤ 1000)
  clear NA
  intro D5 h5 F5 N5 ld5
  (try dsimp only)
  repeat ((fail_if_success (with_reducible show wpAny _ _ (binaryOp _ _ _) _ _ _)); first | (dsimp only; (with_reducible show wpAny _ _ (binaryOp _ _ _) _ _ _)) | k_unfold | walk1 | (dsimp only; walk1) | (leave1; try dsimp only))
  rename News _ _ _ _ => NA
  rename Fr _ _ _ _ => FA
  refine add_ls (vs := [.int (S0.id : Int) w1, .bool S0.ext, .int (S0.exp : Int) w3]) (ws := [.int (S0.gt : Int) w5, .int (S0.gc : Int) w6]) FA NA (.tail _ (.head _)) (.head _) ?_ (by decide : (3 + 2 : Nat) ≤ 1000)
  clear NA FA
  intro D6 h6 F6 N6 ld6
  (try dsimp only)
  repeat ((fail_if_success (with_reducible show wpAny _ _ (compareOp _ _ _) _ _ _)); first | (dsimp only; (with_reducible show wpAny _ _ (compareOp _ _ _) _ _ _)) | k_unfold | walk1 | (dsimp only; walk1) | (leave1; try dsimp only))
  rename News _ _ _ _ => NA
  refine cpl_ne (S := S) (S' := S0) (t1 := t1) (t3 := t3) (t5 := t5) (t6 := t6) (u1 := w1) (u3 := w3) (u5 := w5) (u6 := w6) NA (.tail _ (.tail _ (.tail _ (.head _)))) (.head _) (by k_units) ?_
  generalize hb : decide (cpK S = cpK S0) = bb at next ⊢
  cases bb with
  | true =>
    repeat ((fail_if_success (with_reducible show wpAny _ _ (execs (Stmt.If _ _ _ _ :: _) _) _ _ _)); first | (dsimp only; (with_reducible show wpAny _ _ (execs (Stmt.If _ _ _ _ :: _) _) _ _ _)) | k_unfold | walk1 | (dsimp only; walk1) | (leave1; try dsimp only))
    rename News _ _ _ _ => NA
    rename Fr _ _ _ _ => FA
    rw [← hnx, Bool.and_true] at next
    refine next _ _ FA (News.sub NA ?_)
    intro q hq
    exact .tail _ (.tail _ (.tail _ (.tail _ (.tail _ (.tail _ hq)))))
  | false =>
    repeat ((fail_if_success (with_reducible show wpAny _ _ (execs (Stmt.If _ _ _ _ :: _) _) _ _ _)); first | (dsimp only; (with_reducible show wpAny _ _ (execs (Stmt.If _ _ _ _ :: _) _) _ _ _)) | k_unfold | walk1 | (dsimp only; walk1) | (leave1; try dsimp only))
    rename News _ _ _ _ => NA
    rename Fr _ _ _ _ => FA
    replace FA := (show Fr _ _ _ (mp ((Str.ofString "right", some _) :: _)) from FA)
    rw [mp_canon [Str.ofString "script", Str.ofString "feed", Str.ofString "many", Str.ofString "twice", Str.ofString "value", Str.ofString "own", Str.ofString "rows", Str.ofString "k", Str.ofString "row", Str.ofString "turned", Str.ofString "texts", Str.ofString "right", Str.ofString "places", Str.ofString "due", Str.ofString "group"] _ (by rfl)] at FA
    rw [← hnx, Bool.and_false] at next
    refine next _ _ FA (News.sub NA ?_)
    intro q hq
    exact .tail _ (.tail _ (.tail _ (.tail _ (.tail _ (.tail _ hq)))))
theorem places_notIn {prog : Program} {w : World} {A : Around} {Q : Value → Shared → Prop} {pl : Addr} {pvs : List Value} {ns : List Int} {k : Int} {u : Tok} (hl : s.heap.IsList pl (List.toArray pvs)) (hi : IntsAre pvs ns) (h : Q (.bool (!ns.any (· == k))) s) :
    wpAny (model prog w) A (compareOp .NotIn (.int k u) (.ref pl)) Q E s := by
  refine notIn_listAt (isInt k) hl (fun y hy => (eq_isInt k u hi y (by simpa using hy)).at _ _) ?_
  rw [List.any_toArray, any_isInt k hi]
  exact h
theorem due_b (w : World) (dpt : Nat) (pl dl r : Addr) (pvs dvs : List Value) (pn dn nr : Nat) (ns : List Int) (S : Sh) (t1 t3 t4 t5 t6 t7 t8 tb : Tok) (u1 u2 u3 u4 u5 u6 u7 u8 u10 u11 u12 ug : Option Value) (hi : IntsAre pvs ns) (hszp : pvs.length ≤ 100) (hszd : dvs.length ≤ 100) {Q : Flow → Shared → Prop}
  (hdis : pl ≠ dl ∧ pl ≠ r ∧ dl ≠ r) (hoff : ∀ q ∈ news, q.1 ≠ pl ∧ q.1 ≠ dl)
  (N : News h₀ L s.heap ((pl, listOf (List.toArray pvs) pn) :: (dl, listOf (List.toArray dvs) dn) :: (r, listOf (row9 S t1 t3 t4 t5 t6 t7 t8 tb) nr) :: news)) (B : Below A₀ base outer h₀)
  (F : Fr h₀ L s.heap (mp [(Str.ofString "script", u1), (Str.ofString "feed", u2), (Str.ofString "many", u3), (Str.ofString "twice", u4), (Str.ofString "value", u5), (Str.ofString "own", u6), (Str.ofString "rows", u7), (Str.ofString "k", u8), (Str.ofString "row", some (Value.ref r)), (Str.ofString "turned", u10), (Str.ofString "texts", u11), (Str.ofString "right", u12), (Str.ofString "places", some (Value.ref pl)), (Str.ofString "due", some (Value.ref dl)), (Str.ofString "group", ug)])) (X : (Mine.hd.heap_1 w.params).In h₀) (T : Top p loose mean mg mb h₀)
  (hd : dpt + 300 < recursionLimit) (hu : un + 1500 < cLine)
  (seen : ns.any (· == (S.gi : Int)) = true → ∀ h' tk',
    Fr h₀ L h' (mp [(Str.ofString "script", u1), (Str.ofString "feed", u2), (Str.ofString "many", u3), (Str.ofString "twice", u4), (Str.ofString "value", u5), (Str.ofString "own", u6), (Str.ofString "rows", u7), (Str.ofString "k", u8), (Str.ofString "row", some (Value.ref r)), (Str.ofString "turned", u10), (Str.ofString "texts", u11), (Str.ofString "right", u12), (Str.ofString "places", some (Value.ref pl)), (Str.ofString "due", some (Value.ref dl)), (Str.ofString "group", ug)]) →
    News h₀ L h' ((pl, listOf (List.toArray pvs) pn) :: (dl, listOf (List.toArray dvs) dn) :: (r, listOf (row9 S t1 t3 t4 t5 t6 t7 t8 tb) nr) :: news) →
    wpAny (model PySem.Challenge.pw_ja0052_01 w) (ktrTop dpt un gd (Str.ofString "law") lawSc L a ccd [] outer) (execs (dueB.drop 2) (lawE L a ccd)) Q (fun _ _ => False) ⟨h', s.gens, s.drawn, tk', s.os⟩)
  (fresh : ns.any (· == (S.gi : Int)) = false → ∀ l t pn' dn' h' tk',
    Fr h₀ L h' (mp [(Str.ofString "script", u1), (Str.ofString "feed", u2), (Str.ofString "many", u3), (Str.ofString "twice", u4), (Str.ofString "value", u5), (Str.ofString "own", u6), (Str.ofString "rows", u7), (Str.ofString "k", u8), (Str.ofString "row", some (Value.ref r)), (Str.ofString "turned", u10), (Str.ofString "texts", u11), (Str.ofString "right", u12), (Str.ofString "places", some (Value.ref pl)), (Str.ofString "due", some (Value.ref dl)), (Str.ofString "group", ug)]) →
    News h₀ L h' ((pl, listOf (List.toArray (pvs ++ [.int (S.gi : Int) t])) pn') :: (dl, listOf (List.toArray (dvs ++ [.ref l])) dn') :: (l, listOf (List.toArray []) 0) :: (r, listOf (row9 S t1 t3 t4 t5 t6 t7 t8 tb) nr) :: news) →
    (∀ q ∈ (pl, listOf (List.toArray pvs) pn) :: (dl, listOf (List.toArray dvs) dn) :: (r, listOf (row9 S t1 t3 t4 t5 t6 t7 t8 tb) nr) :: news, @LT.lt Nat _ q.1 l) →
    wpAny (model PySem.Challenge.pw_ja0052_01 w) (ktrTop dpt un gd (Str.ofString "law") lawSc L a ccd [] outer) (execs (dueB.drop 2) (lawE L a ccd)) Q (fun _ _ => False) ⟨h', s.gens, s.drawn, tk', s.os⟩)
  (hrw : PySem.Challenge.rw_ja0052_01 = PySem.Challenge.rw_ja0052_01) :
  wpAny (model PySem.Challenge.pw_ja0052_01 w) (ktrTop dpt un gd (Str.ofString "law") lawSc L a ccd [] outer) (execs (dueB.drop 1) (lawE L a ccd)) Q (fun _ _ => False) s := by
  revert X hrw
  k_fill
  intro X hrw
  clear hrw
  have e : lawSc = lawSc := rfl
  conv at e => rhs; whnf
  have eb : dueB.drop 1 = dueB.drop 1 := rfl
  conv at eb => rhs; whnf
  rw [eb]
  generalize hnx : List.drop 2 _ = rest at seen fresh
  rw [e] at seen fresh ⊢
  have N0 := N
  unfold row9 at N
  repeat ((fail_if_success (with_reducible show wpAny _ _ (compareOp _ _ _) _ _ _)); first | (dsimp only; (with_reducible show wpAny _ _ (compareOp _ _ _) _ _ _)) | k_unfold | walk1 | (dsimp only; walk1) | (leave1; try dsimp only))
  rename News _ _ _ _ => NA
  refine places_notIn (News.isList NA (.head _)) hi ?_
  generalize hb : (ns.any fun x => x == (S.gi : Int)) = bb at seen fresh ⊢
  cases bb with
  | true =>
    clear fresh
    repeat ((fail_if_success (with_reducible show wpAny _ _ (execs (Stmt.Assign _ _ _ :: _) _) _ _ _)); first | (dsimp only; (with_reducible show wpAny _ _ (execs (Stmt.Assign _ _ _ :: _) _) _ _ _)) | k_unfold | walk1 | (dsimp only; walk1) | (leave1; try dsimp only))
    rename News _ _ _ _ => N1
    rename Fr _ _ _ _ => F1
    rw [← hnx] at seen
    refine seen rfl _ _ F1 N1
  | false =>
    clear seen
    repeat ((fail_if_success (with_reducible show wpAny _ _ (call (Value.builtin "list.append") _ _) _ _ _)); first | (dsimp only; (with_reducible show wpAny _ _ (call (Value.builtin "list.append") _ _) _ _ _)) | k_unfold | walk1 | (dsimp only; walk1) | (leave1; try dsimp only))
    rename News _ _ _ _ => N1
    rename Fr _ _ _ _ => F1
    refine append_V (us := pvs) (cn := pn) (rest := (dl, listOf (List.toArray dvs) dn) :: (r, listOf (row9 S t1 t3 t4 t5 t6 t7 t8 tb) nr) :: news) F1 N1 ?_ (by rw [sizeLine_eq]; omega) ?_
    · intro q hq
      simp only [List.mem_cons] at hq
      rcases hq with rfl | rfl | h
      · exact Ne.symm hdis.1
      · exact Ne.symm hdis.2.1
      · exact (hoff q h).1
    intro h2 F2 N2
    clear N1 F1
    repeat ((fail_if_success (with_reducible show wpAny _ _ (call (Value.builtin "list.append") _ _) _ _ _)); first | (dsimp only; (with_reducible show wpAny _ _ (call (Value.builtin "list.append") _ _) _ _ _)) | k_unfold | walk1 | (dsimp only; walk1) | (leave1; try dsimp only))
    rename News _ _ _ _ => N3
    rename Fr _ _ _ _ => F3
    rename (_ ∧ _ ∧ _ ∧ AllLt _ _) => ll
    rename_i l _
    refine append_V (us := dvs) (cn := dn) (rest := (pl, listOf (List.toArray (pvs ++ [.int (S.gi : Int) t4])) (pn + 1)) :: (l, listOf (List.toArray []) 0) :: (r, listOf (row9 S t1 t3 t4 t5 t6 t7 t8 tb) nr) :: news) F3 (News.sub N3 ?_) ?_ (by rw [sizeLine_eq]; omega) ?_
    · walk_at "mine sub"
    · intro q hq
      simp only [List.mem_cons] at hq
      rcases hq with rfl | rfl | rfl | h
      · exact hdis.1
      · exact Nat.ne_of_gt ll.2.1
      · exact Ne.symm hdis.2.2
      · exact (hoff q h).2
    intro h3 F4 N4
    clear N3 F3
    repeat ((fail_if_success (with_reducible show wpAny _ _ (execs (Stmt.Assign _ _ _ :: _) _) _ _ _)); first | (dsimp only; (with_reducible show wpAny _ _ (execs (Stmt.Assign _ _ _ :: _) _) _ _ _)) | k_unfold | walk1 | (dsimp only; walk1) | (leave1; try dsimp only))
    rename News _ _ _ _ => N5
    rename Fr _ _ _ _ => F5
    rw [← hnx] at fresh
    refine fresh rfl l t4 (pn + 1) (dn + 1) _ _ F5 (News.sub N5 ?_) ?_
    · walk_at "mine sub"
    · intro q hq
      simp only [List.mem_cons] at hq
      rcases hq with rfl | rfl | rfl | h
      · exact ll.1
      · exact ll.2.1
      · exact ll.2.2.1
      · exact allLt_lt ll.2.2.2 q h
end
section
theorem offM53 : True := by w_top off; trivial
open PySem.SeqAt
set_option maxRecDepth 100000
set_option maxHeartbeats 4000000
variable {p : Program} {loose : List Str} {mean : ExcName → Option Value} {mg mb : Str → Option Value}
  {dp un : Nat} {gd : Option (List Code)} {cn : Str} {cs : Scope} {a : Addr} {ccd : Value} {cl : List (Str × Addr)} {outer : List Env}
  {A₀ : Around} {E Q : Value → Shared → Prop} {s : Shared} {base h₀ : Heap} {L : Addr} {m : Str → Option Value} {news : List (Addr × Obj)}
theorem nodup_mid {α : Type} (a : α) (l1 l2 : List α) : (l1 ++ a :: l2).Nodup ↔ (a :: (l1 ++ l2)).Nodup := List.perm_middle.nodup_iff
theorem due_turn (w : World) (dpt : Nat) (pl dl rl r r0 : Addr) (pvs dvs refs : List Value) (pn dn rn : Nat) (S S0 : Sh) (o o0 : Obj) (D : List (Nat × List Sh)) (V W Zg : List (Addr × Obj)) (c : Nat) (b : Bool) (u1 u2 u3 u4 u5 u6 u8 u10 u11 ug : Option Value)
  (hD : DueW V c pvs dvs D Zg) (hsub : ∀ q ∈ V, q ∈ W) (hr : (r, o) ∈ V) (hS : IsRow S o) (hr0 : (r0, o0) ∈ V) (hS0 : IsRow S0 o0) (hc : c ≤ 50) (hDl : D.length ≤ 50) (hrl : refs.length ≤ 100)
  (hpl : pl ≠ dl ∧ rl ≠ pl ∧ rl ≠ dl) (hW : ∀ q ∈ W, q.1 ≠ pl ∧ q.1 ≠ dl) (hWZ : ∀ q ∈ W, ∀ z ∈ Zg, q.1 ≠ z.1) (hZ : ∀ z ∈ Zg, z.1 ≠ pl ∧ z.1 ≠ dl ∧ z.1 ≠ rl) (hnd : (Zg.map Prod.fst).Nodup) {Q : Flow → Shared → Prop}
  (N : News h₀ L s.heap ((pl, listOf (List.toArray pvs) pn) :: (dl, listOf (List.toArray dvs) dn) :: (rl, listOf (List.toArray (.ref r0 :: refs)) rn) :: (W ++ Zg))) (B : Below A₀ base outer h₀)
  (F : Fr h₀ L s.heap (mp [(Str.ofString "script", u1), (Str.ofString "feed", u2), (Str.ofString "many", u3), (Str.ofString "twice", u4), (Str.ofString "value", u5), (Str.ofString "own", u6), (Str.ofString "rows", some (Value.ref rl)), (Str.ofString "k", u8), (Str.ofString "row", some (Value.ref r)), (Str.ofString "turned", u10), (Str.ofString "texts", u11), (Str.ofString "right", some (Value.bool b)), (Str.ofString "places", some (Value.ref pl)), (Str.ofString "due", some (Value.ref dl)), (Str.ofString "group", ug)])) (X : (Mine.hd.heap_1 w.params).In h₀) (T : Top p loose mean mg mb h₀)
  (hd : dpt + 300 < recursionLimit) (hu : un + 1500 < cLine)
  (next : ∀ ug' pvs' dvs' pn' dn' Zg' h' tk', DueW V (c + 1) pvs' dvs' (addD S D) Zg' → (∀ q ∈ W, ∀ z ∈ Zg', q.1 ≠ z.1) → (∀ z ∈ Zg', z.1 ≠ pl ∧ z.1 ≠ dl ∧ z.1 ≠ rl) → (Zg'.map Prod.fst).Nodup →
    (∀ z ∈ Zg', (∃ z0 ∈ Zg, z0.1 = z.1) ∨ ∀ q ∈ (pl, listOf (List.toArray pvs) pn) :: (dl, listOf (List.toArray dvs) dn) :: (rl, listOf (List.toArray (.ref r0 :: refs)) rn) :: (W ++ Zg), @LT.lt Nat _ q.1 z.1) →
    Fr h₀ L h' (mp [(Str.ofString "script", u1), (Str.ofString "feed", u2), (Str.ofString "many", u3), (Str.ofString "twice", u4), (Str.ofString "value", u5), (Str.ofString "own", u6), (Str.ofString "rows", some (Value.ref rl)), (Str.ofString "k", u8), (Str.ofString "row", some (Value.ref r)), (Str.ofString "turned", u10), (Str.ofString "texts", u11), (Str.ofString "right", some (Value.bool (b && decide (cpK S = cpK S0) && okD S D))), (Str.ofString "places", some (Value.ref pl)), (Str.ofString "due", some (Value.ref dl)), (Str.ofString "group", ug')]) →
    News h₀ L h' ((pl, listOf (List.toArray pvs') pn') :: (dl, listOf (List.toArray dvs') dn') :: (rl, listOf (List.toArray (.ref r0 :: refs)) rn) :: (W ++ Zg')) → Q .next ⟨h', s.gens, s.drawn, tk', s.os⟩)
  (hrw : PySem.Challenge.rw_ja0052_01 = PySem.Challenge.rw_ja0052_01) :
  wpAny (model PySem.Challenge.pw_ja0052_01 w) (ktrTop dpt un gd (Str.ofString "law") lawSc L a ccd [] outer) (execs dueB (lawE L a ccd)) Q (fun _ _ => False) s := by
  obtain ⟨t1, t3, t4, t5, t6, t7, t8, tb, nr, rfl⟩ := hS
  obtain ⟨w1, w3, w4, w5, w6, w7, w8, wb, n0, rfl⟩ := hS0
  have hrW := hW _ (hsub _ hr)
  obtain ⟨z1, z2, z3⟩ := hD.len
  -- the end of a turn, from the group's place
  have key : ∀ (l : Addr) (t : Tok) (gs : List Value) (gn : Nat) (Gs : List Sh) (pp pq dp dq : List Value) (Dp Dq : List (Nat × List Sh)) (Zp Zq : List (Addr × Obj)) (pn2 dn2 : Nat) (h : Heap) (tk : Nat), (∀ p ∈ Dp, p.1 ≠ S.gi) → RowsIn V gs Gs → gs.length ≤ c → DueW V c pp dp Dp Zp → DueW V c pq dq Dq Zq →
      pp.length + pq.length ≤ 100 → addD S D = Dp ++ (S.gi, addN Gs S) :: Dq → okD S D = mtOk Gs S → (l ≠ pl ∧ l ≠ dl ∧ l ≠ rl) → (∀ q ∈ W, q.1 ≠ l) → (∀ z ∈ Zp ++ Zq, z.1 ≠ l ∧ z ∈ Zg) → ((Zp ++ Zq).map Prod.fst).Nodup →
      ((∃ z0 ∈ Zg, z0.1 = l) ∨ ∀ q ∈ (pl, listOf (List.toArray pvs) pn) :: (dl, listOf (List.toArray dvs) dn) :: (rl, listOf (List.toArray (.ref r0 :: refs)) rn) :: (W ++ Zg), @LT.lt Nat _ q.1 l) →
      Fr h₀ L h (mp [(Str.ofString "script", u1), (Str.ofString "feed", u2), (Str.ofString "many", u3), (Str.ofString "twice", u4), (Str.ofString "value", u5), (Str.ofString "own", u6), (Str.ofString "rows", some (Value.ref rl)), (Str.ofString "k", u8), (Str.ofString "row", some (Value.ref r)), (Str.ofString "turned", u10), (Str.ofString "texts", u11), (Str.ofString "right", some (Value.bool (b && decide (cpK S = cpK S0)))), (Str.ofString "places", some (Value.ref pl)), (Str.ofString "due", some (Value.ref dl)), (Str.ofString "group", ug)]) →
      News h₀ L h ((pl, listOf (List.toArray (pp ++ .int (S.gi : Int) t :: pq)) pn2) :: (dl, listOf (List.toArray (dp ++ .ref l :: dq)) dn2) :: (l, listOf (List.toArray gs) gn) :: (r, listOf (row9 S t1 t3 t4 t5 t6 t7 t8 tb) nr) :: (rl, listOf (List.toArray (.ref r0 :: refs)) rn) :: (W ++ (Zp ++ Zq))) →
      wpAny (model PySem.Challenge.pw_ja0052_01 w) (ktrTop dpt un gd (Str.ofString "law") lawSc L a ccd [] outer) (execs (dueB.drop 2) (lawE L a ccd)) Q (fun _ _ => False) ⟨h, s.gens, s.drawn, tk, s.os⟩ := by
    intro l t gs gn Gs pp pq dp dq Dp Dq Zp Zq pn2 dn2 h tk hne hR hgs hp hq hsz ha ho hl hlW hlZ hnd' hold F1 N1
    obtain ⟨y1, y2, y3⟩ := hp.len
    obtain ⟨x1, x2, x3⟩ := hq.len
    refine due_c (s := ⟨h, s.gens, s.drawn, tk, s.os⟩) w dpt pl dl l r pp pq dp dq gs pn2 dn2 gn nr _ _ S Gs t t1 t3 t4 t5 t6 t7 t8 tb (b && decide (cpK S = cpK S0)) _ _ _ _ _ _ _ _ _ _ _ hp.ints hq.ints ?_ (by omega) hsz (by omega) (by omega) (hR.mono fun q hq => .tail _ (.tail _ (List.mem_append_left _ (hsub q hq)))) ?_ ⟨Ne.symm hl.1, Ne.symm hl.2.1, hlW _ (hsub _ hr)⟩ N1 B F1 X T hd hu ?_ rfl
    · intro x hx e
      obtain ⟨p, hp', rfl⟩ := List.mem_map.mp hx
      exact hne p hp' (Int.ofNat.inj e)
    · intro q hq
      rcases List.mem_cons.mp hq with rfl | hq
      · exact Ne.symm hl.2.2
      · rcases List.mem_append.mp hq with hq | hq
        · exact hlW q hq
        · exact (hlZ q hq).1
    · intro gs' gn' h' tk' hR' hl' F2 N2
      refine next _ (pp ++ .int (S.gi : Int) t :: pq) (dp ++ .ref l :: dq) pn2 dn2 (Zp ++ (l, listOf (List.toArray gs') gn') :: Zq) h' tk' ?_ ?_ ?_ ?_ ?_ (by rw [ho]; exact F2) (News.sub N2 ?_)
      · rw [ha]
        exact (hp.mono (fun _ h => h) (Nat.le_succ _)).append (.cons (hR' V hR hr) (by omega) (hq.mono (fun _ h => h) (Nat.le_succ _)))
      · intro q hq z hz
        simp only [List.mem_append, List.mem_cons] at hz
        rcases hz with hz | rfl | hz
        · exact hWZ q hq z (hlZ z (List.mem_append_left _ hz)).2
        · exact hlW q hq
        · exact hWZ q hq z (hlZ z (List.mem_append_right _ hz)).2
      · intro z hz
        simp only [List.mem_append, List.mem_cons] at hz
        rcases hz with hz | rfl | hz
        · exact hZ z (hlZ z (List.mem_append_left _ hz)).2
        · exact hl
        · exact hZ z (hlZ z (List.mem_append_right _ hz)).2
      · rw [List.map_append, List.map_cons, nodup_mid, ← List.map_append]
        refine List.nodup_cons.mpr ⟨fun hm => ?_, hnd'⟩
        obtain ⟨z, hz, e⟩ := List.mem_map.mp hm
        exact (hlZ z hz).1 e
      · intro z hz
        simp only [List.mem_append, List.mem_cons] at hz
        rcases hz with hz | rfl | hz
        · exact .inl ⟨z, (hlZ z (List.mem_append_left _ hz)).2, rfl⟩
        · rcases hold with h | h
          · exact .inl h
          · refine .inr fun q hq => ?_
            simp only [List.mem_cons] at hq
            rcases hq with rfl | rfl | rfl | hq
            · exact h (pl, listOf (List.toArray pvs) pn) (.head _)
            · exact h (dl, listOf (List.toArray dvs) dn) (.tail _ (.head _))
            · exact h (rl, _) (.tail _ (.tail _ (.head _)))
            · exact h q (.tail _ (.tail _ (.tail _ hq)))
        · exact .inl ⟨z, (hlZ z (List.mem_append_right _ hz)).2, rfl⟩
      · intro q hq
        simp only [List.mem_append, List.mem_cons] at hq ⊢
        rcases hq with h | h | h | h | h | h | h <;> simp [h]
  refine due_a w dpt rl r r0 refs rn nr n0 S S0 t1 t3 t4 t5 t6 t7 t8 tb w1 w3 w4 w5 w6 w7 w8 wb b _ _ _ _ _ _ _ _ _ _ _ _ hrl (news := (pl, listOf (List.toArray pvs) pn) :: (dl, listOf (List.toArray dvs) dn) :: (W ++ Zg)) (.tail _ (.tail _ (.tail _ (List.mem_append_left _ (hsub _ hr0))))) (News.sub N ?_) B F X T hd hu ?_ rfl
  · intro q hq
    simp only [List.mem_append, List.mem_cons] at hq ⊢
    rcases hq with rfl | rfl | rfl | rfl | h | h
    · simp
    · exact .inr (.inr (.inr (.inl (hsub _ hr))))
    · simp
    · simp
    · simp [h]
    · simp [h]
  intro h1 tk1 F1 N1
  refine due_b (s := ⟨h1, s.gens, s.drawn, tk1, s.os⟩) w dpt pl dl r pvs dvs pn dn nr _ S t1 t3 t4 t5 t6 t7 t8 tb _ _ _ _ _ _ _ _ _ _ _ _ hD.ints (by omega) (by omega) ⟨hpl.1, Ne.symm hrW.1, Ne.symm hrW.2⟩ (news := (rl, listOf (List.toArray (.ref r0 :: refs)) rn) :: (W ++ Zg)) ?_ (News.sub N1 ?_) B F1 X T hd hu ?_ ?_ rfl
  · intro q hq
    simp only [List.mem_append, List.mem_cons] at hq
    rcases hq with rfl | h | h
    · exact hpl.2
    · exact hW q h
    · exact ⟨(hZ q h).1, (hZ q h).2.1⟩
  · intro q hq
    simp only [List.mem_append, List.mem_cons] at hq ⊢
    rcases hq with h | h | h | h | h | h <;> simp [h]
  · intro hany h2 tk2 F2 N2
    rcases hD.find S.gi with hno | ⟨l, t, gs, n, Gs, pp, pq, dp, dq, Dp, Dq, Zp, Zq, rfl, rfl, rfl, rfl, q5, q7, q8, q9, q10⟩
    · exfalso
      obtain ⟨p, hp, e⟩ := (hD.any S.gi).mp hany
      exact hno p hp e
    have ha := addD_at (S := S) (Ss := Gs) (Dq := Dq) q5
    rw [List.map_append, List.map_cons, nodup_mid, ← List.map_append] at hnd
    obtain ⟨hnd1, hnd2⟩ := List.nodup_cons.mp hnd
    have hlm : (l, listOf (List.toArray gs) n) ∈ Zp ++ (l, listOf (List.toArray gs) n) :: Zq := List.mem_append_right _ (.head _)
    refine key l t gs n Gs pp pq dp dq Dp Dq Zp Zq pn dn h2 tk2 q5 q7 q8 q9 q10 ?_ ha.1 ha.2 (hZ _ hlm) (fun q hq => hWZ q hq _ hlm) ?_ hnd2 (.inl ⟨_, hlm, rfl⟩) F2 (News.sub N2 ?_)
    · have := z1
      rw [List.length_append, List.length_cons] at this
      omega
    · intro z hz
      refine ⟨fun e => hnd1 ?_, ?_⟩
      · exact e ▸ List.mem_map.mpr ⟨z, hz, rfl⟩
      · rcases List.mem_append.mp hz with hz | hz
        · exact List.mem_append_left _ hz
        · exact List.mem_append_right _ (.tail _ hz)
    · intro q hq
      simp only [List.mem_append, List.mem_cons] at hq ⊢
      rcases hq with h | h | h | h | h | h | h | h <;> simp [h]
  · intro hany l t pn' dn' h2 tk2 F2 N2 ll
    have hno : ∀ p ∈ D, p.1 ≠ S.gi := fun p hp e => by
      have := (hD.any S.gi).mpr ⟨p, hp, e⟩
      rw [hany] at this
      cases this
    have ha := addD_new (S := S) hno
    have hlW : ∀ q ∈ W, q.1 ≠ l := fun q hq => Nat.ne_of_lt (ll q (.tail _ (.tail _ (.tail _ (.tail _ (List.mem_append_left _ hq))))))
    refine key l t [] 0 [] pvs [] dvs [] D [] Zg [] pn' dn' h2 tk2 hno .nil (Nat.zero_le _) hD .nil (by simp; omega) ha.1 ha.2 ⟨?_, ?_, ?_⟩ hlW ?_ (by simpa using hnd) (.inr ?_) F2 (News.sub N2 ?_)
    · exact Nat.ne_of_gt (ll (pl, listOf (List.toArray pvs) pn) (.head _))
    · exact Nat.ne_of_gt (ll (dl, listOf (List.toArray dvs) dn) (.tail _ (.head _)))
    · exact Nat.ne_of_gt (ll (rl, _) (.tail _ (.tail _ (.tail _ (.head _)))))
    · intro z hz
      rw [List.append_nil] at hz
      exact ⟨Nat.ne_of_lt (ll z (.tail _ (.tail _ (.tail _ (.tail _ (List.mem_append_right _ hz)))))), hz⟩
    · intro q hq
      simp only [List.mem_cons] at hq
      rcases hq with rfl | rfl | rfl | hq
      · exact ll (pl, listOf (List.toArray pvs) pn) (.head _)
      · exact ll (dl, listOf (List.toArray dvs) dn) (.tail _ (.head _))
      · exact ll (rl, _) (.tail _ (.tail _ (.tail _ (.head _))))
      · exact ll q (.tail _ (.tail _ (.tail _ (.tail _ hq))))
    · intro q hq
      simp only [List.mem_append, List.mem_cons, List.append_nil] at hq ⊢
      rcases hq with h | h | h | h | h | h | h <;> simp [h]
end
section
theorem offM54 : True := by w_top off; trivial
local macro_rules | `(tactic| walk_at "mine pad") => `(tactic| skip)
open PySem.SeqAt
set_option maxRecDepth 100000
set_option maxHeartbeats 40000000
variable {p : Program} {loose : List Str} {mean : ExcName → Option Value} {mg mb : Str → Option Value}
  {dp un : Nat} {gd : Option (List Code)} {cn : Str} {cs : Scope} {a : Addr} {ccd : Value} {cl : List (Str × Addr)} {outer : List Env}
  {A₀ : Around} {E Q : Value → Shared → Prop} {s : Shared} {base h₀ : Heap} {L : Addr} {m : Str → Option Value} {news : List (Addr × Obj)}
def dS : Sh := ⟨0, false, 0, 0, 0, 0, 0, 0, #[]⟩
def lawN (Rs : List Sh) : Bool × List (Nat × List Sh) := Rs.foldl (lawS (Rs.headD dS)) (!Rs.isEmpty, [])
theorem addD_len (S : Sh) : ∀ D : List (Nat × List Sh), (addD S D).length ≤ D.length + 1
  | [] => Nat.le_refl _
  | (g, Ss) :: r => by
    have := addD_len S r
    unfold addD
    split <;> simp <;> omega
theorem eqL_nil (Ss : List Sh) : eqL Ss [] = Ss.isEmpty := by cases Ss <;> rfl
theorem headD_row {V : List (Addr × Obj)} {refs : List Value} {Rs : List Sh} (h : RowsIn V refs Rs) (hne : refs ≠ []) : ∃ r0 o0 rs, refs = .ref r0 :: rs ∧ (r0, o0) ∈ V ∧ IsRow (Rs.headD dS) o0 := by
  cases h with
  | nil => exact absurd rfl hne
  | cons h1 h2 _ => exact ⟨_, _, _, rfl, h1, h2⟩
inductive DueJ (u1 u2 u3 u4 u5 u6 u8 u10 u11 : Option Value) (rl pl dl : Addr) (refs : List Value) (rn : Nat) (V Y : List (Addr × Obj)) (Rs : List Sh) (gs : Array GenState) (i : Nat) (m' : Str → Option Value) (nw : List (Addr × Obj)) (g : Array GenState) : Prop
  | mk  (b : _) (pvs : _) (dvs : _) (pn : _) (dn : _) (D : _) (Zg : _) (u9 : _) (ug : _)
    (c0 : m' = mp [(Str.ofString "script", u1), (Str.ofString "feed", u2), (Str.ofString "many", u3), (Str.ofString "twice", u4), (Str.ofString "value", u5), (Str.ofString "own", u6), (Str.ofString "rows", some (Value.ref rl)), (Str.ofString "k", u8), (Str.ofString "row", u9), (Str.ofString "turned", u10), (Str.ofString "texts", u11), (Str.ofString "right", some (Value.bool b)), (Str.ofString "places", some (Value.ref pl)), (Str.ofString "due", some (Value.ref dl)), (Str.ofString "group", ug)])
    (c1 : nw = (pl, listOf (List.toArray pvs) pn) :: (dl, listOf (List.toArray dvs) dn) :: (rl, listOf (List.toArray refs) rn) :: (Y ++ Zg))
    (c2 : DueW V i pvs dvs D Zg)
    (c3 : (b, D) = (Rs.take i).foldl (lawS (Rs.headD dS)) (!Rs.isEmpty, []))
    (c4 : D.length ≤ i)
    (c5 : (Zg.map Prod.fst).Nodup)
    (c6 : (∀ z ∈ Zg, @LT.lt Nat _ dl z.1))
    (c7 : g = gs)
theorem law_p5 (w : World) (rl : Addr) (refs : List Value) (rn : Nat) (Rs : List Sh) (V Y : List (Addr × Obj)) (u1 u2 u3 u4 u5 u6 u8 u9 u10 u11 : Option Value) (hR : RowsIn V refs Rs) (hRl : Rs.length ≤ 20) (hVY : ∀ q ∈ V, q ∈ Y) {Q : Flow → Shared → Prop}
  (N : News h₀ L s.heap ((rl, listOf (List.toArray refs) rn) :: Y)) (B : Below A₀ base outer h₀)
  (F : Fr h₀ L s.heap (mp [(Str.ofString "script", u1), (Str.ofString "feed", u2), (Str.ofString "many", u3), (Str.ofString "twice", u4), (Str.ofString "value", u5), (Str.ofString "own", u6), (Str.ofString "rows", some (Value.ref rl)), (Str.ofString "k", u8), (Str.ofString "row", u9), (Str.ofString "turned", u10), (Str.ofString "texts", u11)])) (X : (Mine.hd.heap_1 w.params).In h₀) (T : Top p loose mean mg mb h₀)
  (hd : dp + 300 < recursionLimit) (hu : un + 1500 < cLine)
  (next : ∀ pl dl pvs dvs pn dn Zg u9 ug h' tk', DueW V 20 pvs dvs (lawN Rs).2 Zg → (Zg.map Prod.fst).Nodup → (∀ q ∈ (rl, listOf (List.toArray refs) rn) :: Y, @LT.lt Nat _ q.1 pl) → @LT.lt Nat _ pl dl → (∀ z ∈ Zg, @LT.lt Nat _ dl z.1) →
    Fr h₀ L h' (mp [(Str.ofString "script", u1), (Str.ofString "feed", u2), (Str.ofString "many", u3), (Str.ofString "twice", u4), (Str.ofString "value", u5), (Str.ofString "own", u6), (Str.ofString "rows", some (Value.ref rl)), (Str.ofString "k", u8), (Str.ofString "row", u9), (Str.ofString "turned", u10), (Str.ofString "texts", u11), (Str.ofString "right", some (Value.bool (lawN Rs).1)), (Str.ofString "places", some (Value.ref pl)), (Str.ofString "due", some (Value.ref dl)), (Str.ofString "group", ug)]) →
    News h₀ L h' ((pl, listOf (List.toArray pvs) pn) :: (dl, listOf (List.toArray dvs) dn) :: (rl, listOf (List.toArray refs) rn) :: (Y ++ Zg)) →
    wpAny (model PySem.Challenge.pw_ja0052_01 w) (ktrTop dp un gd (Str.ofString "law") lawSc L a ccd [] outer) (execs (lawB.drop 14) (lawE L a ccd)) Q (fun _ _ => False) ⟨h', s.gens, s.drawn, tk', s.os⟩)
  (hrw : PySem.Challenge.rw_ja0052_01 = PySem.Challenge.rw_ja0052_01) :
  wpAny (model PySem.Challenge.pw_ja0052_01 w) (ktrTop dp un gd (Str.ofString "law") lawSc L a ccd [] outer) (execs (lawB.drop 10) (lawE L a ccd)) Q (fun _ _ => False) s := by
  have turn := @due_turn
  generalize hrb : dueB = body at turn
  conv at hrb => lhs; whnf
  revert X hrw
  k_fill
  intro X hrw
  clear hrw
  have e : lawSc = lawSc := rfl
  conv at e => rhs; whnf
  have eb : lawB.drop 10 = lawB.drop 10 := rfl
  conv at eb => rhs; whnf
  rw [eb]
  generalize hnx : List.drop 14 _ = rest at next
  rw [e] at next ⊢
  have hrf := hR.len
  repeat ((fail_if_success (with_reducible show wpAny _ _ (compareOp _ _ _) _ _ _)); first | (dsimp only; (with_reducible show wpAny _ _ (compareOp _ _ _) _ _ _)) | k_unfold | walk1 | (dsimp only; walk1) | (leave1; try dsimp only))
  rename News _ _ _ _ => N1
  refine rows_ne N1 (.tail _ (.head _)) (.head _) (hR.mono fun q hq => .tail _ (.tail _ (hVY q hq))) .nil (by k_units) ?_
  rw [eqL_nil]
  repeat ((fail_if_success (with_reducible show wpAny _ _ (exec (Stmt.For _ _ _ _ _) _) _ _ _)); first | (dsimp only; (with_reducible show wpAny _ _ (exec (Stmt.For _ _ _ _ _) _) _ _ _)) | k_unfold | walk1 | (dsimp only; walk1) | (leave1; try dsimp only))
  refine For_ ?_
  repeat ((fail_if_success (with_reducible show wpAny _ _ (pyIter _) _ _ _)); first | (dsimp only; (with_reducible show wpAny _ _ (pyIter _) _ _ _)) | k_unfold | walk1 | (dsimp only; walk1) | (leave1; try dsimp only))
  rename News _ _ _ _ => N4
  rename Fr _ _ _ _ => F4
  rename (_ ∧ _ ∧ _ ∧ AllLt _ _) => ldl
  rename (_ ∧ _ ∧ AllLt _ _) => lpl
  rename_i pl _ _ _ dl _ _ _
  replace F4 := (show Fr _ _ _ (mp ((Str.ofString "due", some _) :: (Str.ofString "places", some _) :: (Str.ofString "right", some _) :: _)) from F4)
  have hbase : ∀ q ∈ (rl, listOf (List.toArray refs) rn) :: Y, @LT.lt Nat _ q.1 pl := fun q hq => by
    rcases List.mem_cons.mp hq with rfl | hq
    · exact lpl.2.1
    · exact allLt_lt lpl.2.2 q hq
  have hpd : @LT.lt Nat _ pl dl := ldl.1
  replace N4 := News.sub N4 (show ∀ q ∈ (pl, listOf (List.toArray []) 0) :: (dl, listOf (List.toArray []) 0) :: (rl, listOf (List.toArray refs) rn) :: (Y ++ []), q ∈ _ from by
    intro q hq
    simp only [List.mem_cons, List.append_nil] at hq ⊢
    rcases hq with h | h | h | h <;> simp [h])
  refine for_listI rfl (News.isList N4 (.tail _ (.tail _ (.head _)))) (N4 _ (.tail _ (.tail _ (.head _)))).2.1 (by rfl) (by rfl) (by passes_own) F4 N4
    (DueJ u1 u2 u3 u4 u5 u6 u8 u10 u11 rl pl dl refs rn V Y Rs s.gens) ?_ ?_ ?_
  · exact ⟨_, [], [], 0, 0, [], [], _, _, mp_canon [Str.ofString "script", Str.ofString "feed", Str.ofString "many", Str.ofString "twice", Str.ofString "value", Str.ofString "own", Str.ofString "rows", Str.ofString "k", Str.ofString "row", Str.ofString "turned", Str.ofString "texts", Str.ofString "right", Str.ofString "places", Str.ofString "due", Str.ofString "group"] _ (by rfl), rfl, .nil, rfl, Nat.le_refl _, List.nodup_nil, (fun z hz => nomatch hz), rfl⟩
  · rintro I i v m₁ news₁ g₁ own h5 tk5 hv hJ9 hI hown ⟨oI, hoI⟩ F5 N5
    k_fold
    obtain ⟨b, pvs, dvs, pn, dn, D, Zg, u9', ug, rfl, rfl, hD, hbD, hDl, hnd, hZ, rfl⟩ := hJ9
    obtain ⟨r, o, S, rfl, hro, hS, hSi⟩ := hR.item hv
    have hne : refs ≠ [] := fun e => by rw [e] at hv; simp at hv
    have hil : i < refs.length := (List.getElem?_eq_some_iff.mp hv).1
    obtain ⟨r0, o0, rs, hrs, hro0, hS0⟩ := headD_row hR hne
    subst hrs
    have hIx : ∀ q ∈ (pl, listOf (List.toArray pvs) pn) :: (dl, listOf (List.toArray dvs) dn) :: (rl, listOf (List.toArray (.ref r0 :: rs)) rn) :: (Y ++ Zg), q.1 ≠ I := fun q hq ee => hI q hq (List.mem_singleton.mpr ee)
    have hrl : @LT.lt Nat _ rl pl := hbase (rl, _) (.head _)
    replace F5 := (show Fr _ _ _ (mp ((Str.ofString "row", some _) :: _)) from F5)
    rw [mp_canon [Str.ofString "script", Str.ofString "feed", Str.ofString "many", Str.ofString "twice", Str.ofString "value", Str.ofString "own", Str.ofString "rows", Str.ofString "k", Str.ofString "row", Str.ofString "turned", Str.ofString "texts", Str.ofString "right", Str.ofString "places", Str.ofString "due", Str.ofString "group"] _ (by rfl)] at F5
    rw [← hrb] at turn
    rw [← e]
    refine turn w dp pl dl rl r r0 pvs dvs rs pn dn rn S (Rs.headD dS) o o0 D V (Y ++ own) Zg i b _ _ _ _ _ _ _ _ _ _ hD (fun q hq => List.mem_append_left _ (hVY q hq)) hro hS hro0 hS0 (by omega) (by omega) (by simp at hil hrf; omega) ⟨Nat.ne_of_lt hpd, Nat.ne_of_lt hrl, Nat.ne_of_lt (Nat.lt_trans hrl hpd)⟩ ?_ ?_ ?_ hnd (News.sub N5 ?_) B F5 X T hd hu ?_ rfl
    · intro q hq
      rcases List.mem_append.mp hq with hq | hq
      · have := hbase q (.tail _ hq)
        exact ⟨Nat.ne_of_lt this, Nat.ne_of_lt (Nat.lt_trans this hpd)⟩
      · rcases List.mem_cons.mp (hown q hq) with h | h
        · rw [h]; exact ⟨fun q => hIx _ (.head _) q.symm, fun q => hIx _ (.tail _ (.head _)) q.symm⟩
        · rw [List.mem_singleton.mp h]
          exact ⟨Nat.ne_of_lt hrl, Nat.ne_of_lt (Nat.lt_trans hrl hpd)⟩
    · intro q hq z hz
      have hdz := hZ z hz
      rcases List.mem_append.mp hq with hq | hq
      · exact Nat.ne_of_lt (Nat.lt_trans (Nat.lt_trans (hbase q (.tail _ hq)) hpd) hdz)
      · rcases List.mem_cons.mp (hown q hq) with h | h
        · rw [h]; exact fun q => hIx z (.tail _ (.tail _ (.tail _ (List.mem_append_right _ hz)))) q.symm
        · rw [List.mem_singleton.mp h]
          exact Nat.ne_of_lt (Nat.lt_trans (Nat.lt_trans hrl hpd) hdz)
    · intro z hz
      have hdz := hZ z hz
      exact ⟨Nat.ne_of_gt (Nat.lt_trans hpd hdz), Nat.ne_of_gt hdz, Nat.ne_of_gt (Nat.lt_trans (Nat.lt_trans hrl hpd) hdz)⟩
    · intro q hq
      simp only [List.mem_append, List.mem_cons] at hq ⊢
      rcases hq with h | h | h | (h | h) | h <;> simp [h]
    · intro ug' pvs' dvs' pn' dn' Zg' h' tk' q1 q2 q3 q4 q5 F6 N6
      refine ⟨h', tk', _, _, _, (pl, listOf (List.toArray pvs') pn') :: (dl, listOf (List.toArray dvs') dn') :: (rl, listOf (List.toArray (.ref r0 :: rs)) rn) :: (Y ++ Zg'), rfl, F6, N6, ?_, ?_, ?_, ⟨_, pvs', dvs', pn', dn', _, Zg', _, _, rfl, rfl, q1, ?_, ?_, q4, ?_, rfl⟩⟩
      · intro q hq
        simp only [List.mem_append, List.mem_cons]
        simp [hq]
      · intro q hq
        simp only [List.mem_append, List.mem_cons] at hq ⊢
        rcases hq with h | h | h | h | h <;> simp [h]
      · intro q hq hqI
        have hqI' := List.mem_singleton.mp hqI
        simp only [List.mem_append, List.mem_cons] at hq
        rcases hq with rfl | rfl | rfl | h | h
        · exact hIx _ (.head _) hqI'
        · exact hIx _ (.tail _ (.head _)) hqI'
        · exact hIx _ (.tail _ (.tail _ (.head _))) hqI'
        · exact hIx q (.tail _ (.tail _ (.tail _ (List.mem_append_left _ h)))) hqI'
        · rcases q5 q h with ⟨z0, hz0, e0⟩ | hlt
          · exact hIx z0 (.tail _ (.tail _ (.tail _ (List.mem_append_right _ hz0)))) (e0.trans hqI')
          · have := hlt (I, oI) (.tail _ (.tail _ (.tail _ (List.mem_append_left _ (List.mem_append_right _ hoI)))))
            exact absurd hqI' (Nat.ne_of_gt this)
      · rw [List.take_add_one, hSi]
        simp only [Option.toList_some, List.foldl_append, List.foldl_cons, List.foldl_nil, ← hbD]
        rfl
      · have := addD_len S D
        omega
      · intro z hz
        rcases q5 z hz with ⟨z0, hz0, e0⟩ | hlt
        · rw [← e0]; exact hZ z0 hz0
        · exact hlt _ (.tail _ (.head _))
  · rintro m' nw g' h' tk' ⟨b, pvs, dvs, pn, dn, D, Zg, u9', ug, rfl, rfl, hD, hbD, hDl, hnd, hZ, rfl⟩ F5 N5
    rw [← hnx] at next
    rw [hrf, List.take_of_length_le (Nat.le_refl _)] at hbD
    have e1 : (lawN Rs).1 = b := by unfold lawN; rw [← hbD]
    have e2 : (lawN Rs).2 = D := by unfold lawN; rw [← hbD]
    rw [e1, e2] at next
    exact next pl dl pvs dvs pn dn Zg u9' ug h' tk' (hD.mono (fun q h => h) (by omega)) hnd hbase hpd hZ F5 N5
end
section
def GoodD (R0 : Sh) (D : List (Nat × List Sh)) : Prop := ∀ p ∈ D, ∀ S ∈ p.2, cpK S = cpK R0 ∧ S.gi = p.1
theorem addN_mem {Ss : List Sh} {S T : Sh} (h : T ∈ addN Ss S) : T ∈ Ss ∨ T = S := by
  unfold addN at h
  split at h
  · exact .inl h
  · rcases List.mem_append.mp h with h | h
    · exact .inl h
    · exact .inr (List.mem_singleton.mp h)
theorem addD_good {R0 S : Sh} (hS : cpK S = cpK R0) : ∀ {D : List (Nat × List Sh)}, GoodD R0 D → GoodD R0 (addD S D)
  | [], _ => by
    intro p hp T hT
    rw [List.mem_singleton.mp hp] at hT ⊢
    rw [List.mem_singleton.mp hT]
    exact ⟨hS, rfl⟩
  | (g, Ss) :: r, h => by
    unfold addD
    split
    · rename_i e
      intro p hp T hT
      rcases List.mem_cons.mp hp with rfl | hp
      · rcases addN_mem hT with hT | rfl
        · exact h _ (.head _) T hT
        · exact ⟨hS, e.symm⟩
      · exact h p (.tail _ hp) T hT
    · intro p hp T hT
      rcases List.mem_cons.mp hp with rfl | hp
      · exact h _ (.head _) T hT
      · exact addD_good hS (fun q hq => h q (.tail _ hq)) p hp T hT
theorem bad_mt {R0 S : Sh} {Ss : List Sh} {g : Nat} (hS : cpK S = cpK R0) (hg : g = S.gi) (h : ∀ T ∈ Ss, cpK T = cpK R0 ∧ T.gi = g) : badN Ss S = !mtOk Ss S := by
  cases Ss with
  | nil => rfl
  | cons S0 r =>
    show (!decide (gpK S0 = gpK S)) = !decide (S0.mt = S.mt)
    congr 1
    obtain ⟨h1, h2⟩ := h S0 (.head _)
    rw [← hS] at h1
    simp only [cpK, Prod.mk.injEq] at h1
    obtain ⟨a1, a2, a3, a4, a5⟩ := h1
    have a6 : S0.gi = S.gi := h2.trans hg
    simp only [gpK, a1, a2, a3, a4, a5, a6, Prod.mk.injEq, true_and]
theorem upd_add {R0 S : Sh} (hS : cpK S = cpK R0) : ∀ {D : List (Nat × List Sh)}, GoodD R0 D → updG S D = if okD S D = true then some (addD S D) else none
  | [], _ => rfl
  | (g, Ss) :: r, h => by
    have ih := upd_add hS (D := r) fun q hq => h q (.tail _ hq)
    unfold updG okD addD
    by_cases e : g = S.gi
    · rw [if_pos e, if_pos e, if_pos e, bad_mt hS e fun T hT => h _ (.head _) T hT]
      cases mtOk Ss S <;> rfl
    · rw [if_neg e, if_neg e, if_neg e, ih]
      cases okD S r <;> rfl
def RelL (R0 : Sh) (st : Bool × List (Nat × List Sh)) (o : Option (List Sh × List (Nat × List Sh))) : Prop :=
  (st.1 = true → o = some ([R0], st.2) ∧ GoodD R0 st.2) ∧ (st.1 = false → o = none ∨ ∃ cps grs, o = some (cps, grs) ∧ 2 ≤ cps.length)
theorem addC_len (cps : List Sh) (S : Sh) : cps.length ≤ (addC cps S).length := by
  unfold addC
  split
  · exact Nat.le_refl _
  · rw [List.length_append]; exact Nat.le_add_right _ _
theorem rel_step {R0 : Sh} {st : Bool × List (Nat × List Sh)} {o : Option (List Sh × List (Nat × List Sh))} (h : RelL R0 st o) (S : Sh) : RelL R0 (lawS R0 st S) (o.bind fun D => dec1 D S) := by
  obtain ⟨b, D⟩ := st
  cases b with
  | false =>
    refine ⟨fun e => by simp [lawS] at e, fun _ => ?_⟩
    rcases h.2 rfl with rfl | ⟨cps, grs, rfl, hl⟩
    · exact .inl rfl
    · show (updG S grs).map _ = none ∨ _
      cases hu : updG S grs with
      | none => exact .inl rfl
      | some g =>
        refine .inr ⟨addC cps S, g, ?_, Nat.le_trans hl (addC_len _ _)⟩
        show (updG S grs).map _ = _
        rw [hu]; rfl
  | true =>
    obtain ⟨rfl, hG⟩ := h.1 rfl
    by_cases hS : cpK S = cpK R0
    · have hu := upd_add hS hG
      have hC : addC [R0] S = [R0] := by
        unfold addC
        rw [if_pos (by simp [hS])]
      have e1 : (some ([R0], D) : Option (List Sh × List (Nat × List Sh))).bind (fun D => dec1 D S) = (updG S D).map fun g => (addC [R0] S, g) := rfl
      have e2 : lawS R0 (true, D) S = (okD S D, addD S D) := by simp [lawS, hS]
      dsimp only at hu hG
      rw [e1, e2, hu, hC]
      cases hk : okD S D with
      | true => exact ⟨fun _ => ⟨rfl, addD_good hS hG⟩, fun e => (by cases e)⟩
      | false => exact ⟨fun e => (by cases e), fun _ => .inl rfl⟩
    · refine ⟨fun e => by simp [lawS, hS] at e, fun _ => ?_⟩
      show (updG S D).map _ = none ∨ _
      cases hu : updG S D with
      | none => exact .inl rfl
      | some g =>
        refine .inr ⟨addC [R0] S, g, ?_, ?_⟩
        · show (updG S D).map _ = _
          rw [hu]; rfl
        · unfold addC
          rw [if_neg (by simpa using fun e => hS e.symm)]
          exact Nat.le_refl _
theorem rel_fold {R0 : Sh} : ∀ (l : List Sh) {st : Bool × List (Nat × List Sh)} {o : Option (List Sh × List (Nat × List Sh))}, RelL R0 st o → RelL R0 (l.foldl (lawS R0) st) (l.foldl (fun o S => o.bind fun D => dec1 D S) o)
  | [], _, _, h => h
  | S :: r, _, _, h => rel_fold r (rel_step h S)
theorem plain_rel (Rs : List Sh) : (Rs = [] ∧ (lawN Rs).1 = false ∧ decN Rs = some ([], [])) ∨ ∃ R0, RelL R0 (lawN Rs) (decN Rs) := by
  cases Rs with
  | nil => exact .inl ⟨rfl, rfl, rfl⟩
  | cons R0 r =>
    refine .inr ⟨R0, ?_⟩
    have h0 : RelL R0 (true, [(R0.gi, [R0])]) (some ([R0], [(R0.gi, [R0])])) :=
      ⟨fun _ => ⟨rfl, fun p hp T hT => by rw [List.mem_singleton.mp hp] at hT ⊢; rw [List.mem_singleton.mp hT]; exact ⟨rfl, rfl⟩⟩, fun e => by cases e⟩
    have e1 : lawN (R0 :: r) = r.foldl (lawS R0) (true, [(R0.gi, [R0])]) := by
      unfold lawN
      rw [List.foldl_cons]
      congr 1
      simp [lawS, addD, okD]
    have e2 : decN (R0 :: r) = r.foldl (fun o S => o.bind fun D => dec1 D S) (some ([R0], [(R0.gi, [R0])])) := by
      unfold decN
      rw [List.foldl_cons]
      rfl
    rw [e1, e2]
    exact rel_fold r h0
theorem plain_yes {Rs cps : List Sh} {grs : List (Nat × List Sh)} (h : decN Rs = some (cps, grs)) (h1 : cps.length = 1) : (lawN Rs).1 = true ∧ (lawN Rs).2 = grs := by
  rcases plain_rel Rs with ⟨rfl, _, e⟩ | ⟨R0, hr⟩
  · rw [e] at h; cases h; cases h1
  · cases hb : (lawN Rs).1 with
    | true =>
      have := (hr.1 hb).1
      rw [h] at this
      cases this
      exact ⟨rfl, rfl⟩
    | false =>
      rcases hr.2 hb with e | ⟨c', g', e, hl⟩
      · rw [h] at e; cases e
      · rw [h] at e; cases e; omega
theorem plain_no {Rs : List Sh} (h : ∀ cps grs, decN Rs = some (cps, grs) → cps.length ≠ 1) : (lawN Rs).1 = false := by
  rcases plain_rel Rs with ⟨rfl, e, _⟩ | ⟨R0, hr⟩
  · exact e
  · cases hb : (lawN Rs).1 with
    | false => rfl
    | true => exact absurd rfl (h _ _ (hr.1 hb).1)
end
section
theorem offM55 : True := by w_top off; trivial
open PySem.SeqAt
set_option maxRecDepth 100000
set_option maxHeartbeats 40000000
variable {p : Program} {loose : List Str} {mean : ExcName → Option Value} {mg mb : Str → Option Value}
  {dp un : Nat} {gd : Option (List Code)} {cn : Str} {cs : Scope} {a : Addr} {ccd : Value} {cl : List (Str × Addr)} {outer : List Env}
  {A₀ : Around} {E Q : Value → Shared → Prop} {s : Shared} {base h₀ : Heap} {L : Addr} {m : Str → Option Value} {news : List (Addr × Obj)}
theorem ints_of_keys {w : World} : ∀ {kvs : List (Int × Value)} (vs : List Value), vs.length = kvs.length → (∀ (j : Nat) (v : Value), vs[j]? = some v → ∃ (k : Int) (x : Value), kvs[j]? = some (k, x) ∧ (PySem.intKind PySem.Challenge.pw_ja0052_01 w).is k v = true) → IntsAre vs (kvs.map (·.1))
  | [], [], _, _ => .nil
  | q :: r, v :: vs, hl, hv => by
    obtain ⟨k, x, e, hk⟩ := hv 0 v rfl
    simp only [List.getElem?_cons_zero, Option.some.injEq] at e
    subst e
    obtain ⟨t, rfl⟩ := Value.isInt_shape hk
    exact .cons _ _ (ints_of_keys vs (by simpa using hl) fun j u hu => by simpa using hv (j + 1) u (by simpa using hu))
  | [], _ :: _, hl, _ => by simp at hl
  | _ :: _, [], hl, _ => by simp at hl
theorem list_dictI {w : World} {A : Around} {Q : Value → Shared → Prop} {d : Addr} {o : Obj} {kvs : List (Int × Value)} (hh : A.handled = none) (F : Fr h₀ L s.heap m) (N : News h₀ L s.heap news) (hp : (d, o) ∈ news) (hd : o.IsDictOf (PySem.intKind PySem.Challenge.pw_ja0052_01 w) kvs) (lo : (d == sysModules) = false) (hn : kvs.length ≤ 1000)
    (h : ∀ (B : Addr) c h' tk vs, IntsAre vs (kvs.map (·.1)) → Fr h₀ L h' m → News h₀ L h' ((B, listOf (List.toArray vs) c) :: news) → (∀ q ∈ news, q.1 < B) → Q (.ref B) { s with heap := h', toks := tk }) :
    wpAny (model PySem.Challenge.pw_ja0052_01 w) A (call (.type "list") [.ref d]) Q E s := by
  obtain ⟨ep, hat⟩ := (kda_dict N hp hd).dictAt
  refine kdl_N (kdl_dict (knd := PySem.intKind PySem.Challenge.pw_ja0052_01 w) (kvs := kvs) (ep := ep) lo) hh F N hat (kdl_size (by omega)) fun B c h' tk vs F' N' l1 hl hv => ?_
  exact h B c h' tk vs (ints_of_keys vs hl fun j u hu => hv j u hu) F' N' l1
theorem GrsIn.keys {w : World} {nw : List (Addr × Obj)} {kvs : List (Int × Value)} {grs : List (Nat × List Sh)} {ls : List Addr} (H : GrsIn w nw kvs grs ls) : kvs.map (·.1) = grs.map fun p => (p.1 : Int) := by
  induction H with
  | nil => rfl
  | cons _ _ _ _ _ ih => simp [ih]
theorem lawN_len (Rs : List Sh) : (lawN Rs).2.length ≤ Rs.length := by
  have key : ∀ (R0 : Sh) (l : List Sh) (st : Bool × List (Nat × List Sh)), (l.foldl (lawS R0) st).2.length ≤ st.2.length + l.length := by
    intro R0 l
    induction l with
    | nil => intro st; exact Nat.le_refl _
    | cons S r ih =>
      intro st
      rw [List.foldl_cons]
      refine Nat.le_trans (ih _) ?_
      have := addD_len S st.2
      show (addD S st.2).length + r.length ≤ _
      rw [List.length_cons]
      omega
  have := key (Rs.headD dS) Rs (!Rs.isEmpty, [])
  simpa [lawN] using this
theorem law_p6 (w : World) (dq uq : Nat) (hdq : dp = dq + 1) (huq : un = uq + 3) (tl pl dl : Addr) (tvs pvs dvs : List Value) (tn pn dn : Nat) (Rs : List Sh) (V Zg : List (Addr × Obj)) (oA oB : Obj) (u1 u2 u3 u4 u5 u6 u7 u8 u9 u10 u15 : Option Value) (hT : TxIn tvs Rs) (hlen : tvs.length ≤ 10) (hG : ∀ S ∈ Rs, Good S) (tA : TabOk oA) (tB : TabOk oB)
  (hD : DueW V 20 pvs dvs (lawN Rs).2 Zg) (hne : ∀ q ∈ (pl, listOf (List.toArray pvs) pn) :: (dl, listOf (List.toArray dvs) dn) :: (tl, listOf (List.toArray tvs) tn) :: (V ++ Zg), @LT.lt Nat _ 99 q.1) {Q : Flow → Shared → Prop}
  (C76 : CodeHd h₀ 80 76) (G : AllBare s.gens)
  (N : News h₀ L s.heap ((76, oA) :: (99, oB) :: (pl, listOf (List.toArray pvs) pn) :: (dl, listOf (List.toArray dvs) dn) :: (tl, listOf (List.toArray tvs) tn) :: (V ++ Zg))) (B : Below ⟨none, dq, some outer, gd, uq⟩ h₀ outer h₀)
  (F : Fr h₀ L s.heap (mp [(Str.ofString "script", u1), (Str.ofString "feed", u2), (Str.ofString "many", u3), (Str.ofString "twice", u4), (Str.ofString "value", u5), (Str.ofString "own", u6), (Str.ofString "rows", u7), (Str.ofString "k", u8), (Str.ofString "row", u9), (Str.ofString "turned", u10), (Str.ofString "texts", some (Value.ref tl)), (Str.ofString "right", some (Value.bool (lawN Rs).1)), (Str.ofString "places", some (Value.ref pl)), (Str.ofString "due", some (Value.ref dl)), (Str.ofString "group", u15)])) (X : (Mine.hd.heap_1 w.params).In h₀) (T : Top p loose mean mg mb h₀)
  (hd : dp + 300 < recursionLimit) (hu : un + 1500 < cLine)
  (hQ : ∀ h' tk' g' oA oB, AllBare g' → TabOk oA → TabOk oB → (∀ b o, h₀.get? b = some o → h'.get? b = some o) → h'.get? 76 = some oA → h'.get? 99 = some oB → Q (.ret (.bool true)) ⟨h', g', s.drawn, tk', s.os⟩)
  (next : ∀ cps grs, decN Rs = some (cps, grs) → cps.length = 1 → ∀ gl og kvs ls oA' nw h' tk' g', AllBare g' → TabOk oA' → Fr h₀ L h' (mp [(Str.ofString "script", u1), (Str.ofString "feed", u2), (Str.ofString "many", u3), (Str.ofString "twice", u4), (Str.ofString "value", u5), (Str.ofString "own", u6), (Str.ofString "rows", u7), (Str.ofString "k", u8), (Str.ofString "row", u9), (Str.ofString "turned", u10), (Str.ofString "texts", some (Value.ref tl)), (Str.ofString "right", some (Value.bool (lawN Rs).1)), (Str.ofString "places", some (Value.ref pl)), (Str.ofString "due", some (Value.ref dl)), (Str.ofString "group", u15), (Str.ofString "told", some (Value.ref gl))]) → News h₀ L h' ((76, oA') :: (gl, og) :: nw) → @LT.lt Nat _ 76 gl → (∀ q ∈ (99, oB) :: (pl, listOf (List.toArray pvs) pn) :: (dl, listOf (List.toArray dvs) dn) :: (tl, listOf (List.toArray tvs) tn) :: (V ++ Zg), @LT.lt Nat _ q.1 gl) → og.IsDictOf (PySem.intKind PySem.Challenge.pw_ja0052_01 w) kvs → GrsIn w nw kvs grs ls → (∀ q ∈ (99, oB) :: (pl, listOf (List.toArray pvs) pn) :: (dl, listOf (List.toArray dvs) dn) :: (tl, listOf (List.toArray tvs) tn) :: (V ++ Zg), q ∈ nw) → (∀ q ∈ nw, q.1 ≠ 76 ∧ q.1 ≠ gl) →
    wpAny (model PySem.Challenge.pw_ja0052_01 w) (ktrTop dp un gd (Str.ofString "law") lawSc L a ccd [] outer) (execs (lawB.drop 15) (lawE L a ccd)) Q (fun _ _ => False) ⟨h', g', s.drawn, tk', s.os⟩)
  (hrw : PySem.Challenge.rw_ja0052_01 = PySem.Challenge.rw_ja0052_01) :
  wpAny (model PySem.Challenge.pw_ja0052_01 w) (ktrTop dp un gd (Str.ofString "law") lawSc L a ccd [] outer) (execs (lawB.drop 14) (lawE L a ccd)) Q (fun _ _ => False) s := by
  revert X hrw
  k_fill
  intro X hrw
  clear hrw
  have e : lawSc = lawSc := rfl
  conv at e => rhs; whnf
  have eb : lawB.drop 14 = lawB.drop 14 := rfl
  conv at eb => rhs; whnf
  rw [eb]
  generalize hnx : List.drop 15 _ = rest at next
  rw [e] at next ⊢
  have hD3 := hD.len
  have hDl := lawN_len Rs
  have hTl := hT.len
  repeat ((fail_if_success (with_reducible show wpAny _ _ (call (Value.ref 524) _ _) _ _ _)); first | (dsimp only; (with_reducible show wpAny _ _ (call (Value.ref 524) _ _) _ _ _)) | k_unfold | walk1 | (dsimp only; walk1) | (leave1; try dsimp only))
  refine' decode_spec w tl tvs tn Rs hT hlen hG oA tA (news := (99, oB) :: (pl, listOf (List.toArray pvs) pn) :: (dl, listOf (List.toArray dvs) dn) :: (tl, listOf (List.toArray tvs) tn) :: (V ++ Zg)) ?htl ?kN ?hne ?kC G ?kB ?kF ?kX ?kT ?kk ?kd ?ku ?_ ?_ rfl
  case htl => exact .tail _ (.tail _ (.tail _ (.head _)))
  case kN => k_asm
  case hne =>
    intro q hq
    rcases List.mem_cons.mp hq with rfl | hq
    · show (99 : Nat) ≠ 76; decide
    · exact Nat.ne_of_gt (Nat.lt_trans (by decide) (hne q hq))
  case kC => exact C76
  case kB => k_asm
  case kF => k_asm
  case kX => k_asm
  case kT => k_asm
  case kk => rfl
  case kd => walk_at "mine depth"
  case ku => walk_at "mine depth"
  · intro cps grs hdn h1 gl og kvs ls oA' nw h2 tk2 g2 G2 tA2 F2 N2 lg lgl hog hgr hold hnw
    repeat ((fail_if_success (with_reducible show wpAny _ _ (execs (Stmt.If _ _ _ _ :: _) _) _ _ _)); first | (dsimp only; (with_reducible show wpAny _ _ (execs (Stmt.If _ _ _ _ :: _) _) _ _ _)) | k_unfold | walk1 | (dsimp only; walk1) | (leave1; try dsimp only))
    rename News _ _ _ _ => N3
    rename Fr _ _ _ _ => F3
    replace F3 := (show Fr _ _ _ (mp ((Str.ofString "told", some _) :: _)) from F3)
    rw [mp_canon [Str.ofString "script", Str.ofString "feed", Str.ofString "many", Str.ofString "twice", Str.ofString "value", Str.ofString "own", Str.ofString "rows", Str.ofString "k", Str.ofString "row", Str.ofString "turned", Str.ofString "texts", Str.ofString "right", Str.ofString "places", Str.ofString "due", Str.ofString "group", Str.ofString "told"] _ (by rfl)] at F3
    rw [← hnx] at next
    exact next cps grs hdn h1 gl og kvs ls oA' nw _ _ _ G2 tA2 F3 N3 lg lgl hog hgr hold hnw
  · intro hno nw9 g9 e9 t9 vs9 h9 tk9 gs9 ⟨oA9, e99, tA9, G9⟩ F9 U9 R9
    subst e99
    have hr : (lawN Rs).1 = false := plain_no hno
    rw [hr] at F9
    subst hdq huq
    rw [← e]
    refine' caught_O0 (A₀ := ⟨none, dq, some outer, gd, uq⟩) (name := Str.ofString "law") (scope := lawSc) (L := L) (a := a) (cd := ccd) (bmB := [.type "Exception", .type "BaseException", .type "object"]) (newId := "Exception.__new__") ?K ?F ?U ?R ?X ?T ?ex ?q ?hb ?_ rfl (by rw [e]; rfl) (by decide)
    case K => exact B
    case F => exact F9
    case U => exact U9
    case R => exact R9
    case X => k_asm
    case T => k_asm
    case ex => k_is
    case q => k_exc
    case hb => rfl
    intro h' n₂ F' N₂ G' N'
    rw [e]
    k_steps
    rename Fr _ _ _ _ => F5
    exact hQ _ _ _ oA9 oB G9 tA9 tB F5.keep (N' _ (.head _)).1 (N' _ (.tail _ (.head _))).1
end
section
theorem offM55b : True := by w_top off; trivial
local macro_rules | `(tactic| walk_at "mine pad") => `(tactic| skip)
open PySem.SeqAt
set_option maxRecDepth 100000
set_option maxHeartbeats 4000000
variable {p : Program} {loose : List Str} {mean : ExcName → Option Value} {mg mb : Str → Option Value}
  {dp un : Nat} {gd : Option (List Code)} {cn : Str} {cs : Scope} {a : Addr} {ccd : Value} {cl : List (Str × Addr)} {outer : List Env}
  {A₀ : Around} {E Q : Value → Shared → Prop} {s : Shared} {base h₀ : Heap} {L : Addr} {m : Str → Option Value} {news : List (Addr × Obj)}
theorem len_spec (w : World) (g ga l : Addr) (k : Tok) (vs : List Value) (n : Nat) (hg : (g, instObj 513 ga) ∈ news) (hgd : (ga, grObj w l k) ∈ news) (hl : (l, listOf (List.toArray vs) n) ∈ news) (hsz : vs.length ≤ 1000) (N : News h₀ L s.heap news) (B : Below A₀ base outer h₀) (F : Fr h₀ L s.heap m) (X : (Mine.hd.heap_1 w.params).In h₀) (T : Top p loose mean mg mb h₀)
  (hk : cs.kind = .function) (hd : dp + 30 < recursionLimit) (hu : un + 200 < cLine)
  (ret : ∀ t h' tk', Fr h₀ L h' m → News h₀ L h' news → Q (.int (vs.length : Nat) t) { s with heap := h', toks := tk' })
  (hrw : PySem.Challenge.rw_ja0052_01 = PySem.Challenge.rw_ja0052_01) :
  wpAny (model PySem.Challenge.pw_ja0052_01 w) (ktrTop dp un gd cn cs L a ccd cl outer) (call (.ref 447) [.ref g]) Q E s := by
  refine wpAny_noRaise ?_
  revert X hrw
  k_fill
  intro X hrw
  clear hrw
  unfold grObj at hgd
  refine wpAny_call ?_
  (k_dflt (refine' code_def ?k1 ?k2 ?k3 ?k4 ?k5 ?kA ?kF ?kK ?k6 ?k7 ?k8 ?k9 ?kB ?_ ?c2 ?c3 ?c4 ?c5; (case kA => first | with_reducible assumption | exact rfl); (case kF => first | with_reducible assumption | exact rfl); (case kK => first | with_reducible assumption | exact rfl | assumption); (case k1 => k_asm); (case k2 => k_asm); (case k3 => k_asm); (case k4 => k_asm); (case k5 => k_asm); (case k6 => k_is); (case k7 => k_is); (case k8 => k_room); (case k9 => exact BindsTo.of_eq rfl); (case c5 => decide); (case kB => exact locs rfl); (case c2 => exact rfl); (case c3 => exact rfl); (case c4 => exact rfl); k_whole; intro g1 L1 _ FG1 _ _ B1 X1 T1; (try dsimp only); (try k_fold)))
  refine letA ?_
  intro A9
  repeat ((fail_if_success (with_reducible show wpAny _ _ (call (Value.builtin "len") _ _) _ _ _)); first | (dsimp only; (with_reducible show wpAny _ _ (call (Value.builtin "len") _ _) _ _ _)) | k_unfold | walk1 | (dsimp only; walk1) | (leave1; try dsimp only))
  rename News _ _ _ _ => N5
  refine call_len_list (News.isList N5 hl) (by rw [List.size_toArray]; omega) ?_
  rw [List.size_toArray]
  k_steps
  rename News _ _ _ _ => N6
  rename Fr _ _ _ _ => F6
  exact ret _ _ _ F6 N6
end
section
theorem offM56 : True := by w_top off; trivial
open PySem.SeqAt
open PyProof.Rows.LCg (NsObj lst lst_snoc Off3 Off1 ns_obj fr_but news_but)
set_option maxRecDepth 100000
set_option maxHeartbeats 40000000
variable {p : Program} {loose : List Str} {mean : ExcName → Option Value} {mg mb : Str → Option Value}
  {dp un : Nat} {gd : Option (List Code)} {cn : Str} {cs : Scope} {a : Addr} {ccd : Value} {cl : List (Str × Addr)} {outer : List Env}
  {A₀ : Around} {E Q : Value → Shared → Prop} {s : Shared} {base h₀ : Heap} {L : Addr} {m : Str → Option Value} {news : List (Addr × Obj)}
theorem bare_done {a b : Array GenState} {gs : GenState} (h : AllBare a) (go : GenOnly a.size (a.push gs) b) (hf : b[a.size]? = some .finished) : AllBare b := by
  intro y hy
  obtain ⟨i, hi, rfl⟩ := Array.mem_iff_getElem.mp hy
  by_cases e : i = a.size
  · subst e
    rw [Array.getElem?_eq_getElem hi] at hf
    rw [Option.some.inj hf]
    rfl
  · have h1 := go.2 i e
    rw [Array.getElem?_eq_getElem hi] at h1
    have hs := go.1
    rw [Array.size_push] at hs
    have hi2 : i < a.size := by omega
    rw [Array.getElem?_push_lt hi2] at h1
    rw [Option.some.inj h1]
    exact h _ (Array.getElem_mem hi2)
theorem nodup_key {α β : Type} : ∀ {l : List (α × β)} {k : α} {a b : β}, (l.map Prod.fst).Nodup → (k, a) ∈ l → (k, b) ∈ l → a = b
  | [], _, _, _, _, h, _ => by cases h
  | (k', c) :: r, k, a, b, hn, h1, h2 => by
    rw [List.map_cons, List.nodup_cons] at hn
    rcases List.mem_cons.mp h1 with e1 | h1
    · rcases List.mem_cons.mp h2 with e2 | h2
      · cases e1; cases e2; rfl
      · cases e1
        exact absurd (List.mem_map.mpr ⟨_, h2, rfl⟩) hn.1
    · rcases List.mem_cons.mp h2 with e2 | h2
      · cases e2
        exact absurd (List.mem_map.mpr ⟨_, h1, rfl⟩) hn.1
      · exact nodup_key hn.2 h1 h2
theorem nodup_of_map {α β : Type} (f : α → β) : ∀ {l : List α}, (l.map f).Nodup → l.Nodup
  | [], _ => List.nodup_nil
  | a :: r, h => by
    rw [List.map_cons, List.nodup_cons] at h
    exact List.nodup_cons.mpr ⟨fun hm => h.1 (List.mem_map.mpr ⟨a, hm, rfl⟩), nodup_of_map f h.2⟩
theorem DueW.item {V Z : List (Addr × Obj)} {c : Nat} {pvs dvs : List Value} {D : List (Nat × List Sh)} (H : DueW V c pvs dvs D Z) : ∀ (i : Nat), i < D.length → ∃ g t l gs n Gs, pvs[i]? = some (.int ((g : Nat) : Int) t) ∧ dvs[i]? = some (.ref l) ∧ D[i]? = some (g, Gs) ∧ (l, listOf (List.toArray gs) n) ∈ Z ∧ RowsIn V gs Gs ∧ gs.length ≤ c := by
  induction H with
  | nil => intro i hi; exact absurd hi (Nat.not_lt_zero _)
  | cons h2 h3 _ ih =>
    intro i hi
    cases i with
    | zero => exact ⟨_, _, _, _, _, _, rfl, rfl, rfl, .head _, h2, h3⟩
    | succ i =>
      obtain ⟨g, t, l, gs, n, Gs, q1, q2, q3, q4, q5, q6⟩ := ih i (by simpa using hi)
      exact ⟨g, t, l, gs, n, Gs, by simpa using q1, by simpa using q2, by simpa using q3, .tail _ q4, q5, q6⟩
theorem ShsIn.item {w : World} {nw : List (Addr × Obj)} {vs : List Value} {Ss : List Sh} (h : ShsIn w nw vs Ss) : ∀ {i : Nat} {v : Value}, vs[i]? = some v → ∃ x d od S, v = .ref x ∧ (x, instObj 415 d) ∈ nw ∧ (d, od) ∈ nw ∧ IsSh w S od ∧ Ss[i]? = some S := by
  induction h with
  | nil => intro i v e; simp at e
  | cons h1 h2 h3 _ ih =>
    intro i v e
    cases i with
    | zero => simp at e; subst e; exact ⟨_, _, _, _, rfl, h1, h2, h3, rfl⟩
    | succ i => simpa using ih (i := i) (v := v) (by simpa using e)
inductive LawJ (u1 u2 u3 u4 u5 u6 u7 u9 u10 u11 u15 : Option Value) (pl dl gl : Addr) (oA og : Obj) (nw : List (Addr × Obj)) (i : Nat) (m' : Str → Option Value) (ns : List (Addr × Obj)) (g : Array GenState) : Prop
  | mk  (v8 : _) (v17 : _)
    (c0 : m' = mp [(Str.ofString "script", u1), (Str.ofString "feed", u2), (Str.ofString "many", u3), (Str.ofString "twice", u4), (Str.ofString "value", u5), (Str.ofString "own", u6), (Str.ofString "rows", u7), (Str.ofString "k", v8), (Str.ofString "row", u9), (Str.ofString "turned", u10), (Str.ofString "texts", u11), (Str.ofString "right", some (Value.bool true)), (Str.ofString "places", some (Value.ref pl)), (Str.ofString "due", some (Value.ref dl)), (Str.ofString "group", u15), (Str.ofString "told", some (Value.ref gl)), (Str.ofString "found", v17)])
    (c1 : ns = (76, oA) :: (gl, og) :: nw)
    (c2 : AllBare g)
theorem law_p8 (w : World) (gl pl dl : Addr) (pvs dvs : List Value) (pn dn : Nat) (D : List (Nat × List Sh)) (V Zg nw : List (Addr × Obj)) (kvs : List (Int × Value)) (ls : List Addr) (oA oB og : Obj) (u1 u2 u3 u4 u5 u6 u7 u8 u9 u10 u11 u15 : Option Value) (tA : TabOk oA) (tB : TabOk oB)
  (hD : DueW V 20 pvs dvs D Zg) (hDl : D.length ≤ 20) (hgr : GrsIn w nw kvs D ls) (hog : og.IsDictOf (PySem.intKind PySem.Challenge.pw_ja0052_01 w) kvs) (hlo : (gl == sysModules) = false)
  (hp : (pl, listOf (List.toArray pvs) pn) ∈ nw) (hdl : (dl, listOf (List.toArray dvs) dn) ∈ nw) (hB : (99, oB) ∈ nw) (hV : ∀ q ∈ V, q ∈ nw) (hZ : ∀ q ∈ Zg, q ∈ nw) {Q : Flow → Shared → Prop}
  (G : AllBare s.gens)
  (N : News h₀ L s.heap ((76, oA) :: (gl, og) :: nw)) (B : Below A₀ base outer h₀)
  (F : Fr h₀ L s.heap (mp [(Str.ofString "script", u1), (Str.ofString "feed", u2), (Str.ofString "many", u3), (Str.ofString "twice", u4), (Str.ofString "value", u5), (Str.ofString "own", u6), (Str.ofString "rows", u7), (Str.ofString "k", u8), (Str.ofString "row", u9), (Str.ofString "turned", u10), (Str.ofString "texts", u11), (Str.ofString "right", some (Value.bool true)), (Str.ofString "places", some (Value.ref pl)), (Str.ofString "due", some (Value.ref dl)), (Str.ofString "group", u15), (Str.ofString "told", some (Value.ref gl))])) (X : (Mine.hd.heap_1 w.params).In h₀) (T : Top p loose mean mg mb h₀)
  (hd : dp + 300 < recursionLimit) (hu : un + 1500 < cLine)
  (hQ : ∀ h' tk' g' oA oB, AllBare g' → TabOk oA → TabOk oB → (∀ b o, h₀.get? b = some o → h'.get? b = some o) → h'.get? 76 = some oA → h'.get? 99 = some oB → Q (.ret (.bool true)) ⟨h', g', s.drawn, tk', s.os⟩)
  (hrw : PySem.Challenge.rw_ja0052_01 = PySem.Challenge.rw_ja0052_01) :
  wpAny (model PySem.Challenge.pw_ja0052_01 w) (ktrTop dp un gd (Str.ofString "law") lawSc L a ccd [] outer) (execs (lawB.drop 15) (lawE L a ccd)) Q (fun _ _ => False) s := by
  revert X hrw
  k_fill
  intro X hrw
  clear hrw
  have e : lawSc = lawSc := rfl
  conv at e => rhs; whnf
  have eb : lawB.drop 15 = lawB.drop 15 := rfl
  conv at eb => rhs; whnf
  rw [eb, e]
  have hD3 := hD.len
  have hkl : kvs.length = D.length := hgr.lenK
  have hp1 : (pl, listOf (List.toArray pvs) pn) ∈ (76, oA) :: (gl, og) :: nw := .tail _ (.tail _ hp)
  repeat ((fail_if_success (with_reducible show wpAny _ _ (call (Value.type "list") _ _) _ _ _)); first | (dsimp only; (with_reducible show wpAny _ _ (call (Value.type "list") _ _) _ _ _)) | k_unfold | walk1 | (dsimp only; walk1) | (leave1; try dsimp only))
  rename News _ _ _ _ => N1
  rename Fr _ _ _ _ => F1
  refine list_dictI rfl F1 N1 (.tail _ (.head _)) hog hlo (by omega) ?_
  intro B1 c1 h1 tk1 vs1 hi1 F2 N2 ld1
  repeat ((fail_if_success (with_reducible show wpAny _ _ (compareOp _ _ _) _ _ _)); first | (dsimp only; (with_reducible show wpAny _ _ (compareOp _ _ _) _ _ _)) | k_unfold | walk1 | (dsimp only; walk1) | (leave1; try dsimp only))
  rename News _ _ _ _ => N3
  refine ke_ne_ints (News.isList N3 (.head _)) (News.isList N3 (.tail _ (.tail _ (.tail _ hp)))) hi1 hD.ints (by k_units) ?_
  rw [hgr.keys, decide_eq_true rfl]
  repeat ((fail_if_success (with_reducible show wpAny _ _ (exec (Stmt.For _ _ _ _ _) _) _ _ _)); first | (dsimp only; (with_reducible show wpAny _ _ (exec (Stmt.For _ _ _ _ _) _) _ _ _)) | k_unfold | walk1 | (dsimp only; walk1) | (leave1; try dsimp only))
  refine For_ ?_
  repeat ((fail_if_success (with_reducible show wpAny _ _ (call (Value.builtin "len") _ _) _ _ _)); first | (dsimp only; (with_reducible show wpAny _ _ (call (Value.builtin "len") _ _) _ _ _)) | k_unfold | walk1 | (dsimp only; walk1) | (leave1; try dsimp only))
  rename News _ _ _ _ => N4
  refine call_len_list (News.isList N4 (.tail _ (.tail _ (.tail _ hp)))) (by rw [List.size_toArray]; omega) ?_
  rw [List.size_toArray, hD3.1]
  repeat ((fail_if_success (with_reducible show wpAny _ _ (pyIter _) _ _ _)); first | (dsimp only; (with_reducible show wpAny _ _ (pyIter _) _ _ _)) | k_unfold | walk1 | (dsimp only; walk1) | (leave1; try dsimp only))
  rename_i R5 F5 N5 K5
  replace N5 := News.sub N5 (show ∀ q ∈ (76, oA) :: (gl, og) :: nw, q ∈ _ from fun q hq => .tail _ hq)
  refine for_rangeI (n := D.length) rfl R5 (small0 D.length (by omega)).1 (small0 D.length (by omega)).2 (by rfl) (by rfl) (by passes_own) F5 N5
    (LawJ u1 u2 u3 u4 u5 u6 u7 u9 u10 u11 u15 pl dl gl oA og nw) ?_ ?_ ?_
  · exact ⟨_, _, mp_canon [Str.ofString "script", Str.ofString "feed", Str.ofString "many", Str.ofString "twice", Str.ofString "value", Str.ofString "own", Str.ofString "rows", Str.ofString "k", Str.ofString "row", Str.ofString "turned", Str.ofString "texts", Str.ofString "right", Str.ofString "places", Str.ofString "due", Str.ofString "group", Str.ofString "told", Str.ofString "found"] _ (by rfl), rfl, G⟩
  · rintro I i ti m₁ news₁ g₁ own h5 tk5 hi5 hJ9 hI hown ⟨oI, hoI⟩ F6 N6
    k_fold
    obtain ⟨v8, v17, rfl, rfl, G1⟩ := hJ9
    replace F6 := (show Fr _ _ _ (mp ((Str.ofString "k", some _) :: _)) from F6)
    rw [mp_canon [Str.ofString "script", Str.ofString "feed", Str.ofString "many", Str.ofString "twice", Str.ofString "value", Str.ofString "own", Str.ofString "rows", Str.ofString "k", Str.ofString "row", Str.ofString "turned", Str.ofString "texts", Str.ofString "right", Str.ofString "places", Str.ofString "due", Str.ofString "group", Str.ofString "told", Str.ofString "found"] _ (by rfl)] at F6
    simp only [Int.zero_add] at F6
    replace F6 := (show Fr h₀ L h5 (mp [(Str.ofString "script", u1), (Str.ofString "feed", u2), (Str.ofString "many", u3), (Str.ofString "twice", u4), (Str.ofString "value", u5), (Str.ofString "own", u6), (Str.ofString "rows", u7), (Str.ofString "k", some (Value.int (i : Int) ti)), (Str.ofString "row", u9), (Str.ofString "turned", u10), (Str.ofString "texts", u11), (Str.ofString "right", some (Value.bool true)), (Str.ofString "places", some (Value.ref pl)), (Str.ofString "due", some (Value.ref dl)), (Str.ofString "group", u15), (Str.ofString "told", some (Value.ref gl)), (Str.ofString "found", v17)]) from F6)
    have hi9 : (i : Int) < 2 ^ 63 := fit63 (Nat.le_trans (Nat.le_of_lt hi5) hDl) (by decide)
    obtain ⟨gi, tg, l, gs, gn, Gs, e1, e2, e3, hlZ, hRs, hgs⟩ := hD.item i hi5
    rcases hgr.find gi with ⟨_, hno⟩ | ⟨g, ga, gl2, kk, vs, n2, Ss, kp, kq, gp, gq, lp, lq, -, hDe, -, hva, hgp, w1, w2, w3, w4, -, -⟩
    · exact absurd rfl (hno _ (List.mem_of_getElem? e3))
    have hkn : (D.map Prod.fst).Nodup := by
      have := keysNodup_of_isDictOf hog
      rw [hgr.keys] at this
      exact nodup_of_map (fun x : Nat => (x : Int)) (by rw [List.map_map]; exact this)
    have hSG : Ss = Gs := nodup_key hkn (by rw [hDe]; exact List.mem_append_right _ (.head _)) (List.mem_of_getElem? e3)
    subst hSG
    replace N6 := News.sub N6 (show ∀ q ∈ (76, oA) :: (gl, og) :: (nw ++ own), q ∈ _ from by
      walk_at "mine sub")
    repeat ((fail_if_success (with_reducible show wpAny _ _ (exec (Stmt.Assign _ _ _) _) _ _ _)); first | (dsimp only; (with_reducible show wpAny _ _ (exec (Stmt.Assign _ _ _) _) _ _ _)) | k_unfold | walk1 | (dsimp only; walk1) | (leave1; try dsimp only))
    rename News _ _ _ _ => N7
    rename Fr _ _ _ _ => F7
    refine Assign_ListComp_G (y := Str.ofString "found") rfl (by k_room) F7 (by rfl) (by with_unfolding_all rfl) (by with_unfolding_all rfl) (by decide) (by rfl) (by decide) (by rfl) (by rfl) (by rfl) ?_
    repeat ((fail_if_success (with_reducible show wpAny _ _ (subscriptTail _ _ _ _) _ _ _)); first | (dsimp only; (with_reducible show wpAny _ _ (subscriptTail _ _ _ _) _ _ _)) | k_unfold | walk1 | (dsimp only; walk1) | (leave1; try dsimp only))
    rename News _ _ _ _ => N8
    refine item_listR (x := .int (gi : Int) tg) (News.isList N8 (.tail _ (.tail _ (List.mem_append_left _ hp)))) (Int.natCast_nonneg _) hi9 (by simpa using e1) ?_
    repeat ((fail_if_success (with_reducible show wpAny _ _ (subscriptTail _ _ _ _) _ _ _)); first | (dsimp only; (with_reducible show wpAny _ _ (subscriptTail _ _ _ _) _ _ _)) | k_unfold | walk1 | (dsimp only; walk1) | (leave1; try dsimp only))
    rename News _ _ _ _ => N9
    refine kda_item N9 (.tail _ (.head _)) hog (intKind_is _ _ _ _) hva ?_
    repeat ((fail_if_success (with_reducible show wpAny _ _ (pyIter _) _ _ _)); first | (dsimp only; (with_reducible show wpAny _ _ (pyIter _) _ _ _)) | k_unfold | walk1 | (dsimp only; walk1) | (leave1; try dsimp only))
    rename News _ _ _ _ => NA
    rename Fr _ _ _ _ => FA
    refine iter_spec (news := (76, oA) :: (gl, og) :: (nw ++ own)) w g ga gl2 a kk vs n2 (.tail _ (.tail _ (List.mem_append_left _ w1))) (.tail _ (.tail _ (List.mem_append_left _ w2))) (.tail _ (.tail _ (List.mem_append_left _ w3))) NA B FA X T rfl (by walk_at "mine depth") (by walk_at "mine depth") ?_ rfl
    intro a1 C1 oa oC h7 tk7 gs7 hsz7 hne7 F8 NB hoff7 GF7
    have hvl := w4.len
    refine ⟨a1, _, _, C1, gl2, vs.toArray, oa, oC, (76, oA) :: (gl, og) :: (nw ++ own), (76, oA) :: (gl, og) :: (nw ++ own), (fun j ys ns => ∃ Z, ns = Z ++ ((76, oA) :: (gl, og) :: (nw ++ own)) ∧ RowsIn ns ys (Ss.take j)), rfl, GF7, ?_, hsz7, F8, NB, hne7, hoff7, ?_, ?_, statics_get T, ⟨[], rfl, .nil⟩, ?_, ?_⟩
    · rw [List.size_toArray, sizeLine_eq]
      have := hRs.len
      omega
    · intro b hb
      simp only [List.mem_cons] at hb
      rcases hb with rfl | rfl | rfl | hb
      · exact .inr ⟨_, .tail _ (.tail _ (List.mem_append_left _ w3))⟩
      · exact .inr ⟨_, .tail _ (.tail _ (List.mem_append_left _ w1))⟩
      · exact .inr ⟨_, .tail _ (.tail _ (List.mem_append_left _ w2))⟩
      · exact .inl (of_baseOf hb)
    · rintro j ys ns ⟨Z, rfl, _⟩ p hp
      exact List.mem_append_right _ hp
    · rintro j ys ns v I9 oI9 oC9 CC oCC D9 m₂ h8 g8 tk8 E' hv hyl hJ9 hoC hx F9 N9 hne9
      k_fold
      obtain ⟨Z, rfl, hR⟩ := hJ9
      obtain ⟨x, d, od, S, rfl, q1, q2, ⟨k1, k2, k3, k4, k5, k6, k7, k8, k9, t1, t3, t4, t5, t6, t7, t8, tb, rfl⟩, q4⟩ := w4.item (show vs[j]? = some v by simpa using hv)
      simp only [List.cons_append, List.nil_append] at N9
      have q1' : (x, instObj 415 d) ∈ (CC, oCC) :: (D9, lst ys) :: (I9, oI9) :: (a1, oa) :: (C1, oC9) :: (Z ++ (76, oA) :: (gl, og) :: (nw ++ own)) := .tail _ (.tail _ (.tail _ (.tail _ (.tail _ (List.mem_append_right _ (.tail _ (.tail _ (List.mem_append_left _ q1))))))))
      have q2' : (d, shObj w S k1 k2 k3 k4 k5 k6 k7 k8 k9 t1 t3 t4 t5 t6 t7 t8 tb) ∈ (CC, oCC) :: (D9, lst ys) :: (I9, oI9) :: (a1, oa) :: (C1, oC9) :: (Z ++ (76, oA) :: (gl, og) :: (nw ++ own)) := .tail _ (.tail _ (.tail _ (.tail _ (.tail _ (List.mem_append_right _ (.tail _ (.tail _ (List.mem_append_left _ q2))))))))
      unfold shObj at q2'
      k_steps
      rename News _ _ _ _ => NE
      rename Fr _ _ _ _ => FE
      rename (_ ∧ _ ∧ _ ∧ _ ∧ _ ∧ AllLt _ _) => lE
      rename_i r hE
      refine ⟨_, _, _, (r, listOf (row9 S t1 t3 t4 t5 t6 t7 t8 tb) 0) :: (Z ++ ((76, oA) :: (gl, og) :: (nw ++ own))), rfl, FE, NE, ?_, ?_, (r, listOf (row9 S t1 t3 t4 t5 t6 t7 t8 tb) 0) :: Z, rfl, ?_⟩
      · intro q hq
        simp only [List.cons_append, List.nil_append, List.mem_append, List.mem_cons] at hq ⊢
        rcases hq with h | h | h | h | h | h | h | h | h | h | h <;> first | (simp [h]; done) | exact .inl h
      · intro q hq z hz
        rcases List.mem_cons.mp hq with rfl | hq
        · simp only [List.mem_cons, List.not_mem_nil, or_false] at hz
          rcases hz with rfl | rfl | rfl | rfl | rfl
          · exact Nat.ne_of_gt lE.1
          · exact Nat.ne_of_gt lE.2.1
          · exact Nat.ne_of_gt lE.2.2.1
          · exact Nat.ne_of_gt lE.2.2.2.1
          · exact Nat.ne_of_gt lE.2.2.2.2.1
        · exact hne9 q hq z hz
      · rw [List.take_add_one, q4]
        exact (hR.mono fun p hp => .tail _ hp).snoc (.head _) ⟨t1, t3, t4, t5, t6, t7, t8, tb, 0, rfl⟩
    · rintro D9 h9 tk9 g9 ys ns hyl F10 N10 hneD go hf ⟨Z, rfl, hR⟩
      have G9 := bare_done G1 go hf
      rw [List.size_toArray, hvl, List.take_of_length_le (Nat.le_refl _)] at hR
      refine ⟨_, N10, fun h10 tk10 F11 N11 => ?_⟩
      replace F11 := (show Fr _ _ _ (mp ((Str.ofString "found", some _) :: _)) from F11)
      rw [mp_canon [Str.ofString "script", Str.ofString "feed", Str.ofString "many", Str.ofString "twice", Str.ofString "value", Str.ofString "own", Str.ofString "rows", Str.ofString "k", Str.ofString "row", Str.ofString "turned", Str.ofString "texts", Str.ofString "right", Str.ofString "places", Str.ofString "due", Str.ofString "group", Str.ofString "told", Str.ofString "found"] _ (by rfl)] at F11
      replace F11 := (show Fr h₀ L h10 (mp [(Str.ofString "script", u1), (Str.ofString "feed", u2), (Str.ofString "many", u3), (Str.ofString "twice", u4), (Str.ofString "value", u5), (Str.ofString "own", u6), (Str.ofString "rows", u7), (Str.ofString "k", some (Value.int (i : Int) ti)), (Str.ofString "row", u9), (Str.ofString "turned", u10), (Str.ofString "texts", u11), (Str.ofString "right", some (Value.bool true)), (Str.ofString "places", some (Value.ref pl)), (Str.ofString "due", some (Value.ref dl)), (Str.ofString "group", u15), (Str.ofString "told", some (Value.ref gl)), (Str.ofString "found", some (Value.ref D9))]) from F11)
      have hB0 : ∀ q ∈ (76, oA) :: (gl, og) :: (nw ++ own), q ∈ (D9, lst ys) :: (Z ++ (76, oA) :: (gl, og) :: (nw ++ own)) := fun q hq => .tail _ (List.mem_append_right _ hq)
      have hB1 : ∀ q ∈ nw, q ∈ (D9, lst ys) :: (Z ++ (76, oA) :: (gl, og) :: (nw ++ own)) := fun q hq => hB0 q (.tail _ (.tail _ (List.mem_append_left _ hq)))
      repeat ((fail_if_success (with_reducible show wpAny _ _ (subscriptTail _ _ _ _) _ _ _)); first | (dsimp only; (with_reducible show wpAny _ _ (subscriptTail _ _ _ _) _ _ _)) | k_unfold | walk1 | (dsimp only; walk1) | (leave1; try dsimp only))
      rename News _ _ _ _ => NC
      refine item_listR (x := .ref l) (News.isList NC (hB1 _ hdl)) (Int.natCast_nonneg _) hi9 (by simpa using e2) ?_
      repeat ((fail_if_success (with_reducible show wpAny _ _ (compareOp _ _ _) _ _ _)); first | (dsimp only; (with_reducible show wpAny _ _ (compareOp _ _ _) _ _ _)) | k_unfold | walk1 | (dsimp only; walk1) | (leave1; try dsimp only))
      rename News _ _ _ _ => ND
      refine rows_ne ND (.head _) (hB1 _ (hZ _ hlZ)) (hR.mono fun q hq => .tail _ hq) (hRs.mono fun q hq => hB1 q (hV q hq)) (by k_units) ?_
      rw [(eqL_iff _ _).mpr rfl]
      repeat ((fail_if_success (with_reducible show wpAny _ _ (subscriptTail _ _ _ _) _ _ _)); first | (dsimp only; (with_reducible show wpAny _ _ (subscriptTail _ _ _ _) _ _ _)) | k_unfold | walk1 | (dsimp only; walk1) | (leave1; try dsimp only))
      rename News _ _ _ _ => NC
      refine item_listR (x := .int (gi : Int) tg) (News.isList NC (hB1 _ hp)) (Int.natCast_nonneg _) hi9 (by simpa using e1) ?_
      repeat ((fail_if_success (with_reducible show wpAny _ _ (subscriptTail _ _ _ _) _ _ _)); first | (dsimp only; (with_reducible show wpAny _ _ (subscriptTail _ _ _ _) _ _ _)) | k_unfold | walk1 | (dsimp only; walk1) | (leave1; try dsimp only))
      rename News _ _ _ _ => NC
      refine kda_item NC (hB0 _ (.tail _ (.head _))) hog (intKind_is _ _ _ _) hva ?_
      have hga5 : (ga, grObj w gl2 kk) ∈ (D9, lst ys) :: (Z ++ (76, oA) :: (gl, og) :: (nw ++ own)) := hB1 _ w2
      have hg5 : (g, instObj 513 ga) ∈ (D9, lst ys) :: (Z ++ (76, oA) :: (gl, og) :: (nw ++ own)) := hB1 _ w1
      unfold grObj at hga5
      repeat ((fail_if_success (with_reducible show wpAny _ _ (call (Value.ref 447) _ _) _ _ _)); first | (dsimp only; (with_reducible show wpAny _ _ (call (Value.ref 447) _ _) _ _ _)) | k_unfold | walk1 | (dsimp only; walk1) | (leave1; try dsimp only))
      rename News _ _ _ _ => NC
      rename Fr _ _ _ _ => FC
      change wpAny _ (ktrTop dp (un + 1) gd (Str.ofString "law") _ L a ccd [] outer) _ _ _ _
      refine len_spec w g ga gl2 kk vs n2 hg5 (hB1 _ w2) (hB1 _ w3) (by have := hRs.len; omega) NC B FC X T rfl (by walk_at "mine depth") (by walk_at "mine depth") ?_ rfl
      intro tt hh tkk FD ND2
      refine ⟨⟨by omega, by have := hRs.len; omega⟩, ?_⟩
      repeat ((fail_if_success (with_reducible show wpAny _ _ (subscriptTail _ _ _ _) _ _ _)); first | (dsimp only; (with_reducible show wpAny _ _ (subscriptTail _ _ _ _) _ _ _)) | k_unfold | walk1 | (dsimp only; walk1) | (leave1; try dsimp only))
      rename News _ _ _ _ => NC
      refine item_listR (x := .ref l) (News.isList NC (hB1 _ hdl)) (Int.natCast_nonneg _) hi9 (by simpa using e2) ?_
      repeat ((fail_if_success (with_reducible show wpAny _ _ (call (Value.builtin "len") _ _) _ _ _)); first | (dsimp only; (with_reducible show wpAny _ _ (call (Value.builtin "len") _ _) _ _ _)) | k_unfold | walk1 | (dsimp only; walk1) | (leave1; try dsimp only))
      rename News _ _ _ _ => NC
      refine call_len_list (News.isList NC (hB1 _ (hZ _ hlZ))) (by rw [List.size_toArray]; omega) ?_
      rw [List.size_toArray, hRs.len, ← hvl]
      k_steps
      · exact absurd rfl (by assumption)
      rename News _ _ _ _ => NC
      rename Fr _ _ _ _ => FC
      refine ⟨_, _, _, _, (D9, lst ys) :: (Z ++ ((76, oA) :: (gl, og) :: (nw ++ own))), (76, oA) :: (gl, og) :: nw, rfl, FC, NC, ?_, ?_, ?_, ⟨_, _, rfl, rfl, G9⟩⟩
      · intro q hq
        exact hB0 q (.tail _ (.tail _ (List.mem_append_right _ hq)))
      · intro q hq
        refine hB0 q ?_
        simp only [List.mem_append, List.mem_cons] at hq ⊢
        rcases hq with h | h | h <;> simp [h]
      · exact hI
  · rintro m' ns g' h' tk' ⟨v8, v17, rfl, rfl, G1⟩ F6 N6
    k_steps
    exact hQ _ _ _ oA oB G1 tA tB F6.keep (N6 _ (.head _)).1 (N6 _ (.tail _ (.tail _ hB))).1
end
section
theorem offM57 : True := by w_top off; trivial
local macro_rules | `(tactic| walk_at "mine pad") => `(tactic| skip)
open PySem.SeqAt
set_option maxRecDepth 100000
set_option maxHeartbeats 4000000
variable {p : Program} {loose : List Str} {mean : ExcName → Option Value} {mg mb : Str → Option Value}
  {dp un : Nat} {gd : Option (List Code)} {cn : Str} {cs : Scope} {a : Addr} {ccd : Value} {cl : List (Str × Addr)} {outer : List Env}
  {A₀ : Around} {E Q : Value → Shared → Prop} {s : Shared} {base h₀ : Heap} {L : Addr} {m : Str → Option Value} {news : List (Addr × Obj)}
theorem law_whole (w : World) (dq uq : Nat) (hdq : dp = dq + 1) (huq : un = uq + 3) (l : Addr) (vs : List Value) (ns : List Int) (oA oB : Obj) (hl : h₀.IsList l vs.toArray) (hi : IntsAre vs ns) (hlen : ns.length ≤ 63) (tA : TabOk oA) (tB : TabOk oB) (C76 : CodeHd h₀ 80 76) (C99 : CodeHd h₀ 103 99) (G : AllBare s.gens) {Q : Flow → Shared → Prop}
  (N : News h₀ L s.heap [(76, oA), (99, oB)]) (B : Below ⟨none, dq, some outer, gd, uq⟩ h₀ outer h₀) (F : Fr h₀ L s.heap (mp [(Str.ofString "script", some (Value.ref l))])) (X : (Mine.hd.heap_1 w.params).In h₀) (T : Top p loose mean mg mb h₀)
  (hd : dp + 300 < recursionLimit) (hu : un + 1500 < cLine)
  (hQ : ∀ h' tk' g' oA oB, AllBare g' → TabOk oA → TabOk oB → (∀ b o, h₀.get? b = some o → h'.get? b = some o) → h'.get? 76 = some oA → h'.get? 99 = some oB → Q (.ret (.bool true)) ⟨h', g', s.drawn, tk', s.os⟩) :
  wpAny (model PySem.Challenge.pw_ja0052_01 w) (ktrTop dp un gd (Str.ofString "law") lawSc L a ccd [] outer) (execs lawB (lawE L a ccd)) Q (fun _ _ => False) s := by
  refine law_p1 w l vs ns oA oB hl hi hlen N B F X T hd hu ?_ rfl
  intro fd fl sd ts n n2 vs' ns' many tm tw val tv ow S t1 t3 t4 t5 t6 t7 t8 n3 h1 tk1 hi1 hl1 hsd hm hval hS F1 N1 a1 a2 a3
  refine law_p2 (s := ⟨h1, s.gens, s.drawn, tk1, s.os⟩) w fd fl ow sd ts n n2 n3 vs' ns' S t1 t3 t4 t5 t6 t7 t8 many tm tw val tv _ oA oB hi1 hl1 hsd hm hval hS a1 a2 a3 N1 B F1 X T hd hu ?_ rfl
  intro rl refs rn Ss u2 u5 u6 u8 u9 u10 Y h2 tk2 hR hSl hSf F2 N2 b1 b2
  refine law_p3 (s := ⟨h2, s.gens, s.drawn, tk2, s.os⟩) w rl refs rn Ss Y many tm tw _ u2 u5 u6 u8 u9 u10 oA oB hm hR hSl b1 b2 N2 B F2 X T hd hu ?_ rfl
  clear hR F2 N2 b1 b2 rl refs rn Y
  intro rl refs rn Y h3 tk3 hR F3 N3 b1 b2
  refine law_p4 (s := ⟨h3, s.gens, s.drawn, tk3, s.os⟩) w rl refs rn Ss Y many tm tw val _ u2 _ u5 u6 u8 u9 u10 oA oB hm hSl hval hSf hR tA tB C76 C99 G b1 b2 N3 B F3 X T hd hu ?_ rfl
  intro tl tvs tn oA4 oB4 h4 tk4 g4 G4 tA4 tB4 hT F4 N4 c1
  have hRl : (if tw = true then Ss ++ Ss.take 1 else Ss).length ≤ 6 := by
    split
    · rw [List.length_append, List.length_take]; omega
    · omega
  have hG : ∀ S ∈ (if tw = true then Ss ++ Ss.take 1 else Ss), Good S := by
    intro S hS
    refine row_good hval (hSf S ?_)
    split at hS
    · rcases List.mem_append.mp hS with h | h
      · exact h
      · exact List.mem_of_mem_take h
    · exact hS
  generalize (if tw = true then Ss ++ Ss.take 1 else Ss) = Rs at hR hT hRl hG
  refine law_p5 (s := ⟨h4, g4, s.drawn, tk4, s.os⟩) w rl refs rn Rs Y ((tl, listOf (List.toArray tvs) tn) :: (76, oA4) :: (99, oB4) :: Y) _ _ _ _ _ _ _ _ _ _ hR (by omega) (fun q hq => .tail _ (.tail _ (.tail _ hq))) (News.sub N4 ?_) B F4 X T hd hu ?_ rfl
  · walk_at "mine sub"
  intro pl dl pvs dvs pn dn Zg u9' ug h5 tk5 hD hnd d1 d2 d3 F5 N5
  have hpl : @LT.lt Nat _ 99 pl := Nat.lt_trans b1 (d1 (rl, _) (.head _))
  refine law_p6 (s := ⟨h5, g4, s.drawn, tk5, s.os⟩) w dq uq hdq huq tl pl dl tvs pvs dvs tn pn dn Rs Y Zg oA4 oB4 _ _ _ _ _ _ _ _ _ _ _ hT (by rw [hT.len]; omega) hG tA4 tB4 hD ?_ C76 G4 (News.sub N5 ?_) B F5 X T hd hu hQ ?_ rfl
  · intro q hq
    simp only [List.mem_cons, List.mem_append] at hq
    rcases hq with rfl | rfl | rfl | h | h
    · exact hpl
    · exact Nat.lt_trans hpl d2
    · exact Nat.lt_trans b1 (c1 (rl, _) (.head _))
    · exact (b2 q h).1
    · exact Nat.lt_trans hpl (Nat.lt_trans d2 (d3 q h))
  · walk_at "mine sub"
  intro cps grs hdn h1' gl og kvs ls oA6 nw h6 tk6 g6 G6 tA6 F6 N6 e1 e2 hog hgr hold hnw
  obtain ⟨y1, y2⟩ := plain_yes hdn h1'
  rw [y1] at F6
  rw [← y2] at hgr
  have hDl := lawN_len Rs
  refine law_p8 (s := ⟨h6, g6, s.drawn, tk6, s.os⟩) w gl pl dl pvs dvs pn dn (lawN Rs).2 Y Zg nw kvs ls oA6 oB4 og _ _ _ _ _ _ _ _ _ _ _ _ tA6 tB4 hD (by omega) hgr hog ?_ (hold _ (.tail _ (.head _))) (hold _ (.tail _ (.tail _ (.head _)))) (hold _ (.head _)) (fun q hq => hold _ (.tail _ (.tail _ (.tail _ (.tail _ (List.mem_append_left _ hq)))))) (fun q hq => hold _ (.tail _ (.tail _ (.tail _ (.tail _ (List.mem_append_right _ hq)))))) G6 N6 B F6 X T hd hu hQ rfl
  exact beq_false_of_ne (Nat.ne_of_gt (Nat.lt_trans (by decide) e1))
end
section
open PySem.SeqAt
set_option maxRecDepth 100000
set_option maxHeartbeats 4000000
theorem my_post {M : Model} {A : Around} {cd : Code} {s s₁ : Shared} {cw : ClaimW} {cl : Str → Option Addr} {mean : ExcName → Option Value} {args : List WData} {tabs : List (Addr × Addr)} (hT : TabsAt tabs s₁.heap) (hr : ∀ x, cw.raises args x = false) (hp : cw.post args (.bool true) args = true)
    (h : codeAny M A cd (fun r s' => r = .ok (.ret (.bool true)) ∧ (∀ b o, (ghostOf s₁.heap tabs).get? b = some o → s'.heap.get? b = some o) ∧ GrownAll tabs s'.heap ∧ s'.os = s₁.os ∧ AllBare s'.gens) s) : codeAny M A cd (GoodWG cw cl mean args s₁) s :=
  codeAny_mono h fun r s' ⟨hc, hk, hgr, hos, hg⟩ => by
    have keep : ∀ b o, b ∉ tabs.map (·.2) → s₁.heap.get? b = some o → s'.heap.get? b = some o := fun b o hb e => hk b o (ghost_ne e hb)
    have grown : ∀ b o, b ∈ tabs.map (·.2) → s₁.heap.get? b = some o → isCodeTable s₁.heap b ∧ o = tabObj #[] ∧ ∃ ps, s'.heap.get? b = some (tabObj ps) := fun b o hb e => by
      obtain ⟨q, hq, rfl⟩ := List.mem_map.mp hb
      have e2 := (hT q hq).2
      rw [e] at e2
      exact ⟨((hT q hq).1.tab (hT q hq).2).isCodeTable, Option.some.inj e2, hgr.get q hq⟩
    refine ⟨.inl ⟨_, _, [], hc, hr, ReadsW.bool true, hp, fun _ => ⟨List.nodup_nil, fun _ hm => nomatch hm⟩⟩, ⟨fun b o e => ?_, fun b o e => ?_⟩, hos, hg⟩
    · by_cases hb : b ∈ tabs.map (·.2)
      · obtain ⟨ht, rfl, ps, hP⟩ := grown b o hb e
        exact .inr (.inl ⟨ht, rfl, #[], ps, rfl, by rw [Array.empty_append]; exact hP⟩)
      · exact .inl (keep b o hb e)
    · by_cases hb : b ∈ tabs.map (·.2)
      · obtain ⟨_, _, ps, hP⟩ := grown b o hb e
        exact ⟨_, hP⟩
      · exact ⟨o, keep b o hb e⟩
theorem M58 : PySem.Challenge.rw_ja0052_01.Holds := Mine.hd (by
  k_fill
  intro w s₀ s₁ mg mb G Y fa o pm cd doc dV kV ho hd hcd hD hmg hg args vals as hpre hlay hrd hwl hlo
  have X := kIn_of Y
  refine Ground.open G ?_
  intro T B D TE TW
  have hT9 : TabsAt [(80, 76), (103, 99)] s₁.heap := List.forall_mem_cons.mpr ⟨tab_of (x := PySem.Str.ofString "int_to_indices") (c := 80) (P := 76) T X rfl (by kernel_rfl), List.forall_mem_cons.mpr ⟨tab_of (x := PySem.Str.ofString "words_from_indices") (c := 103) (P := 99) T X rfl (by kernel_rfl), fun _ h => nomatch h⟩⟩
  wrow_args hpre hlay hrd hwl hlo
  first | refine callC_kw (enter_call ?_) | refine enter_call ?_
  w_top on
  refine my_post hT9 (fun _ => rfl) (by first | rfl | wrow_post) ?_
  w_call any ho hd hcd hD T F
  clear hd
  rename News _ _ _ _ => N
  have l0 := ghost_lt hT9 F
  have C' := ghost_code hT9
  have X' := ghost_K hT9 X (by kernel_rfl)
  have T' := ghost_top hT9 T
  have K' := ghost_below hT9
  have N' := ghost_news hT9 F N
  have F' := ghost_fr hT9 F
  simp only [tabNews, List.map_cons, List.map_nil, List.nil_append, List.cons_append] at N'
  rename_i ns _ _ _ _ _ _ _ l vs _ hL _ _ _ hI _ hc _ h₁
  replace F' := fr_lookup (show Fr _ _ _ (fun y => List.lookup y [(Str.ofString "script", Value.ref l)]) from F')
  dsimp only [List.map] at F'
  refine wpAny_noRaise ?_
  refine law_whole (s := ⟨h₁, s₁.gens, s₁.drawn, _, s₁.os⟩) (dp := 302) (un := 7) (gd := some []) (outer := []) w 301 4 rfl rfl l vs ns (tabObj #[]) (tabObj #[]) (ghost_list hT9 hL) hI (by omega) ⟨#[], rfl, trivial⟩ ⟨#[], rfl, trivial⟩ C'.1 C'.2.1 (.of_eq hg) N' (below_caller _) F' X' T' (by decide) (by decide) ?_
  rintro h' tk' g' oA oB G' ⟨pA, rfl, _⟩ ⟨pB, rfl, _⟩ keep e76 e99
  exact ⟨rfl, keep, ⟨⟨pA, e76⟩, ⟨pB, e99⟩, trivial⟩, rfl, G'⟩)
end
end
end
end Mine
set_option maxRecDepth 100000 in
theorem PySem.Challenge.cw_ja0052_01_holds : PySem.Challenge.rw_ja0052_01.Holds :=
  Mine.M58
