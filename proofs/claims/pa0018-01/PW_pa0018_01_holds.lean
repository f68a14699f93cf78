import PyProof.Rows.All
import Wide.All
import OpenK.AllK
import Wide.FinOn
import PyProof.Draws
import KE.KxSplit
import Open.Seg
import Open.Tree
import OpenK.KQuick
import Lean
import PySem.Challenge.RW_pa0018_01
set_option Elab.async false
set_option maxRecDepth 100000
set_option linter.all false
namespace Mine
section -- KText
open PySem PySem.W PyProof.Rows
noncomputable abbrev PP : Program := OpenLaw.prog PySem.Challenge.rw_pa0018_01
noncomputable def fdefOf (i : Nat) : Stmt := PySem.Challenge.pw_pa0018_01.main.body.getD i (.Pass default)
noncomputable def par (i : Nat) : Arguments := match fdefOf i with | .FunctionDef _ a _ _ _ _ _ _ _ _ => a | _ => default
noncomputable def bod (i : Nat) : List Stmt := match fdefOf i with | .FunctionDef _ _ b _ _ _ _ _ _ _ => b | _ => []
noncomputable def sco (i : Nat) : Scope := match fdefOf i with | .FunctionDef _ _ _ _ _ _ s _ _ _ => s | _ => default
noncomputable def stm (i j : Nat) : Stmt := (bod i).getD j (.Pass default)
noncomputable def lop (i j : Nat) : Stmt := (bod i).getD j (.Pass default)
/-- the table b3_exceptions, read off the text: codes and what stands for them -/
noncomputable def b3cell : Option Expr × Expr → Option (Nat × List Nat)
  | (some (.Constant (.int k) _ _), .Constant (.str x) _ _) => some (k.toNat, x.cps.toList)
  | _ => none
noncomputable def b3tab : List (Nat × List Nat) := match PySem.Challenge.pw_pa0018_01.main.body.getD 29 (.Pass default) with
  | .Assign _ (.Dict ks vs _) _ => (ks.zip vs).filterMap b3cell
  | _ => []
noncomputable def b3tok (i : Nat) : Nat := if i < 646 then 550 + 3 * i else 2488 + 2 * (i - 646)
noncomputable def b3ent (x : (Nat × List Nat) × Nat) : DictEntry := ⟨(x.1.1 : Int), .int (x.1.1 : Int) (b3tok x.2), .str ⟨x.1.2.toArray⟩ (b3tok x.2 + 1)⟩
noncomputable abbrev ob2 (P : Params) : Obj := ⟨.none, none, .dict #[⟨PyData.keyHash P (Str.ofString "\x69mport.loaded._sre"), (.str (Str.ofString "\x69mport.loaded._sre") 183), (.bool true)⟩, ⟨PyData.keyHash P (Str.ofString "class._frozen_importlib.BuiltinImporter"), (.str (Str.ofString "class._frozen_importlib.BuiltinImporter") 185), (.ref 14)⟩, ⟨PyData.keyHash P (Str.ofString "watched.\x69mport"), (.str (Str.ofString "watched.\x69mport") 206), (.ref 18)⟩, ⟨PyData.keyHash P (Str.ofString "class._frozen_importlib.ModuleSpec"), (.str (Str.ofString "class._frozen_importlib.ModuleSpec") 216), (.ref 22)⟩, ⟨PyData.keyHash P (Str.ofString "sys.modules.booked-epoch"), (.str (Str.ofString "sys.modules.booked-epoch") 245), (.int 3 0)⟩, ⟨PyData.keyHash P (Str.ofString "\x69mport.later-laid._sre"), (.str (Str.ofString "\x69mport.later-laid._sre") 270), (.bool true)⟩, ⟨PyData.keyHash P (Str.ofString "watched.library"), (.str (Str.ofString "watched.library") 272), (.ref 27)⟩, ⟨PyData.keyHash P (Str.ofString "watched.library-objects"), (.str (Str.ofString "watched.library-objects") 0), (.str (Str.mk #[12]) 0)⟩, ⟨PyData.keyHash P (Str.ofString "watched.library-deep._sre"), (.str (Str.ofString "watched.library-deep._sre") 273), (.str (Str.mk #[4, 0, 0, 11, 4, 0, 0, 11, 4, 0, 0, 3, 4, 0, 0, 11, 8, 4, 100, 105, 99, 116, 2]) 0)⟩] 9, #[]⟩
noncomputable abbrev ob3 (P : Params) : Obj := ⟨(.type "dict"), none, .dict #[⟨PyData.keyHash P (Str.ofString "__name__"), (.str (Str.ofString "__name__") 165), (.str (Str.ofString "law_pa0018_01") 2509)⟩, ⟨PyData.keyHash P (Str.ofString "__doc__"), (.str (Str.ofString "__doc__") 166), .none⟩, ⟨PyData.keyHash P (Str.ofString "__package__"), (.str (Str.ofString "__package__") 167), .none⟩, ⟨PyData.keyHash P (Str.ofString "__loader__"), (.str (Str.ofString "__loader__") 168), (.builtin "__main__.__loader__#opaque")⟩, ⟨PyData.keyHash P (Str.ofString "__spec__"), (.str (Str.ofString "__spec__") 169), .none⟩, ⟨PyData.keyHash P (Str.ofString "__annotations__"), (.str (Str.ofString "__annotations__") 170), (.ref 6)⟩, ⟨PyData.keyHash P (Str.ofString "__builtins__"), (.str (Str.ofString "__builtins__") 171), (.ref 4)⟩, ⟨PyData.keyHash P (Str.ofString "__file__"), (.str (Str.ofString "__file__") 173), (.str (Str.ofString "/claim/cut.py") 172)⟩, ⟨PyData.keyHash P (Str.ofString "__cached__"), (.str (Str.ofString "__cached__") 174), .none⟩, ⟨PyData.keyHash P (Str.ofString "_sre"), (.str (Str.ofString "_sre") 275), (.ref 12)⟩, ⟨PyData.keyHash P (Str.ofString "_wall"), (.str (Str.ofString "_wall") 288), (.ref 38)⟩, ⟨PyData.keyHash P (Str.ofString "_twin_re_1"), (.str (Str.ofString "_twin_re_1") 320), (.ref 43)⟩, ⟨PyData.keyHash P (Str.ofString "bytes_types"), (.str (Str.ofString "bytes_types") 321), (.ref 44)⟩, ⟨PyData.keyHash P (Str.ofString "_bytes_from_decode_data"), (.str (Str.ofString "_bytes_from_decode_data") 328), (.ref 51)⟩, ⟨PyData.keyHash P (Str.ofString "Error"), (.str (Str.ofString "Error") 348), (.ref 61)⟩, ⟨PyData.keyHash P (Str.ofString "_ascii_buffer"), (.str (Str.ofString "_ascii_buffer") 356), (.ref 71)⟩, ⟨PyData.keyHash P (Str.ofString "_buffer"), (.str (Str.ofString "_buffer") 364), (.ref 78)⟩, ⟨PyData.keyHash P (Str.ofString "_truth"), (.str (Str.ofString "_truth") 372), (.ref 85)⟩, ⟨PyData.keyHash P (Str.ofString "_B64"), (.str (Str.ofString "_B64") 374), (.bytes #[65, 66, 67, 68, 69, 70, 71, 72, 73, 74, 75, 76, 77, 78, 79, 80, 81, 82, 83, 84, 85, 86, 87, 88, 89, 90, 97, 98, 99, 100, 101, 102, 103, 104, 105, 106, 107, 108, 109, 110, 111, 112, 113, 114, 115, 116, 117, 118, 119, 120, 121, 122, 48, 49, 50, 51, 52, 53, 54, 55, 56, 57, 43, 47] 373)⟩, ⟨PyData.keyHash P (Str.ofString "_b64_value"), (.str (Str.ofString "_b64_value") 381), (.ref 92)⟩, ⟨PyData.keyHash P (Str.ofString "a2b_base64"), (.str (Str.ofString "a2b_base64") 397), (.ref 100)⟩, ⟨PyData.keyHash P (Str.ofString "b2a_base64"), (.str (Str.ofString "b2a_base64") 411), (.ref 108)⟩, ⟨PyData.keyHash P (Str.ofString "_NO_SEP"), (.str (Str.ofString "_NO_SEP") 412), (.ref 109)⟩, ⟨PyData.keyHash P (Str.ofString "b2a_hex"), (.str (Str.ofString "b2a_hex") 423), (.ref 117)⟩, ⟨PyData.keyHash P (Str.ofString "hexlify"), (.str (Str.ofString "hexlify") 424), (.ref 117)⟩, ⟨PyData.keyHash P (Str.ofString "_hex_value"), (.str (Str.ofString "_hex_value") 431), (.ref 124)⟩, ⟨PyData.keyHash P (Str.ofString "a2b_hex"), (.str (Str.ofString "a2b_hex") 444), (.ref 131)⟩, ⟨PyData.keyHash P (Str.ofString "unhexlify"), (.str (Str.ofString "unhexlify") 445), (.ref 131)⟩, ⟨PyData.keyHash P (Str.ofString "b64encode"), (.str (Str.ofString "b64encode") 456), (.ref 139)⟩, ⟨PyData.keyHash P (Str.ofString "b64decode"), (.str (Str.ofString "b64decode") 465), (.ref 147)⟩, ⟨PyData.keyHash P (Str.ofString "b16encode"), (.str (Str.ofString "b16encode") 472), (.ref 154)⟩, ⟨PyData.keyHash P (Str.ofString "b16decode"), (.str (Str.ofString "b16decode") 480), (.ref 162)⟩, ⟨PyData.keyHash P (Str.ofString "b1_set"), (.str (Str.ofString "b1_set") 542), (.ref 170)⟩, ⟨PyData.keyHash P (Str.ofString "in_table_b1"), (.str (Str.ofString "in_table_b1") 549), (.ref 180)⟩, ⟨PyData.keyHash P (Str.ofString "b3_exceptions"), (.str (Str.ofString "b3_exceptions") 2500), (.ref 181)⟩, ⟨PyData.keyHash P (Str.ofString "map_table_b3"), (.str (Str.ofString "map_table_b3") 2508), (.ref 226)⟩, ⟨PyData.keyHash P (Str.ofString "_law_values"), (.str (Str.ofString "_law_values") 2521), (.ref 233)⟩, ⟨PyData.keyHash P (Str.ofString "_law_octets"), (.str (Str.ofString "_law_octets") 2533), (.ref 240)⟩, ⟨PyData.keyHash P (Str.ofString "_law_written"), (.str (Str.ofString "_law_written") 2539), (.ref 245)⟩, ⟨PyData.keyHash P (Str.ofString "_law_signs"), (.str (Str.ofString "_law_signs") 2545), (.ref 250)⟩, ⟨PyData.keyHash P (Str.ofString "_law_folded"), (.str (Str.ofString "_law_folded") 2551), (.ref 255)⟩, ⟨PyData.keyHash P (Str.ofString "_law_spelled"), (.str (Str.ofString "_law_spelled") 2567), (.ref 262)⟩, ⟨PyData.keyHash P (Str.ofString "_law_carried"), (.str (Str.ofString "_law_carried") 2573), (.ref 267)⟩, ⟨PyData.keyHash P (Str.ofString "law"), (.str (Str.ofString "law") 2579), (.ref 272)⟩] 44, #[]⟩
noncomputable abbrev ob32 (_ : Params) : Obj := ⟨(.type "tuple"), none, .seq #[] 0, #[]⟩
noncomputable abbrev ob34 (_ : Params) : Obj := ⟨(.type "tuple"), none, .seq #[(.str (Str.ofString "k") 285)] 0, #[]⟩
noncomputable abbrev ob35 (_ : Params) : Obj := ⟨(.type "tuple"), none, .seq #[] 0, #[]⟩
noncomputable abbrev ob37 (_ : Params) : Obj := ⟨(.type "code"), none, .fields #[(.str (Str.ofString "_wall") 282), (.str (Str.ofString "_wall") 283), (.str (Str.ofString "/claim/cut.py") 284), (.int 2 0), (.int 1 0), (.int 0 0), (.int 0 0), (.int 3 0), (.ref 32), (.bool true), (.int 276 0), (.ref 33), .none, (.ref 34), (.ref 35), (.ref 36), (.int 286 0), (.int 2 0), (.str (Str.ofString "/claim/cut.py") 287)], #[]⟩
noncomputable abbrev ob38 (_ : Params) : Obj := ⟨(.type "function"), none, .func (fnOf (Str.ofString "_wall") (Str.ofString "_wall") (par 1) (bod 1) (sco 1) .none .none .none (.str (Str.ofString "__main__") 164) none (.ref 37) .none), #[]⟩
noncomputable abbrev ob42 (_ : Params) : Obj := ⟨(.type "tuple"), none, .seq #[(.int 14 0), (.int 12 0), (.int 4 0), (.int 1 0), (.int 1 0), (.int 21 0), (.int 22 0), (.int 48 0), (.int 57 0), (.int 22 0), (.int 65 0), (.int 70 0), (.int 0 0), (.int 13 0), (.int 9 0), (.int 21 0), (.int 22 0), (.int 48 0), (.int 57 0), (.int 22 0), (.int 65 0), (.int 70 0), (.int 0 0), (.int 1 0)] 0, #[]⟩
noncomputable abbrev ob43 (_ : Params) : Obj := ⟨(.type "re.Pattern"), none, .fields #[(.bytes #[91, 94, 48, 45, 57, 65, 45, 70, 93] 292), (.int 0 319), (.int 0 0), .none, .none, (.ref 42), (.int 1 0)], #[]⟩
noncomputable abbrev ob44 (_ : Params) : Obj := ⟨(.type "tuple"), none, .seq #[(.type "bytes"), (.type "bytearray")] 0, #[]⟩
noncomputable abbrev ob45 (_ : Params) : Obj := ⟨(.type "tuple"), none, .seq #[] 0, #[]⟩
noncomputable abbrev ob47 (_ : Params) : Obj := ⟨(.type "tuple"), none, .seq #[(.str (Str.ofString "s") 325)] 0, #[]⟩
noncomputable abbrev ob48 (_ : Params) : Obj := ⟨(.type "tuple"), none, .seq #[] 0, #[]⟩
noncomputable abbrev ob50 (_ : Params) : Obj := ⟨(.type "code"), none, .fields #[(.str (Str.ofString "_bytes_from_decode_data") 322), (.str (Str.ofString "_bytes_from_decode_data") 323), (.str (Str.ofString "/claim/cut.py") 324), (.int 8 0), (.int 1 0), (.int 0 0), (.int 0 0), (.int 3 0), (.ref 45), (.bool true), (.int 276 0), (.ref 46), .none, (.ref 47), (.ref 48), (.ref 49), (.int 326 0), (.int 8 0), (.str (Str.ofString "/claim/cut.py") 327)], #[]⟩
noncomputable abbrev ob51 (_ : Params) : Obj := ⟨(.type "function"), none, .func (fnOf (Str.ofString "_bytes_from_decode_data") (Str.ofString "_bytes_from_decode_data") (par 5) (bod 5) (sco 5) .none .none .none (.str (Str.ofString "cpy313.base64") 289) none (.ref 50) .none), #[]⟩
noncomputable abbrev ob52 (_ : Params) : Obj := ⟨(.type "tuple"), none, .seq #[(.type "ValueError")] 0, #[]⟩
noncomputable abbrev ob59 (_ : Params) : Obj := ⟨(.type "tuple"), none, .seq #[] 0, #[]⟩
noncomputable abbrev ob60 (P : Params) : Obj := ⟨(.type "dict"), none, .dict #[⟨PyData.keyHash P (Str.ofString "__module__"), (.str (Str.ofString "__module__") 338), (.str (Str.ofString "binascii") 329)⟩, ⟨PyData.keyHash P (Str.ofString "__firstlineno__"), (.str (Str.ofString "__firstlineno__") 342), (.int 21 341)⟩, ⟨PyData.keyHash P (Str.ofString "__static_attributes__"), (.str (Str.ofString "__static_attributes__") 343), (.ref 59)⟩, ⟨PyData.keyHash P (Str.ofString "__weakref__"), (.str (Str.ofString "__weakref__") 345), (.ref 62)⟩, ⟨PyData.keyHash P (Str.ofString "__doc__"), (.str (Str.ofString "__doc__") 346), .none⟩] 3, #[]⟩
noncomputable abbrev ob61 (_ : Params) : Obj := ⟨(.type "type"), none, .cls ⟨(Str.ofString "Error"), [(.type "ValueError")], [(.ref 61), (.type "ValueError"), (.type "Exception"), (.type "BaseException"), (.type "object")], 60, (Str.ofString "Error"), true, [], [], false, none, false⟩, #[some (.ref 52), none, some (.str (Str.ofString "Error") 331), some (.str (Str.ofString "Error") 339), some (.builtin "ValueError.__new__"), some (.bool true)]⟩
noncomputable abbrev ob62 (_ : Params) : Obj := ⟨(.type "getset_descriptor"), none, .fields #[(.str (Str.ofString "__weakref__") 344), (.ref 61), (.builtin "ExceptionGroup.__weakref__"), .none], #[]⟩
noncomputable abbrev ob65 (_ : Params) : Obj := ⟨(.type "tuple"), none, .seq #[] 0, #[]⟩
noncomputable abbrev ob67 (_ : Params) : Obj := ⟨(.type "tuple"), none, .seq #[(.str (Str.ofString "data") 352), (.str (Str.ofString "t") 353)] 0, #[]⟩
noncomputable abbrev ob68 (_ : Params) : Obj := ⟨(.type "tuple"), none, .seq #[] 0, #[]⟩
noncomputable abbrev ob70 (_ : Params) : Obj := ⟨(.type "code"), none, .fields #[(.str (Str.ofString "_ascii_buffer") 349), (.str (Str.ofString "_ascii_buffer") 350), (.str (Str.ofString "/claim/cut.py") 351), (.int 23 0), (.int 1 0), (.int 0 0), (.int 0 0), (.int 3 0), (.ref 65), (.bool true), (.int 276 0), (.ref 66), .none, (.ref 67), (.ref 68), (.ref 69), (.int 354 0), (.int 23 0), (.str (Str.ofString "/claim/cut.py") 355)], #[]⟩
noncomputable abbrev ob71 (_ : Params) : Obj := ⟨(.type "function"), none, .func (fnOf (Str.ofString "_ascii_buffer") (Str.ofString "_ascii_buffer") (par 8) (bod 8) (sco 8) .none .none .none (.str (Str.ofString "binascii") 329) none (.ref 70) .none), #[]⟩
noncomputable abbrev ob72 (_ : Params) : Obj := ⟨(.type "tuple"), none, .seq #[] 0, #[]⟩
noncomputable abbrev ob74 (_ : Params) : Obj := ⟨(.type "tuple"), none, .seq #[(.str (Str.ofString "data") 360), (.str (Str.ofString "t") 361)] 0, #[]⟩
noncomputable abbrev ob75 (_ : Params) : Obj := ⟨(.type "tuple"), none, .seq #[] 0, #[]⟩
noncomputable abbrev ob77 (_ : Params) : Obj := ⟨(.type "code"), none, .fields #[(.str (Str.ofString "_buffer") 357), (.str (Str.ofString "_buffer") 358), (.str (Str.ofString "/claim/cut.py") 359), (.int 34 0), (.int 1 0), (.int 0 0), (.int 0 0), (.int 3 0), (.ref 72), (.bool true), (.int 276 0), (.ref 73), .none, (.ref 74), (.ref 75), (.ref 76), (.int 362 0), (.int 34 0), (.str (Str.ofString "/claim/cut.py") 363)], #[]⟩
noncomputable abbrev ob78 (_ : Params) : Obj := ⟨(.type "function"), none, .func (fnOf (Str.ofString "_buffer") (Str.ofString "_buffer") (par 9) (bod 9) (sco 9) .none .none .none (.str (Str.ofString "binascii") 329) none (.ref 77) .none), #[]⟩
noncomputable abbrev ob79 (_ : Params) : Obj := ⟨(.type "tuple"), none, .seq #[] 0, #[]⟩
noncomputable abbrev ob81 (_ : Params) : Obj := ⟨(.type "tuple"), none, .seq #[(.str (Str.ofString "x") 368), (.str (Str.ofString "t") 369)] 0, #[]⟩
noncomputable abbrev ob82 (_ : Params) : Obj := ⟨(.type "tuple"), none, .seq #[] 0, #[]⟩
noncomputable abbrev ob84 (_ : Params) : Obj := ⟨(.type "code"), none, .fields #[(.str (Str.ofString "_truth") 365), (.str (Str.ofString "_truth") 366), (.str (Str.ofString "/claim/cut.py") 367), (.int 41 0), (.int 1 0), (.int 0 0), (.int 0 0), (.int 3 0), (.ref 79), (.bool true), (.int 276 0), (.ref 80), .none, (.ref 81), (.ref 82), (.ref 83), (.int 370 0), (.int 41 0), (.str (Str.ofString "/claim/cut.py") 371)], #[]⟩
noncomputable abbrev ob85 (_ : Params) : Obj := ⟨(.type "function"), none, .func (fnOf (Str.ofString "_truth") (Str.ofString "_truth") (par 10) (bod 10) (sco 10) .none .none .none (.str (Str.ofString "binascii") 329) none (.ref 84) .none), #[]⟩
noncomputable abbrev ob86 (_ : Params) : Obj := ⟨(.type "tuple"), none, .seq #[] 0, #[]⟩
noncomputable abbrev ob88 (_ : Params) : Obj := ⟨(.type "tuple"), none, .seq #[(.str (Str.ofString "c") 378)] 0, #[]⟩
noncomputable abbrev ob89 (_ : Params) : Obj := ⟨(.type "tuple"), none, .seq #[] 0, #[]⟩
noncomputable abbrev ob91 (_ : Params) : Obj := ⟨(.type "code"), none, .fields #[(.str (Str.ofString "_b64_value") 375), (.str (Str.ofString "_b64_value") 376), (.str (Str.ofString "/claim/cut.py") 377), (.int 47 0), (.int 1 0), (.int 0 0), (.int 0 0), (.int 3 0), (.ref 86), (.bool true), (.int 276 0), (.ref 87), .none, (.ref 88), (.ref 89), (.ref 90), (.int 379 0), (.int 47 0), (.str (Str.ofString "/claim/cut.py") 380)], #[]⟩
noncomputable abbrev ob92 (_ : Params) : Obj := ⟨(.type "function"), none, .func (fnOf (Str.ofString "_b64_value") (Str.ofString "_b64_value") (par 12) (bod 12) (sco 12) .none .none .none (.str (Str.ofString "binascii") 329) none (.ref 91) .none), #[]⟩
noncomputable abbrev ob93 (P : Params) : Obj := ⟨(.type "dict"), none, .dict #[⟨PyData.keyHash P (Str.ofString "strict_mode"), (.str (Str.ofString "strict_mode") 382), (.bool false)⟩] 1, #[]⟩
noncomputable abbrev ob94 (_ : Params) : Obj := ⟨(.type "tuple"), none, .seq #[] 0, #[]⟩
noncomputable abbrev ob96 (_ : Params) : Obj := ⟨(.type "tuple"), none, .seq #[(.str (Str.ofString "data") 386), (.str (Str.ofString "strict_mode") 387), (.str (Str.ofString "ascii_data") 388), (.str (Str.ofString "out") 389), (.str (Str.ofString "quad_pos") 390), (.str (Str.ofString "leftchar") 391), (.str (Str.ofString "pads") 392), (.str (Str.ofString "i") 393), (.str (Str.ofString "this_ch") 394)] 0, #[]⟩
noncomputable abbrev ob97 (_ : Params) : Obj := ⟨(.type "tuple"), none, .seq #[] 0, #[]⟩
noncomputable abbrev ob99 (_ : Params) : Obj := ⟨(.type "code"), none, .fields #[(.str (Str.ofString "a2b_base64") 383), (.str (Str.ofString "a2b_base64") 384), (.str (Str.ofString "/claim/cut.py") 385), (.int 59 0), (.int 1 0), (.int 1 0), (.int 1 0), (.int 3 0), (.ref 94), (.bool true), (.int 276 0), (.ref 95), .none, (.ref 96), (.ref 97), (.ref 98), (.int 395 0), (.int 59 0), (.str (Str.ofString "/claim/cut.py") 396)], #[]⟩
noncomputable abbrev ob100 (_ : Params) : Obj := ⟨(.type "function"), none, .func (fnOf (Str.ofString "a2b_base64") (Str.ofString "a2b_base64") (par 13) (bod 13) (sco 13) .none (.ref 93) .none (.str (Str.ofString "binascii") 329) none (.ref 99) .none), #[]⟩
noncomputable abbrev ob101 (P : Params) : Obj := ⟨(.type "dict"), none, .dict #[⟨PyData.keyHash P (Str.ofString "newline"), (.str (Str.ofString "newline") 398), (.bool true)⟩] 1, #[]⟩
noncomputable abbrev ob102 (_ : Params) : Obj := ⟨(.type "tuple"), none, .seq #[] 0, #[]⟩
noncomputable abbrev ob104 (_ : Params) : Obj := ⟨(.type "tuple"), none, .seq #[(.str (Str.ofString "data") 402), (.str (Str.ofString "newline") 403), (.str (Str.ofString "bin_data") 404), (.str (Str.ofString "out") 405), (.str (Str.ofString "leftbits") 406), (.str (Str.ofString "leftchar") 407), (.str (Str.ofString "b") 408)] 0, #[]⟩
noncomputable abbrev ob105 (_ : Params) : Obj := ⟨(.type "tuple"), none, .seq #[] 0, #[]⟩
noncomputable abbrev ob107 (_ : Params) : Obj := ⟨(.type "code"), none, .fields #[(.str (Str.ofString "b2a_base64") 399), (.str (Str.ofString "b2a_base64") 400), (.str (Str.ofString "/claim/cut.py") 401), (.int 113 0), (.int 1 0), (.int 1 0), (.int 1 0), (.int 3 0), (.ref 102), (.bool true), (.int 276 0), (.ref 103), .none, (.ref 104), (.ref 105), (.ref 106), (.int 409 0), (.int 113 0), (.str (Str.ofString "/claim/cut.py") 410)], #[]⟩
noncomputable abbrev ob108 (_ : Params) : Obj := ⟨(.type "function"), none, .func (fnOf (Str.ofString "b2a_base64") (Str.ofString "b2a_base64") (par 14) (bod 14) (sco 14) .none (.ref 101) .none (.str (Str.ofString "binascii") 329) none (.ref 107) .none), #[]⟩
noncomputable abbrev ob109 (_ : Params) : Obj := ⟨(.type "object"), none, .plain, #[]⟩
noncomputable abbrev ob110 (_ : Params) : Obj := ⟨(.type "tuple"), none, .seq #[(.ref 109), (.int 1 413)] 0, #[]⟩
noncomputable abbrev ob111 (_ : Params) : Obj := ⟨(.type "tuple"), none, .seq #[] 0, #[]⟩
noncomputable abbrev ob113 (_ : Params) : Obj := ⟨(.type "tuple"), none, .seq #[(.str (Str.ofString "data") 417), (.str (Str.ofString "sep") 418), (.str (Str.ofString "bytes_per_sep") 419), (.str (Str.ofString "t") 420)] 0, #[]⟩
noncomputable abbrev ob114 (_ : Params) : Obj := ⟨(.type "tuple"), none, .seq #[] 0, #[]⟩
noncomputable abbrev ob116 (_ : Params) : Obj := ⟨(.type "code"), none, .fields #[(.str (Str.ofString "b2a_hex") 414), (.str (Str.ofString "b2a_hex") 415), (.str (Str.ofString "/claim/cut.py") 416), (.int 136 0), (.int 3 0), (.int 0 0), (.int 0 0), (.int 3 0), (.ref 111), (.bool true), (.int 276 0), (.ref 112), .none, (.ref 113), (.ref 114), (.ref 115), (.int 421 0), (.int 136 0), (.str (Str.ofString "/claim/cut.py") 422)], #[]⟩
noncomputable abbrev ob117 (_ : Params) : Obj := ⟨(.type "function"), none, .func (fnOf (Str.ofString "b2a_hex") (Str.ofString "b2a_hex") (par 16) (bod 16) (sco 16) (.ref 110) .none .none (.str (Str.ofString "binascii") 329) none (.ref 116) .none), #[]⟩
noncomputable abbrev ob118 (_ : Params) : Obj := ⟨(.type "tuple"), none, .seq #[] 0, #[]⟩
noncomputable abbrev ob120 (_ : Params) : Obj := ⟨(.type "tuple"), none, .seq #[(.str (Str.ofString "c") 428)] 0, #[]⟩
noncomputable abbrev ob121 (_ : Params) : Obj := ⟨(.type "tuple"), none, .seq #[] 0, #[]⟩
noncomputable abbrev ob123 (_ : Params) : Obj := ⟨(.type "code"), none, .fields #[(.str (Str.ofString "_hex_value") 425), (.str (Str.ofString "_hex_value") 426), (.str (Str.ofString "/claim/cut.py") 427), (.int 153 0), (.int 1 0), (.int 0 0), (.int 0 0), (.int 3 0), (.ref 118), (.bool true), (.int 276 0), (.ref 119), .none, (.ref 120), (.ref 121), (.ref 122), (.int 429 0), (.int 153 0), (.str (Str.ofString "/claim/cut.py") 430)], #[]⟩
noncomputable abbrev ob124 (_ : Params) : Obj := ⟨(.type "function"), none, .func (fnOf (Str.ofString "_hex_value") (Str.ofString "_hex_value") (par 18) (bod 18) (sco 18) .none .none .none (.str (Str.ofString "binascii") 329) none (.ref 123) .none), #[]⟩
noncomputable abbrev ob125 (_ : Params) : Obj := ⟨(.type "tuple"), none, .seq #[] 0, #[]⟩
noncomputable abbrev ob127 (_ : Params) : Obj := ⟨(.type "tuple"), none, .seq #[(.str (Str.ofString "hexstr") 435), (.str (Str.ofString "argbuf") 436), (.str (Str.ofString "arglen") 437), (.str (Str.ofString "out") 438), (.str (Str.ofString "i") 439), (.str (Str.ofString "top") 440), (.str (Str.ofString "bot") 441)] 0, #[]⟩
noncomputable abbrev ob128 (_ : Params) : Obj := ⟨(.type "tuple"), none, .seq #[] 0, #[]⟩
noncomputable abbrev ob130 (_ : Params) : Obj := ⟨(.type "code"), none, .fields #[(.str (Str.ofString "a2b_hex") 432), (.str (Str.ofString "a2b_hex") 433), (.str (Str.ofString "/claim/cut.py") 434), (.int 161 0), (.int 1 0), (.int 1 0), (.int 0 0), (.int 3 0), (.ref 125), (.bool true), (.int 276 0), (.ref 126), .none, (.ref 127), (.ref 128), (.ref 129), (.int 442 0), (.int 161 0), (.str (Str.ofString "/claim/cut.py") 443)], #[]⟩
noncomputable abbrev ob131 (_ : Params) : Obj := ⟨(.type "function"), none, .func (fnOf (Str.ofString "a2b_hex") (Str.ofString "a2b_hex") (par 19) (bod 19) (sco 19) .none .none .none (.str (Str.ofString "binascii") 329) none (.ref 130) .none), #[]⟩
noncomputable abbrev ob132 (_ : Params) : Obj := ⟨(.type "tuple"), none, .seq #[.none] 0, #[]⟩
noncomputable abbrev ob133 (_ : Params) : Obj := ⟨(.type "tuple"), none, .seq #[] 0, #[]⟩
noncomputable abbrev ob135 (_ : Params) : Obj := ⟨(.type "tuple"), none, .seq #[(.str (Str.ofString "s") 451), (.str (Str.ofString "altchars") 452), (.str (Str.ofString "encoded") 453)] 0, #[]⟩
noncomputable abbrev ob136 (_ : Params) : Obj := ⟨(.type "tuple"), none, .seq #[] 0, #[]⟩
noncomputable abbrev ob138 (_ : Params) : Obj := ⟨(.type "code"), none, .fields #[(.str (Str.ofString "b64encode") 448), (.str (Str.ofString "b64encode") 449), (.str (Str.ofString "/claim/cut.py") 450), (.int 178 0), (.int 2 0), (.int 0 0), (.int 0 0), (.int 3 0), (.ref 133), (.bool true), (.int 276 0), (.ref 134), .none, (.ref 135), (.ref 136), (.ref 137), (.int 454 0), (.int 178 0), (.str (Str.ofString "/claim/cut.py") 455)], #[]⟩
noncomputable abbrev ob139 (_ : Params) : Obj := ⟨(.type "function"), none, .func (fnOf (Str.ofString "b64encode") (Str.ofString "b64encode") (par 22) (bod 22) (sco 22) (.ref 132) .none .none (.str (Str.ofString "cpy313.base64") 446) none (.ref 138) .none), #[]⟩
noncomputable abbrev ob140 (_ : Params) : Obj := ⟨(.type "tuple"), none, .seq #[.none, (.bool false)] 0, #[]⟩
noncomputable abbrev ob141 (_ : Params) : Obj := ⟨(.type "tuple"), none, .seq #[] 0, #[]⟩
noncomputable abbrev ob143 (_ : Params) : Obj := ⟨(.type "tuple"), none, .seq #[(.str (Str.ofString "s") 460), (.str (Str.ofString "altchars") 461), (.str (Str.ofString "validate") 462)] 0, #[]⟩
noncomputable abbrev ob144 (_ : Params) : Obj := ⟨(.type "tuple"), none, .seq #[] 0, #[]⟩
noncomputable abbrev ob146 (_ : Params) : Obj := ⟨(.type "code"), none, .fields #[(.str (Str.ofString "b64decode") 457), (.str (Str.ofString "b64decode") 458), (.str (Str.ofString "/claim/cut.py") 459), (.int 184 0), (.int 3 0), (.int 0 0), (.int 0 0), (.int 3 0), (.ref 141), (.bool true), (.int 276 0), (.ref 142), .none, (.ref 143), (.ref 144), (.ref 145), (.int 463 0), (.int 184 0), (.str (Str.ofString "/claim/cut.py") 464)], #[]⟩
noncomputable abbrev ob147 (_ : Params) : Obj := ⟨(.type "function"), none, .func (fnOf (Str.ofString "b64decode") (Str.ofString "b64decode") (par 23) (bod 23) (sco 23) (.ref 140) .none .none (.str (Str.ofString "cpy313.base64") 446) none (.ref 146) .none), #[]⟩
noncomputable abbrev ob148 (_ : Params) : Obj := ⟨(.type "tuple"), none, .seq #[] 0, #[]⟩
noncomputable abbrev ob150 (_ : Params) : Obj := ⟨(.type "tuple"), none, .seq #[(.str (Str.ofString "s") 469)] 0, #[]⟩
noncomputable abbrev ob151 (_ : Params) : Obj := ⟨(.type "tuple"), none, .seq #[] 0, #[]⟩
noncomputable abbrev ob153 (_ : Params) : Obj := ⟨(.type "code"), none, .fields #[(.str (Str.ofString "b16encode") 466), (.str (Str.ofString "b16encode") 467), (.str (Str.ofString "/claim/cut.py") 468), (.int 191 0), (.int 1 0), (.int 0 0), (.int 0 0), (.int 3 0), (.ref 148), (.bool true), (.int 276 0), (.ref 149), .none, (.ref 150), (.ref 151), (.ref 152), (.int 470 0), (.int 191 0), (.str (Str.ofString "/claim/cut.py") 471)], #[]⟩
noncomputable abbrev ob154 (_ : Params) : Obj := ⟨(.type "function"), none, .func (fnOf (Str.ofString "b16encode") (Str.ofString "b16encode") (par 24) (bod 24) (sco 24) .none .none .none (.str (Str.ofString "cpy313.base64") 446) none (.ref 153) .none), #[]⟩
noncomputable abbrev ob155 (_ : Params) : Obj := ⟨(.type "tuple"), none, .seq #[(.bool false)] 0, #[]⟩
noncomputable abbrev ob156 (_ : Params) : Obj := ⟨(.type "tuple"), none, .seq #[] 0, #[]⟩
noncomputable abbrev ob158 (_ : Params) : Obj := ⟨(.type "tuple"), none, .seq #[(.str (Str.ofString "s") 476), (.str (Str.ofString "casefold") 477)] 0, #[]⟩
noncomputable abbrev ob159 (_ : Params) : Obj := ⟨(.type "tuple"), none, .seq #[] 0, #[]⟩
noncomputable abbrev ob161 (_ : Params) : Obj := ⟨(.type "code"), none, .fields #[(.str (Str.ofString "b16decode") 473), (.str (Str.ofString "b16decode") 474), (.str (Str.ofString "/claim/cut.py") 475), (.int 193 0), (.int 2 0), (.int 0 0), (.int 0 0), (.int 3 0), (.ref 156), (.bool true), (.int 276 0), (.ref 157), .none, (.ref 158), (.ref 159), (.ref 160), (.int 478 0), (.int 193 0), (.str (Str.ofString "/claim/cut.py") 479)], #[]⟩
noncomputable abbrev ob162 (_ : Params) : Obj := ⟨(.type "function"), none, .func (fnOf (Str.ofString "b16decode") (Str.ofString "b16decode") (par 25) (bod 25) (sco 25) (.ref 155) .none .none (.str (Str.ofString "cpy313.base64") 446) none (.ref 161) .none), #[]⟩
noncomputable abbrev ob170 (P : Params) : Obj := ⟨(.type "set"), none, .set #[(65024, (.int 65024 499)), (65025, (.int 65025 500)), (65026, (.int 65026 501)), (65027, (.int 65027 502)), (65028, (.int 65028 503)), (65029, (.int 65029 504)), (6150, (.int 6150 485)), (65030, (.int 65030 505)), (65031, (.int 65031 506)), (65032, (.int 65032 507)), (65033, (.int 65033 508)), (6155, (.int 6155 486)), (6156, (.int 6156 487)), (6157, (.int 6157 488)), (8203, (.int 8203 489)), (8204, (.int 8204 490)), (8205, (.int 8205 491)), (65034, (.int 65034 509)), (65035, (.int 65035 510)), (65036, (.int 65036 511)), (65037, (.int 65037 512)), (65038, (.int 65038 513)), (65039, (.int 65039 514)), (173, (.int 173 483)), (847, (.int 847 484)), (8288, (.int 8288 492)), (65279, (.int 65279 493))] 29 ⟨127, #[0, 1, 2, 3, 4, 5, 6, 7, 8, 9, 10, 11, 12, 13, 14, 15, 16, 17, 18, 19, 20, 21, 22, 45, 79, 96, 127], #[], 0, !P.followText "set-order", 2, true⟩, #[]⟩
noncomputable abbrev ob174 (_ : Params) : Obj := ⟨(.type "tuple"), none, .seq #[] 0, #[]⟩
noncomputable abbrev ob176 (_ : Params) : Obj := ⟨(.type "tuple"), none, .seq #[(.str (Str.ofString "code") 546)] 0, #[]⟩
noncomputable abbrev ob177 (_ : Params) : Obj := ⟨(.type "tuple"), none, .seq #[] 0, #[]⟩
noncomputable abbrev ob179 (_ : Params) : Obj := ⟨(.type "code"), none, .fields #[(.str (Str.ofString "in_table_b1") 543), (.str (Str.ofString "in_table_b1") 544), (.str (Str.ofString "/claim/cut.py") 545), (.int 202 0), (.int 1 0), (.int 0 0), (.int 0 0), (.int 3 0), (.ref 174), (.bool true), (.int 276 0), (.ref 175), .none, (.ref 176), (.ref 177), (.ref 178), (.int 547 0), (.int 202 0), (.str (Str.ofString "/claim/cut.py") 548)], #[]⟩
noncomputable abbrev ob180 (_ : Params) : Obj := ⟨(.type "function"), none, .func (fnOf (Str.ofString "in_table_b1") (Str.ofString "in_table_b1") (par 28) (bod 28) (sco 28) .none .none .none (.str (Str.ofString "cpy313.stringprep") 481) none (.ref 179) .none), #[]⟩
noncomputable abbrev ob181 (_ : Params) : Obj := ⟨(.type "dict"), none, .dict (b3tab.zipIdx.map b3ent).toArray 650, #[]⟩
noncomputable abbrev ob220 (_ : Params) : Obj := ⟨(.type "tuple"), none, .seq #[] 0, #[]⟩
noncomputable abbrev ob222 (_ : Params) : Obj := ⟨(.type "tuple"), none, .seq #[(.str (Str.ofString "code") 2504), (.str (Str.ofString "r") 2505)] 0, #[]⟩
noncomputable abbrev ob223 (_ : Params) : Obj := ⟨(.type "tuple"), none, .seq #[] 0, #[]⟩
noncomputable abbrev ob225 (_ : Params) : Obj := ⟨(.type "code"), none, .fields #[(.str (Str.ofString "map_table_b3") 2501), (.str (Str.ofString "map_table_b3") 2502), (.str (Str.ofString "/claim/cut.py") 2503), (.int 205 0), (.int 1 0), (.int 0 0), (.int 0 0), (.int 3 0), (.ref 220), (.bool true), (.int 276 0), (.ref 221), .none, (.ref 222), (.ref 223), (.ref 224), (.int 2506 0), (.int 205 0), (.str (Str.ofString "/claim/cut.py") 2507)], #[]⟩
noncomputable abbrev ob226 (_ : Params) : Obj := ⟨(.type "function"), none, .func (fnOf (Str.ofString "map_table_b3") (Str.ofString "map_table_b3") (par 30) (bod 30) (sco 30) .none .none .none (.str (Str.ofString "cpy313.stringprep") 481) none (.ref 225) .none), #[]⟩
noncomputable abbrev ob227 (_ : Params) : Obj := ⟨(.type "tuple"), none, .seq #[] 0, #[]⟩
noncomputable abbrev ob229 (_ : Params) : Obj := ⟨(.type "tuple"), none, .seq #[(.str (Str.ofString "row") 2514), (.str (Str.ofString "number") 2515), (.str (Str.ofString "values") 2516), (.str (Str.ofString "octet") 2517), (.str (Str.ofString "k") 2518)] 0, #[]⟩
noncomputable abbrev ob230 (_ : Params) : Obj := ⟨(.type "tuple"), none, .seq #[] 0, #[]⟩
noncomputable abbrev ob232 (_ : Params) : Obj := ⟨(.type "code"), none, .fields #[(.str (Str.ofString "_law_values") 2511), (.str (Str.ofString "_law_values") 2512), (.str (Str.ofString "/claim/cut.py") 2513), (.int 211 0), (.int 1 0), (.int 0 0), (.int 0 0), (.int 3 0), (.ref 227), (.bool true), (.int 276 0), (.ref 228), .none, (.ref 229), (.ref 230), (.ref 231), (.int 2519 0), (.int 211 0), (.str (Str.ofString "/claim/cut.py") 2520)], #[]⟩
noncomputable abbrev ob233 (_ : Params) : Obj := ⟨(.type "function"), none, .func (fnOf (Str.ofString "_law_values") (Str.ofString "_law_values") (par 32) (bod 32) (sco 32) .none .none .none (.str (Str.ofString "law_pa0018_01") 2509) none (.ref 232) .none), #[]⟩
noncomputable abbrev ob234 (_ : Params) : Obj := ⟨(.type "tuple"), none, .seq #[] 0, #[]⟩
noncomputable abbrev ob236 (_ : Params) : Obj := ⟨(.type "tuple"), none, .seq #[(.str (Str.ofString "values") 2525), (.str (Str.ofString "size") 2526), (.str (Str.ofString "number") 2527), (.str (Str.ofString "row") 2528), (.str (Str.ofString "value") 2529), (.str (Str.ofString "k") 2530)] 0, #[]⟩
noncomputable abbrev ob237 (_ : Params) : Obj := ⟨(.type "tuple"), none, .seq #[] 0, #[]⟩
noncomputable abbrev ob239 (_ : Params) : Obj := ⟨(.type "code"), none, .fields #[(.str (Str.ofString "_law_octets") 2522), (.str (Str.ofString "_law_octets") 2523), (.str (Str.ofString "/claim/cut.py") 2524), (.int 220 0), (.int 2 0), (.int 0 0), (.int 0 0), (.int 3 0), (.ref 234), (.bool true), (.int 276 0), (.ref 235), .none, (.ref 236), (.ref 237), (.ref 238), (.int 2531 0), (.int 220 0), (.str (Str.ofString "/claim/cut.py") 2532)], #[]⟩
noncomputable abbrev ob240 (_ : Params) : Obj := ⟨(.type "function"), none, .func (fnOf (Str.ofString "_law_octets") (Str.ofString "_law_octets") (par 33) (bod 33) (sco 33) .none .none .none (.str (Str.ofString "law_pa0018_01") 2509) none (.ref 239) .none), #[]⟩
noncomputable abbrev ob241 (_ : Params) : Obj := ⟨(.type "tuple"), none, .seq #[] 0, #[]⟩
noncomputable abbrev ob244 (_ : Params) : Obj := ⟨(.type "code"), none, .fields #[(.str (Str.ofString "_law_written") 2534), (.str (Str.ofString "_law_written") 2535), (.str (Str.ofString "/claim/cut.py") 2536), (.int 229 0), (.int 2 0), (.int 0 0), (.int 0 0), (.int 3 0), (.ref 241), (.bool true), (.int 276 0), (.ref 242), .none, .none, .none, (.ref 243), (.int 2537 0), (.int 229 0), (.str (Str.ofString "/claim/cut.py") 2538)], #[]⟩
noncomputable abbrev ob245 (_ : Params) : Obj := ⟨(.type "function"), none, .func (fnOf (Str.ofString "_law_written") (Str.ofString "_law_written") (par 34) (bod 34) (sco 34) .none .none .none (.str (Str.ofString "law_pa0018_01") 2509) none (.ref 244) .none), #[]⟩
noncomputable abbrev ob246 (_ : Params) : Obj := ⟨(.type "tuple"), none, .seq #[] 0, #[]⟩
noncomputable abbrev ob249 (_ : Params) : Obj := ⟨(.type "code"), none, .fields #[(.str (Str.ofString "_law_signs") 2540), (.str (Str.ofString "_law_signs") 2541), (.str (Str.ofString "/claim/cut.py") 2542), (.int 232 0), (.int 1 0), (.int 0 0), (.int 0 0), (.int 3 0), (.ref 246), (.bool true), (.int 276 0), (.ref 247), .none, .none, .none, (.ref 248), (.int 2543 0), (.int 232 0), (.str (Str.ofString "/claim/cut.py") 2544)], #[]⟩
noncomputable abbrev ob250 (_ : Params) : Obj := ⟨(.type "function"), none, .func (fnOf (Str.ofString "_law_signs") (Str.ofString "_law_signs") (par 35) (bod 35) (sco 35) .none .none .none (.str (Str.ofString "law_pa0018_01") 2509) none (.ref 249) .none), #[]⟩
noncomputable abbrev ob251 (_ : Params) : Obj := ⟨(.type "tuple"), none, .seq #[] 0, #[]⟩
noncomputable abbrev ob254 (_ : Params) : Obj := ⟨(.type "code"), none, .fields #[(.str (Str.ofString "_law_folded") 2546), (.str (Str.ofString "_law_folded") 2547), (.str (Str.ofString "/claim/cut.py") 2548), (.int 234 0), (.int 1 0), (.int 0 0), (.int 0 0), (.int 3 0), (.ref 251), (.bool true), (.int 276 0), (.ref 252), .none, .none, .none, (.ref 253), (.int 2549 0), (.int 234 0), (.str (Str.ofString "/claim/cut.py") 2550)], #[]⟩
noncomputable abbrev ob255 (_ : Params) : Obj := ⟨(.type "function"), none, .func (fnOf (Str.ofString "_law_folded") (Str.ofString "_law_folded") (par 36) (bod 36) (sco 36) .none .none .none (.str (Str.ofString "law_pa0018_01") 2509) none (.ref 254) .none), #[]⟩
noncomputable abbrev ob256 (_ : Params) : Obj := ⟨(.type "tuple"), none, .seq #[] 0, #[]⟩
noncomputable abbrev ob258 (_ : Params) : Obj := ⟨(.type "tuple"), none, .seq #[(.str (Str.ofString "text") 2555), (.str (Str.ofString "picks") 2556), (.str (Str.ofString "nothing") 2557), (.str (Str.ofString "elsewhere") 2558), (.str (Str.ofString "pieces") 2559), (.str (Str.ofString "k") 2560), (.str (Str.ofString "pick") 2561), (.str (Str.ofString "sign") 2562), (.str (Str.ofString "place") 2563), (.str (Str.ofString "code") 2564)] 0, #[]⟩
noncomputable abbrev ob259 (_ : Params) : Obj := ⟨(.type "tuple"), none, .seq #[] 0, #[]⟩
noncomputable abbrev ob261 (_ : Params) : Obj := ⟨(.type "code"), none, .fields #[(.str (Str.ofString "_law_spelled") 2552), (.str (Str.ofString "_law_spelled") 2553), (.str (Str.ofString "/claim/cut.py") 2554), (.int 236 0), (.int 2 0), (.int 0 0), (.int 0 0), (.int 3 0), (.ref 256), (.bool true), (.int 276 0), (.ref 257), .none, (.ref 258), (.ref 259), (.ref 260), (.int 2565 0), (.int 236 0), (.str (Str.ofString "/claim/cut.py") 2566)], #[]⟩
noncomputable abbrev ob262 (_ : Params) : Obj := ⟨(.type "function"), none, .func (fnOf (Str.ofString "_law_spelled") (Str.ofString "_law_spelled") (par 37) (bod 37) (sco 37) .none .none .none (.str (Str.ofString "law_pa0018_01") 2509) none (.ref 261) .none), #[]⟩
noncomputable abbrev ob263 (_ : Params) : Obj := ⟨(.type "tuple"), none, .seq #[] 0, #[]⟩
noncomputable abbrev ob266 (_ : Params) : Obj := ⟨(.type "code"), none, .fields #[(.str (Str.ofString "_law_carried") 2568), (.str (Str.ofString "_law_carried") 2569), (.str (Str.ofString "/claim/cut.py") 2570), (.int 250 0), (.int 2 0), (.int 0 0), (.int 0 0), (.int 3 0), (.ref 263), (.bool true), (.int 276 0), (.ref 264), .none, .none, .none, (.ref 265), (.int 2571 0), (.int 250 0), (.str (Str.ofString "/claim/cut.py") 2572)], #[]⟩
noncomputable abbrev ob267 (_ : Params) : Obj := ⟨(.type "function"), none, .func (fnOf (Str.ofString "_law_carried") (Str.ofString "_law_carried") (par 38) (bod 38) (sco 38) .none .none .none (.str (Str.ofString "law_pa0018_01") 2509) none (.ref 266) .none), #[]⟩
noncomputable abbrev ob268 (_ : Params) : Obj := ⟨(.type "tuple"), none, .seq #[] 0, #[]⟩
noncomputable abbrev ob271 (_ : Params) : Obj := ⟨(.type "code"), none, .fields #[(.str (Str.ofString "law") 2574), (.str (Str.ofString "law") 2575), (.str (Str.ofString "/claim/cut.py") 2576), (.int 289 0), (.int 1 0), (.int 0 0), (.int 0 0), (.int 3 0), (.ref 268), (.bool true), (.int 276 0), (.ref 269), .none, .none, .none, (.ref 270), (.int 2577 0), (.int 289 0), (.str (Str.ofString "/claim/cut.py") 2578)], #[]⟩
noncomputable abbrev ob272 (_ : Params) : Obj := ⟨(.type "function"), none, .func (fnOf (Str.ofString "law") (Str.ofString "law") (par 39) (bod 39) (sco 39) .none .none .none (.str (Str.ofString "law_pa0018_01") 2509) none (.ref 271) .none), #[]⟩
noncomputable def KK : Params → Frag := fun P => (nat_lit 2, ob2 P) :: (nat_lit 3, ob3 P) :: (nat_lit 32, ob32 P) :: (nat_lit 34, ob34 P) :: (nat_lit 35, ob35 P) :: (nat_lit 37, ob37 P) :: (nat_lit 38, ob38 P) :: (nat_lit 42, ob42 P) :: (nat_lit 43, ob43 P) :: (nat_lit 44, ob44 P) :: (nat_lit 45, ob45 P) :: (nat_lit 47, ob47 P) :: (nat_lit 48, ob48 P) :: (nat_lit 50, ob50 P) :: (nat_lit 51, ob51 P) :: (nat_lit 52, ob52 P) :: (nat_lit 59, ob59 P) :: (nat_lit 60, ob60 P) :: (nat_lit 61, ob61 P) :: (nat_lit 62, ob62 P) :: (nat_lit 65, ob65 P) :: (nat_lit 67, ob67 P) :: (nat_lit 68, ob68 P) :: (nat_lit 70, ob70 P) :: (nat_lit 71, ob71 P) :: (nat_lit 72, ob72 P) :: (nat_lit 74, ob74 P) :: (nat_lit 75, ob75 P) :: (nat_lit 77, ob77 P) :: (nat_lit 78, ob78 P) :: (nat_lit 79, ob79 P) :: (nat_lit 81, ob81 P) :: (nat_lit 82, ob82 P) :: (nat_lit 84, ob84 P) :: (nat_lit 85, ob85 P) :: (nat_lit 86, ob86 P) :: (nat_lit 88, ob88 P) :: (nat_lit 89, ob89 P) :: (nat_lit 91, ob91 P) :: (nat_lit 92, ob92 P) :: (nat_lit 93, ob93 P) :: (nat_lit 94, ob94 P) :: (nat_lit 96, ob96 P) :: (nat_lit 97, ob97 P) :: (nat_lit 99, ob99 P) :: (nat_lit 100, ob100 P) :: (nat_lit 101, ob101 P) :: (nat_lit 102, ob102 P) :: (nat_lit 104, ob104 P) :: (nat_lit 105, ob105 P) :: (nat_lit 107, ob107 P) :: (nat_lit 108, ob108 P) :: (nat_lit 109, ob109 P) :: (nat_lit 110, ob110 P) :: (nat_lit 111, ob111 P) :: (nat_lit 113, ob113 P) :: (nat_lit 114, ob114 P) :: (nat_lit 116, ob116 P) :: (nat_lit 117, ob117 P) :: (nat_lit 118, ob118 P) :: (nat_lit 120, ob120 P) :: (nat_lit 121, ob121 P) :: (nat_lit 123, ob123 P) :: (nat_lit 124, ob124 P) :: (nat_lit 125, ob125 P) :: (nat_lit 127, ob127 P) :: (nat_lit 128, ob128 P) :: (nat_lit 130, ob130 P) :: (nat_lit 131, ob131 P) :: (nat_lit 132, ob132 P) :: (nat_lit 133, ob133 P) :: (nat_lit 135, ob135 P) :: (nat_lit 136, ob136 P) :: (nat_lit 138, ob138 P) :: (nat_lit 139, ob139 P) :: (nat_lit 140, ob140 P) :: (nat_lit 141, ob141 P) :: (nat_lit 143, ob143 P) :: (nat_lit 144, ob144 P) :: (nat_lit 146, ob146 P) :: (nat_lit 147, ob147 P) :: (nat_lit 148, ob148 P) :: (nat_lit 150, ob150 P) :: (nat_lit 151, ob151 P) :: (nat_lit 153, ob153 P) :: (nat_lit 154, ob154 P) :: (nat_lit 155, ob155 P) :: (nat_lit 156, ob156 P) :: (nat_lit 158, ob158 P) :: (nat_lit 159, ob159 P) :: (nat_lit 161, ob161 P) :: (nat_lit 162, ob162 P) :: (nat_lit 170, ob170 P) :: (nat_lit 174, ob174 P) :: (nat_lit 176, ob176 P) :: (nat_lit 177, ob177 P) :: (nat_lit 179, ob179 P) :: (nat_lit 180, ob180 P) :: (nat_lit 181, ob181 P) :: (nat_lit 220, ob220 P) :: (nat_lit 222, ob222 P) :: (nat_lit 223, ob223 P) :: (nat_lit 225, ob225 P) :: (nat_lit 226, ob226 P) :: (nat_lit 227, ob227 P) :: (nat_lit 229, ob229 P) :: (nat_lit 230, ob230 P) :: (nat_lit 232, ob232 P) :: (nat_lit 233, ob233 P) :: (nat_lit 234, ob234 P) :: (nat_lit 236, ob236 P) :: (nat_lit 237, ob237 P) :: (nat_lit 239, ob239 P) :: (nat_lit 240, ob240 P) :: (nat_lit 241, ob241 P) :: (nat_lit 244, ob244 P) :: (nat_lit 245, ob245 P) :: (nat_lit 246, ob246 P) :: (nat_lit 249, ob249 P) :: (nat_lit 250, ob250 P) :: (nat_lit 251, ob251 P) :: (nat_lit 254, ob254 P) :: (nat_lit 255, ob255 P) :: (nat_lit 256, ob256 P) :: (nat_lit 258, ob258 P) :: (nat_lit 259, ob259 P) :: (nat_lit 261, ob261 P) :: (nat_lit 262, ob262 P) :: (nat_lit 263, ob263 P) :: (nat_lit 266, ob266 P) :: (nat_lit 267, ob267 P) :: (nat_lit 268, ob268 P) :: (nat_lit 271, ob271 P) :: (nat_lit 272, ob272 P) :: []
end
section -- MBase
open PySem PySem.W PyProof.Rows
/-- a caller's surroundings: nothing is being handled -/
noncomputable abbrev AA (dp un : Nat) (fr : Option (List Env)) (gd : Option (List Code)) : Around := { handled := none, depth := dp, frames := fr, guards := gd, units := un }
noncomputable abbrev Stays (h h' : Heap) : Prop := ∀ b o, h.get? b = some o → h'.get? b = some o
structure Ev (w : World) (h : Heap) : Prop where
  k : (KK w.params).In h
  t : ∃ p loose mean mg mb, Top p loose mean mg mb h
theorem Ev.keeps {w : World} {h h' : Heap} (V : Ev w h) (k : Stays h h') : Ev w h' := ⟨V.k.keeps k, let ⟨p, l, m, g, b, t⟩ := V.t; ⟨p, l, m, g, b, t.keeps k⟩⟩

noncomputable def ofB : List (Str × Value) → (Str → Option Value) → Str → Option Value
  | [], m => m
  | b :: r, m => ofB r fun y => if y = b.1 then some b.2 else m y
theorem ofB_eq : ∀ (l l' : List (Str × Value)) (m : Str → Option Value), (∀ y, l'.lookup y = m y) → ∀ y, (l.reverse ++ l').lookup y = ofB l m y
  | [], _, _, h, y => h y
  | (x, v) :: r, l', m, h, y => by
    rw [List.reverse_cons, List.append_assoc]
    refine ofB_eq r _ _ (fun y => ?_) y
    show ((x, v) :: l').lookup y = if y = x then some v else m y
    rw [List.lookup_cons]
    by_cases h' : y = x
    · subst h'; simp
    · have : (y == x) = false := beq_eq_false_iff_ne.mpr h'
      rw [this, if_neg h']; exact h y

theorem enter {w : World} {A : Around} {s : Shared} {Q E : Value → Shared → Prop} {f : Addr} {vs : List Value} {kw : List (Str × Value)} {name qual : Str} {params : Arguments} {body : List Stmt} {scope : Scope} {dV kV doc pm cdv ct oc : Value} {an od : Option Addr} {osl : Array (Option Value)} (binds : List (Str × Value))
    (V : Ev w s.heap) (ho : (KK w.params).lookup f = some ⟨oc, od, .func (fnOf name qual params body scope dV kV doc pm an cdv ct), osl⟩) (hcd : codeIn (KK w.params) cdv qual = true) (hroom : A.depth < recursionLimit)
    (hbind : BindsTo s (fnOf name qual params body scope dV kV doc pm an cdv ct) ⟨vs, kw⟩ binds) (hloc : ∀ y ∈ binds, scope.names.lookup y.1 = some .local)
    (hcell : ∀ x ∈ scope.names, x.2 ≠ .cell) (hco : scope.isCoroutine = false) (hgen : scope.isGenerator = false) (hk : scope.kind = .function)
    (h : ∀ L h₁ tk, (KK w.params).In s.heap → (∃ p loose mean mg mb, Top p loose mean mg mb s.heap) → Fr s.heap L h₁ (ofB binds fun _ => none) → News s.heap L h₁ [] →
      wpAny (model PP w) (A.deeper (envOf qual scope L f cdv)) (execs body (envOf qual scope L f cdv))
        (fun fl s' => Q (match fl with | .ret v => v | _ => .none) s') (fun _ _ => False) { s with heap := h₁, toks := tk }) :
    wpAny (model PP w) A (call (.ref f) vs kw) Q E s := by
  obtain ⟨p, l, m, g, b, T⟩ := V.t
  refine wpAny_call (codeAny_call_def (fd := fnOf name qual params body scope dV kV doc pm an cdv ct) (body := body) (binds := binds) hroom (V.k _ _ ho) rfl T.nolimit (codeRec_of V.k hcd) rfl hbind hcell hloc (fun h₁ hns hk₁ => ?_) hco hgen hk)
  have e : (fun x => binds.reverse.lookup x) = ofB binds fun _ => none := funext fun y => by simpa using ofB_eq binds [] (fun _ => none) (fun _ => rfl) y
  rw [e] at hns
  exact wpAny_mono (h _ h₁ _ V.k ⟨p, l, m, g, b, T⟩ ⟨hns, hk₁, Nat.le_refl _⟩ News.nil) (fun fl s' hl => hl) fun _ _ y => y.elim
/-- what a call of the def at f promises: all that stands stays, and Post -/
noncomputable abbrev Spec (w : World) (k : Nat) (f : Addr) (vs : List Value) (kw : List (Str × Value)) (Pre : Heap → Prop) (Post : Heap → Value → Heap → Prop) : Prop :=
  ∀ (dp un : Nat) (fr : Option (List Env)) (gd : Option (List Code)) (s : Shared) (Q E : Value → Shared → Prop), Ev w s.heap → Pre s.heap → dp + k < recursionLimit → un + 10 * k + 50 < cLine →
    (∀ v h' tk', Stays s.heap h' → Post s.heap v h' → Q v { s with heap := h', toks := tk' }) → wpAny (model PP w) (AA dp un fr gd) (call (.ref f) vs kw) Q E s
theorem use_spec {w : World} {k : Nat} {f : Addr} {vs : List Value} {kw : List (Str × Value)} {Pre : Heap → Prop} {Post : Heap → Value → Heap → Prop} {dp un : Nat} {fr : Option (List Env)} {gd : Option (List Code)} {s : Shared} {Q E : Value → Shared → Prop} {h₀ : Heap} {L : Addr} {m : Str → Option Value} {news : List (Addr × Obj)}
    (S : Spec w k f vs kw Pre Post) (V : Ev w h₀) (F : Fr h₀ L s.heap m) (N : News h₀ L s.heap news) (hp : Pre s.heap) (hd : dp + k < recursionLimit) (hu : un + 10 * k + 50 < cLine)
    (ret : ∀ v h' tk', Fr h₀ L h' m → News h₀ L h' news → Stays s.heap h' → Post s.heap v h' → Q v { s with heap := h', toks := tk' }) : wpAny (model PP w) (AA dp un fr gd) (call (.ref f) vs kw) Q E s :=
  S dp un fr gd s Q E (V.keeps F.keep) hp hd hu fun v h' tk' hk hq => ret v h' tk' (F.kept hk) (fun p hp => ⟨hk _ _ (N p hp).1, (N p hp).2⟩) hk hq
theorem fill : KK = KK ∧ PySem.Challenge.rw_pa0018_01 = PySem.Challenge.rw_pa0018_01 := by k_fill; exact ⟨rfl, rfl⟩
end
section -- MLoop
open PySem PySem.W PyProof.Rows PySem.Spec

/-- names that hold values -/
noncomputable def Vals : List Str → List Value → (Str → Option Value) → Prop
  | [], [], _ => True
  | y :: ys, u :: us, m => m y = some u ∧ Vals ys us m
  | _, _, _ => False
noncomputable def over : List Str → List Value → (Str → Option Value) → Str → Option Value
  | y :: ys, u :: us, m => fun q => if q = y then some u else over ys us m q
  | _, _, m => m
/-- away from these names nothing is changed -/
noncomputable def Out (ys : List Str) (m₀ m : Str → Option Value) : Prop := ∀ q, (∀ y ∈ ys, q ≠ y) → m q = m₀ q
theorem over_at {m₀ m₁ : Str → Option Value} {q : Str} : ∀ {ys : List Str} {us : List Value}, Vals ys us m₁ → ((∀ y ∈ ys, q ≠ y) → m₁ q = m₀ q) → m₁ q = over ys us m₀ q
  | [], [], _, h => h fun _ hy => nomatch hy
  | y :: ys, u :: us, ⟨h1, h2⟩, h => by
    unfold over
    by_cases e : q = y
    · subst e; rw [if_pos rfl]; exact h1
    · rw [if_neg e]
      exact over_at h2 fun hy => h fun z hz => by
        rcases List.mem_cons.mp hz with rfl | hz
        · exact e
        · exact hy z hz
  | [], _ :: _, hv, _ => hv.elim
  | _ :: _, [], hv, _ => hv.elim
theorem canon {ys : List Str} {us : List Value} {x : Str} {m₁ m₀ : Str → Option Value} {v : Value} (hv : Vals ys us m₁) (ho : Out (x :: ys) m₀ m₁) :
    (fun q => if q = x then some v else m₁ q) = fun q => if q = x then some v else over ys us m₀ q := by
  funext q
  by_cases e : q = x
  · rw [if_pos e, if_pos e]
  · rw [if_neg e, if_neg e]
    exact over_at hv fun hy => ho q fun y hy' => by
      rcases List.mem_cons.mp hy' with rfl | h
      · exact e
      · exact hy y h
/-- behind a loop: the loop's own name holds something -/
theorem canonE {ys : List Str} {us : List Value} {x : Str} {m₁ m₀ : Str → Option Value} (hv : Vals ys us m₁) (ho : Out (x :: ys) m₀ m₁) :
    m₁ = fun q => if q = x then m₁ x else over ys us m₀ q := by
  funext q
  by_cases e : q = x
  · rw [if_pos e, e]
  · rw [if_neg e]
    exact over_at hv fun hy => ho q fun y hy' => by
      rcases List.mem_cons.mp hy' with rfl | h
      · exact e
      · exact hy y h
theorem overV {ys : List Str} {us : List Value} {m : Str → Option Value} (hv : Vals ys us m) : m = over ys us m := funext fun _ => over_at hv fun _ => rfl
theorem overX {ys : List Str} {us : List Value} {x : Str} {m : Str → Option Value} {v : Option Value} (hv : Vals ys us m) : (fun y => if y = x then v else m y) = fun y => if y = x then v else over ys us m y := by
  rw [← overV hv]
theorem Out.refl (ys : List Str) (m : Str → Option Value) : Out ys m m := fun _ _ => rfl
section
variable {prog : Program} {w : World} {A : Around} {E : Value → Shared → Prop} {s : Shared} {env : Env} {h₀ : Heap} {x : Str} {body : List Stmt} {Q : Flow → Shared → Prop}

noncomputable def Turn (h₀ : Heap) (L I : Addr) (oI : Obj) (R' : (Str → Option Value) → List (Addr × Obj) → Prop) (s : Shared) (Q : Flow → Shared → Prop) (f : Flow) (s₂ : Shared) : Prop :=
  match f with
  | .ret v => Q (.ret v) s₂
  | .brk => Q .next s₂
  | _ => ∃ h' tk' m' nx' all, s₂ = { s with heap := h', toks := tk' } ∧ Fr h₀ L h' m' ∧ News h₀ L h' all ∧ (I, oI) ∈ all ∧ (∀ p ∈ nx', p ∈ all) ∧ (∀ p ∈ nx', p.1 ≠ I) ∧ R' m' nx'

theorem Turn.next {L I : Addr} {oI : Obj} {R' : (Str → Option Value) → List (Addr × Obj) → Prop} {h' : Heap} {tk' : Nat} {m' : Str → Option Value} (nx' : List (Addr × Obj)) {all : List (Addr × Obj)}
    (F : Fr h₀ L h' m') (N : News h₀ L h' all) (hI : (I, oI) ∈ all) (hs : ∀ p ∈ nx', p ∈ all) (hne : ∀ p ∈ nx', p.1 ≠ I) (hR : R' m' nx') : Turn h₀ L I oI R' s Q .next { s with heap := h', toks := tk' } :=
  ⟨h', tk', m', nx', all, rfl, F, N, hI, hs, hne, hR⟩
theorem Turn.cont {L I : Addr} {oI : Obj} {R' : (Str → Option Value) → List (Addr × Obj) → Prop} {h' : Heap} {tk' : Nat} {m' : Str → Option Value} (nx' : List (Addr × Obj)) {all : List (Addr × Obj)}
    (F : Fr h₀ L h' m') (N : News h₀ L h' all) (hI : (I, oI) ∈ all) (hs : ∀ p ∈ nx', p ∈ all) (hne : ∀ p ∈ nx', p.1 ≠ I) (hR : R' m' nx') : Turn h₀ L I oI R' s Q .cont { s with heap := h', toks := tk' } :=
  ⟨h', tk', m', nx', all, rfl, F, N, hI, hs, hne, hR⟩

theorem loop_at {τ : Type} {I : Addr} {fp : List Addr} {n : Nat} {P : Nat → Value → Prop} {St : Nat → Heap → Prop} {m₀ : Str → Option Value} {news : List (Addr × Obj)} {items : List τ}
    (VR : τ → Value → Prop) (R : Nat → (Str → Option Value) → List (Addr × Obj) → Prop)
    (W : Walks prog w A I fp [I] n P St) (hlen : items.length = n) (hks : ∀ i v, i < n → P i v → ∃ k, items[i]? = some k ∧ VR k v)
    (hLf : env.locals ∉ fp) (hfp : ∀ b ∈ fp, b = I ∨ ∃ o, h₀.get? b = some o) (hI : h₀.get? I = none) (hnw : ∀ p ∈ news, p.1 ≠ I) (hst : St 0 s.heap) (F : Fr h₀ env.locals s.heap m₀) (N : News h₀ env.locals s.heap news)
    (hr : R 0 m₀ news) (hIo : ∀ i h, St i h → ∃ o, h.get? I = some o)
    (turn : ∀ i k v m₁ nx h tk oI, items[i]? = some k → VR k v → R i m₁ nx → (∀ p ∈ nx, p.1 ≠ I) → Fr h₀ env.locals h (fun y => if y = x then some v else m₁ y) → News h₀ env.locals h (nx ++ [(I, oI)]) →
      wpAny (model prog w) A (execs body env) (Turn h₀ env.locals I oI (R (i + 1)) s Q) E { s with heap := h, toks := tk })
    (done : ∀ m₁ nx h tk, R items.length m₁ nx → Fr h₀ env.locals h m₁ → News h₀ env.locals h nx → Q .next { s with heap := h, toks := tk }) :
    LoopAtV prog w A h₀ env x body Q E (.ref I) s := by
  subst hlen
  refine ⟨I, fp, [I], items.length, P, St, m₀, news, R, rfl, W, hLf, (fun b hb => by rw [List.mem_singleton.mp hb]; exact hI), (fun p hp hm => hnw p hp (List.mem_singleton.mp hm)), hst, F, N, hr, ?_, ?_⟩
  · rintro i v m₁ nx s₁ own ⟨h, tk, rfl⟩ hin hP hR hoff hown hat hall hst₁ F₁ N₁
    obtain ⟨k, hk, hv⟩ := hks i v hin hP
    obtain ⟨oI, hoI⟩ := hIo _ _ hst₁
    have hmem : (I, oI) ∈ own := hall I (W.sub I (List.mem_singleton.mpr rfl)) hI oI hoI
    have N₂ : News h₀ env.locals h (nx ++ [(I, oI)]) := fun p hp => (List.mem_append.mp hp).elim (fun q => N₁ p (List.mem_append_right _ q)) fun q => by rw [List.mem_singleton.mp q]; exact N₁ _ (List.mem_append_left _ hmem)
    refine wpAny_mono (turn i k v m₁ nx h tk oI hk hv hR (fun p hp e => hoff p hp (List.mem_singleton.mpr e)) F₁ N₂) (fun f s₂ q => ?_) fun _ _ e => e
    have fin : (∃ h' tk' m' nx' all, s₂ = { s with heap := h', toks := tk' } ∧ Fr h₀ env.locals h' m' ∧ News h₀ env.locals h' all ∧ (I, oI) ∈ all ∧ (∀ p ∈ nx', p ∈ all) ∧ (∀ p ∈ nx', p.1 ≠ I) ∧ R (i + 1) m' nx') →
        LoopStepU h₀ env.locals [I] own (R (i + 1)) { s with heap := h, toks := tk } .next s₂ := by
      rintro ⟨h', tk', m', nx', all, rfl, F', N', hI', hs', hne', hR'⟩
      refine ⟨rfl, h', tk', m', nx', rfl, F', fun p hp => (List.mem_append.mp hp).elim (fun q => ?_) (fun q => N' p (hs' p q)), fun p hp hm => hne' p hp (List.mem_singleton.mp hm), hR'⟩
      have hpI : p = (I, oI) := by
        have h1 := (N₁ p (List.mem_append_left _ q)).2.2
        rcases hfp p.1 (hown p q) with e | ⟨o, e⟩
        · have h2 := hat p q
          rw [e] at h2
          have h2' : h.get? I = some p.2 := h2
          rw [hoI] at h2'
          exact Prod.ext e (Option.some.inj h2').symm
        · rw [e] at h1; cases h1
      rw [hpI]; exact N' _ hI'
    cases f with
    | ret v => exact .ret q
    | brk => exact .brk q
    | next => exact .next (fin q)
    | cont => exact .cont (fin q)
  · rintro h' tk m' nx F' N' _ hJ
    exact done m' nx h' tk hJ F' N'

/-- a loop over the ints of a list of the base -/
theorem iter_list {l : Addr} {vs : List Value} {ns : List Int} {m₀ : Str → Option Value} {news : List (Addr × Obj)}
    (R : (Str → Option Value) → List (Addr × Obj) → Nat → (Str → Option Value) → List (Addr × Obj) → Prop)
    (hh : A.handled = none) (hl : h₀.IsList l vs.toArray) (hi : IntsAre vs ns) (F : Fr h₀ env.locals s.heap m₀) (N : News h₀ env.locals s.heap news) (hr : R m₀ news 0 m₀ news)
    (turn : ∀ i k t m₁ nx h tk I oI, ns[i]? = some k → R m₀ news i m₁ nx → (∀ p ∈ nx, p.1 ≠ I) → Fr h₀ env.locals h (fun y => if y = x then some (.int k t) else m₁ y) → News h₀ env.locals h (nx ++ [(I, oI)]) →
      wpAny (model prog w) A (execs body env) (Turn h₀ env.locals I oI (R m₀ news (i + 1)) s Q) E { s with heap := h, toks := tk })
    (done : ∀ m₁ nx h tk, R m₀ news ns.length m₁ nx → Fr h₀ env.locals h m₁ → News h₀ env.locals h nx → Q .next { s with heap := h, toks := tk }) :
    wpAny (model prog w) A (pyIter (.ref l)) (fun it s₂ => LoopAtV prog w A h₀ env x body Q E it s₂) E s := by
  have hls : s.heap.IsList l vs.toArray := hl.at fun o e => F.keep l o e
  obtain ⟨ol, hol, _⟩ := id hl
  have hlt : l < h₀.objs.size := Heap.lt_size hol
  have hne : l ≠ s.heap.objs.size := Nat.ne_of_lt (Nat.lt_trans (Nat.lt_of_lt_of_le hlt F.above) F.ns.lt)
  refine wpAny_pyIter_list hls ?_
  have W := Walks.list (prog := prog) (w := w) hh s.heap.objs.size l hne vs.toArray
  refine loop_at (items := ns) (fun k v => ∃ t, v = .int k t) (R m₀ news) W (by simp [hi.length]) ?_ ?_ ?_ (next_is_new F) ?_ ⟨⟨_, Heap.get?_push_size _ rfl, rfl, rfl⟩, hls.at fun o e => Heap.get?_push_of_some _ e⟩ (F.push _) (fun p hp => ⟨Heap.get?_push_of_some _ (N p hp).1, (N p hp).2⟩) hr ?_ ?_ ?_
  · intro i v hin hP
    have hlt' : i < ns.length := by simpa [hi.length] using hin
    obtain ⟨t, hx⟩ := hi.get i ns[i] (by simp [hlt'])
    have hP' : vs[i]? = some v := by simpa using hP
    rw [hx] at hP'
    exact ⟨ns[i], by simp [hlt'], t, (Option.some.inj hP').symm⟩
  · intro hm
    rcases List.mem_cons.mp hm with e | hm
    · exact absurd F.ns.lt (e ▸ Nat.lt_irrefl _)
    · exact absurd (Nat.lt_of_lt_of_le hlt F.above) ((List.mem_singleton.mp hm) ▸ Nat.lt_irrefl _)
  · intro b hb
    rcases List.mem_cons.mp hb with e | hm
    · exact .inl e
    · exact .inr ⟨ol, by rw [List.mem_singleton.mp hm]; exact hol⟩
  · intro p hp e
    exact absurd (Heap.lt_size (N p hp).1) (e ▸ Nat.lt_irrefl _)
  · rintro i h ⟨⟨o, ho, _⟩, _⟩
    exact ⟨o, ho⟩
  · rintro i k v m₁ nx h tk oI hk ⟨t, rfl⟩ hR hne' F₁ N₁
    exact turn i k t m₁ nx h tk _ oI hk hR hne' F₁ N₁
  · exact done

/-- a loop over bytes -/
theorem iter_bytes {b : Array UInt8} {tb : Tok} {m₀ : Str → Option Value} {news : List (Addr × Obj)}
    (R : (Str → Option Value) → List (Addr × Obj) → Nat → (Str → Option Value) → List (Addr × Obj) → Prop)
    (hh : A.handled = none) (F : Fr h₀ env.locals s.heap m₀) (N : News h₀ env.locals s.heap news) (hr : R m₀ news 0 m₀ news)
    (turn : ∀ i k t m₁ nx h tk I oI, (KBw.bInts b)[i]? = some k → 0 ≤ k → k < 256 → R m₀ news i m₁ nx → (∀ p ∈ nx, p.1 ≠ I) → Fr h₀ env.locals h (fun y => if y = x then some (.int k t) else m₁ y) → News h₀ env.locals h (nx ++ [(I, oI)]) →
      wpAny (model prog w) A (execs body env) (Turn h₀ env.locals I oI (R m₀ news (i + 1)) s Q) E { s with heap := h, toks := tk })
    (done : ∀ m₁ nx h tk, R m₀ news b.size m₁ nx → Fr h₀ env.locals h m₁ → News h₀ env.locals h nx → Q .next { s with heap := h, toks := tk }) :
    wpAny (model prog w) A (pyIter (.bytes b tb)) (fun it s₂ => LoopAtV prog w A h₀ env x body Q E it s₂) E s := by
  refine KBw.pyIter_bytes ?_
  have W := KBw.walks (prog := prog) (w := w) hh s.heap.objs.size b tb
  refine loop_at (items := KBw.bInts b) (fun k v => ∃ t, v = .int k t) (R m₀ news) W (KBw.ints_length b) ?_ ?_ ?_ (next_is_new F) ?_ ⟨_, Heap.get?_push_size _ rfl, rfl, rfl⟩ (F.push _) (fun p hp => ⟨Heap.get?_push_of_some _ (N p hp).1, (N p hp).2⟩) hr ?_ ?_ ?_
  · rintro i v hin ⟨c, u, hc, rfl⟩
    exact ⟨_, KBw.ints_get hc, u, rfl⟩
  · intro hm
    exact absurd F.ns.lt ((List.mem_singleton.mp hm) ▸ Nat.lt_irrefl _)
  · intro b' hb
    exact .inl (List.mem_singleton.mp hb)
  · intro p hp e
    exact absurd (Heap.lt_size (N p hp).1) (e ▸ Nat.lt_irrefl _)
  · rintro i h ⟨o, ho, _⟩
    exact ⟨o, ho⟩
  · rintro i k v m₁ nx h tk oI hk ⟨t, rfl⟩ hR hne' F₁ N₁
    have := KBw.ints_in (List.mem_of_getElem? hk)
    exact turn i k t m₁ nx h tk _ oI hk this.1 this.2 hR hne' F₁ N₁
  · rw [KBw.ints_length]; exact done

/-- a loop over a range that rises -/
theorem iter_range {r : Addr} {a₀ b₀ c₀ : Int} {t₀ u₀ v₀ : Tok} {n : Nat} {m₀ : Str → Option Value} {news : List (Addr × Obj)}
    (R : (Str → Option Value) → List (Addr × Obj) → Nat → (Str → Option Value) → List (Addr × Obj) → Prop)
    (hh : A.handled = none) (hrg : IsRange s.heap r a₀ b₀ c₀ t₀ u₀ v₀) (hsmall : Builtin.Range.small a₀ b₀ c₀ = true) (hn : Builtin.Range.rangeSize a₀ b₀ c₀ = (n : Int)) (F : Fr h₀ env.locals s.heap m₀) (N : News h₀ env.locals s.heap news) (hr : R m₀ news 0 m₀ news)
    (turn : ∀ (i : Nat) t m₁ nx h tk I oI, i < n → R m₀ news i m₁ nx → (∀ p ∈ nx, p.1 ≠ I) → Fr h₀ env.locals h (fun y => if y = x then some (.int (a₀ + (i : Int) * c₀) t) else m₁ y) → News h₀ env.locals h (nx ++ [(I, oI)]) →
      wpAny (model prog w) A (execs body env) (Turn h₀ env.locals I oI (R m₀ news (i + 1)) s Q) E { s with heap := h, toks := tk })
    (done : ∀ m₁ nx h tk, R m₀ news n m₁ nx → Fr h₀ env.locals h m₁ → News h₀ env.locals h nx → Q .next { s with heap := h, toks := tk }) :
    wpAny (model prog w) A (pyIter (.ref r)) (fun it s₂ => LoopAtV prog w A h₀ env x body Q E it s₂) E s := by
  refine wpAny_pyIter_range hrg hsmall ?_
  have W : Walks prog w A s.heap.objs.size [s.heap.objs.size] [s.heap.objs.size] n (fun i v => i < n ∧ ∃ t, v = .int (a₀ + i * c₀) t)
      (fun i h => IsRangeIter h s.heap.objs.size (a₀ + (i : Nat) * c₀) ((n : Int) - (i : Nat)) c₀) := (Walks.range hh _ a₀ c₀ n).bound
  refine loop_at (items := List.range n) (fun k v => ∃ t, v = .int (a₀ + (k : Int) * c₀) t) (R m₀ news) W (by simp) ?_ ?_ ?_ (next_is_new F) ?_ (by show IsRangeIter _ _ _ _ _; rw [hn]; simpa using Heap.get?_push_size _ rfl) (F.push _) (fun p hp => ⟨Heap.get?_push_of_some _ (N p hp).1, (N p hp).2⟩) hr ?_ ?_ ?_
  · rintro i v hin ⟨_, t, rfl⟩
    exact ⟨i, by simp [hin], t, rfl⟩
  · intro hm
    exact absurd F.ns.lt ((List.mem_singleton.mp hm) ▸ Nat.lt_irrefl _)
  · intro b' hb
    exact .inl (List.mem_singleton.mp hb)
  · intro p hp e
    exact absurd (Heap.lt_size (N p hp).1) (e ▸ Nat.lt_irrefl _)
  · intro i h ho
    exact ⟨_, ho⟩
  · rintro i k v m₁ nx h tk oI hk ⟨t, rfl⟩ hR hne' F₁ N₁
    have hin : i < n := by
      rcases Nat.lt_or_ge i n with h | h
      · exact h
      · rw [List.getElem?_eq_none (by simpa using h)] at hk; cases hk
    have hki : k = i := by simpa [hin] using hk.symm
    subst hki
    exact turn k t m₁ nx h tk _ oI hin hR hne' F₁ N₁
  · rw [List.length_range]; exact done

/-- a loop over range(b) -/
theorem iter_range0 {r : Addr} {b₀ : Int} {t₀ u₀ v₀ : Tok} {m₀ : Str → Option Value} {news : List (Addr × Obj)}
    (R : (Str → Option Value) → List (Addr × Obj) → Nat → (Str → Option Value) → List (Addr × Obj) → Prop)
    (hh : A.handled = none) (hrg : IsRange s.heap r 0 b₀ 1 t₀ u₀ v₀) (h0 : 0 ≤ b₀) (h1 : b₀ < 2 ^ 62) (F : Fr h₀ env.locals s.heap m₀) (N : News h₀ env.locals s.heap news) (hr : R m₀ news 0 m₀ news)
    (turn : ∀ (i : Nat) t m₁ nx h tk I oI, i < b₀.toNat → R m₀ news i m₁ nx → (∀ p ∈ nx, p.1 ≠ I) → Fr h₀ env.locals h (fun y => if y = x then some (.int (i : Int) t) else m₁ y) → News h₀ env.locals h (nx ++ [(I, oI)]) →
      wpAny (model prog w) A (execs body env) (Turn h₀ env.locals I oI (R m₀ news (i + 1)) s Q) E { s with heap := h, toks := tk })
    (done : ∀ m₁ nx h tk, R m₀ news b₀.toNat m₁ nx → Fr h₀ env.locals h m₁ → News h₀ env.locals h nx → Q .next { s with heap := h, toks := tk }) :
    wpAny (model prog w) A (pyIter (.ref r)) (fun it s₂ => LoopAtV prog w A h₀ env x body Q E it s₂) E s := by
  refine iter_range R hh hrg (small_one (by (first | lia | omega)) (by (first | lia | omega)) (by (first | lia | omega)) h1) (by rw [rangeSize_nat]; simp) F N hr ?_ done
  intro i t m₁ nx h tk I oI hi hR hne F₁ N₁
  have e : (0 : Int) + (i : Int) * 1 = (i : Int) := by (first | lia | omega)
  rw [e] at F₁
  exact turn i t m₁ nx h tk I oI hi hR hne F₁ N₁
theorem news_add {L r : Addr} {h h' : Heap} {o : Obj} {m : Str → Option Value} {news : List (Addr × Obj)} (F : Fr h₀ L h m) (N : News h₀ L h news) (hk : Stays h h') (hr : h.get? r = none) (ho : h'.get? r = some o) :
    Fr h₀ L h' m ∧ News h₀ L h' ((r, o) :: news) ∧ ∀ p ∈ news, p.1 ≠ r := by
  refine ⟨F.kept hk, fun p hp => ?_, fun p hp e => ?_⟩
  · rcases List.mem_cons.mp hp with rfl | hp
    · refine ⟨ho, ?_, ?_⟩
      · intro e
        obtain ⟨oL, _, _, hL, _⟩ := F.ns
        rw [← e, hr] at hL; cases hL
      · cases e : h₀.get? r with
        | none => rfl
        | some o' => rw [F.keep _ _ e] at hr; cases hr
    · exact ⟨hk _ _ (N p hp).1, (N p hp).2⟩
  · rw [← e, (N p hp).1] at hr; cases hr
/-- two lists joined -/
theorem add_lists' {L a b : Addr} {its its2 : Array Value} {m : Str → Option Value} {news : List (Addr × Obj)} {Q : Value → Shared → Prop} (F : Fr h₀ L s.heap m) (N : News h₀ L s.heap news) (ha : s.heap.IsList a its) (hb : s.heap.IsList b its2)
    (hz : its.size + its2.size ≤ sizeLine)
    (h : ∀ D h', Fr h₀ L h' m → News h₀ L h' ((D, listOf (its ++ its2) 0) :: news) → (∀ p ∈ news, p.1 < D) → Q (.ref D) { s with heap := h' }) : wpAny (model prog w) A (binaryOp .Add (.ref a) (.ref b)) Q E s := by
  refine add_arrays F N ha hb (fun h' F' N' => ?_) hz
  refine h _ h' F' ?_ fun p hp => Heap.lt_size (N p hp).1
  have e : (its.toList ++ its2.toList).toArray = its ++ its2 := by rw [← Array.toList_append, Array.toArray_toList]
  rw [e] at N'
  exact N'
theorem news_sub {L : Addr} {h : Heap} {news news' : List (Addr × Obj)} (N : News h₀ L h news) (hs : ∀ p ∈ news', p ∈ news) : News h₀ L h news' := fun p hp => N p (hs p hp)
end
end
section -- P1
open PySem PySem.W PyProof.Rows PySem.Spec PySem.Calls
open Builtin Builtin.Str Builtin._codecs
theorem road_ascii (id : String) (self : Value) (x : Str) (errors : Option Str) : encodeRoad id self x (Str.ofString "ascii") errors = (do mkBytes (← encodeNarrow id asciiCodec errors self x)) := by
  have e : (normalName (Str.ofString "ascii")).toString = "ascii" := by decide +kernel
  unfold encodeRoad
  rw [e]
  simp
theorem encode_ascii_tree (x : Str) (t u : Tok) : Builtin.«str.encode» ⟨[.str x t, .str (Str.ofString "ascii") u], []⟩ = (do ret (← mkBytes (← encodeNarrow "str.encode" asciiCodec none (.str x t) x))) := by
  have h : Builtin.«str.encode» ⟨[.str x t, .str (Str.ofString "ascii") u], []⟩ = (do ret (← encodeRoad "str.encode" (.str x t) x (Str.ofString "ascii") none)) := by kernel_rfl
  rw [h, road_ascii]
  simp only [bind_assoc]
theorem foldl_bytes (l : List Nat) (acc : Array UInt8) : l.foldl (fun acc y => acc ++ ([y.toUInt8] : List UInt8).toArray) acc = acc ++ (l.map (·.toUInt8)).toArray := by
  induction l generalizing acc with
  | nil => simp
  | cons a l ih => rw [List.foldl_cons, ih]; simp
theorem forIn_stops {σ : Type} {l : List Nat} {f : Nat → σ → Sem (ForInStep σ)} {b : σ} (h : ∀ k, f k b = pure (.done b)) : forIn l b f = (pure b : Sem σ) := by
  cases l with
  | nil => rfl
  | cons k l => rw [List.forIn_cons, h]; rfl
theorem forIn_once {σ : Type} {f : Nat → σ → Sem (ForInStep σ)} {b s1 : σ} {n : Nat} (h1 : ∀ k, f k b = pure (.yield s1)) (h2 : ∀ k, f k s1 = pure (.done s1)) : forIn (List.range' 0 (n + 1)) b f = (pure s1 : Sem σ) := by
  rw [List.range'_succ, List.forIn_cons, h1]
  simp only [pure_bind]
  exact forIn_stops h2
theorem encodeNarrow_ascii (self : Value) (x : Str) (hx : ∀ c ∈ x.cps, c < 128) (hl : x.cps.size ≤ sizeLine) : encodeNarrow "str.encode" asciiCodec none self x = pure (x.cps.map (·.toUInt8)) := by
  have hb : ∀ c ∈ x.cps, asciiCodec.bad c = false := fun c hc => by show decide (c ≥ 128) = false; exact decide_eq_false (by have := hx c hc; omega)
  have hlen : x.length = x.cps.size := rfl
  cases hn : x.cps.size with
  | zero =>
    have he : x.cps = #[] := Array.eq_empty_of_size_eq_zero hn
    have hx' : x = ⟨#[]⟩ := by cases x; simp_all
    subst hx'
    kernel_rfl
  | succ n =>
    have h0 : x.cps[0]? = some x.cps[0] := by simp [hn]
    have hex : x.cps.extract 0 x.cps.size = x.cps := by simp
    have hfi : x.cps.findIdx? asciiCodec.bad = none := by
      rw [Array.findIdx?_eq_none_iff]; exact fun c hc => hb c hc
    have hfold : x.cps.foldl (fun acc y => acc ++ (asciiCodec.bytesOf y).toArray) #[] = x.cps.map (·.toUInt8) := by
      rw [← Array.foldl_toList]
      exact (foldl_bytes x.cps.toList #[]).trans (Array.ext' (by simp))
    unfold encodeNarrow
    dsimp only
    rw [Std.Legacy.Range.forIn_eq_forIn_range']
    simp only [Std.Legacy.Range.size, Nat.sub_zero, Nat.add_sub_cancel, Nat.div_one]
    rw [hlen, hn]
    rw [forIn_once (s1 := (x.cps.size, x.cps.map (·.toUInt8), {}))]
    · rfl
    · intro k
      have hz : ¬ ((#[] : Array UInt8).size > sizeLine) := by decide
      rw [if_neg hz]
      rw [← hn]
      simp only [h0, hb _ (Array.getElem_mem (by omega : 0 < x.cps.size)), Bool.not_false, if_true, hex, hfi, Option.getD_none, Nat.zero_add, hfold]
    · intro k
      have hz : ¬ ((x.cps.map (·.toUInt8)).size > sizeLine) := by simp only [Array.size_map]; omega
      have hno : x.cps[x.cps.size]? = none := by simp
      dsimp only
      rw [if_neg hz, hno]
section
variable {prog : Program} {w : World} {A : Around} {E : Value → Shared → Prop} {s : Shared} {Q : Value → Shared → Prop}
theorem encode_get {x : Str} {t : Tok} {pl : Sem Bool} {Q : Value × List Value → Shared → Prop} {M : Model} (h : Q (.builtin "str.encode", [.str x t]) s) : wpAny M A (getMethod (.str x t) (Str.ofString "encode") pl) Q E s :=
  GM.of (.str x t) (typeIs_str _ _ _) F.slot_str_encode F.type_str_encode GM.noRef h
theorem encode_call {x : Str} {t u : Tok} (hx : ∀ c ∈ x.cps, c < 128) (hl : x.cps.size ≤ sizeLine) (h : ∀ t', Q (.bytes (x.cps.map (·.toUInt8)) t') { s with toks := s.toks + 1 }) :
    wpAny (model prog w) A (call (.builtin "str.encode") [.str x t, .str (Str.ofString "ascii") u]) Q E s := by
  refine wpAny_call_entry F.slot_str_encode (typeIs_str _ _ _) F.entry_str_encode ?_ (F.args_str_encode_2 _ _)
  rw [encode_ascii_tree, encodeNarrow_ascii _ _ hx hl]
  simp only [pure_bind]
  exact wpAny_bind (wpAny_mkBytes (wpAny_pure ⟨_, rfl, h _⟩) (by rw [Array.size_map]; exact hl))
end
end
section -- P2
open PySem PySem.W PyProof.Rows PySem.Spec PySem.Calls
open Builtin Builtin.Bytes
theorem slot_hex : Slot "bytes" (Str.ofString "hex") "bytes.hex" :=
  .of (owner := "bytes") (n := "hex") (by rw [typeLookup_type, builtinLookup_eq_fast]; kernel_rfl) (by decide +kernel) (by decide +kernel) (by decide +kernel)
    (by first | exact .inl (by decide +kernel) | exact .inr (by decide +kernel)) (by rw [isSubtype_type]; kernel_rfl)
theorem entry_hex : entryFor table "bytes.hex" = some Builtin.«bytes.hex» := entryFor_of_tree (by kernel_rfl)
theorem type_hex : typeOf (.builtin "bytes.hex") = pure (.type "method_descriptor") := by show builtinType _ = _; rw [builtinType_eq_fast]; kernel_rfl
theorem args_hex (a : Value) : argsOk "bytes.hex" ⟨[a], []⟩ := by unfold argsOk; kernel_rfl
theorem slot_bupper : Slot "bytes" (Str.ofString "upper") "bytes.upper" :=
  .of (owner := "bytes") (n := "upper") (by rw [typeLookup_type, builtinLookup_eq_fast]; kernel_rfl) (by decide +kernel) (by decide +kernel) (by decide +kernel)
    (by first | exact .inl (by decide +kernel) | exact .inr (by decide +kernel)) (by rw [isSubtype_type]; kernel_rfl)
theorem entry_bupper : entryFor table "bytes.upper" = some Builtin.«bytes.upper» := entryFor_of_tree (by kernel_rfl)
theorem type_bupper : typeOf (.builtin "bytes.upper") = pure (.type "method_descriptor") := by show builtinType _ = _; rw [builtinType_eq_fast]; kernel_rfl
theorem args_bupper (a : Value) : argsOk "bytes.upper" ⟨[a], []⟩ := by unfold argsOk; kernel_rfl
noncomputable def hexOut (b : Array UInt8) : Array Nat := b.toList.zipIdx.foldl (fun (out : Array Nat) (x : UInt8 × Nat) => (out.push (hexDigit (x.1.toNat / 16))).push (hexDigit (x.1.toNat % 16))) #[]
theorem hex_tree (b : Array UInt8) (t : Tok) : Builtin.«bytes.hex» ⟨[.bytes b t], []⟩ = retStr ⟨hexOut b⟩ := by kernel_rfl
theorem bupper_tree (b : Array UInt8) (t : Tok) : Builtin.«bytes.upper» ⟨[.bytes b t], []⟩ = (do ret (← mkBytes (b.toList.map toUpper).toArray)) := by kernel_rfl
section
variable {prog : Program} {w : World} {M : Model} {A : Around} {E : Value → Shared → Prop} {s : Shared} {Q : Value → Shared → Prop} {b : Array UInt8} {t : Tok}
theorem noRefB : ∀ a, Value.bytes b t = .ref a → ∃ o, s.heap.get? a = some o ∧ o.dict = none := fun _ e => nomatch e
theorem hex_get {pl : Sem Bool} {Q : Value × List Value → Shared → Prop} (h : Q (.builtin "bytes.hex", [.bytes b t]) s) : wpAny M A (getMethod (.bytes b t) (Str.ofString "hex") pl) Q E s :=
  getMethod_builtin (typeIs_bytes _ _ _) FB.plainAttrs_bytes slot_hex type_hex noRefB h
theorem bupper_get {pl : Sem Bool} {Q : Value × List Value → Shared → Prop} (h : Q (.builtin "bytes.upper", [.bytes b t]) s) : wpAny M A (getMethod (.bytes b t) (Str.ofString "upper") pl) Q E s :=
  getMethod_builtin (typeIs_bytes _ _ _) FB.plainAttrs_bytes slot_bupper type_bupper noRefB h
theorem hex_call (hl : (hexOut b).size ≤ sizeLine) (h : ∀ t', Q (.str ⟨hexOut b⟩ t') { s with toks := s.toks + 1 }) : wpAny (model prog w) A (call (.builtin "bytes.hex") [.bytes b t]) Q E s := by
  refine wpAny_call_entry slot_hex (typeIs_bytes _ _ _) entry_hex ?_ (args_hex _)
  rw [hex_tree]
  exact wpAny_bind (wpAny_mkStr (wpAny_pure ⟨_, rfl, h _⟩) hl)
theorem bupper_call (hl : b.size ≤ sizeLine) (h : ∀ t', Q (.bytes (b.toList.map toUpper).toArray t') { s with toks := s.toks + 1 }) : wpAny (model prog w) A (call (.builtin "bytes.upper") [.bytes b t]) Q E s := by
  refine wpAny_call_entry slot_bupper (typeIs_bytes _ _ _) entry_bupper ?_ (args_bupper _)
  rw [bupper_tree]
  exact wpAny_bind (wpAny_mkBytes (wpAny_pure ⟨_, rfl, h _⟩) (by simpa using hl))
theorem type_bytes (h : Q (.type "bytes") s) : wpAny (model prog w) A (call (.type "type") [.bytes b t]) Q E s := call_type_of (typeIs_bytes _ _ _) (by decide +kernel) h
end
end
section -- P3
open PySem PySem.W PyProof.Rows PySem.Spec PySem.Calls
/-- what the great letters of the alphabets are written as -/
noncomputable def elsewhere : List (Nat × Nat) := [(119965, 8492), (119968, 8496), (119969, 8497), (119971, 8459), (119972, 8464), (119975, 8466), (119976, 8499), (119981, 8475), (120070, 8493), (120075, 8460), (120076, 8465), (120085, 8476), (120093, 8488), (120122, 8450), (120127, 8461), (120133, 8469), (120135, 8473), (120136, 8474), (120137, 8477), (120145, 8484)]
noncomputable def fancy (j p : Nat) : Nat := (elsewhere.lookup (119808 + 52 * j + p)).getD (119808 + 52 * j + p)
theorem lookup_none_of {α : Type} {l : List (Nat × α)} {k m : Nat} (h : l.all (fun x => decide (m ≤ x.1)) = true) (hk : k < m) : l.lookup k = none := by
  induction l with
  | nil => rfl
  | cons x l ih =>
    simp only [List.all_cons, Bool.and_eq_true, decide_eq_true_eq] at h
    obtain ⟨a, b⟩ := x
    have : (k == a) = false := beq_eq_false_iff_ne.mpr (by have := h.1; dsimp only at this; (first | lia | omega))
    rw [List.lookup_cons, this]; exact ih h.2
theorem b3_low : b3tab.all (fun x => decide (128 ≤ x.1)) = true := by decide +kernel
theorem low_out {c : Nat} (h : c < 128) : b3tab.lookup c = none := lookup_none_of b3_low h
theorem b3_small : b3tab.all (fun x => decide (x.1 < 2 ^ 60)) = true := by decide +kernel
noncomputable def b3es : Array DictEntry := (b3tab.zipIdx.map b3ent).toArray
theorem find_tab (c : Nat) : ∀ (l : List (Nat × List Nat)) (n : Nat), ((l.zipIdx n).map b3ent).find? (fun e => Value.isInt (c : Int) e.key) = none ∧ l.lookup c = none ∨ ∃ e v t, ((l.zipIdx n).map b3ent).find? (fun e => Value.isInt (c : Int) e.key) = some e ∧ e.val = .str ⟨v.toArray⟩ t ∧ l.lookup c = some v
  | [], _ => .inl ⟨rfl, rfl⟩
  | (a, v) :: l, n => by
    rw [List.zipIdx_cons, List.map_cons, List.find?_cons, List.lookup_cons]
    by_cases h : c = a
    · subst h
      refine .inr ⟨b3ent ((c, v), n), v, _, ?_, rfl, by simp⟩
      simp [b3ent, Value.isInt]
    · have h1 : (c == a) = false := beq_eq_false_iff_ne.mpr h
      have h2 : Value.isInt (c : Int) (b3ent ((a, v), n)).key = false := by
        simp only [b3ent, Value.isInt, beq_eq_false_iff_ne, ne_eq]
        (first | lia | omega)
      rw [h1, h2]
      exact find_tab c l (n + 1)
noncomputable def b3f (k : Int) : Option Value := findBy Value.isInt b3es k
theorem hash_small {k : Nat} (h : k < 2 ^ 60) : hashInt (k : Int) = (k : Int) := by
  have e : rawHash (k : Int) = (k : Int) := by
    have h3 : (((k : Int).natAbs % (2 ^ 61 - 1 : Nat) : Nat) : Int) = (k : Int) := by
      have h1 : (k : Int).natAbs = k := rfl
      rw [h1, Nat.mod_eq_of_lt (by (first | lia | omega))]
    have h4 : ((k : Int).natAbs : Int) % ((2 ^ 61 - 1 : Nat) : Int) = (k : Int) := by rw [← Int.natCast_emod]; exact h3
    have h5 : ¬ (k : Int) < 0 := by (first | lia | omega)
    have h6 : ((k : Int) == -1) = false := beq_eq_false_iff_ne.mpr (by (first | lia | omega))
    unfold rawHash
    dsimp only
    rw [h4, if_neg h5, h6]
    rfl
  unfold hashInt
  rw [e, if_neg]
  simp only [beq_iff_eq]
  (first | lia | omega)
theorem map181 {w : World} {h : Heap} (X : (KK w.params).In h) : h.MapOf (intKind PP w) 181 b3f := by
  refine ⟨ob181 w.params, b3es, 650, X _ _ rfl, ⟨rfl, rfl, rfl⟩, rfl, ?_, fun _ => rfl⟩
  intro e he
  obtain ⟨x, hx, rfl⟩ := List.mem_map.mp (Array.mem_toList_iff.mpr he)
  refine ⟨(x.1.1 : Int), intKind_is _ _ _ _, ?_⟩
  have hm : x.1 ∈ b3tab := by
    obtain ⟨⟨a, v⟩, n⟩ := x
    obtain ⟨_, _, e⟩ := List.mem_zipIdx hx
    show (a, v) ∈ b3tab
    rw [e]; exact List.getElem_mem _
  have := List.all_eq_true.mp b3_small _ hm
  exact (hash_small (of_decide_eq_true this)).symm
noncomputable def b1list : List Nat := [65024, 65025, 65026, 65027, 65028, 65029, 6150, 65030, 65031, 65032, 65033, 6155, 6156, 6157, 8203, 8204, 8205, 65034, 65035, 65036, 65037, 65038, 65039, 173, 847, 8288, 65279]
noncomputable def b1es (P : Params) : Array (Int × Value) := match (ob170 P).data with | .set es _ _ => es | _ => #[]
noncomputable def goodElem (e : Int × Value) : Bool := match e with
  | (h, .int k _) => h == k && decide (0 ≤ k) && decide (k < 2 ^ 60)
  | _ => false
theorem b1es_good (P : Params) : (b1es P).toList.all goodElem = true := rfl
theorem b1es_list (P : Params) : (b1es P).toList.map (·.1) = b1list.map (fun (n : Nat) => (n : Int)) := rfl
theorem goodElem_int {e : Int × Value} (h : goodElem e = true) : ∃ (k : Nat) (t : Tok), e = ((k : Int), .int (k : Int) t) ∧ k < 2 ^ 60 := by
  obtain ⟨h', v⟩ := e
  cases v with
  | int k t =>
    simp only [goodElem, Bool.and_eq_true, beq_iff_eq, decide_eq_true_eq] at h
    refine ⟨k.toNat, t, ?_, by (first | lia | omega)⟩
    have : ((k.toNat : Nat) : Int) = k := by (first | lia | omega)
    rw [this, h.1.1]
  | _ => simp [goodElem] at h
noncomputable def inB1 (k : Int) : Bool := decide (k ∈ b1list.map (fun (n : Nat) => (n : Int)))
theorem set170 {w : World} {h : Heap} (X : (KK w.params).In h) : h.SetOf (intKind PP w) 170 inB1 27 := by
  have good : ∀ e ∈ (b1es w.params).toList, goodElem e = true := List.all_eq_true.mp (b1es_good w.params)
  refine ⟨ob170 w.params, b1es w.params, _, _, X _ _ rfl, ⟨rfl, rfl, rfl⟩, rfl, ?_, ?_, ?_, rfl, rfl⟩
  · intro e he
    obtain ⟨k, t, rfl, hk⟩ := goodElem_int (good e he)
    exact ⟨⟨(k : Int), intKind_is _ _ _ _, (hash_small hk).symm⟩, rfl⟩
  · intro k
    unfold inB1
    rw [decide_eq_true_eq, ← b1es_list w.params, List.mem_map]
    constructor
    · rintro ⟨e, he, rfl⟩
      obtain ⟨k, t, rfl, hk⟩ := goodElem_int (good e he)
      exact ⟨_, he, intKind_is _ _ _ _⟩
    · rintro ⟨e, he, hk⟩
      obtain ⟨j, t, rfl, hj⟩ := goodElem_int (good e he)
      refine ⟨_, he, ?_⟩
      have : (j : Int) = k := by simpa [intKind, Value.isInt] using hk
      exact this
  · show 27 < 4096; decide
section
variable {w : World} {A : Around} {E : Value → Shared → Prop} {s : Shared} {Q : Value → Shared → Prop}
theorem get181 {i : Int} {t : Tok} (X : (KK w.params).In s.heap) (h : Q ((b3f i).getD .none) { s with toks := s.toks + 1 }) : wpAny (model PP w) A (call (.builtin "dict.get") [.ref 181, .int i t]) Q E s :=
  call_meetsIn PySem.F.slot_dict_get (map181 X).typeIs PySem.F.entry_dict_get (PySem.F.args_dict_get_2 _ _) (meets_dict_get (intKind PP w) 181 (intKind_is _ _ _ _) (by decide)) ⟨_, map181 X, h⟩
theorem in170 {i : Int} {t : Tok} (X : (KK w.params).In s.heap) (h : Q (.bool (inB1 i)) { s with toks := s.toks + 1 }) : wpAny (model PP w) A (compareOp .In (.int i t) (.ref 170)) Q E s :=
  wpAny_inSet_of (intKind_is _ _ _ _) rfl (set170 X) h
theorem meth181 {pl : Sem Bool} {Q : Value × List Value → Shared → Prop} (X : (KK w.params).In s.heap) (h : Q (.builtin "dict.get", [.ref 181]) s) : wpAny (model PP w) A (getMethod (.ref 181) (Str.ofString "get") pl) Q E s :=
  getMethod_builtin (map181 X).typeIs PySem.F.plainAttrs_dict PySem.F.slot_dict_get PySem.F.type_dict_get (map181 X).noDict h
end
theorem b3f_cases (c : Nat) : (b3f (c : Int) = none ∧ b3tab.lookup c = none) ∨ ∃ v t, b3f (c : Int) = some (.str ⟨v.toArray⟩ t) ∧ b3tab.lookup c = some v := by
  unfold b3f findBy b3es
  rw [List.find?_toArray]
  rcases find_tab c b3tab 0 with ⟨h1, h2⟩ | ⟨e, v, t, h1, h2, h3⟩
  · exact .inl ⟨by rw [h1]; rfl, h2⟩
  · exact .inr ⟨v, t, by rw [h1]; exact congrArg some h2, h3⟩
/-- what map_table_b3 hands back of one sign -/
noncomputable def foldC (c : Nat) : List Nat := match b3tab.lookup c with
  | some v => v
  | none => [if 65 ≤ c ∧ c ≤ 90 then c + 32 else c]
end
section -- P4
open PySem PySem.W PyProof.Rows PySem.Spec PySem.Calls
theorem lower_small : ∀ c < 128, Unicode.lowerOf c = [if 65 ≤ c ∧ c ≤ 90 then c + 32 else c] := by decide +kernel
theorem lower_one {c : Nat} (h : c < 128) : Txt.lower ⟨#[c]⟩ = ⟨#[if 65 ≤ c ∧ c ≤ 90 then c + 32 else c]⟩ := by
  have e : Unicode.lowerAt #[c] 0 = [if 65 ≤ c ∧ c ≤ 90 then c + 32 else c] := by
    show (if (c == 0x3A3 && Unicode.endsWord #[c] 0) = true then [0x3C2] else Unicode.lowerOf c) = _
    have : (c == 0x3A3) = false := beq_eq_false_iff_ne.mpr (by omega)
    rw [this, Bool.false_and, if_neg Bool.false_ne_true]
    exact lower_small c h
  have e2 : Txt.lower ⟨#[c]⟩ = ⟨(Unicode.lowerAt #[c] 0).toArray⟩ := by
    simp [Txt.lower, placed]
  rw [e2, e]
section
variable {prog : Program} {w : World} {A : Around} {E : Value → Shared → Prop} {s : Shared} {Q : Value → Shared → Prop}
theorem lower_call {c : Nat} {t : Tok} (hc : c < 128) (h : ∀ t', Q (.str ⟨#[if 65 ≤ c ∧ c ≤ 90 then c + 32 else c]⟩ t') { s with toks := s.toks + 1 }) : wpAny (model prog w) A (call (.builtin "str.lower") [.str ⟨#[c]⟩ t]) Q E s := by
  refine SCL.lower (by show (1 : Nat) ≤ 5592405; decide) fun _ => ?_
  rw [lower_one hc]
  exact h _
end
theorem int_eq {x y : Int} {t : Tok} (h : y = x) : ∃ t', Value.int y t = .int x t' := ⟨t, by rw [h]⟩
theorem str_eq {x y : Str} {t : Tok} (h : y = x) : ∃ t', Value.str y t = .str x t' := ⟨t, by rw [h]⟩
theorem bytes_eq {x y : Array UInt8} {t : Tok} (h : y = x) : ∃ t', Value.bytes y t = .bytes x t' := ⟨t, by rw [h]⟩
end
section -- P5
open PySem PySem.W PyProof.Rows PySem.Spec PySem.Calls
open Builtin Builtin.Re
noncomputable def CODE : Array Nat := #[14, 12, 4, 1, 1, 21, 22, 48, 57, 22, 65, 70, 0, 13, 9, 21, 22, 48, 57, 22, 65, 70, 0, 1]
noncomputable def Hexc (c : Nat) : Prop := (48 ≤ c ∧ c ≤ 57) ∨ (65 ≤ c ∧ c ≤ 70)
theorem inSet_dig (seen : Sre.Seen) : ∀ k, k < 10 → ∃ S, Sre.inSet CODE (48 + k) CODE.size 5 true seen = .ok (false, S)
  | 0, _ => ⟨_, rfl⟩
  | 1, _ => ⟨_, rfl⟩
  | 2, _ => ⟨_, rfl⟩
  | 3, _ => ⟨_, rfl⟩
  | 4, _ => ⟨_, rfl⟩
  | 5, _ => ⟨_, rfl⟩
  | 6, _ => ⟨_, rfl⟩
  | 7, _ => ⟨_, rfl⟩
  | 8, _ => ⟨_, rfl⟩
  | 9, _ => ⟨_, rfl⟩
  | k + 10, h => absurd h (Nat.not_lt.mpr (Nat.le_add_left _ _))
theorem inSet_let (seen : Sre.Seen) : ∀ k, k < 6 → ∃ S, Sre.inSet CODE (65 + k) CODE.size 5 true seen = .ok (false, S)
  | 0, _ => ⟨_, rfl⟩
  | 1, _ => ⟨_, rfl⟩
  | 2, _ => ⟨_, rfl⟩
  | 3, _ => ⟨_, rfl⟩
  | 4, _ => ⟨_, rfl⟩
  | 5, _ => ⟨_, rfl⟩
  | k + 6, h => absurd h (Nat.not_lt.mpr (Nat.le_add_left _ _))
theorem inSet_hex {c : Nat} (h : Hexc c) (seen : Sre.Seen) : ∃ S, Sre.inSet CODE c CODE.size 5 true seen = .ok (false, S) := by
  rcases h with h | h
  · obtain ⟨k, rfl⟩ := Nat.exists_eq_add_of_le h.1
    exact inSet_dig seen k (Nat.lt_of_add_lt_add_left (Nat.lt_succ_of_le h.2 : 48 + k < 48 + 10))
  · obtain ⟨k, rfl⟩ := Nat.exists_eq_add_of_le h.1
    exact inSet_let seen k (Nat.lt_of_add_lt_add_left (Nat.lt_succ_of_le h.2 : 65 + k < 65 + 6))
theorem admitted_hex {m : Sre.M} (hc : m.code = CODE) (ht : ∀ s < m.lim, Hexc (m.text.getD s 0)) : ∀ (fuel s : Nat) (seen : Sre.Seen), ∃ S, Sre.M.admitted m fuel s seen = .ok (none, S)
  | 0, _, seen => ⟨seen, rfl⟩
  | fuel + 1, s, seen => by
    unfold Sre.M.admitted
    split
    · exact ⟨_, rfl⟩
    · rename_i hs
      obtain ⟨S, e⟩ := inSet_hex (ht s (by omega)) seen
      rw [hc, e]
      exact admitted_hex hc ht fuel (s + 1) S
theorem from_hex {m : Sre.M} (hc : m.code = CODE) (ht : ∀ s < m.lim, Hexc (m.text.getD s 0)) : ∃ S, m.attemptFrom 0 true = { m with seen := S }.say false := by
  have hf : m.hasFirstSet = true := by unfold Sre.M.hasFirstSet; rw [hc]; rfl
  obtain ⟨S, e⟩ := admitted_hex hc ht (m.lim + 1 - 0) 0 m.seen
  refine ⟨S, ?_⟩
  unfold Sre.M.attemptFrom
  rw [hf, e]
  rfl
theorem from_hex' {m : Sre.M} (hc : m.code = CODE) (ht : ∀ s < m.lim, Hexc (m.text.getD s 0)) (hf : m.frames = []) (ho : m.outcome = none) : ∃ M : Sre.M, m.attemptFrom 0 true = M ∧ M.answer = some false ∧ M.frames = [] ∧ M.outcome = none := by
  obtain ⟨S, e⟩ := from_hex hc ht
  exact ⟨_, e, rfl, hf, ho⟩
theorem search_hex {text : Array Nat} (ht : ∀ s < text.size, Hexc (text.getD s 0)) : ∃ M : Sre.M, Sre.forSearch CODE text 0 0 text.size false = M ∧ M.answer = some false ∧ M.frames = [] ∧ M.outcome = none := by
  unfold Sre.forSearch
  dsimp only
  split
  · exact ⟨_, rfl, rfl, rfl, rfl⟩
  · exact from_hex' rfl ht rfl rfl
theorem named_search (b : Array UInt8) (t : Tok) : reNamed "re.Pattern.search" "search" ["string", "pos", "endpos"] 1 [.bytes b t] [] = pure [some (.bytes b t), none, none] := by kernel_rfl
theorem text_bytes (b : Array UInt8) (t : Tok) : reTextOf (.bytes b t) = pure (b.map (·.toNat), 1) := by
  unfold reTextOf
  rw [show asStr? (.bytes b t) = pure none from rfl]
  simp only [pure_bind]
  rw [KBy.quiet_eq]
  rfl
theorem forIn_quiet {M : Model} {A : Around} {E : Value → Shared → Prop} {s : Shared} {Q : PUnit → Shared → Prop} {f : Nat → PUnit → Sem (ForInStep PUnit)} (hf : ∀ i (Q' : ForInStep PUnit → Shared → Prop), Q' (.yield ⟨⟩) s → wpAny M A (f i ⟨⟩) Q' E s) (h : Q ⟨⟩ s) : ∀ l : List Nat, wpAny M A (forIn l PUnit.unit f) Q E s
  | [] => by rw [List.forIn_nil]; exact wpAny_pure h
  | i :: r => by
    rw [List.forIn_cons]
    exact wpAny_bind (hf i _ (forIn_quiet hf h r))
theorem drive_hex {M : Sre.M} (h1 : M.answer = some false) (h2 : M.frames = []) (h3 : M.outcome = none) : reDrive (2 ^ 64) M = pure { M with outcome := some .failed } := by
  have e : M.runFor reTurnSteps = { M with outcome := some .failed } := by
    show M.runFor 4 = _
    have hs : M.step = { M with outcome := some .failed } := by
      unfold Sre.M.step
      rw [h3, h1, h2]; rfl
    unfold Sre.M.runFor
    rw [h3]
    show M.step.runFor 3 = _
    rw [hs]
    rfl
  show (let m := M.runFor reTurnSteps; if m.outcome.isSome then pure m else _) = _
  dsimp only
  rw [e]
  rfl
theorem end_hex {W : Model} {A : Around} {E : Value → Shared → Prop} {s : Shared} {Q : Option Sre.M → Shared → Prop} {M : Sre.M} (h1 : M.answer = some false) (h2 : M.frames = []) (h3 : M.outcome = none) (h : Q none s) : wpAny W A (reRunToEnd M) Q E s := by
  unfold reRunToEnd
  rw [drive_hex h1 h2 h3]
  simp only [pure_bind]
  refine wpAny_bind (forIn_quiet (fun i Q' hq => ?_) ?_ _)
  · by_cases hp : M.seen.has i = true
    · rw [if_pos hp]
      exact wpAny_bind (wpAny_rule (wpAny_pure hq))
    · rw [if_neg hp]
      exact wpAny_pure hq
  · exact wpAny_pure h
theorem nocol_bytes (b : Array UInt8) (t : Tok) : reNoCollectionInside (.bytes b t) 1 = pure () := by
  unfold reNoCollectionInside
  rw [KBy.isInstance_eq]; rfl
theorem answer_hex {W : Model} {A : Around} {E : Value → Shared → Prop} {s : Shared} {Q : Fin → Shared → Prop} (t : ReTarget) {text : Array Nat} (e1 : t.text = text) (e2 : t.code = CODE) (e3 : t.groups = 0) (e4 : t.pos = 0) (e5 : t.lim = text.size) (hx : ∀ i < text.size, Hexc (text.getD i 0)) (h : wpAny W A (ret .none) Q E s) :
    wpAny W A (reAnswer t (Sre.forSearch t.code t.text t.groups t.pos t.lim false)) Q E s := by
  rw [e1, e2, e3, e4, e5]
  obtain ⟨M, e, a1, a2, a3⟩ := search_hex hx
  rw [e]
  unfold reAnswer
  exact wpAny_bind (end_hex a1 a2 a3 h)
theorem search_tree {W : Model} {A : Around} {E : Value → Shared → Prop} {s : Shared} {Q : Fin → Shared → Prop} {b : Array UInt8} {t : Tok} {P : Params} (h43 : s.heap.get? 43 = some (ob43 P)) (h42 : s.heap.get? 42 = some (ob42 P)) (hx : ∀ i < b.size, Hexc ((b.map (·.toNat)).getD i 0)) (hz : b.size ≤ 9223372036854775807) (h : wpAny W A (ret .none) Q E s) :
    wpAny W A (Builtin.«re.Pattern.search» ⟨[.ref 43, .bytes b t], []⟩) Q E s := by
  unfold Builtin.«re.Pattern.search» reTarget
  dsimp only
  rw [named_search]
  simp only [pure_bind, bind_assoc]
  refine wpAny_bind (wpAny_fieldsOf h43 rfl ?_)
  rw [text_bytes]
  simp only [pure_bind, bind_assoc]
  refine wpAny_bind ?_
  rw [if_neg (by decide), if_neg (by decide), nocol_bytes]
  simp only [pure_bind]
  unfold reRawItems
  refine wpAny_bind (wpAny_bind (wpAny_seqItems h42 rfl (wpAny_pure (wpAny_pure ?_))))
  have hl : Min.min ((2 : Int) ^ 63 - 1).toNat (Array.map (fun x => x.toNat) b).size = (Array.map (fun (x : UInt8) => x.toNat) b).size := Nat.min_eq_right (by simp only [Array.size_map]; exact hz)
  have h0 : Min.min (Int.toNat 0) (Array.map (fun (x : UInt8) => x.toNat) b).size = 0 := Nat.zero_min _
  dsimp only
  rw [hl, h0]
  refine answer_hex _ rfl ?_ ?_ rfl rfl (by rw [Array.size_map]; exact hx) h
  · kernel_rfl
  · rfl
theorem slot_search : Slot "re.Pattern" (Str.ofString "search") "re.Pattern.search" :=
  .of (owner := "re.Pattern") (n := "search") (by rw [typeLookup_type, builtinLookup_eq_fast]; kernel_rfl) (by decide +kernel) (by decide +kernel) (by decide +kernel)
    (by first | exact .inl (by decide +kernel) | exact .inr (by decide +kernel)) (by rw [isSubtype_type]; kernel_rfl)
theorem entry_search : entryFor table "re.Pattern.search" = some Builtin.«re.Pattern.search» := entryFor_of_tree (by kernel_rfl)
theorem type_search : typeOf (.builtin "re.Pattern.search") = pure (.type "method_descriptor") := by show builtinType _ = _; rw [builtinType_eq_fast]; kernel_rfl
theorem args_search (a b : Value) : argsOk "re.Pattern.search" ⟨[a, b], []⟩ := by unfold argsOk; kernel_rfl
theorem plainAttrs_pattern : PlainAttrs "re.Pattern" :=
  ⟨⟨"object.__getattribute__", by rw [typeLookup_type, builtinLookup_eq_fast]; kernel_rfl, by decide +kernel⟩, by rw [typeLookup_type, builtinLookup_eq_fast]; kernel_rfl⟩
section
variable {w : World} {A : Around} {E : Value → Shared → Prop} {s : Shared} {Q : Value → Shared → Prop} {b : Array UInt8} {t : Tok}
theorem type43 (X : (KK w.params).In s.heap) : s.TypeIs (.ref 43) "re.Pattern" := ⟨ob43 w.params, X _ _ rfl, rfl⟩
theorem search_get {pl : Sem Bool} {Q : Value × List Value → Shared → Prop} (X : (KK w.params).In s.heap) (h : Q (.builtin "re.Pattern.search", [.ref 43]) s) : wpAny (model PP w) A (getMethod (.ref 43) (Str.ofString "search") pl) Q E s :=
  getMethod_builtin (type43 X) plainAttrs_pattern slot_search type_search (fun a e => by cases e; exact ⟨ob43 w.params, X _ _ rfl, rfl⟩) h
theorem search_call (X : (KK w.params).In s.heap) (hx : ∀ i < b.size, Hexc ((b.map (·.toNat)).getD i 0)) (hz : b.size ≤ 1000) (h : Q .none s) : wpAny (model PP w) A (call (.builtin "re.Pattern.search") [.ref 43, .bytes b t]) Q E s :=
  wpAny_call_entry slot_search (type43 X) entry_search (search_tree (X _ _ rfl) (X _ _ rfl) hx (by omega) (wpAny_pure ⟨_, rfl, h⟩)) (args_search _ _)
end
end
section -- MPure
open PySem PySem.W PyProof.Rows
noncomputable def numOf (ns : List Int) : Int := ns.foldl (fun z k => z * 256 + k) 0
noncomputable def num64 (ns : List Int) : Int := ns.foldl (fun z k => z * 64 + k) 0
noncomputable def digits (b z : Int) : Nat → Int × List Int
  | 0 => (z, [])
  | n + 1 => ((digits b z n).1.fdiv b, (digits b z n).1.fmod b :: (digits b z n).2)
theorem digits_len (b z : Int) : ∀ n, (digits b z n).2.length = n
  | 0 => rfl
  | n + 1 => by rw [digits, List.length_cons, digits_len b z n]
theorem digits_range {b : Int} (hb : 0 < b) (z : Int) : ∀ n, ∀ x ∈ (digits b z n).2, 0 ≤ x ∧ x < b
  | 0, _, h => nomatch h
  | n + 1, x, h => by
    rw [digits] at h
    rcases List.mem_cons.mp h with rfl | h
    · rw [Int.fmod_eq_emod_of_nonneg _ (by (first | lia | omega))]
      exact ⟨Int.emod_nonneg _ (by (first | lia | omega)), Int.emod_lt_of_pos _ hb⟩
    · exact digits_range hb z n x h
noncomputable def lawValues (ns : List Int) : List Int := (digits 64 (numOf ns * 4 ^ ((-(ns.length : Int)).fmod 3).toNat) ((4 * (ns.length : Int) + 2).fdiv 3).toNat).2
noncomputable def lawOctets (vals : List Int) (size : Nat) : List Int := (digits 256 ((num64 vals).fdiv (4 ^ ((-(size : Int)).fmod 3).toNat)) size).2
theorem numOf_take {ns : List Int} {i : Nat} {k : Int} (h : ns[i]? = some k) : numOf (ns.take (i + 1)) = numOf (ns.take i) * 256 + k := by
  unfold numOf
  rw [List.take_add_one, h]; simp
theorem num64_take {ns : List Int} {i : Nat} {k : Int} (h : ns[i]? = some k) : num64 (ns.take (i + 1)) = num64 (ns.take i) * 64 + k := by
  unfold num64
  rw [List.take_add_one, h]; simp
noncomputable def bts (ns : List Int) : Array UInt8 := (ns.map fun n => n.toNat.toUInt8).toArray
noncomputable def Byte (ns : List Int) : Prop := ∀ n ∈ ns, 0 ≤ n ∧ n < 256
theorem bInts_bts {ns : List Int} (h : Byte ns) : KBw.bInts (bts ns) = ns := by
  unfold KBw.bInts bts
  rw [List.map_map]
  have : ∀ n ∈ ns, ((fun c => (c.toNat : Int)) ∘ fun (n : Int) => n.toNat.toUInt8) n = n := fun n hn => byte_back (h n hn).1 (h n hn).2
  exact (List.map_congr_left this).trans (List.map_id _)
theorem bts_size (ns : List Int) : (bts ns).size = ns.length := by simp [bts]
noncomputable def b64v (c : Int) : Int := if 65 ≤ c ∧ c ≤ 90 then c - 65 else if 97 ≤ c ∧ c ≤ 122 then c - 71 else if 48 ≤ c ∧ c ≤ 57 then c + 4 else if c = 43 then 62 else if c = 47 then 63 else 64
noncomputable def hexv (c : Int) : Int := if 48 ≤ c ∧ c ≤ 57 then c - 48 else if 65 ≤ c ∧ c ≤ 70 then c - 55 else if 97 ≤ c ∧ c ≤ 102 then c - 87 else 16
theorem or_add {a k : Int} (n : Nat) (ha : 0 ≤ a) (hk : 0 ≤ k) (hk2 : k < 2 ^ n) : Builtin.bitOr (a * 2 ^ n) k = a * 2 ^ n + k := by
  have e : Builtin.bitAnd (a * 2 ^ n) k = 0 := by
    rw [bitAnd_pp (Int.mul_nonneg ha (Int.pow_nonneg (by decide))) hk]
    have h1 : (a * 2 ^ n).toNat = 2 ^ n * a.toNat := by
      have : a * 2 ^ n = ((2 ^ n * a.toNat : Nat) : Int) := by
        have := Int.toNat_of_nonneg ha
        rw [Int.natCast_mul, this, Int.mul_comm]; simp
      rw [this, Int.toNat_natCast]
    have h2 : k.toNat < 2 ^ n := by
      have : (k.toNat : Int) < ((2 ^ n : Nat) : Int) := by rw [Int.toNat_of_nonneg hk]; simpa using hk2
      exact_mod_cast this
    have h3 : (2 ^ n * a.toNat) &&& k.toNat = 0 := by
      apply Nat.eq_of_testBit_eq
      intro i
      rw [Nat.testBit_and, Nat.zero_testBit]
      by_cases hi : i < n
      · rw [Nat.testBit_two_pow_mul]
        have : decide (i ≥ n) = false := decide_eq_false (by (first | lia | omega))
        rw [this, Bool.false_and, Bool.false_and]
      · have : k.toNat.testBit i = false := Nat.testBit_lt_two_pow (Nat.lt_of_lt_of_le h2 (Nat.pow_le_pow_right (by decide) (by (first | lia | omega))))
        rw [this, Bool.and_false]
    rw [h1, h3]; rfl
  rw [bitOr_and, e]; (first | lia | omega)
/-- the sixty-four signs -/
noncomputable def signsB : List UInt8 := [65, 66, 67, 68, 69, 70, 71, 72, 73, 74, 75, 76, 77, 78, 79, 80, 81, 82, 83, 84, 85, 86, 87, 88, 89, 90, 97, 98, 99, 100, 101, 102, 103, 104, 105, 106, 107, 108, 109, 110, 111, 112, 113, 114, 115, 116, 117, 118, 119, 120, 121, 122, 48, 49, 50, 51, 52, 53, 54, 55, 56, 57, 43, 47]
noncomputable def sgn (v : Int) : Int := ((signsB.getD v.toNat 0).toNat : Int)
theorem sgn_byte (v : Int) : 0 ≤ sgn v ∧ sgn v < 256 := by
  unfold sgn
  have := (signsB.getD v.toNat 0).toNat_lt
  (first | lia | omega)
noncomputable def encStep (z : Int × Int × List Int) (k : Int) : Int × Int × List Int :=
  let lc := (z.1 * 256 + k) % 65536
  if z.2.1 = 0 then (lc, 2, z.2.2 ++ [sgn (lc / 4 % 64)])
  else if z.2.1 = 2 then (lc, 4, z.2.2 ++ [sgn (lc / 16 % 64)])
  else (lc, 0, z.2.2 ++ [sgn (lc / 64 % 64), sgn (lc % 64)])
noncomputable def encAt (ns : List Int) (i : Nat) : Int × Int × List Int := (ns.take i).foldl encStep (0, 0, [])
theorem encAt_succ {ns : List Int} {i : Nat} {k : Int} (h : ns[i]? = some k) : encAt ns (i + 1) = encStep (encAt ns i) k := by
  unfold encAt
  rw [List.take_add_one, h]; simp
noncomputable def encEnd (z : Int × Int × List Int) : List Int :=
  if z.2.1 = 2 then z.2.2 ++ [sgn (z.1 % 4 * 16), 61, 61] else if z.2.1 = 4 then z.2.2 ++ [sgn (z.1 % 16 * 4), 61] else z.2.2
noncomputable def encode (ns : List Int) : List Int := encEnd (encAt ns ns.length)
section
variable {prog : Program} {w : World} {A : Around} {E : Value → Shared → Prop} {s : Shared} {Q : Value → Shared → Prop}
theorem item_signs {value slice : Expr} {i : Int} {t ui : Tok} {a : Array UInt8} (ha : a = signsB.toArray) (h0 : 0 ≤ i) (h1 : i < 64) (h : ∀ t', Q (.int (sgn i) t') { s with toks := s.toks + 1 })
    (hs : ∀ x : Array UInt8, subscripted slice false (.bytes x t) (.int i ui) = operate [.bytes x t, .int i ui] (getItem (.bytes x t) (.int i ui)) := by intro _; with_unfolding_all rfl)
    (ht : ∀ (x : Array UInt8) r, letTemporaryGo value (.bytes x t) r = pure () := by intro _ _; with_unfolding_all rfl) :
    wpAny (model prog w) A (subscriptTail value slice (.bytes a t) (.int i ui)) Q E s := by
  subst ha
  exact KBy.item_N (by decide) h0 h1 (h _) (hs _) (ht _)
end
end
section -- MOps
open PySem PySem.W PyProof.Rows
section
variable {prog : Program} {w : World} {A : Around} {E : Value → Shared → Prop} {s : Shared} {h₀ : Heap} {L : Addr} {m : Str → Option Value} {news : List (Addr × Obj)}
theorem bytes_A {l : Addr} {us : Array Value} {n : Nat} {ns : List Int} {Q : Value → Shared → Prop} (F : Fr h₀ L s.heap m) (N : News h₀ L s.heap news) (hl : (l, listOf us n) ∈ news) (hi : IntsAre us.toList ns) (hr : Byte ns) (hz : us.size ≤ 1000) (hh : A.handled = none)
    (h : ∀ h' t k, Fr h₀ L h' m → News h₀ L h' news → Q (.bytes (bts ns) t) { s with heap := h', toks := k }) : wpAny (model prog w) A (call (.type "bytes") [.ref l]) Q E s :=
  bytes_K F N (by rw [Array.toArray_toList]; exact N.isList hl) hi hr (by rw [sizeLine_eq, Array.length_toList]; omega) hh fun h' t k F N _ => h h' t k F N
end
theorem lcv {lc k : Int} (h : 0 ≤ lc) (h0 : 0 ≤ k) (h1 : k < 256) : Builtin.bitAnd (Builtin.bitOr (lc * 2 ^ Int.toNat 8) k) 65535 = (lc * 256 + k) % 65536 := by
  rw [show Int.toNat 8 = 8 from rfl, or_add 8 h h0 h1, bitAnd_m16]; rfl
theorem shv (x : Int) (n : Nat) : x.fdiv (2 ^ n) = x / 2 ^ n := Int.fdiv_eq_ediv_of_nonneg _ (Int.pow_nonneg (by decide))
theorem byte_snoc {ns : List Int} {v : Int} (h : Byte ns) : Byte (ns ++ [sgn v]) := fun n hn => by
  rcases List.mem_append.mp hn with hn | hn
  · exact h n hn
  · rw [List.mem_singleton.mp hn]; exact sgn_byte v
theorem byte61 {ns : List Int} (h : Byte ns) : Byte (ns ++ [61]) := fun n hn => by
  rcases List.mem_append.mp hn with hn | hn
  · exact h n hn
  · rw [List.mem_singleton.mp hn]; decide
theorem enc2 (lc : Int) (outs : List Int) : encEnd (lc, 2, outs) = outs ++ [sgn (Builtin.bitAnd lc 3 * 2 ^ Int.toNat 4)] ++ [61] ++ [61] := by
  rw [bitAnd_m2]; simp [encEnd]
theorem enc4 (lc : Int) (outs : List Int) : encEnd (lc, 4, outs) = outs ++ [sgn (Builtin.bitAnd lc 15 * 2 ^ Int.toNat 2)] ++ [61] := by
  rw [bitAnd_m4]; simp [encEnd]
end
section -- MDec
open PySem PySem.W PyProof.Rows
/-- the reader's state: place in the quad, what is left, pads, octets -/
structure Dec where
  q : Int
  l : Int
  p : Int
  o : List Int
noncomputable def decStep (z : Dec) (c : Int) : Dec :=
  if c = 61 then { z with p := z.p + 1 }
  else if 64 ≤ b64v c then z
  else if z.q = 0 then ⟨1, b64v c, 0, z.o⟩
  else if z.q = 1 then ⟨2, b64v c % 16, 0, z.o ++ [z.l * 4 + b64v c / 16]⟩
  else if z.q = 2 then ⟨3, b64v c % 4, 0, z.o ++ [z.l * 16 + b64v c / 4]⟩
  else ⟨0, 0, 0, z.o ++ [z.l * 64 + b64v c]⟩
noncomputable def decAt (ns : List Int) (i : Nat) : Dec := (ns.take i).foldl decStep ⟨0, 0, 0, []⟩
theorem decAt_succ {ns : List Int} {i : Nat} {k : Int} (h : ns[i]? = some k) : decAt ns (i + 1) = decStep (decAt ns i) k := by
  unfold decAt
  rw [List.take_add_one, h]; simp
structure DecOk (z : Dec) (i : Nat) : Prop where
  q : z.q = 0 ∨ z.q = 1 ∨ z.q = 2 ∨ z.q = 3
  l0 : 0 ≤ z.l
  l1 : z.l < 64
  l2 : z.q = 2 → z.l < 16
  l3 : z.q = 3 → z.l < 4
  p0 : 0 ≤ z.p
  o : Byte z.o
  n : z.o.length ≤ i
theorem b64v_range (c : Int) : 0 ≤ b64v c ∧ b64v c ≤ 64 := by unfold b64v; split <;> (try split) <;> (try split) <;> (try split) <;> (try split) <;> (first | lia | omega)
theorem byte_add {ns : List Int} {v : Int} (h : Byte ns) (h0 : 0 ≤ v) (h1 : v < 256) : Byte (ns ++ [v]) := fun n hn => by
  rcases List.mem_append.mp hn with hn | hn
  · exact h n hn
  · rw [List.mem_singleton.mp hn]; exact ⟨h0, h1⟩
theorem DecOk.step {z : Dec} {i : Nat} (h : DecOk z i) (c : Int) : DecOk (decStep z c) (i + 1) := by
  obtain ⟨q, l, p, o⟩ := z
  obtain ⟨hq, l0, l1, l2, l3, p0, ho, hn⟩ := h
  dsimp only at *
  have hv := b64v_range c
  unfold decStep
  dsimp only
  split
  · exact ⟨hq, l0, l1, l2, l3, by dsimp only; (first | lia | omega), ho, by dsimp only; (first | lia | omega)⟩
  split
  · exact ⟨hq, l0, l1, l2, l3, by dsimp only; (first | lia | omega), ho, by dsimp only; (first | lia | omega)⟩
  split
  · exact ⟨by simp, by dsimp only; (first | lia | omega), by dsimp only; (first | lia | omega), by dsimp only; (first | lia | omega), by dsimp only; (first | lia | omega), by simp, ho, by dsimp only; (first | lia | omega)⟩
  split
  · exact ⟨by simp, by dsimp only; (first | lia | omega), by dsimp only; (first | lia | omega), by dsimp only; (first | lia | omega), by dsimp only; (first | lia | omega), by simp, byte_add ho (by (first | lia | omega)) (by (first | lia | omega)), by simp only [List.length_append, List.length_cons, List.length_nil]; (first | lia | omega)⟩
  split
  · exact ⟨by simp, by dsimp only; (first | lia | omega), by dsimp only; (first | lia | omega), by dsimp only; (first | lia | omega), by dsimp only; (first | lia | omega), by simp, byte_add ho (by have := l2 (by (first | lia | omega)); (first | lia | omega)) (by have := l2 (by (first | lia | omega)); (first | lia | omega)), by simp only [List.length_append, List.length_cons, List.length_nil]; (first | lia | omega)⟩
  · exact ⟨by simp, by dsimp only; (first | lia | omega), by dsimp only; (first | lia | omega), by dsimp only; (first | lia | omega), by dsimp only; (first | lia | omega), by simp, byte_add ho (by have := l3 (by (first | lia | omega)); (first | lia | omega)) (by have := l3 (by (first | lia | omega)); (first | lia | omega)), by simp only [List.length_append, List.length_cons, List.length_nil]; (first | lia | omega)⟩
theorem decOk0 : DecOk ⟨0, 0, 0, []⟩ 0 := ⟨by simp, by simp, by simp, by simp, by simp, by simp, (fun _ h => nomatch h), by simp⟩
theorem decAt_ok (ns : List Int) (i : Nat) (hi : i ≤ ns.length) : DecOk (decAt ns i) i := by
  induction i with
  | zero => exact decOk0
  | succ i ih =>
    have e : ns[i]? = some ns[i] := List.getElem?_eq_getElem (by (first | lia | omega))
    rw [decAt_succ e]
    exact (ih (by (first | lia | omega))).step _
theorem or4 {l v : Int} (h : 0 ≤ l) (h0 : 0 ≤ v) (h1 : v < 64) : Builtin.bitOr (l * 2 ^ Int.toNat 2) (v.fdiv (2 ^ Int.toNat 4)) = l * 4 + v / 16 := by
  rw [shv, show Int.toNat 2 = 2 from rfl, show Int.toNat 4 = 4 from rfl, or_add 2 h (by (first | lia | omega)) (by (first | lia | omega))]; rfl
theorem or16 {l v : Int} (h : 0 ≤ l) (h0 : 0 ≤ v) (h1 : v < 64) : Builtin.bitOr (l * 2 ^ Int.toNat 4) (v.fdiv (2 ^ Int.toNat 2)) = l * 16 + v / 4 := by
  rw [shv, show Int.toNat 2 = 2 from rfl, show Int.toNat 4 = 4 from rfl, or_add 4 h (by (first | lia | omega)) (by (first | lia | omega))]; rfl
theorem or64 {l v : Int} (h : 0 ≤ l) (h0 : 0 ≤ v) (h1 : v < 64) : Builtin.bitOr (l * 2 ^ Int.toNat 6) v = l * 64 + v := by
  rw [show Int.toNat 6 = 6 from rfl, or_add 6 h h0 h1]; rfl
theorem fin_dec {ns : List Int} {i : Nat} {k : Int} {z z' : Dec} (hk : ns[i]? = some k) (he : decAt ns i = z) (hz : DecOk (decStep z k) (i + 1)) (e : decStep z k = z') : DecOk z' (i + 1) ∧ decAt ns (i + 1) = z' := by
  subst e; exact ⟨hz, by rw [decAt_succ hk, he]⟩
noncomputable def decEnd (ns : List Int) : Prop := let z := decAt ns ns.length; z.q = 0 ∨ (2 ≤ z.q ∧ 4 ≤ z.q + z.p)
noncomputable def decode (ns : List Int) : List Int := (decAt ns ns.length).o
end
section -- MHex
open PySem PySem.W PyProof.Rows
noncomputable def nat0 (ns : List Int) (i : Nat) : Int := ns.getD i 0
noncomputable def unhexAt (ns : List Int) : Nat → List Int
  | 0 => []
  | j + 1 => unhexAt ns j ++ [hexv (nat0 ns (2 * j)) * 16 + hexv (nat0 ns (2 * j + 1))]
theorem unhexAt_len (ns : List Int) : ∀ j, (unhexAt ns j).length = j
  | 0 => rfl
  | j + 1 => by rw [unhexAt, List.length_append, unhexAt_len ns j]; rfl
theorem hexv_range (c : Int) : 0 ≤ hexv c ∧ hexv c ≤ 16 := by unfold hexv; split <;> (try split) <;> (try split) <;> (first | lia | omega)
theorem unhexAt_byte {ns : List Int} {j : Nat} (h : ∀ i < 2 * j, hexv (nat0 ns i) < 16) : Byte (unhexAt ns j) := by
  induction j with
  | zero => exact fun _ h => nomatch h
  | succ j ih =>
    have a := h (2 * j) (by (first | lia | omega))
    have b := h (2 * j + 1) (by (first | lia | omega))
    have a' := hexv_range (nat0 ns (2 * j))
    have b' := hexv_range (nat0 ns (2 * j + 1))
    exact byte_add (ih fun i hi => h i (by (first | lia | omega))) (by (first | lia | omega)) (by (first | lia | omega))
section
variable {prog : Program} {w : World} {A : Around} {E : Value → Shared → Prop} {s : Shared} {Q : Value → Shared → Prop}
theorem item_any {value slice : Expr} {i : Int} {t ui : Tok} {a : Array UInt8} (n : Nat) (hi : i = (n : Int)) (h1 : n < a.size) (hz : a.size ≤ 1000) (h : ∀ t', Q (.int (nat0 (KBw.bInts a) n) t') { s with toks := s.toks + 1 })
    (hs : ∀ x : Array UInt8, subscripted slice false (.bytes x t) (.int i ui) = operate [.bytes x t, .int i ui] (getItem (.bytes x t) (.int i ui)) := by intro _; with_unfolding_all rfl)
    (ht : ∀ (x : Array UInt8) r, letTemporaryGo value (.bytes x t) r = pure () := by intro _ _; with_unfolding_all rfl) :
    wpAny (model prog w) A (subscriptTail value slice (.bytes a t) (.int i ui)) Q E s := by
  subst hi
  obtain ⟨x⟩ := a
  have hx : n < x.length := h1
  refine KBy.item_N (by have : x.length ≤ 1000 := hz; (first | lia | omega)) (by (first | lia | omega)) (by (first | lia | omega)) ?_ (hs _) (ht _)
  have e : nat0 (KBw.bInts ⟨x⟩) n = ((x.getD (n : Int).toNat 0).toNat : Int) := by
    unfold nat0 KBw.bInts
    simp [List.getD_eq_getElem?_getD, List.getElem?_map, List.getElem?_eq_getElem hx]
  rw [← e]
  exact h _
end
end
section -- MComp
open PySem PySem.W PyProof.Rows PySem.Spec PySem.Calls
open PyProof.Rows.LCg
/-- a source of n items, item i of the kind P i; what is listed in news stays as it is -/
noncomputable def Src (prog : Program) (w : World) (A : Around) (h₀ : Heap) (L : Addr) (news : List (Addr × Obj)) (xv : Value) (s₁ : Shared) (n : Nat) (P : Nat → Value → Prop) : Prop :=
  ∀ (Q E : Value → Shared → Prop), (∀ (fp : List Addr) (St : Nat → Heap → Prop) (o : Obj), Walks prog w A s₁.heap.objs.size fp [s₁.heap.objs.size] n P St → (∀ b ∈ fp, b < (s₁.heap.push o).objs.size) →
      (∀ i h, St i h → ∃ o, h.get? s₁.heap.objs.size = some o) →
      (∀ i h h' o, St i h → h.get? s₁.heap.objs.size = some o → h'.get? s₁.heap.objs.size = some o → (∀ b o, h₀.get? b = some o → h'.get? b = some o) → News h₀ L h' news → St i h') →
      St 0 (s₁.heap.push o) → Q (.ref s₁.heap.objs.size) { s₁ with heap := s₁.heap.push o }) → wpAny (model prog w) A (pyIter xv) Q E s₁
/-- the end of one element -/
noncomputable def EltEnd (h₀ : Heap) (L : Addr) (m : Str → Option Value) (s₁ : Shared) (all : List (Addr × Obj)) (R : Prop) (s' : Shared) : Prop :=
  ∃ h' tk', s' = { s₁ with heap := h', toks := tk' } ∧ Fr h₀ L h' m ∧ News h₀ L h' all ∧ R
theorem EltEnd.intro {h₀ : Heap} {L : Addr} {m : Str → Option Value} {s₁ : Shared} {all more : List (Addr × Obj)} {R : Prop} {h' : Heap} {tk' : Nat} (F : Fr h₀ L h' m) (N : News h₀ L h' more) (hs : ∀ p ∈ all, p ∈ more) (r : R) :
    EltEnd h₀ L m s₁ all R { s₁ with heap := h', toks := tk' } := ⟨h', tk', rfl, F, fun p hp => N p (hs p hp), r⟩
noncomputable def CompU (prog : Program) (w : World) (A : Around) (h₀ : Heap) (L : Addr) (m : Str → Option Value) (env : Env) (elt : Expr) (x : Str) (scope : Scope) (cl : List (Str × Addr)) (Q : Value → Shared → Prop) (xv : Value) (s₁ : Shared) : Prop :=
  ∃ (n : Nat) (P : Nat → Value → Prop) (R : Nat → Value → Prop) (news : List (Addr × Obj)), Fr h₀ L s₁.heap m ∧ News h₀ L s₁.heap news ∧ Src prog w A h₀ L news xv s₁ n P ∧ n ≤ sizeLine ∧
      (∀ i v I oI C oC D m₂ h tk ys (E' : Value → Shared → Prop), i < n → P i v → NsObj oC m₂ → m₂ x = some v → Fr h₀ L h m → News h₀ L h ((I, oI) :: (C, oC) :: (D, lst ys) :: news) →
        wpAny (model prog w) A (eval elt (compEnvC scope cl C env)) (fun y s' => EltEnd h₀ L m s₁ ((I, oI) :: (C, oC) :: (D, lst ys) :: news) (R i y) s') E' { s₁ with heap := h, toks := tk }) ∧
      ∀ D h tk ys, Fr h₀ L h m → News h₀ L h ((D, lst ys) :: news) → Off1 D news → ys.length = n → (∀ i y, ys[i]? = some y → R i y) → Q (.ref D) { s₁ with heap := h, toks := tk }
noncomputable def CompA (prog : Program) (w : World) (A : Around) (h₀ : Heap) (L : Addr) (m : Str → Option Value) (env : Env) (elt : Expr) (x : Str) (scope : Scope) (cl : List (Str × Addr)) (y : Str) (Q : Flow → Shared → Prop) (xv : Value) (s₁ : Shared) : Prop :=
  ∃ (n : Nat) (P : Nat → Value → Prop) (R : Nat → Value → Prop) (news : List (Addr × Obj)), Fr h₀ L s₁.heap m ∧ News h₀ L s₁.heap news ∧ Src prog w A h₀ L news xv s₁ n P ∧ n ≤ sizeLine ∧
      (∀ i v I oI C oC D m₂ h tk ys (E' : Value → Shared → Prop), i < n → P i v → NsObj oC m₂ → m₂ x = some v → Fr h₀ L h m → News h₀ L h ((I, oI) :: (C, oC) :: (D, lst ys) :: news) →
        wpAny (model prog w) A (eval elt (compEnvC scope cl C env)) (fun y s' => EltEnd h₀ L m s₁ ((I, oI) :: (C, oC) :: (D, lst ys) :: news) (R i y) s') E' { s₁ with heap := h, toks := tk }) ∧
      ∀ D h tk ys, Fr h₀ L h (fun z => if z = y then some (.ref D) else m z) → News h₀ L h ((D, lst ys) :: news) → Off1 D news → ys.length = n → (∀ i y, ys[i]? = some y → R i y) → Q .next { s₁ with heap := h, toks := tk }
noncomputable def CompT (prog : Program) (w : World) (A : Around) (h₀ : Heap) (L : Addr) (m : Str → Option Value) (env : Env) (ct elt : Expr) (x : Str) (scope : Scope) (cl : List (Str × Addr)) (Q : Value → Shared → Prop) (xv : Value) (s₁ : Shared) : Prop :=
  ∃ (n : Nat) (P : Nat → Value → Prop) (R : Nat → Option Value → Prop) (news : List (Addr × Obj)), Fr h₀ L s₁.heap m ∧ News h₀ L s₁.heap news ∧ Src prog w A h₀ L news xv s₁ n P ∧ n ≤ sizeLine ∧
      (∀ i v I oI C oC D m₂ h tk ys (E' : Value → Shared → Prop), i < n → P i v → NsObj oC m₂ → m₂ x = some v → Fr h₀ L h m → News h₀ L h ((I, oI) :: (C, oC) :: (D, lst ys) :: news) →
        wpAny (model prog w) A (isTrue ct (compEnvC scope cl C env) (eval ct (compEnvC scope cl C env))) (fun ok s' => if ok = true then
          wpAny (model prog w) A (eval elt (compEnvC scope cl C env)) (fun y s'' => EltEnd h₀ L m s₁ ((I, oI) :: (C, oC) :: (D, lst ys) :: news) (R i (some y)) s'') E' s'
          else EltEnd h₀ L m s₁ ((I, oI) :: (C, oC) :: (D, lst ys) :: news) (R i none) s') E' { s₁ with heap := h, toks := tk }) ∧
      ∀ D h tk (rs : List (Option Value)), Fr h₀ L h m → News h₀ L h ((D, lst (rs.filterMap id)) :: news) → Off1 D news → rs.length = n → (∀ i y, rs[i]? = some y → R i y) → Q (.ref D) { s₁ with heap := h, toks := tk }
section
variable {prog : Program} {w : World} {A : Around} {E : Value → Shared → Prop} {s : Shared} {h₀ : Heap} {L : Addr} {m : Str → Option Value} {env : Env}
theorem rest_U {elt : Expr} {x : Str} {scope : Scope} {cl : List (Str × Addr)} {s₁ : Shared} {n : Nat} {P : Nat → Value → Prop} {R : Nat → Value → Prop} {news : List (Addr × Obj)} {Fin : List Value → List (Addr × Obj) → Prop}
    (turn : ∀ i v I oI C oC D m₂ h tk ys (E' : Value → Shared → Prop), i < n → P i v → NsObj oC m₂ → m₂ x = some v → Fr h₀ L h m → News h₀ L h ((I, oI) :: (C, oC) :: (D, lst ys) :: news) →
      wpAny (model prog w) A (eval elt (compEnvC scope cl C env)) (fun y s' => EltEnd h₀ L m s₁ ((I, oI) :: (C, oC) :: (D, lst ys) :: news) (R i y) s') E' { s₁ with heap := h, toks := tk })
    (fin : ∀ ys, ys.length = n → (∀ i y, ys[i]? = some y → R i y) → Fin ys news) (s₂ : Shared) (hs₂ : ∃ g, s₂ = { s₁ with heap := g }) :
    ∀ (k i : Nat) (ys : List Value), i + k = n → ys.length = i → (∀ j y, ys[j]? = some y → R j y) → CompRest prog w A h₀ L m env elt x scope cl s₂ (fun nw => nw = news) P Fin k i ys news
  | 0, i, ys, hk, hl, hR => fin ys (by (first | lia | omega)) hR
  | k + 1, i, ys, hk, hl, hR => by
    obtain ⟨g, rfl⟩ := hs₂
    intro v I oI C oC D m₂ h tk E' hP hC hx F N off hne
    refine wpAny_mono (turn i v I oI C oC D m₂ h tk ys E' (by (first | lia | omega)) hP hC hx F N) (fun y s' hy => ?_) fun _ _ e => e
    obtain ⟨h', tk', rfl, F', N', r⟩ := hy
    refine ⟨h', tk', news, rfl, F', N', off, rfl, rest_U turn fin { s₁ with heap := g } ⟨g, rfl⟩ k (i + 1) (ys ++ [y]) (by (first | lia | omega)) (by rw [List.length_append, hl]; rfl) fun j z hz => ?_⟩
    by_cases hj : j < i
    · rw [List.getElem?_append_left (by (first | lia | omega))] at hz
      exact hR j z hz
    · rw [List.getElem?_append_right (by (first | lia | omega))] at hz
      have hji : j = i := by
        have := (List.getElem?_eq_some_iff.mp hz).1
        simp at this; (first | lia | omega)
      subst hji
      rw [hl, Nat.sub_self] at hz
      cases hz
      exact r
theorem comp_U {elt iter : Expr} {x : Str} {px : Pos} {scope : Scope} {cl : List (Str × Addr)} {pos : Pos} {Q : Value → Shared → Prop}
    (F₀ : Fr h₀ L s.heap m) (hclos : closureFor scope env = pure cl) (hcell : ∀ y ∈ scope.names, y.2 ≠ .cell) (hkind : scope.kind = .function)
    (hnames : ∀ y ∈ scope.names, y.2 = .local → scope.names.lookup y.1 = some .local) (hx : scope.names.lookup x = some .local)
    (h : wpAny (model prog w) A (eval iter env) (CompU prog w A h₀ L m env elt x scope cl Q) E s)
    (hs : ∀ x, foldedSetIterable iter env x = pure x := by intro _; rfl) :
    wpAny (model prog w) A (eval (.ListComp elt [⟨.Name x px, iter, [], 0⟩] scope pos) env) Q E s := by
  rw [eval_ListComp]
  refine wpAny_comprehension_free (use := none) rfl hs hclos hkind hnames (wpAny_mono h (fun xv s₁ h₁ => ?_) fun _ _ e => e)
  obtain ⟨n, P, R, news, F, N, src, hsz, turn, done⟩ := h₁
  refine src _ _ fun fp St o W hfp hIo hSt hst => ?_
  have up : ∀ b o', s₁.heap.get? b = some o' → (s₁.heap.push o).get? b = some o' := fun b o e => Heap.get?_push_of_some _ e
  refine block_U (S := fun nw => nw = news) (Fin := fun ys nw => nw = news ∧ ys.length = n ∧ ∀ i y, ys[i]? = some y → R i y) W hsz hIo (fun i h h' o nw st e e' k N' hn => hSt i h h' o st e e' k (hn ▸ N')) hcell hkind hx hst hfp
    (F.keeps up) (N.grown up) (Nat.ne_of_lt F.ns.lt) (next_is_new F) (fun p hp => Nat.ne_of_lt (Heap.lt_size (N p hp).1)) rfl
    (rest_U turn (fun ys hl hR => ⟨rfl, hl, hR⟩) _ ⟨_, rfl⟩ n 0 [] (by (first | lia | omega)) rfl (fun j y hy => by simp at hy)) ?_
  intro D C h tk m' ys news' F' N' o1 hn hC₀ hD₀ hCL hDL hCD offC fin
  obtain ⟨rfl, hl, hR⟩ := fin
  refine ⟨m', hn, fun h'' hs'' => done D h'' tk ys (F'.change hs'' hCL hC₀) (fun p hp => ?_) o1 hl hR⟩
  refine ⟨hs''.extBut _ _ ?_ (N' p hp).1, (N' p hp).2⟩
  rcases List.mem_cons.mp hp with rfl | hp
  · exact Ne.symm hCD
  · exact offC p hp
theorem stOne {I : Addr} {St : Nat → Heap → Prop} {n : Nat} {P : Nat → Value → Prop} (W : Walks prog w A I [I] [I] n P St) {i : Nat} {h h' : Heap} {o : Obj} (st : St i h) (e : h.get? I = some o) (e' : h'.get? I = some o) : St i h' :=
  W.frame i h h' st fun b hb o' he => by
    rw [List.mem_singleton.mp hb] at he ⊢
    rw [e] at he; cases he; exact e'
theorem src_str {news : List (Addr × Obj)} {xs : Str} {t : Tok} (hh : A.handled = none) : Src prog w A h₀ L news (.str xs t) s xs.cps.size (SignAt xs) := by
  intro Q E hQ
  cases ha : xs.cps.all (· < 128)
  · refine wpAny_pyIter_wide ha ?_
    have W := Walks.strWide (prog := prog) (w := w) hh s.heap.objs.size xs t
    exact hQ _ _ _ W (fun b hb => by rw [List.mem_singleton.mp hb, Heap.size_push]; exact Nat.lt_succ_self _) (fun i h ⟨o, ho, _⟩ => ⟨o, ho⟩) (fun i h h' o st e e' _ _ => stOne W st e e') ⟨_, Heap.get?_push_size _ rfl, rfl, rfl⟩
  · refine wpAny_pyIter_ascii ha ?_
    have W := Walks.strAscii (prog := prog) (w := w) hh s.heap.objs.size xs t
    exact hQ _ _ _ W (fun b hb => by rw [List.mem_singleton.mp hb, Heap.size_push]; exact Nat.lt_succ_self _) (fun i h ⟨o, ho, _⟩ => ⟨o, ho⟩) (fun i h h' o st e e' _ _ => stOne W st e e') ⟨_, Heap.get?_push_size _ rfl, rfl, rfl⟩
theorem src_bytes {news : List (Addr × Obj)} {b : Array UInt8} {t : Tok} (hh : A.handled = none) : Src prog w A h₀ L news (.bytes b t) s b.size (fun i v => ∃ k u, (KBw.bInts b)[i]? = some k ∧ 0 ≤ k ∧ k < 256 ∧ v = .int k u) := by
  intro Q E hQ
  refine KBw.pyIter_bytes ?_
  have W := KBw.walks (prog := prog) (w := w) hh s.heap.objs.size b t
  have W' : Walks prog w A s.heap.objs.size [s.heap.objs.size] [s.heap.objs.size] b.size (fun i v => ∃ k u, (KBw.bInts b)[i]? = some k ∧ 0 ≤ k ∧ k < 256 ∧ v = .int k u) _ :=
    { sub := W.sub, frame := W.frame, done := W.done, self := W.self,
      item := fun i s Q E hi st hQ => W.item i s Q E hi st fun v h' tk hP => hQ v h' tk (by
        obtain ⟨c, u, hc, rfl⟩ := hP
        have hg := KBw.ints_get hc
        have := KBw.ints_in (List.mem_of_getElem? hg)
        exact ⟨_, u, hg, this.1, this.2, rfl⟩) }
  exact hQ _ _ _ W' (fun b hb => by rw [List.mem_singleton.mp hb, Heap.size_push]; exact Nat.lt_succ_self _) (fun i h ⟨o, ho, _⟩ => ⟨o, ho⟩) (fun i h h' o st e e' _ _ => stOne W' st e e') ⟨_, Heap.get?_push_size _ rfl, rfl, rfl⟩
theorem src_list {news : List (Addr × Obj)} {l : Addr} {its : Array Value} (hh : A.handled = none) (F : Fr h₀ L s.heap m) (N : News h₀ L s.heap news) (hl : h₀.IsList l its ∨ ∃ n, (l, listOf its n) ∈ news) : Src prog w A h₀ L news (.ref l) s its.size (fun i v => its[i]? = some v) := by
  intro Q E hQ
  have at' : ∀ h', (∀ b o, h₀.get? b = some o → h'.get? b = some o) → News h₀ L h' news → h'.IsList l its := fun h' k N' => by
    rcases hl with hl | ⟨n, hl⟩
    · exact hl.at fun o e => k l o e
    · exact N'.isList hl
  have hls := at' _ F.keep N
  obtain ⟨ol, hol, _⟩ := id hls
  have hlt := Heap.lt_size hol
  refine wpAny_pyIter_list hls ?_
  have W := Walks.list (prog := prog) (w := w) hh s.heap.objs.size l (Nat.ne_of_lt hlt) its
  refine hQ _ _ _ W (fun b hb => ?_) (fun i h ⟨⟨o, ho, _⟩, _⟩ => ⟨o, ho⟩) (fun i h h' o st e e' k N' => ⟨?_, at' h' k N'⟩) ⟨⟨_, Heap.get?_push_size _ rfl, rfl, rfl⟩, hls.push _⟩
  · rw [Heap.size_push]
    rcases List.mem_cons.mp hb with rfl | hb
    · exact Nat.lt_succ_self _
    · rw [List.mem_singleton.mp hb]; exact Nat.lt_succ_of_lt hlt
  · obtain ⟨o', q, r⟩ := st.1
    rw [e] at q; cases q; exact ⟨o, e', r⟩
theorem src_range {news : List (Addr × Obj)} {r : Addr} {a b : Int} {t u v : Tok} {n : Nat} (hh : A.handled = none) (hr : IsRange s.heap r a b 1 t u v) (hsm : Builtin.Range.small a b 1 = true) (hn : Builtin.Range.rangeSize a b 1 = ((n : Nat) : Int)) : Src prog w A h₀ L news (.ref r) s n (fun i v => ∃ t, v = .int (a + (i : Int)) t) := by
  intro Q E hQ
  refine wpAny_pyIter_range hr hsm ?_
  have W := range_walks (prog := prog) (w := w) (I := s.heap.objs.size) hh a n
  exact hQ _ _ _ W (fun b hb => by rw [List.mem_singleton.mp hb, Heap.size_push]; exact Nat.lt_succ_self _) (fun i h ho => ⟨_, ho⟩) (fun i h h' o st e e' _ _ => stOne W st e e') (by show IsRangeIter _ _ _ _ _; rw [hn]; simpa using Heap.get?_push_size _ rfl)
theorem rest_T {ct elt : Expr} {x : Str} {scope : Scope} {cl : List (Str × Addr)} {s₁ : Shared} {n : Nat} {P : Nat → Value → Prop} {R : Nat → Option Value → Prop} {news : List (Addr × Obj)} {Fin : List Value → List (Addr × Obj) → Prop}
    (turn : ∀ i v I oI C oC D m₂ h tk ys (E' : Value → Shared → Prop), i < n → P i v → NsObj oC m₂ → m₂ x = some v → Fr h₀ L h m → News h₀ L h ((I, oI) :: (C, oC) :: (D, lst ys) :: news) →
      wpAny (model prog w) A (isTrue ct (compEnvC scope cl C env) (eval ct (compEnvC scope cl C env))) (fun ok s' => if ok = true then
        wpAny (model prog w) A (eval elt (compEnvC scope cl C env)) (fun y s'' => EltEnd h₀ L m s₁ ((I, oI) :: (C, oC) :: (D, lst ys) :: news) (R i (some y)) s'') E' s'
        else EltEnd h₀ L m s₁ ((I, oI) :: (C, oC) :: (D, lst ys) :: news) (R i none) s') E' { s₁ with heap := h, toks := tk })
    (fin : ∀ rs : List (Option Value), rs.length = n → (∀ i y, rs[i]? = some y → R i y) → Fin (rs.filterMap id) news) (s₂ : Shared) (hs₂ : ∃ g, s₂ = { s₁ with heap := g }) :
    ∀ (k i : Nat) (rs : List (Option Value)), i + k = n → rs.length = i → (∀ j y, rs[j]? = some y → R j y) → LCt.CompRestT prog w A h₀ L m env ct elt x scope cl s₂ (fun nw => nw = news) P Fin k i (rs.filterMap id) news
  | 0, i, rs, hk, hl, hR => fin rs (by (first | lia | omega)) hR
  | k + 1, i, rs, hk, hl, hR => by
    obtain ⟨g, rfl⟩ := hs₂
    have more : ∀ r, R i r → ∀ j z, (rs ++ [r])[j]? = some z → R j z := by
      intro r hr j z hz
      by_cases hj : j < i
      · rw [List.getElem?_append_left (by (first | lia | omega))] at hz
        exact hR j z hz
      · rw [List.getElem?_append_right (by (first | lia | omega))] at hz
        have hji : j = i := by
          have := (List.getElem?_eq_some_iff.mp hz).1
          simp at this; (first | lia | omega)
        subst hji
        rw [hl, Nat.sub_self] at hz
        cases hz
        exact hr
    intro v I oI C oC D m₂ h tk E' hP hC hx F N off hne
    refine wpAny_mono (turn i v I oI C oC D m₂ h tk (rs.filterMap id) E' (by (first | lia | omega)) hP hC hx F N) (fun ok s' hy => ?_) fun _ _ e => e
    cases ok with
    | true =>
      simp only [if_true] at hy ⊢
      refine wpAny_mono hy (fun y s'' hz => ?_) fun _ _ e => e
      obtain ⟨h', tk', rfl, F', N', r⟩ := hz
      have q := rest_T turn fin { s₁ with heap := g } ⟨g, rfl⟩ k (i + 1) (rs ++ [some y]) (by (first | lia | omega)) (by rw [List.length_append, hl]; rfl) (more _ r)
      rw [List.filterMap_append] at q
      exact ⟨h', tk', news, rfl, F', N', off, rfl, q⟩
    | false =>
      simp only [Bool.false_eq_true, if_false] at hy ⊢
      obtain ⟨h', tk', rfl, F', N', r⟩ := hy
      have q := rest_T turn fin { s₁ with heap := g } ⟨g, rfl⟩ k (i + 1) (rs ++ [none]) (by (first | lia | omega)) (by rw [List.length_append, hl]; rfl) (more _ r)
      rw [List.filterMap_append, show List.filterMap id ([none] : List (Option Value)) = [] from rfl, List.append_nil] at q
      exact ⟨h', tk', news, rfl, F', N', off, rfl, q⟩
theorem comp_T {ct elt iter : Expr} {x : Str} {px : Pos} {scope : Scope} {cl : List (Str × Addr)} {pos : Pos} {Q : Value → Shared → Prop}
    (F₀ : Fr h₀ L s.heap m) (hclos : closureFor scope env = pure cl) (hcell : ∀ y ∈ scope.names, y.2 ≠ .cell) (hkind : scope.kind = .function)
    (hnames : ∀ y ∈ scope.names, y.2 = .local → scope.names.lookup y.1 = some .local) (hx : scope.names.lookup x = some .local)
    (h : wpAny (model prog w) A (eval iter env) (CompT prog w A h₀ L m env ct elt x scope cl Q) E s)
    (hs : ∀ x, foldedSetIterable iter env x = pure x := by intro _; rfl) :
    wpAny (model prog w) A (eval (.ListComp elt [⟨.Name x px, iter, [ct], 0⟩] scope pos) env) Q E s := by
  rw [eval_ListComp]
  refine wpAny_comprehension_free (use := none) rfl hs hclos hkind hnames (wpAny_mono h (fun xv s₁ h₁ => ?_) fun _ _ e => e)
  obtain ⟨n, P, R, news, F, N, src, hsz, turn, done⟩ := h₁
  refine src _ _ fun fp St o W hfp hIo hSt hst => ?_
  have up : ∀ b o', s₁.heap.get? b = some o' → (s₁.heap.push o).get? b = some o' := fun b o e => Heap.get?_push_of_some _ e
  refine LCt.block_T (S := fun nw => nw = news) (Fin := fun ys nw => nw = news ∧ ∃ rs : List (Option Value), ys = rs.filterMap id ∧ rs.length = n ∧ ∀ i y, rs[i]? = some y → R i y) W hsz hIo (fun i h h' o nw st e e' k N' hn => hSt i h h' o st e e' k (hn ▸ N')) hcell hkind hx hst hfp
    (F.keeps up) (N.grown up) (Nat.ne_of_lt F.ns.lt) (next_is_new F) (fun p hp => Nat.ne_of_lt (Heap.lt_size (N p hp).1)) rfl
    (rest_T turn (fun ys hl hR => ⟨rfl, _, rfl, hl, hR⟩) _ ⟨_, rfl⟩ n 0 [] (by (first | lia | omega)) rfl (fun j y hy => by simp at hy)) ?_
  intro D C h tk m' ys news' F' N' o1 hn hC₀ hD₀ hCL hDL hCD offC fin
  obtain ⟨rfl, rs, rfl, hl, hR⟩ := fin
  refine ⟨m', hn, fun h'' hs'' => done D h'' tk rs (F'.change hs'' hCL hC₀) (fun p hp => ?_) o1 hl hR⟩
  refine ⟨hs''.extBut _ _ ?_ (N' p hp).1, (N' p hp).2⟩
  rcases List.mem_cons.mp hp with rfl | hp
  · exact Ne.symm hCD
  · exact offC p hp
theorem comp_A {elt iter : Expr} {x y : Str} {px py : Pos} {scope : Scope} {cl : List (Str × Addr)} {pos spos : Pos} {Q : Flow → Shared → Prop} (F₀ : Fr h₀ L s.heap m) (hLe : env.locals = L)
    (hsw : swapsWith (.ListComp elt [⟨.Name x px, iter, [], 0⟩] scope pos) (some (.Name y py)) spos.line env = pure true)
    (hclos : closureFor scope env = pure cl) (hcell : ∀ z ∈ scope.names, z.2 ≠ .cell) (hkind : scope.kind = .function)
    (hnames : ∀ z ∈ scope.names, z.2 = .local → scope.names.lookup z.1 = some .local) (hx : scope.names.lookup x = some .local)
    (hy : env.kindOf y = some .local) (hp : (env.scope.kind == .class || (env.scope.kind == .module && env.locals != env.globals)) = false)
    (h : wpAny (model prog w) A (eval iter env) (CompA prog w A h₀ L m env elt x scope cl y Q) E s)
    (hs : ∀ x, foldedSetIterable iter env x = pure x := by intro _; rfl) :
    wpAny (model prog w) A (exec (.Assign [.Name y py] (.ListComp elt [⟨.Name x px, iter, [], 0⟩] scope pos) spos) env) Q E s := by
  subst hLe
  rw [exec_Assign_Name_used _ _ _ _ hsw]
  refine wpAny_bind (wpAny_standAt (wpAny_bind ?_))
  show wpAny _ A (do let _ ← comprehension (.ListComp elt [⟨.Name x px, iter, [], 0⟩] scope pos) scope env _ (newList []) false (eval iter env) (some (assign (.Name y py) env))) _ _ s
  refine wpAny_bind (wpAny_mono (wpAny_comprehension_free (use := some (assign (.Name y py) env)) (Q := fun _ s' => Q .next s') rfl hs hclos hkind hnames
    (wpAny_mono h (fun xv s₁ h₁ => ?_) fun _ _ e => e)) (fun _ s' hq => wpAny_pure (wpAny_pure hq)) fun _ _ e => e)
  obtain ⟨n, P, R, news, F, N, src, hsz, turn, done⟩ := h₁
  refine src _ _ fun fp St o W hfp hIo hSt hst => ?_
  have up : ∀ b o', s₁.heap.get? b = some o' → (s₁.heap.push o).get? b = some o' := fun b o e => Heap.get?_push_of_some _ e
  refine block_U (S := fun nw => nw = news) (Fin := fun ys nw => nw = news ∧ ys.length = n ∧ ∀ i y, ys[i]? = some y → R i y) W hsz hIo (fun i h h' o nw st e e' k N' hn => hSt i h h' o st e e' k (hn ▸ N')) hcell hkind hx hst hfp
    (F.keeps up) (N.grown up) (Nat.ne_of_lt F.ns.lt) (next_is_new F) (fun p hp => Nat.ne_of_lt (Heap.lt_size (N p hp).1)) rfl
    (rest_U turn (fun ys hl hR => ⟨rfl, hl, hR⟩) _ ⟨_, rfl⟩ n 0 [] (by (first | lia | omega)) rfl (fun j y hy => by simp at hy)) ?_
  intro D C h' tk m' ys news' F' N' o1 hn hC₀ hD₀ hCL hDL hCD offC fin
  obtain ⟨rfl, hl, hR⟩ := fin
  show wpAny _ A (assign (.Name y py) env (.ref D)) _ _ _
  refine wpAny_assign_Name (wpAny_storeName_local hy F'.ns (fun h₂ hn₂ hs₂ => ?_) hp)
  have hL₀ : h₀.get? env.locals = none := Heap.get?_none_of_le F'.above
  have F₂ : Fr h₀ env.locals h₂ (fun z => if z = y then some (.ref D) else m z) := ⟨hn₂, fun b o e => hs₂.extBut b o (fun q => by rw [q, hL₀] at e; cases e) (F'.keep b o e), F'.above⟩
  refine ⟨m', hn.sameBut hs₂ hCL, fun h'' hs'' => done D h'' _ ys (F₂.change hs'' hCL hC₀) (fun p hp => ?_) o1 hl hR⟩
  have z := N' p hp
  refine ⟨hs''.extBut _ _ ?_ (hs₂.extBut _ _ z.2.1 z.1), z.2⟩
  rcases List.mem_cons.mp hp with rfl | hp
  · exact Ne.symm hCD
  · exact offC p hp
end
end
section -- MJoin
open PySem PySem.W PyProof.Rows PySem.Spec PySem.Calls
open PyProof.Rows.LCg
abbrev txt (l : List Nat) : Str := ⟨l.toArray⟩
theorem fold_glue : ∀ (r : List (List Nat)) (acc : Array Nat), (r.map txt).foldl (fun acc p => acc ++ (Str.ofString "").cps ++ p.cps) acc = acc ++ r.flatten.toArray
  | [], acc => by simp
  | k :: r, acc => by
    rw [List.map_cons, List.foldl_cons, fold_glue r]
    show acc ++ #[] ++ k.toArray ++ r.flatten.toArray = _
    simp
theorem join_nil_txt : ∀ ls : List (List Nat), Txt.join (Str.ofString "") (ls.map txt) = txt ls.flatten
  | [] => rfl
  | l :: r => by
    show (⟨(r.map txt).foldl (fun acc p => acc ++ (Str.ofString "").cps ++ p.cps) l.toArray⟩ : Str) = _
    rw [fold_glue]
    simp [txt]
theorem strsAre_of : ∀ {ys : List Value} {ls : List (List Nat)}, ys.length = ls.length → (∀ (i : Nat) y, ys[i]? = some y → ∃ l t, ls[i]? = some l ∧ y = Value.str (txt l) t) → StrsAre ys (ls.map txt)
  | [], [], _, _ => .nil
  | y :: ys, l :: ls, hl, h => by
    obtain ⟨l', t, e, rfl⟩ := h 0 y rfl
    cases e
    exact .cons _ _ (strsAre_of (by simpa using hl) fun i z hz => h (i + 1) z hz)
theorem sum_map_txt (ls : List (List Nat)) : ((ls.map txt).map (·.length)).sum = ls.flatten.length := by
  induction ls with
  | nil => rfl
  | cons l r ih =>
    rw [List.map_cons, List.map_cons, List.sum_cons, ih, List.flatten_cons, List.length_append]; rfl
section
variable {prog : Program} {w : World} {A : Around} {E : Value → Shared → Prop} {s : Shared} {h₀ : Heap} {L : Addr} {m : Str → Option Value} {news : List (Addr × Obj)}
theorem join_A {D : Addr} {ys : List Value} {ls : List (List Nat)} {t : Tok} {Q : Value → Shared → Prop} (N : News h₀ L s.heap news) (hm : (D, lst ys) ∈ news) (hl : ys.length = ls.length) (hy : ∀ (i : Nat) y, ys[i]? = some y → ∃ l t, ls[i]? = some l ∧ y = Value.str (txt l) t) (hn : ls.length ≤ 1000) (hz : ls.flatten.length ≤ 10000)
    (h : ∀ t' k, Q (.str (txt ls.flatten) t') { s with toks := k }) : wpAny (model prog w) A (call (.builtin "str.join") [.str (Str.ofString "") t, .ref D]) Q E s := by
  refine join_listW (N.isList hm) (strsAre_of hl hy) (by decide) ?_ ?_
  · rw [sum_map_txt, List.length_map]; (first | lia | omega)
  · rw [join_nil_txt]; exact h
end
end
section -- MCell
open PySem PySem.W PyProof.Rows PySem.Spec PySem.Calls
/-- entry of a def that has cells -/
theorem enterC {w : World} {A : Around} {s : Shared} {Q E : Value → Shared → Prop} {f : Addr} {vs : List Value} {kw : List (Str × Value)} {name qual : Str} {params : Arguments} {body : List Stmt} {scope : Scope} {dV kV doc pm cdv ct oc : Value} {an od : Option Addr} {osl : Array (Option Value)} (binds : List (Str × Value))
    (V : Ev w s.heap) (ho : (KK w.params).lookup f = some ⟨oc, od, .func (fnOf name qual params body scope dV kV doc pm an cdv ct), osl⟩) (hcd : codeIn (KK w.params) cdv qual = true) (hroom : A.depth < recursionLimit)
    (hbind : BindsTo s (fnOf name qual params body scope dV kV doc pm an cdv ct) ⟨vs, kw⟩ binds) (hkind : (binds.all fun y => scope.names.lookup y.1 == some .local || scope.names.lookup y.1 == some .cell) = true)
    (hnd : ((cellsFrom 0 scope.names []).map (·.1)).Nodup) (hco : scope.isCoroutine = false) (hgen : scope.isGenerator = false) (hk : scope.kind = .function)
    (h : ∀ L h₁ tk cells, (KK w.params).In s.heap → (∃ p loose mean mg mb, Top p loose mean mg mb s.heap) → Fr s.heap L h₁ (bindL (envOfC qual scope L f cdv).kindOf binds fun _ => none) → News s.heap L h₁ cells →
      CellsAre (bindC (envOfC qual scope L f cdv).kindOf binds fun _ => none) (cellsFrom (L + 1) scope.names []) cells →
      wpAny (model PP w) (A.deeper (envOfC qual scope L f cdv)) (execs body (envOfC qual scope L f cdv))
        (fun fl s' => Q (match fl with | .ret v => v | _ => .none) s') (fun _ _ => False) { s with heap := h₁, toks := tk }) :
    wpAny (model PP w) A (call (.ref f) vs kw) Q E s := by
  obtain ⟨p, l, m, g, b, T⟩ := V.t
  refine wpAny_call (codeAny_call_function hroom (V.k _ _ ho) rfl hco hgen rfl (codeRec_of V.k hcd) (hbind _ _ _ _ ?_))
  refine wpAny_newFunctionEnv_cells hk (kindsX hkind _) fun env' he s' x => ?_
  subst he
  refine ⟨T.nolimit.keeps x.toInCall.keep, codeAny_func ?_⟩
  obtain ⟨h₁, tk, rfl, _⟩ := x.done
  have hk₁ := x.toInCall.keep
  obtain ⟨cells, NC, Y⟩ := Cl.news (h₀ := s.heap) (Nat.le_refl _) fun n c hm => ⟨x.cell n c (lookup_of_mem_nodup (cellsFrom_names scope.names 0 (s.heap.objs.size + 1) [] [] rfl ▸ hnd) hm), x.above n c hm⟩
  exact wpAny_mono (h s.heap.objs.size h₁ tk cells V.k ⟨p, l, m, g, b, T⟩ ⟨x.toInCall.ns, hk₁, Nat.le_refl _⟩ NC Y) (fun fl s' hl => hl) fun _ _ y => y.elim
theorem txt_append (a b : List Nat) : txt a ++ txt b = txt (a ++ b) := by
  show (⟨a.toArray ++ b.toArray⟩ : Str) = ⟨(a ++ b).toArray⟩
  rw [List.append_toArray]
theorem add_txt {prog : Program} {w : World} {A : Around} {E : Value → Shared → Prop} {s : Shared} {a b : List Nat} {t u : Tok} {Q : Value → Shared → Prop} (hz : a.length + b.length ≤ 100000) (h : ∀ t' k, Q (.str (txt (a ++ b)) t') { s with toks := k }) : wpAny (model prog w) A (binaryOp .Add (.str (txt a) t) (.str (txt b) u)) Q E s :=
  add_str (fun t' k => by rw [txt_append]; exact h t' k) (by rw [sizeLine_eq]; show a.toArray.size + b.toArray.size ≤ _; simp only [List.size_toArray]; omega)
end
section -- MRuns
open PySem PySem.W PyProof.Rows PySem.Calls
open PySem.W in
/-- by the machine's steps -/
noncomputable abbrev OkW (n₀ : Nat) (ann : Option Value) (ok : Addr → Prop) : Prop := ∀ a, ok a → (Nat.ble n₀ a || a == mainNs || a == cStatics || ann == some (.ref a)) = true
section
variable {tb : String → Option Builtin} {prog : Program} {w : World} {n₀ : Nat} {ann : Option Value}
theorem segGo_add {b : Nat} : ∀ {n m : Nat} {s s' s'' : Shared} {t t' t'' : Thread}, segGo tb prog w n₀ ann b n s t = some (s', t') → segGo tb prog w n₀ ann b m s' t' = some (s'', t'') → segGo tb prog w n₀ ann b (n + m) s t = some (s'', t'')
  | 0, m, s, s', s'', t, t', t'', h, k => by
    obtain ⟨rfl, rfl⟩ : s = s' ∧ t = t' := by simpa [segGo] using h
    rw [Nat.zero_add]; exact k
  | n + 1, m, s, s', s'', t, t', t'', h, k => by
    rw [show n + 1 + m = n + m + 1 by (first | lia | omega)]
    unfold segGo at h ⊢
    cases he : endAt b t with
    | some f => rw [he] at h; cases h
    | none =>
      rw [he] at h
      cases hk : stepOk n₀ ann t with
      | false => rw [hk] at h; cases h
      | true =>
        rw [hk] at h
        cases hs : step (denote tb) prog w s t with
        | halt o s₂ => rw [hs] at h; cases h
        | go s₂ t₂ => rw [hs] at h; exact segGo_add h k
theorem segGo_one {b n : Nat} {s s' s'' : Shared} {t t' t'' : Thread} (he : endAt b t = none) (hk : stepOk n₀ ann t = true) (hs : step (denote tb) prog w s t = .go s' t') (h : segGo tb prog w n₀ ann b n s' t' = some (s'', t'')) :
    segGo tb prog w n₀ ann b (n + 1) s t = some (s'', t'') := by
  unfold segGo
  rw [he, hk, hs]; exact h
noncomputable abbrev stt (h : Heap) (t : Nat) (gens : Array GenState) (drawn : Drawn) (os : OsState) : Shared := ⟨h, gens, drawn, t, os⟩
theorem end_off {b : Nat} {cur : Sem Fin} {c : Code} {p : Pos} {S : List Frame} (h : ∀ f, cur ≠ .pure (.done f)) : endAt b ⟨cur, c, p, S⟩ = none := by
  unfold endAt
  split
  · rename_i f _ e
    exact absurd e (h f)
  · rfl
theorem end_deep {b : Nat} {cur : Sem Fin} {c : Code} {p : Pos} {S : List Frame} (h : b < S.length) : endAt b ⟨cur, c, p, S⟩ = none := by
  unfold endAt
  have : (S.length == b) = false := beq_eq_false_iff_ne.mpr (Nat.ne_of_gt h)
  dsimp only
  rw [this]
end
/-- a tree runs to its end: n steps from (heap, tokens, place), by the machine's steps and by the library's rules -/
structure Goes (tb : String → Option Builtin) (g : Setting) (ok : Addr → Prop) {α : Type} (x : Sem α) (h : Heap) (t : Nat) (p : Pos) (a : α) (h' : Heap) (t' : Nat) (p' : Pos) (n : Nat) : Prop where
  run : ∀ (prog : Program) (w : World) (n₀ : Nat) (ann : Option Value) (gens : Array GenState) (drawn : Drawn) (os : OsState), g = ⟨prog, w.params⟩ → OkW n₀ ann ok → ∀ (K : α → Sem Fin) (H : Value → Sem Fin) (gd : Bool → Bool) (lv : List Value → List Value) (c : Code) (b : Nat) (S : List Frame), b ≤ S.length →
    segGo tb prog w n₀ ann b n (stt h t gens drawn os) ⟨x.wrap K H gd lv, c, p, S⟩ = some (stt h' t' gens drawn os, ⟨K a, c, p', S⟩)
  law : tb = table → ∀ (prog : Program) (w : World) (gens : Array GenState) (drawn : Drawn) (os : OsState), g = ⟨prog, w.params⟩ → ∀ (Γ : Ctx) (Q : α → Pos → Shared → Prop) (E : Value → Pos → Shared → Prop), Q a p' (stt h' t' gens drawn os) →
    Sem.wp (model prog w) Γ x Q E p (stt h t gens drawn os)
structure GoesC (tb : String → Option Builtin) (g : Setting) (ok : Addr → Prop) (c : Code) (h : Heap) (t : Nat) (p : Pos) (f : Flow) (h' : Heap) (t' : Nat) (n : Nat) : Prop where
  run : ∀ (prog : Program) (w : World) (n₀ : Nat) (ann : Option Value) (gens : Array GenState) (drawn : Drawn) (os : OsState), g = ⟨prog, w.params⟩ → OkW n₀ ann ok → ∀ (k : Result → Sem Fin) (hd : Option Value) (gd : Bool) (l : List Value) (c₀ : Code) (p₀ : Pos) (kept : List Value) (b : Nat) (S : List Frame), b ≤ S.length →
    segGo tb prog w n₀ ann b n (stt h t gens drawn os) ⟨denote tb c, c, p, .ret k hd gd l c₀ p₀ kept :: S⟩ = some (stt h' t' gens drawn os, ⟨k (.ok f), c₀, p₀, S⟩)
  law : tb = table → ∀ (prog : Program) (w : World) (gens : Array GenState) (drawn : Drawn) (os : OsState), g = ⟨prog, w.params⟩ → ∀ (Γ : Ctx) (R : Result → Shared → Prop), Γ.code = c → R (.ok f) (stt h' t' gens drawn os) →
    wpCode (model prog w) Γ R p (stt h t gens drawn os)
section
variable {tb : String → Option Builtin} {g : Setting} {ok : Addr → Prop} {α : Type} {h h' h'' : Heap} {t t' t'' : Nat} {p p' p'' : Pos} {a : α} {n m : Nat}
theorem Goes.pure (a : α) (h : Heap) (t : Nat) (p : Pos) : Goes tb g ok (.pure a) h t p a h t p 0 :=
  ⟨fun _ _ _ _ _ _ _ _ _ _ _ _ _ _ _ _ _ => rfl, fun _ _ _ _ _ _ _ _ _ _ hq => hq⟩
theorem Goes.rule {tag : String} {k : Unit → Sem α} (r : Goes tb g ok (k ()) h t p a h' t' p' n) : Goes tb g ok (.rule tag k) h t p a h' t' p' (n + 1) :=
  ⟨fun pr w n₀ ann gs d os hg hok K H gd lv c b S hS => segGo_one (end_off fun _ => nofun) rfl rfl (r.run pr w n₀ ann gs d os hg hok K H gd lv c b S hS), fun e pr w gs d os hg Γ Q E hq => r.law e pr w gs d os hg Γ Q E hq⟩
theorem Goes.at {q : Pos} {k : Unit → Sem α} (r : Goes tb g ok (k ()) h t q a h' t' p' n) : Goes tb g ok (.at q k) h t p a h' t' p' (n + 1) :=
  ⟨fun pr w n₀ ann gs d os hg hok K H gd lv c b S hS => segGo_one (end_off fun _ => nofun) rfl rfl (r.run pr w n₀ ann gs d os hg hok K H gd lv c b S hS), fun e pr w gs d os hg Γ Q E hq => r.law e pr w gs d os hg Γ Q E hq⟩
theorem Goes.load {b : Addr} {q : Option Value} {o : Obj} {k : Obj → Sem α} (e : h.get? b = some o) (r : Goes tb g ok (k o) h t p a h' t' p' n) : Goes tb g ok (.load b q k) h t p a h' t' p' (n + 1) :=
  ⟨fun pr w n₀ ann gs d os hg hok K H gd lv c b' S hS => segGo_one (s' := stt h t gs d os) (end_off fun _ => nofun) rfl (by show (match h.get? _ with | some o => _ | none => _) = _; rw [e]) (r.run pr w n₀ ann gs d os hg hok K H gd lv c b' S hS), fun e' pr w gs d os hg Γ Q E hq => ⟨_, e, r.law e' pr w gs d os hg Γ Q E hq⟩⟩
theorem Goes.update {b : Addr} {q : Option Value} {f : Obj → Obj} {k : Unit → Sem α} (e : (h.get? b).isSome = true) (o : ok b) (r : Goes tb g ok (k ()) (h.update b f) t p a h' t' p' n) : Goes tb g ok (.update b q f k) h t p a h' t' p' (n + 1) :=
  ⟨fun pr w n₀ ann gs d os hg hok K H gd lv c b' S hS => segGo_one (s' := stt (h.update b f) t gs d os) (end_off fun _ => nofun) (hok b o) (by show (if (h.get? b).isSome then _ else _) = _; rw [if_pos e]) (r.run pr w n₀ ann gs d os hg hok K H gd lv c b' S hS), fun e' pr w gs d os hg Γ Q E hq => ⟨e, r.law e' pr w gs d os hg Γ Q E hq⟩⟩
theorem Goes.alloc {o : Obj} {k : Addr → Sem α} (r : Goes tb g ok (k h.objs.size) (h.push o) t p a h' t' p' n) : Goes tb g ok (.alloc o k) h t p a h' t' p' (n + 1) :=
  ⟨fun pr w n₀ ann gs d os hg hok K H gd lv c b S hS => segGo_one (end_off fun _ => nofun) rfl rfl (r.run pr w n₀ ann gs d os hg hok K H gd lv c b S hS), fun e pr w gs d os hg Γ Q E hq => r.law e pr w gs d os hg Γ Q E hq⟩
theorem Goes.point {l : List Value} {k : Unit → Sem α} (r : Goes tb g ok (k ()) h t p a h' t' p' n) : Goes tb g ok (.point l k) h t p a h' t' p' (n + 1) :=
  ⟨fun pr w n₀ ann gs d os hg hok K H gd lv c b S hS => segGo_one (end_off fun _ => nofun) rfl rfl (r.run pr w n₀ ann gs d os hg hok K H gd lv c b S hS), fun e pr w gs d os hg Γ Q E hq => r.law e pr w gs d os hg Γ Q E hq⟩
theorem Goes.fresh {k : Tok → Sem α} (r : Goes tb g ok (k t) h (t + 1) p a h' t' p' n) : Goes tb g ok (.fresh k) h t p a h' t' p' (n + 1) :=
  ⟨fun pr w n₀ ann gs d os hg hok K H gd lv c b S hS => segGo_one (end_off fun _ => nofun) rfl rfl (r.run pr w n₀ ann gs d os hg hok K H gd lv c b S hS), fun e pr w gs d os hg Γ Q E hq => r.law e pr w gs d os hg Γ Q E hq⟩
theorem Goes.ask {k : Setting → Sem α} (r : Goes tb g ok (k g) h t p a h' t' p' n) : Goes tb g ok (.ask k) h t p a h' t' p' (n + 1) :=
  ⟨fun pr w n₀ ann gs d os hg hok K H gd lv c b S hS => segGo_one (end_off fun _ => nofun) rfl rfl (by subst hg; exact r.run pr w n₀ ann gs d os rfl hok K H gd lv c b S hS), fun e pr w gs d os hg Γ Q E hq => by subst hg; exact r.law e pr w gs d os rfl Γ Q E hq⟩
theorem Goes.call {c : Code} {hd : Option Value} {gd : Bool} {l : List Value} {k : Result → Sem α} {f : Flow} (q : GoesC tb g ok c h t p f h' t' m) (r : Goes tb g ok (k (.ok f)) h' t' p a h'' t'' p'' n) : Goes tb g ok (.call c hd gd l k) h t p a h'' t'' p'' (m + n + 1) :=
  ⟨fun pr w n₀ ann gs d os hg hok K H gd lv c₀ b S hS => segGo_one (s' := stt h t gs d os) (end_off fun _ => nofun) rfl rfl (segGo_add (q.run pr w n₀ ann gs d os hg hok _ _ _ _ _ _ _ b S hS) (r.run pr w n₀ ann gs d os hg hok K H gd lv c₀ b S hS)),
   fun e pr w gs d os hg Γ Q E hq => q.law e pr w gs d os hg (Γ.enter c hd p) _ rfl (r.law e pr w gs d os hg Γ Q E hq)⟩
theorem wrap_id (x : Sem Fin) : x.wrap Sem.pure Sem.raise (fun y => y) (fun y => y) = x := (Sem.bind_eq_wrap _ _).symm.trans (Sem.bind_pure _)
theorem GoesC.done {c : Code} {f : Flow} (r : Goes tb g ok (denote tb c) h t p (.done f) h' t' p' n) : GoesC tb g ok c h t p f h' t' (n + 1) :=
  ⟨fun pr w n₀ ann gs d os hg hok k hd gd l c₀ p₀ kept b S hS => by
    have hb : b < (Frame.ret k hd gd l c₀ p₀ kept :: S).length := Nat.lt_succ_of_le hS
    have q := r.run pr w n₀ ann gs d os hg hok .pure .raise (fun x => x) (fun x => x) c b (.ret k hd gd l c₀ p₀ kept :: S) (Nat.le_of_lt hb)
    rw [wrap_id] at q
    exact segGo_add q (segGo_one (end_deep hb) rfl rfl rfl),
   fun e pr w gs d os hg Γ R hc hq => (wpCode_iff_wp _ _ _ _ _).mpr (by subst e; rw [hc]; exact r.law rfl pr w gs d os hg Γ _ _ hq)⟩
theorem GoesC.again {c : Code} {id : String} {args : Args} {f : Flow} (r : Goes tb g ok (denote tb c) h t p (.again (.builtin id args)) h' t' p' n) (e : id.startsWith "lifetime." = false) (q : GoesC tb g ok (.builtin id args) h' t' p' f h'' t'' m) : GoesC tb g ok c h t p f h'' t'' (n + 1 + m) :=
  ⟨fun pr w n₀ ann gs d os hg hok k hd gd l c₀ p₀ kept b S hS => by
    have hb : b < (Frame.ret k hd gd l c₀ p₀ kept :: S).length := Nat.lt_succ_of_le hS
    have q' := r.run pr w n₀ ann gs d os hg hok .pure .raise (fun x => x) (fun x => x) c b (.ret k hd gd l c₀ p₀ kept :: S) (Nat.le_of_lt hb)
    rw [wrap_id] at q'
    rw [show n + 1 + m = n + (m + 1) by (first | lia | omega)]
    refine segGo_add q' (segGo_one (end_deep hb) ?_ step_again (q.run pr w n₀ ann gs d os hg hok k hd gd l c₀ p₀ _ b S hS))
    simp [stepOk, Thread.calm, Thread.atCollectorCode, Thread.yieldsInsideHandler, e],
   fun e' pr w gs d os hg Γ R hc hq => (wpCode_iff_wp _ _ _ _ _).mpr (by subst e'; rw [hc]; exact r.law rfl pr w gs d os hg Γ _ _ ⟨Code.quiet_builtin _ e, q.law rfl pr w gs d os hg (Γ.goto _) R rfl hq⟩)⟩
theorem Goes.bind {β : Type} {x : Sem α} {b : β} {f : α → Sem β} (r : Goes tb g ok x h t p a h' t' p' n) (q : Goes tb g ok (f a) h' t' p' b h'' t'' p'' m) : Goes tb g ok (x.bind f) h t p b h'' t'' p'' (n + m) :=
  ⟨fun pr w n₀ ann gs d os hg hok K H gd lv c b' S hS => by
    rw [Sem.bind_eq_wrap, Sem.wrap_wrap]
    exact segGo_add (r.run pr w n₀ ann gs d os hg hok (fun a => (f a).wrap K H gd lv) _ _ _ c b' S hS) (q.run pr w n₀ ann gs d os hg hok K H gd lv c b' S hS),
   fun e pr w gs d os hg Γ Q E hq => by rw [Sem.wp_bind]; exact r.law e pr w gs d os hg Γ _ _ (q.law e pr w gs d os hg Γ Q E hq)⟩
theorem Goes.keep {x : Sem α} (vs : List Value) (r : Goes tb g ok x h t p a h' t' p' n) : Goes tb g ok (x.keep vs) h t p a h' t' p' n :=
  ⟨fun pr w n₀ ann gs d os hg hok K H gd lv c b S hS => by
    rw [Sem.keep_eq_wrap, Sem.wrap_wrap]
    exact r.run pr w n₀ ann gs d os hg hok (fun a => (Sem.pure a).wrap K H gd lv) _ _ _ c b S hS,
   fun e pr w gs d os hg Γ Q E hq => by rw [Sem.wp_keep]; exact r.law e pr w gs d os hg Γ Q E hq⟩
theorem Goes.holding {x : Sem α} (vs : List Value) (r : Goes tb g ok x h t p a h' t' p' n) : Goes tb g ok (PySem.holding vs x) h t p a h' t' p' n := by
  unfold PySem.holding
  split
  · exact r
  · exact r.keep _
theorem Goes.onRaise {x : Sem α} (f : Value → Sem Unit) (r : Goes tb g ok x h t p a h' t' p' n) : Goes tb g ok (x.onRaise f) h t p a h' t' p' n :=
  ⟨fun pr w n₀ ann gs d os hg hok K H gd lv c b S hS => by
    rw [Sem.onRaise_eq_wrap, Sem.wrap_wrap]
    exact r.run pr w n₀ ann gs d os hg hok (fun a => (Sem.pure a).wrap K H gd lv) _ _ _ c b S hS,
   fun e pr w gs d os hg Γ Q E hq => by rw [Sem.wp_onRaise]; exact r.law e pr w gs d os hg Γ Q _ hq⟩
end
section
variable {prog : Program} {w : World} {ok : Addr → Prop} {n₀ : Nat} {ann : Option Value} {gens : Array GenState} {drawn : Drawn} {os : OsState}
theorem Goes.seg {tb : String → Option Builtin} {α : Type} {x : Sem α} {h h' : Heap} {t t' : Nat} {p p' : Pos} {a : α} {n : Nat} (hok : OkW n₀ ann ok) (r : Goes tb ⟨prog, w.params⟩ ok x h t p a h' t' p' n) (K : α → Sem Fin) (H : Value → Sem Fin) (gd : Bool → Bool) (lv : List Value → List Value) (c : Code) (b : Nat) (S : List Frame) (hS : b ≤ S.length) :
    segGo tb prog w n₀ ann b n (stt h t gens drawn os) ⟨x.wrap K H gd lv, c, p, S⟩ = some (stt h' t' gens drawn os, ⟨K a, c, p', S⟩) := r.run prog w n₀ ann gens drawn os rfl hok K H gd lv c b S hS
theorem Goes.wpAny {α : Type} {A : Around} {x : Sem α} {s : Shared} {h' : Heap} {t' : Nat} {Q : α → Shared → Prop} {E : Value → Shared → Prop} {a : α} (r : ∀ p, ∃ p' n, Goes table ⟨prog, w.params⟩ ok x s.heap s.toks p a h' t' p' n) (hq : Q a { s with heap := h', toks := t' }) :
    wpAny (model prog w) A x Q E s := fun Γ p _ => by
  obtain ⟨p', n, r⟩ := r p
  exact r.law rfl prog w s.gens s.drawn s.os rfl Γ _ _ hq
end
end
section -- MDict
open PySem PySem.W PyProof.Rows PySem.Calls
noncomputable def hashK (k : Int) (u : Tok) (g : Setting) : Sem Int := match pyHash (.int k u) with
  | .ask f => f g
  | _ => .pure 0
noncomputable def hashC (k : Int) (u : Tok) (g : Setting) : Result → Sem Int := match hashK k u g with
  | .call _ _ _ _ f => f
  | _ => fun _ => .pure 0
theorem hash_t1 (k : Int) (u : Tok) : pyHash (.int k u) = .ask (hashK k u) := by kernel_rfl
noncomputable abbrev setRow (g : Setting) (b : Bool) : Setting := ⟨g.program, { g.params with followText := fun _ => b }⟩
theorem hash_t2a (k : Int) (u : Tok) (g : Setting) : hashK k u g = hashK k u (setRow g (g.params.followText "special-get-raises")) := by kernel_rfl
theorem hash_t2b (k : Int) (u : Tok) (g : Setting) (b : Bool) : hashK k u (setRow g b) = .call (.call (.builtin "int.__hash__") ⟨[.int k u], []⟩) none false [] (hashC k u (setRow g b)) := by
  cases b
  · kernel_rfl
  · kernel_rfl
theorem hash_t3a (k i : Int) (u t : Tok) (g : Setting) (b : Bool) : hashC k u (setRow g b) (.ok (.ret (.int i t))) = pyHashByItsType.reduced i := by
  cases b
  · kernel_rfl
  · kernel_rfl
theorem hash_t2 (k : Int) (u : Tok) (g : Setting) : hashK k u g = .call (.call (.builtin "int.__hash__") ⟨[.int k u], []⟩) none false [] (hashC k u (setRow g (g.params.followText "special-get-raises"))) := by
  rw [hash_t2a]; exact hash_t2b k u g _
theorem hash_t3 (k i : Int) (u t : Tok) (g : Setting) : hashC k u (setRow g (g.params.followText "special-get-raises")) (.ok (.ret (.int i t))) = pyHashByItsType.reduced i := hash_t3a k i u t g _
theorem hash_t4 (k : Int) (u : Tok) : denote table (.call (.builtin "int.__hash__") ⟨[.int k u], []⟩) = .pure (.again (.builtin "int.__hash__" ⟨[.int k u], []⟩)) := by kernel_rfl
theorem denote_builtin {id : String} {args : Args} {b : Builtin} (hb : entryFor table id = some b) : denote table (.builtin id args) = b args := by
  show (match entryFor table id with | some b => b args | none => unsupported ((withoutEnding? id "#data").getD id)) = _
  rw [hb]
theorem hash_t5a (k : Int) (u : Tok) : Builtin.«int.__hash__» ⟨[.int k u], []⟩ = .fresh fun t => .pure (.done (.ret (.int (rawHash k) t))) := by kernel_rfl
theorem hash_t5 (k : Int) (u : Tok) : denote table (.builtin "int.__hash__" ⟨[.int k u], []⟩) = .fresh fun t => .pure (.done (.ret (.int (rawHash k) t))) := by
  rw [denote_builtin entry_int_hash, hash_t5a]
theorem hash_t6 (k : Int) : pyHashByItsType.reduced (rawHash k) = .pure (hashInt k) := by
  have hr := rawHash_range k
  unfold pyHashByItsType.reduced
  rw [if_pos (by rw [decide_eq_true hr.1, decide_eq_true hr.2]; rfl)]
  rfl
section
variable {g : Setting} {ok : Addr → Prop} {h : Heap} {t : Nat} {p : Pos}
theorem goes_hash (k : Int) (u : Tok) : Goes table g ok (pyHash (.int k u)) h t p (hashInt k) h (t + 1) p 5 := by
  rw [hash_t1]
  refine .ask ?_
  rw [hash_t2]
  have c : GoesC table g ok (.call (.builtin "int.__hash__") ⟨[.int k u], []⟩) h t p (.ret (.int (rawHash k) t)) h (t + 1) (0 + 1 + 2) :=
    .again (by rw [hash_t4]; exact .pure ..) (by decide +kernel) (.done (p' := p) (n := 1) (by rw [hash_t5]; exact .fresh (.pure ..)))
  have := Goes.call (n := 0) (m := 3) (hd := none) (gd := false) (l := []) (k := hashC k u (setRow g (g.params.followText "special-get-raises"))) c (by rw [hash_t3, hash_t6]; exact .pure ..)
  exact this

noncomputable abbrev dob (es : Array DictEntry) (n : Nat) : Obj := { cls := .type "dict", data := .dict es n }
theorem upd_congr {h : Heap} {d : Addr} {f f' : Obj → Obj} (e : ∀ o, h.objs[d]? = some o → f o = f' o) : h.update d f = h.update d f' := by
  obtain ⟨o, l⟩ := h
  show (⟨o.modify d f, l⟩ : Heap) = ⟨o.modify d f', l⟩
  congr 1
  apply Array.ext_getElem?
  intro i
  rw [Array.getElem?_modify, Array.getElem?_modify]
  by_cases hi : d = i
  · subst hi
    rw [if_pos rfl, if_pos rfl]
    cases hd : o[d]? with
    | none => rfl
    | some x => exact congrArg some (e x hd)
  · rw [if_neg hi, if_neg hi]
theorem upd_upd (h : Heap) (d : Addr) (f f' : Obj → Obj) : (h.update d f).update d f' = h.update d (fun o => f' (f o)) := by
  obtain ⟨o, l⟩ := h
  show (⟨(o.modify d f).modify d f', l⟩ : Heap) = ⟨o.modify d (fun o => f' (f o)), l⟩
  congr 1
  apply Array.ext_getElem?
  intro i
  simp only [Array.getElem?_modify]
  by_cases hi : d = i
  · subst hi; simp; rfl
  · simp [hi]
theorem upd_last (h : Heap) (o : Obj) (f : Obj → Obj) : (h.push o).update h.objs.size f = h.push (f o) := by
  obtain ⟨os, l⟩ := h
  show (⟨(os.push o).modify os.size f, l⟩ : Heap) = ⟨os.push (f o), l⟩
  congr 1
  apply Array.ext_getElem?
  intro i
  rw [Array.getElem?_modify, Array.getElem?_push, Array.getElem?_push]
  by_cases hi : i = os.size
  · subst hi; simp
  · simp [hi, Ne.symm hi]
theorem obj_of_get {h : Heap} {d : Addr} {o : Obj} (e : h.get? d = some o) : h.objs[d]? = some o := by
  unfold Heap.get? at e
  split at e
  · cases e
  · exact e
theorem get_put {h : Heap} {d : Addr} {o o' : Obj} (e : h.get? d = some o) (ha : ∀ c x s, o' ≠ ⟨c, x, .freed, s⟩) : (h.update d fun _ => o').get? d = some o' := by
  have := obj_of_get e
  unfold Heap.get?
  rw [Heap.objs_update_self, this]
  show (match some o' with | some ⟨_, _, .freed, _⟩ => none | o => o) = some o'
  split
  · rename_i h1
    exact absurd (Option.some.inj h1) (ha _ _ _)
  · rfl
theorem get_put_dob {h : Heap} {d : Addr} {o : Obj} {es : Array DictEntry} {n : Nat} (e : h.get? d = some o) : (h.update d fun _ => dob es n).get? d = some (dob es n) := get_put e (by intro c x s q; cases q)
theorem places_none {es : Array DictEntry} {k : Int} (hf : ∀ e ∈ es, e.hash ≠ k) : placesWithHash es.size (fun i => es[i]?.map (·.hash)) k = [] := by
  unfold placesWithHash
  rw [List.filter_eq_nil_iff]
  intro i _ hi
  rw [beq_iff_eq, Option.map_eq_some_iff] at hi
  obtain ⟨e, he, hk⟩ := hi
  exact hf e (Array.mem_of_getElem? he) hk
variable {h' : Heap}
theorem goes_find {d : Addr} {es : Array DictEntry} {n : Nat} {k : Int} {u : Tok} (j : Int) (ho : h.get? d = some (dob es n)) (hf : ∀ e ∈ es, e.hash ≠ j) : Goes table g ok (dictFind d (.int k u) j) h t p none h t p 1 := by
  unfold dictFind
  refine Goes.holding _ ?_
  refine Goes.bind (n := 1) (m := 0) (a := es) (.load ho (.pure ..)) ?_
  dsimp only
  rw [places_none hf]
  simp only [List.filterMap_nil, List.all_cons, List.all_nil, carriedByValue, Bool.and_self, if_true]
  unfold dictWalkPlain
  exact .pure ..
theorem goes_updKeys {d : Addr} {es : Array DictEntry} {n : Nat} {e : DictEntry} (part : Option Value) (ho : h.get? d = some (dob es n)) (hk : ok d) (hz : es.size < 1000) :
    Goes table g ok (updateDictKeys d (·.push e) part) h t p () (h.update d fun _ => dob (es.push e) (n + 1)) t p 3 := by
  have e1 : (h.update d (Obj.mapDictKeys (·.push e))) = h.update d fun _ => dob (es.push e) (n + 1) := by
    refine upd_congr fun o ho' => ?_
    rw [obj_of_get ho] at ho'
    cases ho'; rfl
  have e2 : (h.update d fun _ => dob (es.push e) (n + 1)).get? d = some (dob (es.push e) (n + 1)) := get_put_dob ho
  unfold updateDictKeys
  refine Goes.bind (n := 1) (m := 2) (a := dob es n) (.load ho (.pure ..)) ?_
  dsimp only
  refine Goes.bind (n := 1) (m := 1) (a := ()) (.update (by rw [ho]; rfl) hk (.pure ..)) ?_
  rw [e1]
  unfold lookBehind
  refine Goes.bind (n := 1) (m := 0) (a := dob (es.push e) (n + 1)) (.load e2 (.pure ..)) ?_
  have : (dob (es.push e) (n + 1)).data.pastItsLine = none := by
    show (if (es.push e).size > sizeLine + 1 then some "dict:memory" else none) = none
    rw [if_neg]
    rw [Array.size_push, sizeLine_eq]; (first | lia | omega)
  rw [this]
  exact .pure ..

/-- one more entry -/
noncomputable def put1 (h : Heap) (d : Addr) (es : Array DictEntry) (n : Nat) : Heap := h.update d fun _ => dob es n
theorem goes_set {d : Addr} {es : Array DictEntry} {n : Nat} {k : Int} {u : Tok} {v : Value} (ho : h.get? d = some (dob es n)) (hk : ok d) (hz : es.size < 1000) (hf : ∀ e ∈ es, e.hash ≠ hashInt k) :
    Goes table g ok (dictSet d (.int k u) v) h t p () (put1 h d (es.push ⟨hashInt k, .int k u, v⟩) (n + 1)) (t + 1) p 10 := by
  unfold dictSet
  refine Goes.holding _ (Goes.bind (n := 5) (m := 5) (goes_hash k u) ?_)
  unfold dictSetHashed
  refine Goes.holding _ (Goes.bind (n := 1) (m := 4) (goes_find _ ho hf) ?_)
  dsimp only
  exact .rule (goes_updKeys _ ho hk hz)
theorem goes_put {d : Addr} {es : Array DictEntry} {n : Nat} {j k : Int} {u : Tok} {v : Value} (ho : h.get? d = some (dob es n)) (hk : ok d) (hz : es.size < 1000) (hf : ∀ e ∈ es, e.hash ≠ j) :
    Goes table g ok (dictPut d j (.int k u) v) h t p () (put1 h d (es.push ⟨j, .int k u, v⟩) (n + 1)) t p 4 := by
  unfold dictPut
  refine Goes.bind (n := 1) (m := 3) (goes_find _ ho hf) ?_
  exact goes_updKeys _ ho hk hz
theorem get_put1 {d : Addr} {o : Obj} {es : Array DictEntry} {n : Nat} (e : h.get? d = some o) : (put1 h d es n).get? d = some (dob es n) := get_put_dob e
theorem get_put1_ne {d b : Addr} {es : Array DictEntry} {n : Nat} (hb : b ≠ d) : (put1 h d es n).get? b = h.get? b := Heap.get?_update_ne _ _ _ _ hb
theorem put1_put1 (h : Heap) (d : Addr) (es es' : Array DictEntry) (n n' : Nat) : put1 (put1 h d es n) d es' n' = put1 h d es' n' := upd_upd _ _ _ _
theorem put1_last (h : Heap) (o : Obj) (es : Array DictEntry) (n : Nat) : put1 (h.push o) h.objs.size es n = h.push (dob es n) := upd_last _ _ _
theorem put1_push {d : Addr} (o : Obj) (es : Array DictEntry) (n : Nat) (hd : d ≠ h.objs.size) : put1 (h.push o) d es n = (put1 h d es n).push o := Heap.update_push _ _ _ _ hd
theorem put1_self {d : Addr} {es : Array DictEntry} {n : Nat} (e : h.get? d = some (dob es n)) : put1 h d es n = h := by
  obtain ⟨os, l⟩ := h
  show (⟨os.modify d _, l⟩ : Heap) = ⟨os, l⟩
  congr 1
  apply Array.ext_getElem?
  intro i
  rw [Array.getElem?_modify]
  by_cases hi : d = i
  · subst hi
    have : os[d]? = some (dob es n) := obj_of_get e
    rw [this, if_pos rfl]; rfl
  · rw [if_neg hi]
/-- a constant of the text: its value takes one token -/
noncomputable abbrev CK (g : Setting) (ok : Addr → Prop) (x : Sem Value) (k : Int) : Prop := ∀ h t p, Goes table g ok x h t p (.int k t) h (t + 1) p 1
noncomputable abbrev CV (g : Setting) (ok : Addr → Prop) (q : Pos) (x : Sem Value) (v : Tok → Value) : Prop := ∀ h t p, Goes table g ok x h t p (v t) h (t + 1) q 2
/-- the pairs of a display and what they say -/
inductive Says (g : Setting) (ok : Addr → Prop) (q : Pos) : List (Sem Value × Sem Value) → List (Int × (Tok → Value)) → Prop
  | nil : Says g ok q [] []
  | cons {x y : Sem Value} {k : Int} {v : Tok → Value} {r : List (Sem Value × Sem Value)} {l : List (Int × (Tok → Value))} : CK g ok x k → CV g ok q y v → Says g ok q r l → Says g ok q ((x, y) :: r) ((k, v) :: l)
noncomputable def entL : Nat → List (Int × (Tok → Value)) → List DictEntry
  | _, [] => []
  | t, (k, v) :: r => ⟨hashInt k, .int k t, v (t + 1)⟩ :: entL (t + 3) r
noncomputable def entS : Nat → List (Int × (Tok → Value)) → List DictEntry
  | _, [] => []
  | t, (k, v) :: r => ⟨hashInt k, .int k t, v (t + 1)⟩ :: entS (t + 2) r
/-- keys that are new -/
noncomputable def New (es : List DictEntry) (l : List (Int × (Tok → Value))) : Prop := (∀ e ∈ es, ∀ x ∈ l, e.hash ≠ hashInt x.1) ∧ (l.map fun x => hashInt x.1).Nodup
theorem New.tail {es : List DictEntry} {x : Int × (Tok → Value)} {l : List (Int × (Tok → Value))} (N : New es (x :: l)) (e : DictEntry) (he : e.hash = hashInt x.1) : New (es ++ [e]) l := by
  obtain ⟨a, b⟩ := N
  rw [List.map_cons, List.nodup_cons] at b
  refine ⟨fun e' he' y hy => ?_, b.2⟩
  rcases List.mem_append.mp he' with h1 | h1
  · exact a _ h1 y (List.mem_cons_of_mem _ hy)
  · rw [List.mem_singleton.mp h1, he]
    intro q
    exact b.1 (q ▸ List.mem_map_of_mem (f := fun x : Int × (Tok → Value) => hashInt x.1) hy)
theorem goes_loopL {q : Pos} {d : Addr} : ∀ {pairs : List (Sem Value × Sem Value)} {l : List (Int × (Tok → Value))} (_ : Says g ok q pairs l) (es : List DictEntry) (n t : Nat) (p : Pos) (h : Heap), h.get? d = some (dob es.toArray n) → ok d → es.length + l.length < 1000 → New es l →
    Goes table g ok (forIn pairs PUnit.unit fun (x : Sem Value × Sem Value) (_ : PUnit) => (do
      let kv ← x.1
      let vv ← holding [kv] x.2
      holding [kv, vv] (dictSet d kv vv)
      pure (ForInStep.yield PUnit.unit) : Sem (ForInStep PUnit))) h t p PUnit.unit (put1 h d (es ++ entL t l).toArray (n + l.length)) (t + 3 * l.length) (if l.isEmpty then p else q) (13 * l.length)
  | _, _, .nil, es, n, t, p, h, ho, _, _, _ => by
    rw [List.forIn_nil]
    show Goes table g ok (.pure _) h t p PUnit.unit (put1 h d (es ++ []).toArray n) t p 0
    rw [List.append_nil, put1_self ho]
    exact .pure ..
  | _, _, .cons (x := x) (y := y) (k := k) (v := v) (r := r) (l := l) cx cy s, es, n, t, p, h, ho, hk, hz, N => by
    rw [List.forIn_cons]
    have hf : ∀ e ∈ es.toArray, e.hash ≠ hashInt k := fun e he => N.1 e (by simpa using he) _ (List.mem_cons_self ..)
    rw [List.length_cons] at hz ⊢
    have hset := goes_set (g := g) (ok := ok) (t := t + 1 + 1) (p := q) (u := t) (v := v (t + 1)) ho hk (by rw [List.size_toArray]; (first | lia | omega)) hf
    have hput := get_put1 (es := (es.toArray.push ⟨hashInt k, .int k t, v (t + 1)⟩)) (n := n + 1) ho
    rw [List.push_toArray] at hput hset
    have ih := goes_loopL (q := q) (d := d) s (es ++ [⟨hashInt k, .int k t, v (t + 1)⟩]) (n + 1) (t + 3) q _ hput hk (by rw [List.length_append, List.length_singleton]; (first | lia | omega)) (N.tail _ rfl)
    rw [put1_put1, List.append_assoc, show n + 1 + l.length = n + (l.length + 1) by (first | lia | omega), show t + 3 + 3 * l.length = t + 3 * (l.length + 1) by (first | lia | omega), ite_self] at ih
    rw [show 13 * (l.length + 1) = 13 + 13 * l.length by (first | lia | omega)]
    refine Goes.bind (n := 13) (a := ForInStep.yield PUnit.unit) (p' := q) ?_ ih
    refine Goes.bind (n := 1) (m := 12) (cx _ _ _) (Goes.bind (n := 2) (m := 10) (Goes.holding _ (cy _ _ _)) (Goes.bind (n := 10) (m := 0) (Goes.holding _ hset) (.pure ..)))
end
end
section -- MDict2
open PySem PySem.W PyProof.Rows PySem.Calls
section
variable {g : Setting} {ok : Addr → Prop} {q : Pos}
theorem Says.length {pairs : List (Sem Value × Sem Value)} {l : List (Int × (Tok → Value))} (s : Says g ok q pairs l) : pairs.length = l.length := by
  induction s with
  | nil => rfl
  | cons _ _ _ ih => rw [List.length_cons, List.length_cons, ih]
theorem get_new (h : Heap) (es : Array DictEntry) (n : Nat) : (h.push (dob es n)).get? h.objs.size = some (dob es n) := Heap.get?_push_size _ rfl
theorem goes_subL {pairs : List (Sem Value × Sem Value)} {l : List (Int × (Tok → Value))} (s : Says g ok q pairs l) (hl : 16 ≤ l.length) (hz : l.length < 1000) (N : New [] l) (h : Heap) (t : Nat) (p : Pos) (hk : ok h.objs.size) :
    Goes table g ok (subDict pairs) h t p h.objs.size (h.push (dob (entL t l).toArray l.length)) (t + 3 * l.length) q (13 * l.length + 2) := by
  have e := goes_loopL s [] 0 t p (h.push (dob #[] 0)) (get_new h _ _) hk (by simpa using hz) N
  rw [put1_last, List.nil_append, Nat.zero_add] at e
  have hne : l.isEmpty = false := by cases l with | nil => simp at hl | cons _ _ => rfl
  rw [hne] at e
  unfold subDict
  refine .alloc ?_
  refine Goes.bind (n := 13 * l.length + 1) (m := 0) (a := ()) (Goes.holding _ ?_) (.pure ..)
  rw [if_neg (by rw [s.length]; (first | lia | omega))]
  refine .rule ?_
  have := Goes.bind (m := 0) (f := fun _ => (pure () : Sem Unit)) e (.pure ..)
  exact this
theorem goes_evalPairs : ∀ {pairs : List (Sem Value × Sem Value)} {l : List (Int × (Tok → Value))} (_ : Says g ok q pairs l) (h : Heap) (t : Nat) (p : Pos), 
    Goes table g ok (evalPairs pairs) h t p ((entS t l).map fun e => (e.key, e.val)) h (t + 2 * l.length) (if l.isEmpty then p else q) (3 * l.length)
  | _, _, .nil, h, t, p => .pure ..
  | _, _, .cons (x := x) (y := y) (k := k) (v := v) (r := r) (l := l) cx cy s, h, t, p => by
    have ih := goes_evalPairs s h (t + 2) q
    rw [ite_self] at ih
    rw [evalPairs, List.length_cons, show t + 2 * (l.length + 1) = t + 2 + 2 * l.length by (first | lia | omega), show 3 * (l.length + 1) = 1 + (2 + 3 * l.length) by (first | lia | omega)]
    refine Goes.bind (cx _ _ _) (Goes.bind (n := 2) (Goes.holding _ (cy _ _ _)) (Goes.bind (m := 0) (Goes.holding _ ih) (.pure ..)))
theorem goes_storeS {d : Addr} : ∀ (l : List (Int × (Tok → Value))) (es : List DictEntry) (n t t₀ : Nat) (p : Pos) (h : Heap), h.get? d = some (dob es.toArray n) → ok d → es.length + l.length < 1000 → New es l →
    Goes table g ok (forIn ((entS t₀ l).map fun e => (e.key, e.val)) PUnit.unit fun (x : Value × Value) (_ : PUnit) => (do
      dictSet d x.1 x.2
      pure (ForInStep.yield PUnit.unit) : Sem (ForInStep PUnit))) h t p PUnit.unit (put1 h d (es ++ entS t₀ l).toArray (n + l.length)) (t + l.length) p (10 * l.length)
  | [], es, n, t, t₀, p, h, ho, _, _, _ => by
    show Goes table g ok (forIn [] PUnit.unit _) _ _ _ _ _ _ _ _
    rw [List.forIn_nil]
    show Goes table g ok (.pure _) h t p PUnit.unit (put1 h d (es ++ []).toArray n) t p 0
    rw [List.append_nil, put1_self ho]
    exact .pure ..
  | (k, v) :: l, es, n, t, t₀, p, h, ho, hk, hz, N => by
    have hf : ∀ e ∈ es.toArray, e.hash ≠ hashInt k := fun e he => N.1 e (by simpa using he) _ (List.mem_cons_self ..)
    rw [List.length_cons] at hz ⊢
    have hset := goes_set (g := g) (ok := ok) (t := t) (p := p) (u := t₀) (v := v (t₀ + 1)) ho hk (by rw [List.size_toArray]; (first | lia | omega)) hf
    have hput := get_put1 (es := (es.toArray.push ⟨hashInt k, .int k t₀, v (t₀ + 1)⟩)) (n := n + 1) ho
    rw [List.push_toArray] at hput hset
    have ih := goes_storeS (d := d) l (es ++ [⟨hashInt k, .int k t₀, v (t₀ + 1)⟩]) (n + 1) (t + 1) (t₀ + 2) p _ hput hk (by rw [List.length_append, List.length_singleton]; (first | lia | omega)) (N.tail _ rfl)
    rw [put1_put1, List.append_assoc, show n + 1 + l.length = n + (l.length + 1) by (first | lia | omega), show t + 1 + l.length = t + (l.length + 1) by (first | lia | omega)] at ih
    rw [show 10 * (l.length + 1) = 10 + 10 * l.length by (first | lia | omega)]
    show Goes table g ok (forIn ((Value.int k t₀, v (t₀ + 1)) :: (entS (t₀ + 2) l).map fun e => (e.key, e.val)) PUnit.unit _) _ _ _ _ _ _ _ _
    rw [List.forIn_cons]
    refine Goes.bind (n := 10) (a := ForInStep.yield PUnit.unit) (p' := p) ?_ ih
    exact Goes.bind (n := 10) (m := 0) hset (.pure ..)
theorem goes_subS {pairs : List (Sem Value × Sem Value)} {l : List (Int × (Tok → Value))} (s : Says g ok q pairs l) (hl : l.length ≤ 15) (h0 : l ≠ []) (N : New [] l) (h : Heap) (t : Nat) (p : Pos) (hk : ok h.objs.size) :
    Goes table g ok (subDict pairs) h t p h.objs.size (h.push (dob (entS t l).toArray l.length)) (t + 3 * l.length) q (13 * l.length + 1) := by
  have e := goes_storeS (g := g) (ok := ok) l [] 0 (t + 2 * l.length) t q (h.push (dob #[] 0)) (get_new h _ _) hk (by simp; (first | lia | omega)) N
  have e1 := goes_evalPairs s (h.push (dob #[] 0)) t p
  rw [put1_last, List.nil_append, Nat.zero_add] at e
  have hne : l.isEmpty = false := by cases l with | nil => exact absurd rfl h0 | cons _ _ => rfl
  rw [hne] at e1
  unfold subDict
  rw [show 13 * l.length + 1 = (3 * l.length + 10 * l.length) + 1 by (first | lia | omega), show t + 3 * l.length = t + 2 * l.length + l.length by (first | lia | omega)]
  refine .alloc ?_
  refine Goes.bind (m := 0) (a := ()) (Goes.holding _ ?_) (.pure ..)
  rw [if_pos (by rw [s.length]; exact hl)]
  exact Goes.bind e1 (Goes.holding _ (Goes.bind (m := 0) e (.pure ..)))
end
end
section -- MDict3
open PySem PySem.W PyProof.Rows PySem.Calls
theorem sub_dict : isSubtype (.type "dict") (.type "dict") = pure true := by rw [isSubtype_type]; kernel_rfl
theorem look_dict_iter : typeLookup (.type "dict") (Str.ofString "__iter__") = pure (some (.builtin "dict.__iter__")) := by rw [typeLookup_type, builtinLookup_eq_fast]; kernel_rfl
section
variable {g : Setting} {ok : Addr → Prop}
theorem Goes.to {α : Type} {x : Sem α} {h h' : Heap} {t t' : Nat} {p p' : Pos} {a : α} {n m : Nat} (r : Goes table g ok x h t p a h' t' p' n) (e : n = m) : Goes table g ok x h t p a h' t' p' m := e ▸ r
theorem goes_range' {f : Nat → PUnit → Sem (ForInStep PUnit)} {St : Nat → Heap} {t c m : Nat} {p : Pos} (hf : ∀ i, i < m → Goes table g ok (f i PUnit.unit) (St i) t p (.yield PUnit.unit) (St (i + 1)) t p c) : ∀ k i, i + k = m → Goes table g ok (forIn (List.range' i k) PUnit.unit f) (St i) t p PUnit.unit (St m) t p (c * k)
  | 0, i, e => by
    obtain rfl : i = m := e
    rw [List.range'_zero, List.forIn_nil, Nat.mul_zero]
    exact .pure ..
  | k + 1, i, e => by
    rw [List.range'_succ, List.forIn_cons]
    exact Goes.to (Goes.bind (n := c) (m := c * k) (hf i (by (first | lia | omega))) (goes_range' hf k (i + 1) (by (first | lia | omega)))) (by rw [Nat.mul_succ, Nat.add_comm])
theorem goes_range {f : Nat → PUnit → Sem (ForInStep PUnit)} {St : Nat → Heap} {t c m : Nat} {p : Pos} (hf : ∀ i, i < m → Goes table g ok (f i PUnit.unit) (St i) t p (.yield PUnit.unit) (St (i + 1)) t p c) : Goes table g ok (forIn (List.range m) PUnit.unit f) (St 0) t p PUnit.unit (St m) t p (c * m) := by
  rw [List.range_eq_range']
  exact goes_range' hf m 0 (by (first | lia | omega))
theorem goes_entries {d : Addr} {es : Array DictEntry} {n : Nat} {h : Heap} {t : Nat} {p : Pos} {part : Option Value} (ho : h.get? d = some (dob es n)) : Goes table g ok (dictEntries d part) h t p es h t p 1 := .load ho (.pure ..)
theorem goes_epoch {d : Addr} {es : Array DictEntry} {n : Nat} {h : Heap} {t : Nat} {p : Pos} {part : Option Value} (ho : h.get? d = some (dob es n)) : Goes table g ok (dictEpoch d part) h t p n h t p 1 := .load ho (.pure ..)
theorem goes_isdict {a : Addr} {es : Array DictEntry} {n : Nat} {h : Heap} {t : Nat} {p : Pos} (ha : h.get? a = some (dob es n)) : Goes table g ok (isInstance (.ref a) (.type "dict")) h t p true h t p 1 := by
  unfold isInstance
  refine Goes.bind (n := 1) (m := 0) (a := Value.type "dict") (.load ha (.pure ..)) ?_
  rw [sub_dict]
  exact .pure ..
theorem goes_dictIter {a : Addr} {es : Array DictEntry} {n : Nat} {h : Heap} {t : Nat} {p : Pos} (ha : h.get? a = some (dob es n)) : Goes table g ok (specialOf (.ref a) (Str.ofString "__iter__")) h t p (some (.builtin "dict.__iter__")) h t p 1 := by
  unfold specialOf
  refine Goes.bind (n := 1) (m := 0) (a := Value.type "dict") (.load ha (.pure ..)) ?_
  rw [look_dict_iter]
  exact .pure ..
theorem goes_merge {d a : Addr} (hda : d ≠ a) (hs : (a == sysModules) = false) {es es' : List DictEntry} {n n' : Nat} (h : Heap) (t : Nat) (p : Pos) (hd : h.get? d = some (dob es.toArray n)) (ha : h.get? a = some (dob es'.toArray n')) (hne : es ≠ []) (hint : ∀ e ∈ es', ∃ k u, e.key = .int k u) (hk : ok d)
    (hz : es.length + es'.length < 1000) (hnew : ∀ e ∈ es, ∀ e' ∈ es', e.hash ≠ e'.hash) (hnd : (es'.map (·.hash)).Nodup) :
    Goes table g ok (mergeMapping d (.ref a) false) h t p () (put1 h d (es ++ es').toArray (n + es'.length)) t p (6 * es'.length + 5) := by
  have hx : ((some (Value.builtin "dict.__iter__") : Option Value) == some (.builtin "dict.__iter__")) = true := by simp
  have hem : es.toArray.isEmpty = false := by cases es with | nil => exact absurd rfl hne | cons _ _ => rfl
  have main : Goes table g ok (forIn (List.range es'.toArray.size) PUnit.unit fun (i : Nat) (_ : PUnit) => (do
      let x ← dictEntries a
      match x[i]? with
      | some e => do
        holding [e.key, e.val] (dictPut d e.hash e.key e.val)
        let z ← dictEpoch a
        if (z != n') = true then do
          unsupported "dict.changed-during-merge"
          pure (ForInStep.yield PUnit.unit)
        else pure (ForInStep.yield PUnit.unit)
      | x => do
        unsupported "dict.changed-during-merge"
        pure (ForInStep.yield PUnit.unit) : Sem (ForInStep PUnit))) h t p PUnit.unit (put1 h d (es ++ es').toArray (n + es'.length)) t p (6 * es'.length) := by
    have e0 : put1 h d (es ++ es'.take 0).toArray (n + 0) = h := by rw [List.take_zero, List.append_nil]; exact put1_self hd
    have en : put1 h d (es ++ es').toArray (n + es'.length) = put1 h d (es ++ es'.take es'.toArray.size).toArray (n + es'.toArray.size) := by rw [List.size_toArray, List.take_length]
    rw [en]
    conv => arg 5; rw [← e0]
    refine goes_range (St := fun i => put1 h d (es ++ es'.take i).toArray (n + i)) fun i hi => ?_
    rw [List.size_toArray] at hi
    have ha' : (put1 h d (es ++ es'.take i).toArray (n + i)).get? a = some (dob es'.toArray n') := by rw [get_put1_ne (Ne.symm hda)]; exact ha
    have hd' : (put1 h d (es ++ es'.take i).toArray (n + i)).get? d = some (dob (es ++ es'.take i).toArray (n + i)) := get_put1 hd
    refine Goes.bind (n := 1) (m := 5) (goes_entries ha') ?_
    have hei : es'.toArray[i]? = some es'[i] := by simp [hi]
    rw [hei]
    dsimp only
    obtain ⟨k, u, hku⟩ := hint es'[i] (List.getElem_mem hi)
    have hfr : ∀ e ∈ (es ++ es'.take i).toArray, e.hash ≠ es'[i].hash := by
      intro e he
      rw [List.mem_toArray, List.mem_append] at he
      rcases he with he | he
      · exact hnew e he _ (List.getElem_mem hi)
      · obtain ⟨j, hj, rfl⟩ := List.getElem_of_mem he
        rw [List.length_take] at hj
        rw [List.getElem_take]
        intro q
        have hp := List.pairwise_iff_getElem.mp hnd j i (by rw [List.length_map]; (first | lia | omega)) (by rw [List.length_map]; (first | lia | omega)) (by (first | lia | omega))
        rw [List.getElem_map, List.getElem_map] at hp
        exact hp q
    have hput := goes_put (g := g) (ok := ok) (t := t) (p := p) (k := k) (u := u) (v := es'[i].val) hd' hk (by simp; (first | lia | omega)) hfr
    have hput' : Goes table g ok (dictPut d es'[i].hash es'[i].key es'[i].val) (put1 h d (es ++ es'.take i).toArray (n + i)) t p () (put1 h d (es ++ es'.take (i + 1)).toArray (n + (i + 1))) t p 4 := by
      have eE : (⟨es'[i].hash, .int k u, es'[i].val⟩ : DictEntry) = es'[i] := by rw [← hku]
      rw [eE, put1_put1, List.push_toArray, List.append_assoc] at hput
      have : es'.take i ++ [es'[i]] = es'.take (i + 1) := by rw [List.take_add_one, List.getElem?_eq_getElem hi]; rfl
      rw [this] at hput
      rw [hku]
      exact hput
    have ha2 : (put1 h d (es ++ es'.take (i + 1)).toArray (n + (i + 1))).get? a = some (dob es'.toArray n') := by rw [get_put1_ne (Ne.symm hda)]; exact ha
    refine Goes.bind (n := 4) (m := 1) (Goes.holding _ hput') ?_
    refine Goes.bind (n := 1) (m := 0) (goes_epoch ha2) ?_
    rw [if_neg (by simp)]
    exact .pure ..
  unfold mergeMapping
  refine Goes.to (Goes.bind (n := 1) (m := 6 * es'.length + 4) (goes_isdict ha) ?_) (by (first | lia | omega))
  rw [if_pos rfl]
  refine Goes.to (Goes.bind (n := 1) (m := 6 * es'.length + 3) (goes_dictIter ha) ?_) (by (first | lia | omega))
  rw [hx]
  refine Goes.to (Goes.bind (n := 0) (m := 6 * es'.length + 3) (a := true) (.pure ..) ?_) (by (first | lia | omega))
  dsimp only
  rw [if_neg (by rw [hs]; exact Bool.false_ne_true)]
  refine Goes.to (Goes.bind (n := 1) (m := 6 * es'.length + 2) (goes_entries hd) ?_) (by (first | lia | omega))
  rw [hem, if_neg Bool.false_ne_true]
  refine Goes.to (Goes.bind (n := 1) (m := 6 * es'.length + 1) (goes_entries ha) ?_) (by (first | lia | omega))
  refine Goes.to (Goes.bind (n := 1) (m := 6 * es'.length) (goes_epoch ha) ?_) (by (first | lia | omega))
  simp only [Bool.false_eq_true, if_false]
  exact Goes.bind (m := 0) main (.pure ..)
end
end
section -- MDict4
open PySem PySem.W PyProof.Rows PySem.Calls
noncomputable def flushD (run : List (Sem Value × Sem Value)) (main : Option Addr) : Sem (Option Addr) :=
  if run.isEmpty = true then pure main
  else match main with
    | none => do
      let x ← subDict run
      pure (some x)
    | some d => do
      let sub ← holding [Value.ref d] (subDict run)
      (holding [Value.ref d, Value.ref sub] (mergeMapping d (Value.ref sub) false)).onRaise fun x => do
        let _ ← holding [Value.ref d, x] (runValue (Code.builtin "proto.let_go" { }))
        pure ()
      pure (some d)
noncomputable abbrev DState := Option Addr × List (Sem Value × Sem Value)
noncomputable abbrev someP (p : Sem Value × Sem Value) : Option (Sem Value) × Sem Value := (some p.1, p.2)
noncomputable abbrev Gathers (f : Option (Sem Value) × Sem Value → DState → Sem (ForInStep DState)) : Prop :=
  ∀ p main run, f (someP p) (main, run) = if ((run ++ [p]).length == 17) = true then (do let m ← flushD (run ++ [p]) main; pure (.yield (m, []))) else pure (.yield (main, run ++ [p]))
section
variable {f : Option (Sem Value) × Sem Value → DState → Sem (ForInStep DState)}
theorem gather_few (hf : Gathers f) : ∀ (items run : List (Sem Value × Sem Value)) (main : Option Addr), run.length + items.length < 17 → forIn (items.map someP) (main, run) f = pure (main, run ++ items)
  | [], run, main, _ => by rw [List.append_nil]; rfl
  | p :: rest, run, main, h => by
    rw [List.length_cons] at h
    have hne : ((run ++ [p]).length == 17) = false := by rw [List.length_append, List.length_singleton]; exact beq_eq_false_iff_ne.mpr (by (first | lia | omega))
    rw [List.map_cons, List.forIn_cons, hf, hne, if_neg Bool.false_ne_true, pure_bind]
    have := gather_few hf rest (run ++ [p]) main (by rw [List.length_append, List.length_singleton]; (first | lia | omega))
    rw [List.append_assoc] at this
    exact this
theorem gather_many (hf : Gathers f) (rest : List (Sem Value × Sem Value)) (main : Option Addr) : ∀ (items run : List (Sem Value × Sem Value)), run.length + items.length = 17 → items ≠ [] →
    forIn ((items ++ rest).map someP) (main, run) f = (do let m ← flushD (run ++ items) main; forIn (rest.map someP) (m, []) f)
  | [], _, _, h => absurd rfl h
  | [p], run, h, _ => by
    have he : ((run ++ [p]).length == 17) = true := by rw [List.length_append, List.length_singleton]; exact beq_iff_eq.mpr h
    rw [List.singleton_append, List.map_cons, List.forIn_cons, hf, he, if_pos rfl, bind_assoc]
    rfl
  | p :: p' :: items, run, h, _ => by
    rw [List.length_cons, List.length_cons] at h
    have hne : ((run ++ [p]).length == 17) = false := by rw [List.length_append, List.length_singleton]; exact beq_eq_false_iff_ne.mpr (by (first | lia | omega))
    rw [List.cons_append, List.map_cons, List.forIn_cons, hf, hne, if_neg Bool.false_ne_true, pure_bind]
    have := gather_many hf rest main (p' :: items) (run ++ [p]) (by rw [List.length_append, List.length_singleton, List.length_cons]; (first | lia | omega)) (by simp)
    rw [List.append_assoc] at this
    exact this
end
theorem display_eq (pairs : List (Sem Value × Sem Value)) : ∃ f, Gathers f ∧ dictDisplay (pairs.map someP) = (do
    let s ← forIn (pairs.map someP) ((none, []) : DState) f
    let r ← flushD s.2 s.1
    match r with
    | some d => pure (Value.ref d)
    | none => newDict) := by
  refine ⟨_, ?_, by unfold dictDisplay; rfl⟩
  intro p main run
  rfl
end
section -- MDict5
open PySem PySem.W PyProof.Rows PySem.Calls
noncomputable abbrev Ents := List (Int × (Tok → Value))
noncomputable def entA (t : Nat) (l : Ents) : List DictEntry := if l.length ≤ 15 then entS t l else entL t l
theorem entS_hash : ∀ (t : Nat) (l : Ents), (entS t l).map (·.hash) = l.map fun x => hashInt x.1
  | _, [] => rfl
  | t, (k, v) :: r => by rw [entS, List.map_cons, List.map_cons, entS_hash (t + 2) r]
theorem entL_hash : ∀ (t : Nat) (l : Ents), (entL t l).map (·.hash) = l.map fun x => hashInt x.1
  | _, [] => rfl
  | t, (k, v) :: r => by rw [entL, List.map_cons, List.map_cons, entL_hash (t + 3) r]
theorem entA_hash (t : Nat) (l : Ents) : (entA t l).map (·.hash) = l.map fun x => hashInt x.1 := by
  unfold entA; split
  · exact entS_hash t l
  · exact entL_hash t l
theorem entA_len (t : Nat) (l : Ents) : (entA t l).length = l.length := by
  have := congrArg List.length (entA_hash t l)
  simpa using this
theorem entS_int : ∀ (t : Nat) (l : Ents), ∀ e ∈ entS t l, ∃ k u, e.key = .int k u
  | _, [], _, h => nomatch h
  | t, (k, v) :: r, e, h => by
    rw [entS] at h
    rcases List.mem_cons.mp h with rfl | h
    · exact ⟨k, t, rfl⟩
    · exact entS_int _ r e h
theorem entL_int : ∀ (t : Nat) (l : Ents), ∀ e ∈ entL t l, ∃ k u, e.key = .int k u
  | _, [], _, h => nomatch h
  | t, (k, v) :: r, e, h => by
    rw [entL] at h
    rcases List.mem_cons.mp h with rfl | h
    · exact ⟨k, t, rfl⟩
    · exact entL_int _ r e h
theorem entA_int (t : Nat) (l : Ents) : ∀ e ∈ entA t l, ∃ k u, e.key = .int k u := by
  unfold entA; split
  · exact entS_int t l
  · exact entL_int t l
theorem entA_mem {t : Nat} {l : Ents} {e : DictEntry} (h : e ∈ entA t l) : ∃ x ∈ l, e.hash = hashInt x.1 := by
  have : e.hash ∈ (entA t l).map (·.hash) := List.mem_map_of_mem h
  rw [entA_hash] at this
  obtain ⟨x, hx, e⟩ := List.mem_map.mp this
  exact ⟨x, hx, e.symm⟩
theorem New.nil {es : List DictEntry} {l : Ents} (N : New es l) : New [] l := ⟨(fun _ h => nomatch h), N.2⟩
theorem New.take {es : List DictEntry} {l : Ents} (N : New es l) (m : Nat) : New es (l.take m) :=
  ⟨fun e he x hx => N.1 e he x (List.mem_of_mem_take hx), by rw [List.map_take]; exact List.Sublist.nodup (List.take_sublist _ _) N.2⟩
theorem New.drop {es : List DictEntry} {l : Ents} (N : New es l) (m t : Nat) : New (es ++ entA t (l.take m)) (l.drop m) := by
  refine ⟨fun e he x hx => ?_, by rw [List.map_drop]; exact List.Sublist.nodup (List.drop_sublist _ _) N.2⟩
  rcases List.mem_append.mp he with he | he
  · exact N.1 e he x (List.mem_of_mem_drop hx)
  · obtain ⟨y, hy, e1⟩ := entA_mem he
    rw [e1]
    have hnd := N.2
    rw [← List.take_append_drop m l, List.map_append] at hnd
    exact (List.nodup_append.mp hnd).2.2 _ (List.mem_map_of_mem (f := fun x : Int × (Tok → Value) => hashInt x.1) hy) _ (List.mem_map_of_mem (f := fun x : Int × (Tok → Value) => hashInt x.1) hx)
theorem New.apart {es : List DictEntry} {l : Ents} (N : New es l) (t : Nat) : (∀ e ∈ es, ∀ e' ∈ entA t l, e.hash ≠ e'.hash) ∧ ((entA t l).map (·.hash)).Nodup := by
  refine ⟨fun e he e' he' => ?_, by rw [entA_hash]; exact N.2⟩
  obtain ⟨x, hx, q⟩ := entA_mem he'
  rw [q]; exact N.1 e he x hx
noncomputable def pushes (h : Heap) (l : List Obj) : Heap := l.foldl Heap.push h
theorem pushes_snoc (h : Heap) (l : List Obj) (o : Obj) : (pushes h l).push o = pushes h (l ++ [o]) := by unfold pushes; rw [List.foldl_append]; rfl
theorem size_push (h : Heap) (o : Obj) : (h.push o).objs.size = h.objs.size + 1 := by cases h; exact Array.size_push ..
theorem size_pushes : ∀ (l : List Obj) (h : Heap), (pushes h l).objs.size = h.objs.size + l.length
  | [], _ => rfl
  | o :: l, h => by
    show (pushes (h.push o) l).objs.size = _
    rw [size_pushes l (h.push o), size_push, List.length_cons]; (first | lia | omega)
theorem get_pushes {b : Addr} {x : Obj} : ∀ (l : List Obj) (h : Heap), h.get? b = some x → (pushes h l).get? b = some x
  | [], h, e => e
  | o :: l, h, e => get_pushes l (h.push o) (Heap.get?_push_of_some _ e)
theorem put1_pushes {d : Addr} {es : Array DictEntry} {n : Nat} : ∀ (l : List Obj) (h : Heap), d < h.objs.size → put1 (pushes h l) d es n = pushes (put1 h d es n) l
  | [], _, _ => rfl
  | o :: l, h, hd => by
    show put1 (pushes (h.push o) l) d es n = pushes ((put1 h d es n).push o) l
    rw [put1_pushes l (h.push o) (by rw [size_push]; exact Nat.lt_succ_of_lt hd), put1_push _ _ _ (Nat.ne_of_lt hd)]
/-- the display's heap: the dict itself, and the parts that it was made of -/
noncomputable def dheap (h : Heap) (es : List DictEntry) (subs : List Obj) : Heap := pushes (h.push (dob es.toArray es.length)) subs
theorem dheap_get (h : Heap) (es : List DictEntry) (subs : List Obj) : (dheap h es subs).get? h.objs.size = some (dob es.toArray es.length) := get_pushes _ _ (get_new h _ _)
theorem dheap_size (h : Heap) (es : List DictEntry) (subs : List Obj) : (dheap h es subs).objs.size = h.objs.size + 1 + subs.length := by unfold dheap; rw [size_pushes, size_push]
section
variable {g : Setting} {ok : Addr → Prop} {q : Pos} {h : Heap}
theorem goes_subA {pairs : List (Sem Value × Sem Value)} {l : Ents} (s : Says g ok q pairs l) (h0 : l ≠ []) (hz : l.length < 1000) (N : New [] l) (h : Heap) (t : Nat) (p : Pos) (hk : ok h.objs.size) :
    Goes table g ok (subDict pairs) h t p h.objs.size (h.push (dob (entA t l).toArray l.length)) (t + 3 * l.length) q (13 * l.length + if l.length ≤ 15 then 1 else 2) := by
  unfold entA
  by_cases hl : l.length ≤ 15
  · rw [if_pos hl, if_pos hl]
    exact goes_subS s hl h0 N h t p hk
  · rw [if_neg hl, if_neg hl]
    exact goes_subL s (by (first | lia | omega)) hz N h t p hk
theorem goes_flush {pairs : List (Sem Value × Sem Value)} {l : Ents} (s : Says g ok q pairs l) (h0 : l ≠ []) (hok : ∀ a, h.objs.size ≤ a → ok a) (hs : sysModules < h.objs.size) {es : List DictEntry} (hes : es ≠ []) (hz : es.length + l.length < 1000) (N : New es l) (subs : List Obj) (t : Nat) (p : Pos) :
    Goes table g ok (flushD pairs (some h.objs.size)) (dheap h es subs) t p (some h.objs.size) (dheap h (es ++ entA t l) (subs ++ [dob (entA t l).toArray l.length])) (t + 3 * l.length) q (19 * l.length + if l.length ≤ 15 then 6 else 7) := by
  have hne : pairs.isEmpty = false := by
    have := s.length
    cases pairs with
    | nil => exact absurd (List.length_eq_zero_iff.mp this.symm) h0
    | cons _ _ => rfl
  have hsz := dheap_size h es subs
  have e1 := goes_subA s h0 (by (first | lia | omega)) N.nil (dheap h es subs) t p (hok _ (by (first | lia | omega)))
  have hlen := entA_len t l
  have ed : (((dheap h es subs).push (dob (entA t l).toArray l.length)).get? h.objs.size) = some (dob es.toArray es.length) := Heap.get?_push_of_some _ (dheap_get h es subs)
  have ea := get_new (dheap h es subs) (entA t l).toArray l.length
  have e2 := goes_merge (g := g) (ok := ok) (d := h.objs.size) (a := (dheap h es subs).objs.size) (by rw [hsz]; exact Nat.ne_of_lt (by (first | lia | omega))) (beq_eq_false_iff_ne.mpr (Nat.ne_of_gt (Nat.lt_of_lt_of_le hs (by rw [hsz]; (first | lia | omega))))) _ (t + 3 * l.length) q ed ea hes (entA_int t l) (hok _ (Nat.le_refl _)) (by rw [hlen]; exact hz) (N.apart t).1 (N.apart t).2
  have eh : put1 ((dheap h es subs).push (dob (entA t l).toArray l.length)) h.objs.size (es ++ entA t l).toArray (es.length + (entA t l).length) = dheap h (es ++ entA t l) (subs ++ [dob (entA t l).toArray l.length]) := by
    unfold dheap
    rw [pushes_snoc, put1_pushes _ _ (by rw [size_push]; exact Nat.lt_succ_self _), put1_last, List.length_append]
  rw [eh, hlen] at e2
  unfold flushD
  rw [if_neg (by rw [hne]; exact Bool.false_ne_true)]
  dsimp only
  refine Goes.to (Goes.bind (n := 13 * l.length + if l.length ≤ 15 then 1 else 2) (m := 6 * l.length + 5) (Goes.holding _ e1) ?_) (by split <;> (first | lia | omega))
  exact Goes.bind (m := 0) (Goes.onRaise _ (Goes.holding _ e2)) (.pure ..)
end
end
section -- MDict6
open PySem PySem.W PyProof.Rows PySem.Calls
noncomputable def subsOf : Nat → Nat → Ents → List Obj
  | 0, t, l => if l.isEmpty then [] else [dob (entA t l).toArray l.length]
  | k + 1, t, l => dob (entA t (l.take 17)).toArray 17 :: subsOf k (t + 51) (l.drop 17)
noncomputable def entsOf : Nat → Nat → Ents → List DictEntry
  | 0, t, l => entA t l
  | k + 1, t, l => entA t (l.take 17) ++ entsOf k (t + 51) (l.drop 17)
noncomputable def cntOf : Nat → Nat → Nat
  | 0, n => if n = 0 then 0 else 19 * n + if n ≤ 15 then 6 else 7
  | k + 1, n => 330 + cntOf k (n - 17)
theorem Says.split {g : Setting} {ok : Addr → Prop} {q : Pos} : ∀ (m : Nat) {pairs : List (Sem Value × Sem Value)} {l : Ents} (_ : Says g ok q pairs l), Says g ok q (pairs.take m) (l.take m) ∧ Says g ok q (pairs.drop m) (l.drop m)
  | 0, _, _, s => ⟨.nil, s⟩
  | _ + 1, _, _, .nil => ⟨.nil, .nil⟩
  | m + 1, _, _, .cons a b s => ⟨.cons a b (s.split m).1, (s.split m).2⟩
noncomputable abbrev endD (s : DState) : Sem Value := do
  let r ← flushD s.2 s.1
  match r with
  | some d => pure (Value.ref d)
  | none => newDict
section
variable {g : Setting} {ok : Addr → Prop} {q : Pos} {h : Heap} {f : Option (Sem Value) × Sem Value → DState → Sem (ForInStep DState)}
theorem goes_rest (hf : Gathers f) (hok : ∀ a, h.objs.size ≤ a → ok a) (hs : sysModules < h.objs.size) : ∀ (k : Nat) {pairs : List (Sem Value × Sem Value)} {l : Ents} (_ : Says g ok q pairs l) (_ : 17 * k ≤ l.length) (_ : l.length < 17 * k + 17) {es : List DictEntry} (_ : es ≠ []) (_ : es.length + l.length < 1000) (_ : New es l) (subs : List Obj) (t : Nat),
    Goes table g ok (do let s ← forIn (pairs.map someP) ((some h.objs.size, []) : DState) f; endD s) (dheap h es subs) t q (.ref h.objs.size) (dheap h (es ++ entsOf k t l) (subs ++ subsOf k t l)) (t + 3 * l.length) q (cntOf k l.length)
  | 0, pairs, l, s, h1, h2, es, hes, hz, N, subs, t => by
    rw [gather_few hf _ _ _ (by rw [s.length]; simpa using h2), pure_bind, List.nil_append]
    unfold cntOf entsOf subsOf
    by_cases h0 : l = []
    · subst h0
      have : pairs = [] := List.length_eq_zero_iff.mp s.length
      subst this
      show Goes table g ok (.pure _) (dheap h es subs) t q _ (dheap h (es ++ []) (subs ++ [])) t q 0
      rw [List.append_nil, List.append_nil]
      exact .pure ..
    · have hl : l.length ≠ 0 := fun e => h0 (List.length_eq_zero_iff.mp e)
      have hi : l.isEmpty = false := by cases l with | nil => exact absurd rfl h0 | cons _ _ => rfl
      rw [if_neg hl, hi, if_neg Bool.false_ne_true]
      exact Goes.bind (m := 0) (goes_flush s h0 hok hs hes hz N subs t q) (.pure ..)
  | k + 1, pairs, l, s, h1, h2, es, hes, hz, N, subs, t => by
    obtain ⟨s1, s2⟩ := s.split 17
    have hl1 : (l.take 17).length = 17 := by rw [List.length_take]; (first | lia | omega)
    have hl2 : (l.drop 17).length = l.length - 17 := List.length_drop ..
    have hp1 := s1.length
    have hne : l.take 17 ≠ [] := fun e => by rw [e] at hl1; cases hl1
    have e1 := goes_flush s1 hne hok hs hes (by (first | lia | omega)) (N.take 17) subs t q
    have hen := entA_len t (l.take 17)
    have e2 := goes_rest hf hok hs k s2 (by (first | lia | omega)) (by (first | lia | omega)) (es := es ++ entA t (l.take 17)) (by simp [hes]) (by rw [List.length_append, hen]; (first | lia | omega)) (N.drop 17 t) (subs ++ [dob (entA t (l.take 17)).toArray (l.take 17).length]) (t + 51)
    rw [hl1] at e1 e2
    rw [hl2, List.append_assoc, List.append_assoc, show t + 51 + 3 * (l.length - 17) = t + 3 * l.length by (first | lia | omega)] at e2
    conv => arg 4; rw [← List.take_append_drop 17 pairs]
    rw [gather_many hf _ _ _ _ (by rw [List.length_nil]; (first | lia | omega)) (fun e => by rw [e] at hp1; rw [hl1] at hp1; cases hp1), bind_assoc, List.nil_append]
    unfold cntOf entsOf subsOf
    exact Goes.bind e1 e2
/-- a display of constants: the dict at the heap's end, its parts behind it -/
theorem goes_display (hok : ∀ a, h.objs.size ≤ a → ok a) (hs : sysModules < h.objs.size) (k : Nat) {pairs : List (Sem Value × Sem Value)} {l : Ents} (s : Says g ok q pairs l) (h1 : 17 * (k + 1) ≤ l.length) (h2 : l.length < 17 * (k + 1) + 17) (hz : l.length < 1000) (N : New [] l) (t : Nat) (p : Pos) :
    Goes table g ok (dictDisplay (pairs.map someP)) h t p (.ref h.objs.size) (dheap h (entsOf (k + 1) t l) (subsOf k (t + 51) (l.drop 17))) (t + 3 * l.length) q (223 + cntOf k (l.length - 17)) := by
  obtain ⟨f, hf, e⟩ := display_eq pairs
  rw [e]
  obtain ⟨s1, s2⟩ := s.split 17
  have hl1 : (l.take 17).length = 17 := by rw [List.length_take]; (first | lia | omega)
  have hl2 : (l.drop 17).length = l.length - 17 := List.length_drop ..
  have hp1 := s1.length
  have hne : l.take 17 ≠ [] := fun e => by rw [e] at hl1; cases hl1
  have e1 := goes_subA s1 hne (by (first | lia | omega)) (N.take 17) h t p (hok _ (Nat.le_refl _))
  have hen := entA_len t (l.take 17)
  have e2 := goes_rest (h := h) hf hok hs k s2 (by (first | lia | omega)) (by (first | lia | omega)) (es := entA t (l.take 17)) (fun e => by rw [e] at hen; rw [hl1] at hen; cases hen) (by rw [hen]; (first | lia | omega)) (N.drop 17 t) [] (t + 51)
  rw [hl2, List.nil_append, show t + 51 + 3 * (l.length - 17) = t + 3 * l.length by (first | lia | omega)] at e2
  rw [hl1] at e1
  have eh : h.push (dob (entA t (l.take 17)).toArray 17) = dheap h (entA t (l.take 17)) [] := by unfold dheap; rw [hen, hl1]; rfl
  rw [eh] at e1
  conv => arg 4; rw [← List.take_append_drop 17 pairs]
  rw [gather_many hf _ _ _ _ (by rw [List.length_nil]; (first | lia | omega)) (fun e => by rw [e] at hp1; rw [hl1] at hp1; cases hp1), bind_assoc, List.nil_append]
  have hpe : (pairs.take 17).isEmpty = false := by
    cases hq : pairs.take 17 with
    | nil => rw [hq] at hp1; rw [hl1] at hp1; cases hp1
    | cons _ _ => rfl
  refine Goes.bind (n := 223) (a := some h.objs.size) ?_ e2
  unfold flushD
  rw [if_neg (by rw [hpe]; exact Bool.false_ne_true)]
  exact Goes.bind (n := 223) (m := 0) e1 (.pure ..)
end
end
section -- MDict7
open PySem PySem.W PyProof.Rows PySem.Calls
/-- what a pair of constants says -/
noncomputable def entOf : Option Expr × Expr → Option (Int × (Tok → Value))
  | (some (.Constant (.int k) _ _), .Constant (.str x) _ _) => some (k, fun t => .str x t)
  | (some (.Constant (.int k) _ _), .Constant (.int j) _ _) => some (k, fun t => .int j t)
  | _ => none
noncomputable def constPairs (ks : List (Option Expr)) (vs : List Expr) : Bool := ks.length == vs.length && ((ks.zip vs).all fun x => (entOf x).isSome)
theorem entOf_some {x : Option Expr} {y : Expr} (h : (entOf (x, y)).isSome = true) : ∃ k a b c e d, x = some (.Constant (.int k) a b) ∧ y = .Constant c e d ∧ ((∃ s, c = .str s ∧ entOf (x, y) = some (k, fun t => .str s t)) ∨ ∃ j, c = .int j ∧ entOf (x, y) = some (k, fun t => .int j t)) := by
  unfold entOf at h
  split at h
  · rename_i e; cases e; exact ⟨_, _, _, _, _, _, rfl, rfl, .inl ⟨_, rfl, rfl⟩⟩
  · rename_i e; cases e; exact ⟨_, _, _, _, _, _, rfl, rfl, .inr ⟨_, rfl, rfl⟩⟩
  · cases h
theorem says_const (g : Setting) (ok : Addr → Prop) (env : Env) (pos : Pos) : ∀ (ks : List (Option Expr)) (vs : List Expr), constPairs ks vs = true → ks.all (·.isSome) = true ∧ ks.length = vs.length ∧ Says g ok pos (pairTrees ks vs env pos) ((ks.zip vs).filterMap entOf)
  | [], [], _ => ⟨rfl, rfl, .nil⟩
  | [], _ :: _, h => by simp [constPairs] at h
  | _ :: _, [], h => by simp [constPairs] at h
  | x :: ks, y :: vs, h => by
    have h' : ks.length = vs.length ∧ (entOf (x, y)).isSome = true ∧ ((ks.zip vs).all fun x => (entOf x).isSome) = true := by simpa [constPairs] using h
    obtain ⟨hl, h1, h2⟩ := h'
    obtain ⟨a1, a2, a3⟩ := says_const g ok env pos ks vs (by simp only [constPairs, Bool.and_eq_true, beq_iff_eq]; exact ⟨hl, h2⟩)
    obtain ⟨k, a, b, c, e, d, rfl, rfl, h3⟩ := entOf_some h1
    refine ⟨by simpa using a1, by simpa using a2, ?_⟩
    rw [List.zip_cons_cons]
    rcases h3 with ⟨s, rfl, he⟩ | ⟨j, rfl, he⟩
    · rw [List.filterMap_cons, he]
      exact .cons (fun h t p => .fresh (.pure ..)) (fun h t p => .fresh (.at (.pure ..))) a3
    · rw [List.filterMap_cons, he]
      exact .cons (fun h t p => .fresh (.pure ..)) (fun h t p => .fresh (.at (.pure ..))) a3
theorem goes_Dict {g : Setting} {ok : Addr → Prop} {h : Heap} {ks : List (Option Expr)} {vs : List Expr} {pos : Pos} {env : Env} (hc : constPairs ks vs = true) (hok : ∀ a, h.objs.size ≤ a → ok a) (hs : sysModules < h.objs.size) (k : Nat) {l : Ents} (hl : (ks.zip vs).filterMap entOf = l)
    (h1 : 17 * (k + 1) ≤ l.length) (h2 : l.length < 17 * (k + 1) + 17) (hz : l.length < 1000) (N : New [] l) (t : Nat) (p : Pos) :
    Goes table g ok (eval (.Dict ks vs pos) env) h t p (.ref h.objs.size) (dheap h (entsOf (k + 1) t l) (subsOf k (t + 51) (l.drop 17))) (t + 3 * l.length) pos (224 + cntOf k (l.length - 17)) := by
  subst hl
  obtain ⟨a1, a2, a3⟩ := says_const g ok env pos ks vs hc
  rw [arm_eval_Dict, zip_pairTrees ks vs env pos a1 a2]
  exact Goes.to (Goes.bind (n := 1) (m := 223 + cntOf k (((ks.zip vs).filterMap entOf).length - 17)) (.at (.pure ..)) (goes_display hok hs k a3 h1 h2 hz N t pos)) (by (first | lia | omega))
end
section -- MMap
open PySem PySem.W PyProof.Rows PySem.Calls
/-- entries that say what the text's pairs say -/
inductive Same : List DictEntry → Ents → Prop
  | nil : Same [] []
  | cons (u : Tok) (k : Int) (v : Tok → Value) {es : List DictEntry} {l : Ents} : Same es l → Same (⟨hashInt k, .int k u, v (u + 1)⟩ :: es) ((k, v) :: l)
theorem Same.append {a b : List DictEntry} {l m : Ents} (x : Same a l) (y : Same b m) : Same (a ++ b) (l ++ m) := by
  induction x with
  | nil => exact y
  | cons u k v _ ih => exact .cons u k v ih
theorem same_S : ∀ (t : Nat) (l : Ents), Same (entS t l) l
  | _, [] => .nil
  | t, (k, v) :: r => .cons t k v (same_S (t + 2) r)
theorem same_L : ∀ (t : Nat) (l : Ents), Same (entL t l) l
  | _, [] => .nil
  | t, (k, v) :: r => .cons t k v (same_L (t + 3) r)
theorem same_A (t : Nat) (l : Ents) : Same (entA t l) l := by
  unfold entA; split
  · exact same_S t l
  · exact same_L t l
theorem same_of : ∀ (k t : Nat) (l : Ents), Same (entsOf k t l) l
  | 0, t, l => same_A t l
  | k + 1, t, l => by
    have := (same_A t (l.take 17)).append (same_of k (t + 51) (l.drop 17))
    rwa [List.take_append_drop] at this
theorem Same.find {es : List DictEntry} {l : Ents} (S : Same es l) (c : Int) : (es.find? (fun e => Value.isInt c e.key) = none ∧ l.lookup c = none) ∨ ∃ e v u, es.find? (fun e => Value.isInt c e.key) = some e ∧ e.val = v u ∧ l.lookup c = some v := by
  induction S with
  | nil => exact .inl ⟨rfl, rfl⟩
  | cons u k v S ih =>
    rw [List.find?_cons, List.lookup_cons]
    by_cases h : c = k
    · subst h
      exact .inr ⟨⟨hashInt c, .int c u, v (u + 1)⟩, v, u + 1, by simp [Value.isInt], rfl, by simp⟩
    · have h1 : (c == k) = false := beq_eq_false_iff_ne.mpr h
      have h2 : Value.isInt c (Value.int k u) = false := by simp only [Value.isInt, beq_eq_false_iff_ne, ne_eq]; exact fun e => h e.symm
      rw [h1]
      simp only [h2]
      exact ih
theorem Same.keys {es : List DictEntry} {l : Ents} (S : Same es l) : ∀ e ∈ es, ∃ k : Int, Value.isInt k e.key = true ∧ e.hash = hashInt k := by
  induction S with
  | nil => exact fun _ h => nomatch h
  | cons u k v S ih =>
    intro e he
    rcases List.mem_cons.mp he with rfl | he
    · exact ⟨k, by simp [Value.isInt], rfl⟩
    · exact ih e he
theorem Same.map {w : World} {h : Heap} {d : Addr} {es : List DictEntry} {l : Ents} {n : Nat} (S : Same es l) (hg : h.get? d = some (dob es.toArray n)) : h.MapOf (intKind PP w) d (findBy Value.isInt es.toArray) :=
  ⟨_, es.toArray, n, hg, ⟨rfl, rfl, rfl⟩, rfl, fun e he => S.keys e (by simpa using he), fun _ => rfl⟩
theorem Same.at {es : List DictEntry} {l : Ents} (S : Same es l) (c : Int) (x : Value) : (l.lookup c = none ∧ (findBy Value.isInt es.toArray c).getD x = x) ∨ ∃ v u, l.lookup c = some v ∧ (findBy Value.isInt es.toArray c).getD x = v u := by
  unfold findBy
  rw [List.find?_toArray]
  rcases S.find c with ⟨h1, h2⟩ | ⟨e, v, u, h1, h2, h3⟩
  · exact .inl ⟨h2, by rw [h1]; rfl⟩
  · exact .inr ⟨v, u, h3, by rw [h1]; exact h2⟩
section
variable {w : World} {A : Around} {E : Value → Shared → Prop} {s : Shared} {h₀ : Heap} {L d : Addr} {m : Str → Option Value} {news : List (Addr × Obj)} {es : List DictEntry} {l : Ents} {n : Nat} {Q : Value → Shared → Prop}
theorem Dict_step {ks : List (Option Expr)} {vs : List Expr} {pos : Pos} {env : Env} (F : Fr h₀ L s.heap m) (N : News h₀ L s.heap news) (hb : sysModules < h₀.objs.size) (hc : constPairs ks vs = true) (hl : (ks.zip vs).filterMap entOf = l) (k : Nat) (h1 : 17 * (k + 1) ≤ l.length) (h2 : l.length < 17 * (k + 1) + 17) (hz : l.length < 1000) (hn : New [] l)
    (h : ∀ D es h' tk', Same es l → Fr h₀ L h' m → News h₀ L h' ((D, dob es.toArray es.length) :: news) → sysModules < D → Q (.ref D) { s with heap := h', toks := tk' }) : wpAny (model PP w) A (eval (.Dict ks vs pos) env) Q E s := by
  have hk : Stays s.heap (dheap s.heap (entsOf (k + 1) s.toks l) (subsOf k (s.toks + 51) (l.drop 17))) := fun b o e => get_pushes _ _ (Heap.get?_push_of_some _ e)
  have hr : s.heap.get? s.heap.objs.size = none := by
    unfold Heap.get?
    rw [Array.getElem?_eq_none (Nat.le_refl _)]
  obtain ⟨F', N', _⟩ := news_add F N hk hr (dheap_get s.heap (entsOf (k + 1) s.toks l) (subsOf k (s.toks + 51) (l.drop 17)))
  have hlow : sysModules < s.heap.objs.size := Nat.lt_of_lt_of_le hb (Nat.le_trans F.above (Nat.le_of_lt F.ns.lt))
  exact Goes.wpAny (ok := fun _ => True) (fun p => ⟨pos, _, goes_Dict hc (fun _ _ => trivial) hlow k hl h1 h2 hz hn s.toks p⟩) (h _ _ _ _ (same_of (k + 1) s.toks l) F' N' hlow)
theorem meth_dict {pl : Sem Bool} {Q : Value × List Value → Shared → Prop} (S : Same es l) (N : News h₀ L s.heap news) (hm : (d, dob es.toArray n) ∈ news) (h : Q (.builtin "dict.get", [.ref d]) s) : wpAny (model PP w) A (getMethod (.ref d) (Str.ofString "get") pl) Q E s := by
  have M := S.map (w := w) (N.get hm)
  exact getMethod_builtin M.typeIs PySem.F.plainAttrs_dict PySem.F.slot_dict_get PySem.F.type_dict_get M.noDict h
theorem get_dict {i : Int} {t : Tok} {x : Value} (S : Same es l) (N : News h₀ L s.heap news) (hm : (d, dob es.toArray n) ∈ news) (hs : (d == sysModules) = false) (h : ∀ v, (l.lookup i = none ∧ v = x) ∨ (∃ f u, l.lookup i = some f ∧ v = f u) → Q v { s with toks := s.toks + 1 }) : wpAny (model PP w) A (call (.builtin "dict.get") [.ref d, .int i t, x]) Q E s := by
  have M := S.map (w := w) (N.get hm)
  exact call_meetsIn PySem.F.slot_dict_get M.typeIs PySem.F.entry_dict_get (PySem.F.args_dict_get_3 _ _ _) (meets_dict_get_default (intKind PP w) d (intKind_is _ _ _ _) hs x) ⟨_, M, h _ (S.at i x)⟩
end
end
section -- MStr
open PySem PySem.W PyProof.Rows PySem.Calls
theorem txt_len (l : List Nat) : (txt l).length = l.length := List.size_toArray ..
theorem txt_item {l : List Nat} {k : Nat} {c : Nat} (h : l[k]? = some c) : Txt.item (txt l) (k : Int) = txt [c] := by
  refine item_meets (by (first | lia | omega)) ?_
  rw [Int.toNat_natCast]
  simpa using h
section
variable {prog : Program} {w : World} {A : Around} {E : Value → Shared → Prop} {s : Shared} {l : List Nat} {t u : Tok} {Q : Value → Shared → Prop}
theorem len_txt (hz : l.length ≤ 1000) (h : ∀ t' k, Q (.int (l.length : Int) t') { s with toks := k }) : wpAny (model prog w) A (call (.builtin "len") [.str (txt l) t]) Q E s := by
  refine P.len_str (by rw [txt_len]; (first | lia | omega)) ?_
  rw [txt_len]
  exact h _ _
theorem item_txt {value slice : Expr} {k c : Nat} (hk : l[k]? = some c) (hz : l.length ≤ 1000) (h : ∀ t', Q (.str (txt [c]) t') { s with toks := s.toks + 1 })
    (hs : subscripted slice false (.str (txt l) t) (.int (k : Int) u) = operate [.str (txt l) t, .int (k : Int) u] (getItem (.str (txt l) t) (.int (k : Int) u)) := by with_unfolding_all rfl)
    (ht : ∀ r, letTemporaryGo value (.str (txt l) t) r = pure () := by intro _; with_unfolding_all rfl) :
    wpAny (model prog w) A (subscriptTail value slice (.str (txt l) t) (.int (k : Int) u)) Q E s := by
  have hl := (List.getElem?_eq_some_iff.mp hk).1
  refine KXi.item (txt_len l) (by (first | lia | omega)) (by (first | lia | omega)) (by (first | lia | omega)) (fun _ => ?_) hs ht
  rw [txt_item hk]
  exact h _
theorem gt_txt {c d : Nat} (h : Q (.bool (decide (d < c))) s) : wpAny (model prog w) A (compareOp .Gt (.str (txt [c]) t) (.str (txt [d]) u)) Q E s := by
  refine P.gt_str ?_
  have : decide ((txt [d]).cps.toList < (txt [c]).cps.toList) = decide (d < c) := by
    apply decide_eq_decide.mpr
    show ([d] : List Nat) < [c] ↔ d < c
    rw [List.cons_lt_cons_iff]
    simp
  rw [this]; exact h
theorem lt_txt {c d : Nat} (h : Q (.bool (decide (c < d))) s) : wpAny (model prog w) A (compareOp .Lt (.str (txt [c]) t) (.str (txt [d]) u)) Q E s := by
  refine P.lt_str ?_
  have : decide ((txt [c]).cps.toList < (txt [d]).cps.toList) = decide (c < d) := by
    apply decide_eq_decide.mpr
    show ([c] : List Nat) < [d] ↔ c < d
    rw [List.cons_lt_cons_iff]
    simp
  rw [this]; exact h
theorem ord_txt {c : Nat} (h : ∀ t' k, Q (.int (c : Int) t') { s with toks := k }) : wpAny (model prog w) A (call (.builtin "ord") [.str (txt [c]) t]) Q E s := P.ord_of_char (h _ _)
theorem chr_txt {i : Int} {c : Nat} (hi : i = (c : Int)) (h1 : c ≤ 1114111) (h : ∀ t' k, Q (.str (txt [c]) t') { s with toks := k }) : wpAny (model prog w) A (call (.builtin "chr") [.int i t]) Q E s := by
  subst hi
  refine chr_of_range (by (first | lia | omega)) (by (first | lia | omega)) ?_
  rw [Int.toNat_natCast]
  exact h _ _
end
end
section -- FB
open PySem PySem.W PyProof.Rows
noncomputable abbrev carE (L : Addr) : Env := envOfC (Str.ofString "_law_carried") (sco 38) L 267 (.ref 266)
/-- a stretch of the statements of _law_carried -/
noncomputable abbrev SegC (w : World) (l : List Stmt) (Pre Post : Heap → Addr → (Str → Option Value) → List (Addr × Obj) → Prop) : Prop :=
  ∀ (dp un : Nat) (fr : Option (List Env)) (gd : Option (List Code)) (h₀ : Heap) (L : Addr) (s : Shared) (m : Str → Option Value) (news : List (Addr × Obj)) (Q : Flow → Shared → Prop),
    Ev w h₀ → dp + 4 < recursionLimit → un + 90 < cLine → Fr h₀ L s.heap m → News h₀ L s.heap news → Pre h₀ L m news →
    (∀ h' tk' m' news', Fr h₀ L h' m' → News h₀ L h' news' → Post h₀ L m' news' → Q .next { s with heap := h', toks := tk' }) →
    wpAny (model PP w) ((AA dp un fr gd).deeper (carE L)) (execs l (carE L)) Q (fun _ _ => False) s
theorem execs_append (env : Env) (rest : List Stmt) : ∀ l : List Stmt, execs (l ++ rest) env = (execs l env >>= fun f => match f with | .next => execs rest env | f => pure f)
  | [] => rfl
  | st :: l => by
    have ih := execs_append env rest l
    rw [List.cons_append, execs_cons, execs_cons, bind_assoc]
    congr 1
    funext f
    cases f <;> first | exact ih | rfl
theorem SegC.then {w : World} {l l' : List Stmt} {A B C : Heap → Addr → (Str → Option Value) → List (Addr × Obj) → Prop} (x : SegC w l A B) (y : SegC w l' B C) : SegC w (l ++ l') A C := by
  intro dp un fr gd h₀ L s m news Q V hd hu F N p ret
  rw [execs_append]
  refine wpAny_bind (x dp un fr gd h₀ L s m news _ V hd hu F N p fun h' tk' m' news' F' N' p' => ?_)
  exact y dp un fr gd h₀ L _ m' news' Q V hd hu F' N' p' ret
/-- a text's codes as ints -/
noncomputable def cInts (l : List Nat) : List Int := l.map fun (c : Nat) => (c : Int)
theorem intsAre_of : ∀ {ys : List Value} {ns : List Int}, ys.length = ns.length → (∀ (i : Nat) y, ys[i]? = some y → ∃ n t, ns[i]? = some n ∧ y = Value.int n t) → IntsAre ys ns
  | [], [], _, _ => .nil
  | y :: ys, n :: ns, hl, h => by
    obtain ⟨n', t, e, rfl⟩ := h 0 y rfl
    cases e
    exact .cons _ _ (intsAre_of (by simpa using hl) fun i z hz => h (i + 1) z hz)
end
section -- MZip
open PySem PySem.W PyProof.Rows PySem.Spec PySem.Calls
open PyProof.Rows.LCg
/-- apart: the zip, its two tuples, the two iterators and what they draw from -/
structure ZipOff (z TI TO i1 i2 : Addr) (f1 f2 : List Addr) : Prop where
  TIz : TI ≠ z
  TOz : TO ≠ z
  TITO : TI ≠ TO
  i1z : i1 ≠ z
  i2z : i2 ≠ z
  TIi1 : TI ≠ i1
  TIi2 : TI ≠ i2
  TOi1 : TO ≠ i1
  TOi2 : TO ≠ i2
  i12 : i1 ≠ i2
  z1 : z ∉ f1
  z2 : z ∉ f2
  o1 : TO ∉ f1
  o2 : TO ∉ f2
  x1 : i1 ∉ f2
  x2 : i2 ∉ f1
section
variable {prog : Program} {w : World} {A : Around} {E : Value → Shared → Prop} {s : Shared} {z TI TO i1 i2 : Addr} {f1 f2 : List Addr} {n1 n2 k : Nat} {P1 P2 : Nat → Value → Prop} {S1 S2 : Nat → Heap → Prop} {a b : Value}
theorem drawn_same {it : Addr} {f : List Addr} {n : Nat} {P : Nat → Value → Prop} {St : Nat → Heap → Prop} {A : Around} (D : Draws prog w A it f n P St) {c : Addr} {h h' : Heap} {i : Nat} (st : St i h) (hs : Heap.SameBut c h h') (hc : c ∉ f) : St i h' :=
  D.frame i h h' st fun b hb o e => hs.extBut b o (fun q => hc (q ▸ hb)) e
theorem zip_next (D1 : Draws prog w A i1 f1 n1 P1 S1) (D2 : Draws prog w A i2 f2 n2 P2 S2) (O : ZipOff z TI TO i1 i2 f1 f2) (hz : IsZip s.heap z TI TO .none) (hTI : IsPair s.heap TI (.ref i1) (.ref i2)) (hTO : IsPair s.heap TO a b)
    (s1 : S1 k s.heap) (s2 : S2 k s.heap) (h1 : k < n1) (h2 : k < n2) {Q : Value → Shared → Prop}
    (hQ : ∀ x y (T : Addr) h' tk, P1 k x → P2 k y → IsZip h' z TI TO (rawInt T) → IsPair h' TO x y → S1 (k + 1) h' → S2 (k + 1) h' → IsPair h' T x y → T ≠ z → T ≠ TO → T ≠ i1 → T ≠ i2 →
      (∀ c o, c ≠ z → c ≠ TO → c ≠ i1 → c ≠ i2 → s.heap.get? c = some o → h'.get? c = some o) → Q (.ref T) { s with heap := h', toks := tk }) :
    wpAny (model prog w) A (Builtin.«zip.__next__» ⟨[.ref z], []⟩) (fun fin s' => ∃ v, fin = .done (.ret v) ∧ Q v s') E s := by
  show wpAny _ _ (field (.ref z) 2 >>= _) _ _ _
  refine wpAny_bind (wpAny_field hz rfl (x := .bool false) rfl ?_)
  show wpAny _ _ (field (.ref z) 3 >>= _) _ _ _
  refine wpAny_bind (wpAny_field hz rfl (x := .ref TI) rfl ?_)
  refine wpAny_bind (wpAny_seqItems hTI rfl ?_)
  show wpAny _ _ (Builtin.SmallTypes.ownedTupleIsFree (.ref z) >>= _) _ _ _
  refine wpAny_bind ?_
  unfold Builtin.SmallTypes.ownedTupleIsFree
  refine wpAny_bind (wpAny_field hz rfl (x := .none) rfl (wpAny_pure ?_))
  simp only [if_true]
  refine wpAny_bind (wpAny_rule ?_)
  refine wpAny_bind (wpAny_field hz rfl (x := .ref TO) rfl ?_)
  refine wpAny_bind (wpAny_setField_rec hz (by simp) fun g1 hz1 c1 => ?_)
  replace hz1 : IsZip g1 z TI TO .ellipsis := hz1
  refine wpAny_bind ?_
  simp only [List.zipIdx_cons, List.zipIdx_nil, List.forIn_cons, List.forIn_nil]
  refine wpAny_bind (wpAny_bind (wpAny_onRaise ?_))
  show wpAny _ _ (Builtin.SmallTypes.nextOf (.ref i1) >>= _) _ _ _
  have t1 := drawn_same D1 s1 c1 O.z1
  have t2 := drawn_same D2 s2 c1 O.z2
  have hTO1 : IsPair g1 TO a b := c1.extBut _ _ O.TOz hTO
  refine wpAny_bind (D1.item k _ _ _ h1 t1 fun x g2 k2 px u1 c2 => wpAny_pure ?_)
  have hTO2 : IsPair g2 TO a b := c2.extBut _ _ O.TOi1 hTO1
  have hz2 : IsZip g2 z TI TO .ellipsis := c2.extBut _ _ O.i1z.symm hz1
  have u2 := drawn_same D2 t2 c2 O.x1
  refine wpAny_bind (wpAny_seqItems hTO2 rfl ?_)
  refine wpAny_bind (wpAny_updateSeq_pair hTO2 fun g3 hTO3 c3 => ?_)
  replace hTO3 : IsPair g3 TO x b := hTO3
  have hz3 : IsZip g3 z TI TO .ellipsis := c3.extBut _ _ O.TOz.symm hz2
  have v1 := drawn_same D1 u1 c3 O.o1
  have v2 := drawn_same D2 u2 c3 O.o2
  refine wpAny_bind (wpAny_letGo (wpAny_pure ?_))
  refine wpAny_bind (wpAny_bind (wpAny_onRaise ?_))
  show wpAny _ _ (Builtin.SmallTypes.nextOf (.ref i2) >>= _) _ _ _
  refine wpAny_bind (D2.item k _ _ _ h2 v2 fun y g4 k4 py w2 c4 => wpAny_pure ?_)
  have w1 := drawn_same D1 v1 c4 O.x2
  have hTO4 : IsPair g4 TO x b := c4.extBut _ _ O.TOi2 hTO3
  have hz4 : IsZip g4 z TI TO .ellipsis := c4.extBut _ _ O.i2z.symm hz3
  refine wpAny_bind (wpAny_seqItems hTO4 rfl ?_)
  refine wpAny_bind (wpAny_updateSeq_pair hTO4 fun g5 hTO5 c5 => ?_)
  replace hTO5 : IsPair g5 TO x y := hTO5
  have hz5 : IsZip g5 z TI TO .ellipsis := c5.extBut _ _ O.TOz.symm hz4
  have y1 := drawn_same D1 w1 c5 O.o1
  have y2 := drawn_same D2 w2 c5 O.o2
  refine wpAny_bind (wpAny_letGo (wpAny_pure (wpAny_pure ?_)))
  refine wpAny_bind (wpAny_seqItems hTO5 rfl ?_)
  refine wpAny_bind (wpAny_newTuple ?_)
  have zlt : z < g5.objs.size := Heap.lt_size hz5
  have olt : TO < g5.objs.size := Heap.lt_size hTO5
  have l1 : i1 < g5.objs.size := by obtain ⟨_, e⟩ := D1.live _ _ y1; exact Heap.lt_size e
  have l2 : i2 < g5.objs.size := by obtain ⟨_, e⟩ := D2.live _ _ y2; exact Heap.lt_size e
  show wpAny _ _ (Builtin.SmallTypes.ownedTupleHandOut (.ref z) (.ref g5.objs.size) >>= _) _ _ _
  refine wpAny_bind ?_
  unfold Builtin.SmallTypes.ownedTupleHandOut
  have hz6 : IsZip (g5.push { cls := .type "tuple", data := .seq #[x, y] }) z TI TO .ellipsis := Heap.get?_push_of_some _ hz5
  refine wpAny_bind (wpAny_setField_rec hz6 (by simp) fun g7 hz7 c7 => ?_)
  replace hz7 : IsZip g7 z TI TO (rawInt g5.objs.size) := hz7
  refine wpAny_setField_rec hz7 (by simp) fun g8 hz8 c8 => ?_
  replace hz8 : IsZip g8 z TI TO (rawInt g5.objs.size) := hz8
  have up : ∀ c o, c ≠ z → g5.get? c = some o → g8.get? c = some o := fun c o e1 e => c8.extBut _ _ e1 (c7.extBut _ _ e1 (Heap.get?_push_of_some _ e))
  have hT8 : IsPair g8 g5.objs.size x y := c8.extBut _ _ (Nat.ne_of_gt zlt) (c7.extBut _ _ (Nat.ne_of_gt zlt) (Heap.get?_push_size _ rfl))
  refine wpAny_pure ⟨_, rfl, ?_⟩
  refine hQ x y g5.objs.size g8 _ px py hz8 (up _ _ O.TOz hTO5) (D1.frame _ _ _ y1 fun b hb o e => up b o (fun q => O.z1 (q ▸ hb)) e) (D2.frame _ _ _ y2 fun b hb o e => up b o (fun q => O.z2 (q ▸ hb)) e) hT8
    (Nat.ne_of_gt zlt) (Nat.ne_of_gt olt) (Nat.ne_of_gt l1) (Nat.ne_of_gt l2) fun c o e1 e2 e3 e4 e => up c o e1 (c5.extBut _ _ e2 (c4.extBut _ _ e4 (c3.extBut _ _ e2 (c2.extBut _ _ e3 (c1.extBut _ _ e1 e)))))
theorem zip_end (D1 : Draws prog w A i1 f1 n1 P1 S1) (O : ZipOff z TI TO i1 i2 f1 f2) (hz : IsZip s.heap z TI TO .none) (hTI : IsPair s.heap TI (.ref i1) (.ref i2)) (_hTO : IsPair s.heap TO a b)
    (s1 : S1 n1 s.heap) {Q : Fin → Shared → Prop}
    (hE : ∀ h' e, (∀ c o, c ≠ z → c ≠ TO → c ≠ i1 → c ≠ i2 → s.heap.get? c = some o → h'.get? c = some o) → (∃ o, h'.get? e = some o ∧ o.cls = .type "StopIteration") → E (.ref e) { s with heap := h' }) :
    wpAny (model prog w) A (Builtin.«zip.__next__» ⟨[.ref z], []⟩) Q E s := by
  show wpAny _ _ (field (.ref z) 2 >>= _) _ _ _
  refine wpAny_bind (wpAny_field hz rfl (x := .bool false) rfl ?_)
  show wpAny _ _ (field (.ref z) 3 >>= _) _ _ _
  refine wpAny_bind (wpAny_field hz rfl (x := .ref TI) rfl ?_)
  refine wpAny_bind (wpAny_seqItems hTI rfl ?_)
  show wpAny _ _ (Builtin.SmallTypes.ownedTupleIsFree (.ref z) >>= _) _ _ _
  refine wpAny_bind ?_
  unfold Builtin.SmallTypes.ownedTupleIsFree
  refine wpAny_bind (wpAny_field hz rfl (x := .none) rfl (wpAny_pure ?_))
  simp only [if_true]
  refine wpAny_bind (wpAny_rule ?_)
  refine wpAny_bind (wpAny_field hz rfl (x := .ref TO) rfl ?_)
  refine wpAny_bind (wpAny_setField_rec hz (by simp) fun g1 hz1 c1 => ?_)
  replace hz1 : IsZip g1 z TI TO .ellipsis := hz1
  refine wpAny_bind ?_
  simp only [List.zipIdx_cons, List.zipIdx_nil, List.forIn_cons, List.forIn_nil]
  refine wpAny_bind (wpAny_bind (wpAny_onRaise ?_))
  show wpAny _ _ (Builtin.SmallTypes.nextOf (.ref i1) >>= _) _ _ _
  have t1 := drawn_same D1 s1 c1 O.z1
  refine wpAny_bind (D1.done _ _ _ t1 fun g2 e c2 he => ?_)
  obtain ⟨oe, hoe, hce⟩ := he
  have hz2 : IsZip g2 z TI TO .ellipsis := c2 _ _ O.i1z.symm hz1
  have hez : e ≠ z := fun x => by subst x; rw [hz2] at hoe; cases hoe; simp at hce
  refine wpAny_setField_rec hz2 (by simp) fun g3 _ c3 => hE g3 e (fun c o e1 _ e3 _ x => c3.extBut _ _ e1 (c2 _ _ e3 (c1.extBut _ _ e1 x))) ⟨oe, c3.extBut _ _ hez hoe, hce⟩
/-- a zip whose first source ends no later than the second -/
theorem zip_walks (D1 : Draws prog w A.in1 i1 f1 n1 P1 S1) (D2 : Draws prog w A.in1 i2 f2 n2 P2 S2) (O : ZipOff z TI TO i1 i2 f1 f2) (hn : n1 ≤ n2) (hi1 : i1 ∈ f1) (hi2 : i2 ∈ f2) :
    WalksU prog w A z (z :: TI :: TO :: (f1 ++ f2)) [z, TO, i1, i2] n1 (fun i vals => ∃ x y, P1 i x ∧ P2 i y ∧ vals = #[x, y])
      (fun i h => IsZip h z TI TO .none ∧ IsPair h TI (.ref i1) (.ref i2) ∧ (∃ a b, IsPair h TO a b) ∧ S1 i h ∧ S2 i h)
      (fun i T h => IsZip h z TI TO (rawInt T) ∧ IsPair h TI (.ref i1) (.ref i2) ∧ (∃ a b, IsPair h TO a b) ∧ S1 (i + 1) h ∧ S2 (i + 1) h ∧ T ≠ z ∧ T ≠ TO ∧ T ≠ i1 ∧ T ≠ i2) where
  sub := fun c hc => by
    simp only [List.mem_cons, List.not_mem_nil, or_false] at hc
    rcases hc with rfl | rfl | rfl | rfl
    · simp
    · simp
    · simp [hi1]
    · simp [hi2]
  frame := fun i h h' hst hk => by
    obtain ⟨hz, hTI, ⟨a, b, hTO⟩, t1, t2⟩ := hst
    exact ⟨hk z (by simp) _ hz, hk TI (by simp) _ hTI, ⟨a, b, hk TO (by simp) _ hTO⟩, D1.frame _ _ _ t1 fun b hb o e => hk b (by simp [hb]) o e, D2.frame _ _ _ t2 fun b hb o e => hk b (by simp [hb]) o e⟩
  item := fun i s Q E hi hst hQ => by
    obtain ⟨hz, hTI, ⟨a, b, hTO⟩, t1, t2⟩ := hst
    have hT : s.TypeIs (.ref z) "zip" := ⟨_, hz, rfl⟩
    unfold pyNext
    refine wpAny_bind (wpAny_attempt (wpAny_callSpecial?_slot (name := Str.ofString "__next__") hT PySem.F.slot_zip_next
      (wpAny_call_entry PySem.F.slot_zip_next hT PySem.F.entry_zip_next
        (zip_next D1 D2 O hz hTI hTO t1 t2 hi (Nat.lt_of_lt_of_le hi hn) fun x y T h' tk px py a1 a2 a3 a4 a5 q1 q2 q3 q4 hk => wpAny_pure ?_) (PySem.F.args_zip_next_1 _))))
    exact hQ T #[x, y] h' tk ⟨x, y, px, py, rfl⟩ ⟨_, a5, rfl, _, rfl⟩ ⟨a1, hk _ _ O.TIz O.TITO O.TIi1 O.TIi2 hTI, ⟨_, _, a2⟩, a3, a4, q1, q2, q3, q4⟩
      fun c o hc e => hk c o (fun x => hc (by simp [x])) (fun x => hc (by simp [x])) (fun x => hc (by simp [x])) (fun x => hc (by simp [x])) e
  go := fun elts k pos i T s Q E hm hQ => by
    obtain ⟨hz, hTI, ⟨a, b, hTO⟩, t1, t2, _⟩ := hm
    refine wpAny_letOwnedTupleGo_zip hz fun h' hz' hs' => hQ h' ⟨hz', hs'.extBut _ _ O.TIz hTI, ⟨a, b, hs'.extBut _ _ O.TOz hTO⟩, drawn_same D1 t1 hs' O.z1, drawn_same D2 t2 hs' O.z2⟩ fun c o hc e => hs'.extBut _ _ (fun x => hc (by simp [x])) e
  apart := fun i T h hm hT => by
    obtain ⟨_, _, _, _, _, t1, t2, t3, t4⟩ := hm
    simp only [List.mem_cons, List.not_mem_nil, or_false] at hT
    rcases hT with rfl | rfl | rfl | rfl
    · exact t1 rfl
    · exact t2 rfl
    · exact t3 rfl
    · exact t4 rfl
  done := fun s Q E hst hQ => by
    obtain ⟨hz, hTI, ⟨a, b, hTO⟩, t1, t2⟩ := hst
    have hT : s.TypeIs (.ref z) "zip" := ⟨_, hz, rfl⟩
    unfold pyNext
    refine wpAny_bind (wpAny_attempt (wpAny_callSpecial?_slot (name := Str.ofString "__next__") hT PySem.F.slot_zip_next
      (wpAny_call_entry PySem.F.slot_zip_next hT PySem.F.entry_zip_next (zip_end D1 O hz hTI hTO t1 fun h' e hk he => ?_) (PySem.F.args_zip_next_1 _))))
    obtain ⟨o, ho, hc⟩ := he
    refine wpAny_bind (wpAny_isInstance (T := "StopIteration") (b := true) ⟨o, ho, hc⟩ isSubtype_stop ?_)
    exact wpAny_pure (hQ _ s.toks fun c o hc e => hk c o (fun x => hc (by simp [x])) (fun x => hc (by simp [x])) (fun x => hc (by simp [x])) (fun x => hc (by simp [x])) e)
  self := fun i s Q E hst hQ => wpAny_pyIter_zip hst.1 hQ
end
end
section -- MZip2
open PySem PySem.W PyProof.Rows PySem.Spec PySem.Calls
open PyProof.Rows.LCg
noncomputable abbrev zipA (h : Heap) (l1 : Addr) : Heap := h.push { cls := .type "list_iterator", data := .fields #[.ref l1, .int 0 0] }
noncomputable abbrev zipB (h : Heap) (l1 : Addr) (x : Str) (t : Tok) : Heap := (zipA h l1).push { cls := .type "str_ascii_iterator", data := .fields #[.str x t, .int 0 0] }
noncomputable abbrev zipC (h : Heap) (l1 : Addr) (x : Str) (t : Tok) : Heap := (zipB h l1 x t).push { cls := .type "tuple", data := .seq #[.ref h.objs.size, .ref (zipA h l1).objs.size] }
noncomputable abbrev zipD (h : Heap) (l1 : Addr) (x : Str) (t : Tok) : Heap := (zipC h l1 x t).push { cls := .type "tuple", data := .seq #[.none, .none] }
noncomputable abbrev zipE (h : Heap) (l1 : Addr) (x : Str) (t : Tok) : Heap := (zipD h l1 x t).push { cls := .type "zip", data := .fields #[.none, .bool false, .bool false, .ref (zipB h l1 x t).objs.size, .ref (zipC h l1 x t).objs.size] }
set_option maxHeartbeats 2000000 in
theorem zip_new (l1 : Addr) (xs : Array Value) (x : Str) (t : Tok) (ha : x.cps.all (· < 128) = true) :
    Meets (Builtin.«zip.__new__» ⟨[.type "zip", .ref l1, .str x t], []⟩) (fun _ R s => s.heap.IsList l1 xs ∧
      R (.ok (.ret (.ref (zipD s.heap l1 x t).objs.size))) { s with heap := zipE s.heap l1 x t }) :=
  .of_wp fun prog w A R s h => by
    obtain ⟨hp, g, d, tk, os⟩ := s; obtain ⟨hl1, h⟩ := h
    have hsub := sub_zip
    have hL1 : Heap.IsList (Shared.heap ⟨hp, g, d, tk, os⟩) l1 xs := hl1
    wp_walk using wpAny_pyIter_list hL1, wpAny_pyIter_ascii ha
    exact ⟨_, rfl, h⟩
end
section -- MZip3
open PySem PySem.W PyProof.Rows PySem.Spec PySem.Calls
open PyProof.Rows.LCg
/-- a source of pairs for a comprehension whose element leaves the heap as it is -/
noncomputable def CompZ (prog : Program) (w : World) (A : Around) (h₀ : Heap) (L : Addr) (m : Str → Option Value) (env : Env) (elt : Expr) (x x₂ : Str) (scope : Scope) (cl : List (Str × Addr)) (Q : Value → Shared → Prop) (xv : Value) (s₁ : Shared) : Prop :=
  ∃ (z : Addr) (fp wr : List Addr) (n : Nat) (Pt : Nat → Array Value → Prop) (St : Nat → Heap → Prop) (Mid : Nat → Addr → Heap → Prop) (R : Nat → Value → Prop) (news : List (Addr × Obj)), xv = .ref z ∧ Fr h₀ L s₁.heap m ∧ News h₀ L s₁.heap news ∧
    (∀ A' : Around, A'.handled = none → WalksU prog w A' z fp wr n Pt St Mid) ∧ A.handled = none ∧ n ≤ sizeLine ∧ St 0 s₁.heap ∧ (∀ b ∈ fp, b < s₁.heap.objs.size) ∧ (∀ b ∈ wr, b ≠ L ∧ h₀.get? b = none ∧ ∀ p ∈ news, p.1 ≠ b) ∧
    (∀ i vals, Pt i vals → ∃ v₁ v₂, vals = #[v₁, v₂]) ∧
    (∀ i v₁ v₂ C oC m₂ h tk (E' : Value → Shared → Prop), i < n → Pt i #[v₁, v₂] → NsObj oC m₂ → m₂ x = some v₁ → m₂ x₂ = some v₂ → Fr h₀ L h m → News h₀ L h ((C, oC) :: news) →
      wpAny (model prog w) A (eval elt (compEnvC scope cl C env)) (fun y s' => ∃ tk', s' = { s₁ with heap := h, toks := tk' } ∧ R i y) E' { s₁ with heap := h, toks := tk }) ∧
    ∀ D h tk ys, Fr h₀ L h m → News h₀ L h ((D, lst ys) :: news) → Off1 D news → ys.length = n → (∀ i y, ys[i]? = some y → R i y) → Q (.ref D) { s₁ with heap := h, toks := tk }
section
variable {prog : Program} {w : World} {A : Around} {E : Value → Shared → Prop} {s : Shared} {h₀ : Heap} {L : Addr} {m : Str → Option Value} {env : Env}
theorem fr_wr {h h' : Heap} {wr : List Addr} (F : Fr h₀ L h m) (hk : ∀ b o, b ∉ wr → h.get? b = some o → h'.get? b = some o) (hw : ∀ b ∈ wr, b ≠ L ∧ h₀.get? b = none) : Fr h₀ L h' m :=
  ⟨F.ns.at' fun o e => hk L o (fun hm => (hw L hm).1 rfl) e, fun b o e => hk b o (fun hm => by rw [(hw b hm).2] at e; cases e) (F.keep b o e), F.above⟩
theorem news_wr {h h' : Heap} {wr : List Addr} {news : List (Addr × Obj)} (N : News h₀ L h news) (hk : ∀ b o, b ∉ wr → h.get? b = some o → h'.get? b = some o) (off : ∀ p ∈ news, p.1 ∉ wr) : News h₀ L h' news :=
  fun p hp => ⟨hk _ _ (off p hp) (N p hp).1, (N p hp).2⟩
theorem more_of {R : Nat → Value → Prop} {ys : List Value} {i : Nat} {y : Value} (hl : ys.length = i) (hR : ∀ j z, ys[j]? = some z → R j z) (hy : R i y) : ∀ j z, (ys ++ [y])[j]? = some z → R j z := by
  intro j z hz
  by_cases hj : j < i
  · rw [List.getElem?_append_left (by omega)] at hz
    exact hR j z hz
  · rw [List.getElem?_append_right (by omega)] at hz
    have hji : j = i := by
      have := (List.getElem?_eq_some_iff.mp hz).1
      simp at this; omega
    subst hji
    rw [hl, Nat.sub_self] at hz
    cases hz
    exact hy
theorem block_Z {elt iter : Expr} {x x₂ : Str} {px px₂ tp : Pos} {tk : Nat} {scope : Scope} {cl : List (Str × Addr)} {pos : Pos} {s₂ : Shared} {z : Addr} {fp wr : List Addr} {n : Nat} {Pt : Nat → Array Value → Prop} {St : Nat → Heap → Prop} {Mid : Nat → Addr → Heap → Prop} {R : Nat → Value → Prop} {news : List (Addr × Obj)}
    {RR : Value → Addr → Result → Shared → Prop}
    (W : WalksU prog w A z fp wr n Pt St Mid) (hsz : n ≤ sizeLine) (hcell : ∀ y ∈ scope.names, y.2 ≠ .cell) (hkind : scope.kind = .function) (hx : scope.names.lookup x = some .local) (hx₂ : scope.names.lookup x₂ = some .local) (hxx : x ≠ x₂) (hh : A.handled = none)
    (hst : St 0 s₂.heap) (hfp : ∀ b ∈ fp, b < s₂.heap.objs.size) (hwr : ∀ b ∈ wr, b ≠ L ∧ h₀.get? b = none ∧ ∀ p ∈ news, p.1 ≠ b) (hpt : ∀ i vals, Pt i vals → ∃ v₁ v₂, vals = #[v₁, v₂])
    (F : Fr h₀ L s₂.heap m) (N : News h₀ L s₂.heap news)
    (turn : ∀ i v₁ v₂ C oC m₂ h tk (E' : Value → Shared → Prop), i < n → Pt i #[v₁, v₂] → NsObj oC m₂ → m₂ x = some v₁ → m₂ x₂ = some v₂ → Fr h₀ L h m → News h₀ L h ((C, oC) :: news) →
      wpAny (model prog w) A (eval elt (compEnvC scope cl C env)) (fun y s' => ∃ tk', s' = { s₂ with heap := h, toks := tk' } ∧ R i y) E' { s₂ with heap := h, toks := tk })
    (hRR : ∀ D C h tk m' ys, Fr h₀ L h m → News h₀ L h ((D, lst ys) :: news) → Off1 D news → h.Ns C m' → h₀.get? C = none → h₀.get? D = none → C ≠ L → D ≠ L → C ≠ D → (∀ p ∈ news, p.1 ≠ C) → ys.length = n → (∀ i y, ys[i]? = some y → R i y) → RR (.ref D) C (.ok .next) { s₂ with heap := h, toks := tk }) :
    wpAny (model prog w) A (newList []) (fun acc s₃ => wpAny (model prog w) A (newFunctionEnv scope env.globals cl [] env.qual none .none (some env)) (fun cenv s₄ =>
      codeAny (model prog w) A (.compStart (.ListComp elt [⟨.Tuple [.Name x px, .Name x₂ px₂] tk tp, iter, [], 0⟩] scope pos) 0 (.ref z) acc { cenv with scope := relabel scope env }) (RR acc cenv.locals) s₄) E s₃) E s₂ := by
  refine wpAny_newObj_type (wpAny_newFunctionEnv hcell (by intro y hy; simp at hy) (fun h₁ hns₁ hsb₁ => ?_) hkind)
  dsimp only at hns₁ hsb₁ ⊢
  generalize hH2 : s₂.heap.push { cls := .type "list", dict := none, data := .seq ([] : List Value).toArray } = H2 at hns₁ hsb₁ ⊢
  have hC : H2.objs.size = s₂.heap.objs.size + 1 := by rw [← hH2, Heap.size_push]
  have hDC : s₂.heap.objs.size ≠ H2.objs.size := by rw [hC]; exact Nat.ne_of_lt (Nat.lt_succ_self _)
  have below : ∀ b, b < s₂.heap.objs.size → b ≠ H2.objs.size ∧ b ≠ s₂.heap.objs.size := fun b hb => ⟨by rw [hC]; exact Nat.ne_of_lt (Nat.lt_succ_of_lt hb), Nat.ne_of_lt hb⟩
  have hDf : s₂.heap.objs.size ∉ fp := fun hm => Nat.lt_irrefl _ (hfp _ hm)
  have hCf : H2.objs.size ∉ fp := fun hm => by have := hfp _ hm; rw [hC] at this; exact Nat.lt_irrefl _ (Nat.lt_of_succ_lt this)
  have old : ∀ b o, s₂.heap.get? b = some o → h₁.get? b = some o := fun b o e => hsb₁.extBut b o (below b (Heap.lt_size e)).1 (Heap.get?_push_of_some _ (hH2 ▸ Heap.get?_push_of_some _ e))
  have hacc : h₁.get? s₂.heap.objs.size = some (lst []) := hsb₁.extBut _ _ hDC (Heap.get?_push_of_some _ (hH2 ▸ Heap.get?_push_size _ rfl))
  have hst₁ : St 0 h₁ := W.frame _ _ _ hst fun b _ o e => old b o e
  have fresh : ∀ a, s₂.heap.objs.size ≤ a → s₂.heap.get? a = none := fun a ha => by
    cases e : s₂.heap.get? a with
    | none => rfl
    | some o' => exact absurd (Heap.lt_size e) (Nat.not_lt.mpr ha)
  have fresh₀ : ∀ a, s₂.heap.objs.size ≤ a → h₀.get? a = none := fun a ha => by
    cases e : h₀.get? a with
    | none => rfl
    | some o' => have := F.keep a o' e; rw [fresh a ha] at this; cases this
  have hD₀ : h₀.get? s₂.heap.objs.size = none := fresh₀ _ (Nat.le_refl _)
  have hC₀ : h₀.get? H2.objs.size = none := fresh₀ _ (by rw [hC]; exact Nat.le_succ _)
  have hLlt : L < s₂.heap.objs.size := F.ns.lt
  have hDL : s₂.heap.objs.size ≠ L := Ne.symm (below L hLlt).2
  have hCL : H2.objs.size ≠ L := Ne.symm (below L hLlt).1
  have offD : ∀ p ∈ news, p.1 ≠ s₂.heap.objs.size := fun p hp => (below _ (Heap.lt_size (N p hp).1)).2
  have offC : ∀ p ∈ news, p.1 ≠ H2.objs.size := fun p hp => (below _ (Heap.lt_size (N p hp).1)).1
  have o1 : Off1 s₂.heap.objs.size news := (Off3.of (I := s₂.heap.objs.size) (C := H2.objs.size) fun p hp => ⟨offD p hp, offC p hp, offD p hp⟩).one
  have wD : s₂.heap.objs.size ∉ wr := fun hm => hDf (W.sub _ hm)
  have wC : H2.objs.size ∉ wr := fun hm => hCf (W.sub _ hm)
  have offW : ∀ ys : List Value, ∀ p ∈ (s₂.heap.objs.size, lst ys) :: news, p.1 ∉ wr := fun ys p hp => by
    rcases List.mem_cons.mp hp with rfl | hp
    · exact wD
    · exact fun hm => (hwr _ hm).2.2 p hp rfl
  have hw2 : ∀ b ∈ wr, b ≠ L ∧ h₀.get? b = none := fun b hb => ⟨(hwr b hb).1, (hwr b hb).2.1⟩
  have loop : ∀ s₃ : Shared, s₃ = { s₂ with heap := h₁, toks := s₂.toks + ([] : List (Str × Value)).length } →
      codeAny (model prog w) A (.compLoop (.ListComp elt [⟨.Tuple [.Name x px, .Name x₂ px₂] tk tp, iter, [], 0⟩] scope pos) 0 (.ref z) (.ref s₂.heap.objs.size) (compEnvC scope cl H2.objs.size env))
        (RR (.ref s₂.heap.objs.size) H2.objs.size) s₃ := by
    rintro s₃ rfl
    refine LCp.codeAny_compLoop_pair
      (fun k s' => ∃ h' tk i ys m', s' = { s₂ with heap := h', toks := tk } ∧ i ≤ n ∧ k = n + 1 - i ∧ ys.length = i ∧ (∀ j y, ys[j]? = some y → R j y) ∧ St i h' ∧ Fr h₀ L h' m ∧ h'.Ns H2.objs.size m' ∧ News h₀ L h' ((s₂.heap.objs.size, lst ys) :: news)) ?_ (n + 1)
      ⟨h₁, _, 0, [], _, rfl, Nat.zero_le _, rfl, rfl, (fun j y hy => by simp at hy), hst₁, F.keeps old, hns₁, fun p hp => ?_⟩
    · rintro k s' ⟨h', tk, i, ys, m', rfl, hi, rfl, hyl, hR, hst', F', hn', N'⟩
      by_cases hlt : i < n
      · refine W.item i _ _ _ hlt hst' fun T vals g₂ tk₂ hP hT hm hk => ?_
        obtain ⟨v₁, v₂, rfl⟩ := hpt i vals hP
        have F₂ := fr_wr F' hk hw2
        have N₂ := news_wr N' hk (offW ys)
        have n₂ : g₂.Ns H2.objs.size m' := hn'.at' fun o e => hk _ o wC e
        refine W.go _ _ _ i T _ _ _ hm fun g₃ st₃ hk₃ => ?_
        have F₃ := fr_wr F₂ hk₃ hw2
        have N₃ := news_wr N₂ hk₃ (offW ys)
        have n₃ : g₃.Ns H2.objs.size m' := n₂.at' fun o e => hk₃ _ o wC e
        have T₃ : IsTup g₃ T #[v₁, v₂] := by
          obtain ⟨o, e1, e2, nt, e3⟩ := hT
          exact ⟨o, hk₃ _ _ (W.apart i T g₂ hm) e1, e2, nt, e3⟩
        refine assign_Tuple_tuple hh T₃ rfl rfl fun g₄ he => ?_
        have up₄ : ∀ b o, g₃.get? b = some o → g₄.get? b = some o := fun b o e => he b o (Nat.ne_of_lt (Heap.lt_size e)) e
        refine assignInOrder_cons (wpAny_assign_Name (wpAny_storeName_local (lookup_relabel_local hx) (n₃.at' fun o e => up₄ _ o e) (fun g₅ n₅ s₅ => ?_) (by simp [compEnvC, relabel, hkind])))
        refine assignInOrder_cons (wpAny_assign_Name (wpAny_storeName_local (lookup_relabel_local hx₂) n₅ (fun g₆ n₆ s₆ => ?_) (by simp [compEnvC, relabel, hkind])))
        refine assignInOrder_nil ?_
        have up₆ : ∀ b o, b ≠ H2.objs.size → g₃.get? b = some o → g₆.get? b = some o := fun b o hb e => s₆.extBut b o hb (s₅.extBut b o hb (up₄ b o e))
        have st₆ : St (i + 1) g₆ := W.frame _ _ _ st₃ fun b hb o e => up₆ b o (fun q => hCf (q ▸ hb)) e
        obtain ⟨oC, heC, hoC⟩ := ns_obj n₆
        have F₆ : Fr h₀ L g₆ m := ((F₃.keeps up₄).change s₅ hCL hC₀).change s₆ hCL hC₀
        have N₆ : News h₀ L g₆ ((s₂.heap.objs.size, lst ys) :: news) := fun p hp => by
          have q := N₃ p hp
          refine ⟨up₆ _ _ ?_ q.1, q.2⟩
          rcases List.mem_cons.mp hp with rfl | hp
          · exact hDC
          · exact offC p hp
        have N₆' : News h₀ L g₆ ((H2.objs.size, oC) :: news) := fun p hp => by
          rcases List.mem_cons.mp hp with rfl | hp
          · exact ⟨heC, hCL, hC₀⟩
          · exact N₆ p (List.mem_cons_of_mem _ hp)
        refine wpAny_mono (turn i v₁ v₂ H2.objs.size oC _ g₆ _ _ hlt hP hoC (by simp [hxx]) (by simp) F₆ N₆') (fun y s₄ hy => ?_) fun _ _ e => e
        obtain ⟨tk₇, rfl, hRy⟩ := hy
        have zD := (N₆ (s₂.heap.objs.size, lst ys) List.mem_cons_self).1
        refine append_at (hsz := by show ys.toArray.size ≤ sizeLine; rw [List.size_toArray, hyl]; exact Nat.le_trans hi hsz) zD fun g₈ s₈ hD₈ => ?_
        refine ⟨n + 1 - (i + 1), by omega, g₈, tk₇, i + 1, ys ++ [y], _, rfl, hlt, rfl, by rw [List.length_append, List.length_singleton, hyl], more_of hyl hR hRy, W.frame _ _ _ st₆ fun b hb o e => s₈.extBut b o (fun q => hDf (q ▸ hb)) e, F₆.change s₈ hDL hD₀,
          n₆.sameBut s₈ (Ne.symm hDC), fun p hp => ?_⟩
        rcases List.mem_cons.mp hp with rfl | hp
        · exact ⟨hD₈.trans (congrArg some (lst_snoc ys y)), hDL, hD₀⟩
        · have q := N₆ p (List.mem_cons_of_mem _ hp)
          exact ⟨s₈.extBut _ _ (offD p hp) q.1, q.2⟩
      · obtain rfl : i = n := Nat.le_antisymm hi (Nat.not_lt.mp hlt)
        refine W.done _ _ _ hst' fun g₂ tk₂ hk => ?_
        exact hRR _ _ g₂ tk₂ _ ys (fr_wr F' hk hw2) (news_wr N' hk (offW ys)) o1 (hn'.at' fun o e => hk _ o wC e) hC₀ hD₀ hCL hDL (Ne.symm hDC) offC hyl hR
    · rcases List.mem_cons.mp hp with rfl | hp
      · exact ⟨hacc, hDL, hD₀⟩
      · exact ⟨old _ _ (N p hp).1, (N p hp).2⟩
  exact codeAny_compStart_list (loop _ rfl) (W.self 0 _ _ _ hst₁ (loop _ rfl))
theorem comp_Z {elt iter : Expr} {x x₂ : Str} {px px₂ tp : Pos} {tk : Nat} {scope : Scope} {cl : List (Str × Addr)} {pos : Pos} {Q : Value → Shared → Prop} (F₀ : Fr h₀ L s.heap m)
    (hclos : closureFor scope env = pure cl) (hcell : ∀ y ∈ scope.names, y.2 ≠ .cell) (hkind : scope.kind = .function)
    (hnames : ∀ y ∈ scope.names, y.2 = .local → scope.names.lookup y.1 = some .local) (hx : scope.names.lookup x = some .local) (hx₂ : scope.names.lookup x₂ = some .local) (hxx : x ≠ x₂)
    (h : wpAny (model prog w) A (eval iter env) (CompZ prog w A h₀ L m env elt x x₂ scope cl Q) E s)
    (hs : ∀ x, foldedSetIterable iter env x = pure x := by intro _; rfl) :
    wpAny (model prog w) A (eval (.ListComp elt [⟨.Tuple [.Name x px, .Name x₂ px₂] tk tp, iter, [], 0⟩] scope pos) env) Q E s := by
  rw [eval_ListComp]
  refine wpAny_comprehension_free (use := none) rfl hs hclos hkind hnames (wpAny_mono h (fun xv s₁ h₁ => ?_) fun _ _ e => e)
  obtain ⟨z, fp, wr, n, Pt, St, Mid, R, news, rfl, F, N, W, hh, hsz, hst, hfp, hwr, hpt, turn, done⟩ := h₁
  refine (W A hh).self 0 _ _ _ hst ?_
  refine block_Z (W A hh) hsz hcell hkind hx hx₂ hxx hh hst hfp hwr hpt F N turn ?_
  intro D C h tk m' ys F' N' o1 hn hC₀ hD₀ hCL hDL hCD offC hyl hR
  refine ⟨m', hn, fun h'' hs'' => done D h'' tk ys (F'.change hs'' hCL hC₀) (fun p hp => ?_) o1 hyl hR⟩
  refine ⟨hs''.extBut _ _ ?_ (N' p hp).1, (N' p hp).2⟩
  rcases List.mem_cons.mp hp with rfl | hp
  · exact Ne.symm hCD
  · exact offC p hp
end
end
section -- MZip4
open PySem PySem.W PyProof.Rows PySem.Spec PySem.Calls
open PyProof.Rows.LCg
section
variable {prog : Program} {w : World} {A : Around} {E : Value → Shared → Prop} {s : Shared} {h₀ : Heap} {L : Addr} {m : Str → Option Value} {env : Env}
theorem zip_call {l1 : Addr} {xs : Array Value} {x : Str} {t : Tok} {Q : Value → Shared → Prop} (hl1 : s.heap.IsList l1 xs) (ha : x.cps.all (· < 128) = true)
    (h : ∀ h', IsZip h' (s.heap.objs.size + 4) (s.heap.objs.size + 2) (s.heap.objs.size + 3) .none → IsPair h' (s.heap.objs.size + 2) (.ref s.heap.objs.size) (.ref (s.heap.objs.size + 1)) →
      IsPair h' (s.heap.objs.size + 3) .none .none → h'.IsListIter s.heap.objs.size l1 0 → h'.IsStrIter (s.heap.objs.size + 1) "str_ascii_iterator" x t 0 → h'.objs.size = s.heap.objs.size + 5 →
      (∀ c o, s.heap.get? c = some o → h'.get? c = some o) → Q (.ref (s.heap.objs.size + 4)) { s with heap := h' }) :
    wpAny (model prog w) A (call (.type "zip") [.ref l1, .str x t]) Q E s := by
  refine callType_new PySem.F.called_zip (by decide) (PySem.F.typeCall_zip_2 _ _) (PySem.F.newCall_zip_2 _ _) (fun obj => PySem.F.args_object_init_3 obj _ _) PySem.F.entry_zip_new
    (zip_new l1 xs x t ha) ⟨hl1, ?_⟩
  have z1 : (zipA s.heap l1).objs.size = s.heap.objs.size + 1 := Heap.size_push ..
  have z2 : (zipB s.heap l1 x t).objs.size = s.heap.objs.size + 2 := by rw [Heap.size_push, z1]
  have z3 : (zipC s.heap l1 x t).objs.size = s.heap.objs.size + 3 := by rw [Heap.size_push, z2]
  have z4 : (zipD s.heap l1 x t).objs.size = s.heap.objs.size + 4 := by rw [Heap.size_push, z3]
  have z5 : (zipE s.heap l1 x t).objs.size = s.heap.objs.size + 5 := by rw [Heap.size_push, z4]
  have g5 : (zipE s.heap l1 x t).get? (zipD s.heap l1 x t).objs.size = some _ := Heap.get?_push_size _ rfl
  have g4 : (zipE s.heap l1 x t).get? (zipC s.heap l1 x t).objs.size = some _ := Heap.get?_push_of_some _ (Heap.get?_push_size _ rfl)
  have g3 : (zipE s.heap l1 x t).get? (zipB s.heap l1 x t).objs.size = some _ := Heap.get?_push_of_some _ (Heap.get?_push_of_some _ (Heap.get?_push_size _ rfl))
  have g2 : (zipE s.heap l1 x t).get? (zipA s.heap l1).objs.size = some _ := Heap.get?_push_of_some _ (Heap.get?_push_of_some _ (Heap.get?_push_of_some _ (Heap.get?_push_size _ rfl)))
  have g1 : (zipE s.heap l1 x t).get? s.heap.objs.size = some _ := Heap.get?_push_of_some _ (Heap.get?_push_of_some _ (Heap.get?_push_of_some _ (Heap.get?_push_of_some _ (Heap.get?_push_size _ rfl))))
  show _ ∧ _
  rw [z2, z3, z4] at g5
  rw [z1, z2] at g3
  rw [z3] at g4
  rw [z1] at g2
  rw [z4]
  exact ⟨⟨_, g5, rfl⟩, h _ g5 g3 g4 ⟨_, g1, rfl, rfl⟩ ⟨_, g2, rfl, rfl⟩ z5 fun c o e =>
    Heap.get?_push_of_some _ (Heap.get?_push_of_some _ (Heap.get?_push_of_some _ (Heap.get?_push_of_some _ (Heap.get?_push_of_some _ e))))⟩
theorem zip_comp {elt : Expr} {x x₂ : Str} {scope : Scope} {cl : List (Str × Addr)} {l1 : Addr} {ys : List Value} {W : List Nat} {t : Tok} {news : List (Addr × Obj)} {Q : Value → Shared → Prop} (R : Nat → Value → Prop) (hh : A.handled = none) (F : Fr h₀ L s.heap m) (N : News h₀ L s.heap news) (hm : (l1, lst ys) ∈ news) (hW : ∀ c ∈ W, c < 128) (hl : ys.length = W.length) (hz : ys.length ≤ 1000)
    (turn : ∀ i y c u C oC m₂ h tk (E' : Value → Shared → Prop), ys[i]? = some y → W[i]? = some c → NsObj oC m₂ → m₂ x = some y → m₂ x₂ = some (.str (txt [c]) u) → Fr h₀ L h m → News h₀ L h ((C, oC) :: news) →
      wpAny (model prog w) A (eval elt (compEnvC scope cl C env)) (fun v s' => ∃ tk', s' = { s with heap := h, toks := tk' } ∧ R i v) E' { s with heap := h, toks := tk })
    (done : ∀ D h tk zs, Fr h₀ L h m → News h₀ L h ((D, lst zs) :: news) → Off1 D news → zs.length = ys.length → (∀ i y, zs[i]? = some y → R i y) → Q (.ref D) { s with heap := h, toks := tk }) :
    wpAny (model prog w) A (call (.type "zip") [.ref l1, .str (txt W) t]) (CompZ prog w A h₀ L m env elt x x₂ scope cl Q) E s := by
  have hL := N.isList hm
  have ha : (txt W).cps.all (· < 128) = true := by
    rw [Array.all_eq_true']
    intro c hc
    exact decide_eq_true (hW c (by simpa using hc))
  refine zip_call hL ha fun h' a1 a2 a3 a4 a5 a6 up => ?_
  have hlt : l1 < s.heap.objs.size := by obtain ⟨_, e, _⟩ := hL; exact Heap.lt_size e
  have hlt' : @LT.lt Nat _ l1 s.heap.objs.size := hlt
  have hLlt : @LT.lt Nat _ L s.heap.objs.size := F.ns.lt
  have fresh₀ : ∀ a, s.heap.objs.size ≤ a → h₀.get? a = none := fun a ha => by
    cases e : h₀.get? a with
    | none => rfl
    | some o' => exact absurd (Heap.lt_size (F.keep a o' e)) (Nat.not_lt.mpr ha)
  generalize hn : s.heap.objs.size = n at *
  have ne : ∀ (i j : Nat), i ≠ j → (n + i : Nat) ≠ n + j := fun i j h => by (first | lia | omega)
  have O : ZipOff (n + 4) (n + 2) (n + 3) n (n + 1) [n, l1] [n + 1] := by
    refine ⟨?_, ?_, ?_, ?_, ?_, ?_, ?_, ?_, ?_, ?_, ?_, ?_, ?_, ?_, ?_, ?_⟩
    case refine_11 => simp only [List.mem_cons, List.not_mem_nil, or_false, not_or]; exact ⟨Nat.ne_of_gt (by (first | lia | omega)), Nat.ne_of_gt (by (first | lia | omega))⟩
    case refine_13 => simp only [List.mem_cons, List.not_mem_nil, or_false, not_or]; exact ⟨Nat.ne_of_gt (by (first | lia | omega)), Nat.ne_of_gt (by (first | lia | omega))⟩
    case refine_16 => simp only [List.mem_cons, List.not_mem_nil, or_false, not_or]; exact ⟨Nat.ne_of_gt (by (first | lia | omega)), Nat.ne_of_gt (by (first | lia | omega))⟩
    case refine_12 => simp only [List.mem_cons, List.not_mem_nil, or_false]; exact Nat.ne_of_gt (by (first | lia | omega))
    case refine_14 => simp only [List.mem_cons, List.not_mem_nil, or_false]; exact Nat.ne_of_gt (by (first | lia | omega))
    case refine_15 => simp only [List.mem_cons, List.not_mem_nil, or_false]; exact Nat.ne_of_lt (by (first | lia | omega))
    all_goals first | exact Nat.ne_of_lt (by (first | lia | omega)) | exact Nat.ne_of_gt (by (first | lia | omega))
  have W1 : ∀ A' : Around, A'.handled = none → WalksU prog w A' (n + 4) _ _ ys.toArray.size _ _ _ := fun A' hh' => zip_walks (A := A') (Draws.list (prog := prog) (w := w) (A := A'.in1) hh' n l1 (Nat.ne_of_lt hlt') ys.toArray) (Draws.strAscii (prog := prog) (w := w) (A := A'.in1) hh' (n + 1) (txt W) t) O (by simp [hl]) (by simp) (by simp)
  refine ⟨n + 4, _, _, _, _, _, _, R, news, rfl, F.keeps up, N.grown up, W1, hh, by rw [sizeLine_eq]; simp only [List.size_toArray]; (first | lia | omega), ⟨a1, a2, ⟨_, _, a3⟩, ⟨a4, hL.at fun o e => up _ o e⟩, a5⟩, ?_, ?_, ?_, ?_, ?_⟩
  · intro b hb
    show b < h'.objs.size
    rw [a6]
    have hb' : b = n + 4 ∨ b = n + 2 ∨ b = n + 3 ∨ b = n ∨ b = l1 ∨ b = n + 1 := by simpa using hb
    rcases hb' with rfl | rfl | rfl | rfl | rfl | rfl
    · exact Nat.lt_succ_self _
    · exact Nat.add_lt_add_left (by decide) n
    · exact Nat.add_lt_add_left (by decide) n
    · exact Nat.lt_add_of_pos_right (by decide)
    · exact Nat.lt_of_lt_of_le hlt' (Nat.le_add_right _ _)
    · exact Nat.add_lt_add_left (by decide) n
  · intro b hb
    have hb' : n ≤ b := by
      have : b = n + 4 ∨ b = n + 3 ∨ b = n ∨ b = n + 1 := by simpa using hb
      rcases this with rfl | rfl | rfl | rfl
      · exact Nat.le_add_right _ _
      · exact Nat.le_add_right _ _
      · exact Nat.le_refl _
      · exact Nat.le_add_right _ _
    refine ⟨Nat.ne_of_gt (Nat.lt_of_lt_of_le hLlt hb'), fresh₀ b hb', fun p hp => Nat.ne_of_lt (Nat.lt_of_lt_of_le (hn ▸ Heap.lt_size (N p hp).1) hb')⟩
  · rintro i vals ⟨v₁, v₂, _, _, rfl⟩
    exact ⟨_, _, rfl⟩
  · rintro i v₁ v₂ C oC m₂ g tk E' hi ⟨y, v, hy, ⟨c, u, hc, rfl⟩, e⟩ hC hx hx₂ F' N'
    obtain ⟨rfl, rfl⟩ : v₁ = y ∧ v₂ = .str ⟨#[c]⟩ u := by
      have := congrArg Array.toList e
      simpa using this
    exact turn i v₁ c u C oC m₂ g tk E' (by simpa using hy) (by simpa using hc) hC hx hx₂ F' N'
  · intro D g tk zs F' N' o1 hzl hz'
    exact done D g tk zs F' N' o1 (by rw [hzl]; simp) hz'
end
end
section
local macro_rules | `(tactic| k_steps) => `(tactic| repeat' (first | (k_unfold; (try dsimp only)) | (walk1; (try dsimp only)) | (dsimp only; walk1) | fail "no step"))
local macro_rules | `(tactic| walk_at $s:str) => `(tactic| k_extra $s)
section -- A1
open PySem PySem.W PyProof.Rows
theorem fill_A1 : KK = KK ∧ PySem.Challenge.rw_pa0018_01 = PySem.Challenge.rw_pa0018_01 := by k_fill; exact ⟨rfl, rfl⟩
set_option maxHeartbeats 4000000 in
theorem buffer_spec (w : World) (b : Array UInt8) (t : Tok) : Spec w 1 78 [.bytes b t] [] (fun _ => True) (fun _ v _ => v = .bytes b t) := by
  k_with_none
  k_with "exec" => ((with_reducible show wpAny _ _ (exec (stm _ _) _) _ _ _); k_dflt (conv => arg 3; arg 1; whnf))
  k_with "call type:type" => ((with_reducible show wpAny _ _ (call (Value.type "type") [Value.bytes _ _]) _ _ _); refine type_bytes ?_)
  k_with "getMethod str" => ((with_reducible show wpAny _ _ (getMethod (Value.str _ _) (PySem.Str.ofString "encode") _) _ _ _); refine encode_get ?_)
  k_with "call builtin:str.encode" => (k_dflt (refine encode_call (by assumption) (by assumption) ?_); intro _)
  k_with "getMethod bytes" => (first | refine hex_get ?_ | refine bupper_get ?_)
  k_with "call builtin:bytes.hex" => (k_dflt (refine hex_call (by assumption) ?_); intro _)
  k_with "call builtin:bytes.upper" => (k_dflt (refine bupper_call (by assumption) ?_); intro _)
  k_with "compareOp In int ref" => ((with_reducible show wpAny _ _ (compareOp CmpOp.In (Value.int _ _) (Value.ref 170)) _ _ _); k_dflt (refine in170 (by k_in) ?_))
  k_with "getMethod ref" => ((with_reducible show wpAny _ _ (getMethod (Value.ref 181) _ _) _ _ _); k_dflt (refine meth181 (by k_in) ?_))
  k_with "call builtin:dict.get" => ((with_reducible show wpAny _ _ (call (Value.builtin "dict.get") [Value.ref 181, Value.int _ _]) _ _ _); k_dflt (refine get181 (by k_in) ?_))
  k_with "call builtin:list.append" => (k_dflt (refine' append_K ?k1 ?k2 ?k3 ?_ ?z; (case k1 => k_asm); (case k2 => k_asm); (case k3 => k_upd); (case z => (rw [sizeLine_eq]; (try simp only [Array.size_push, Array.size_empty]); omega))); intro h' F' N'; (try k_sweep))
  k_with "binaryOp LShift int int" => (k_dflt (refine' lshift_int_small ?a ?b ?c ?_; (case a => omega); (case b => omega); (case c => (first | omega | (simp only [bitAnd_m6, bitAnd_m2, bitAnd_m4]; omega)))))
  k_with "subscriptTail" => ((with_reducible show wpAny _ _ (subscriptTail _ _ (Value.bytes _ _) (Value.int _ _)) _ _ _); k_dflt (refine' item_signs ?e ?a ?b ?_; (case e => exact rfl); (case a => (simp only [bitAnd_m6, bitAnd_m2, bitAnd_m4, Int.reduceToNat, Int.reducePow]; omega)); (case b => (simp only [bitAnd_m6, bitAnd_m2, bitAnd_m4, Int.reduceToNat, Int.reducePow]; omega))); intro _)
  intro dp un fr gd s Q E V _ hd hu ret
  refine' enter [(Str.ofString "data", .bytes b t)] V ?k6 ?k7 (by show dp < recursionLimit; omega) ?k9 ?kB ?c5 ?c2 ?c3 ?c4 ?_
  (case k6 => k_is)
  (case k7 => k_is)
  (case k9 => first | exact BindsTo.of_eq rfl | exact binds_K V.k rfl (by k_is) rfl rfl rfl)
  (case kB => exact locs rfl)
  (case c5 => decide +kernel)
  (case c2 => exact rfl)
  (case c3 => exact rfl)
  (case c4 => exact rfl)
  rintro L h₁ tk₁ X ⟨p, loose, mean, mg, mb, T⟩ F N
  dsimp only [ofB] at F
  rw [show bod 9 = [stm 9 0, stm 9 1, stm 9 2, stm 9 3] from rfl]
  have hsc : sco 9 = sco 9 := rfl
  (conv at hsc => rhs; whnf)
  rw [hsc]
  clear hsc
  (try k_fold)
  k_steps
  all_goals (try dsimp only)
  rename Fr _ _ _ _ => F9
  exact ret _ _ _ F9.keep rfl
set_option maxHeartbeats 4000000 in
theorem asciibuf_spec (w : World) (b : Array UInt8) (t : Tok) : Spec w 1 71 [.bytes b t] [] (fun _ => True) (fun _ v _ => v = .bytes b t) := by
  k_with_none
  k_with "exec" => ((with_reducible show wpAny _ _ (exec (stm _ _) _) _ _ _); k_dflt (conv => arg 3; arg 1; whnf))
  k_with "call type:type" => ((with_reducible show wpAny _ _ (call (Value.type "type") [Value.bytes _ _]) _ _ _); refine type_bytes ?_)
  k_with "getMethod str" => ((with_reducible show wpAny _ _ (getMethod (Value.str _ _) (PySem.Str.ofString "encode") _) _ _ _); refine encode_get ?_)
  k_with "call builtin:str.encode" => (k_dflt (refine encode_call (by assumption) (by assumption) ?_); intro _)
  k_with "getMethod bytes" => (first | refine hex_get ?_ | refine bupper_get ?_)
  k_with "call builtin:bytes.hex" => (k_dflt (refine hex_call (by assumption) ?_); intro _)
  k_with "call builtin:bytes.upper" => (k_dflt (refine bupper_call (by assumption) ?_); intro _)
  k_with "compareOp In int ref" => ((with_reducible show wpAny _ _ (compareOp CmpOp.In (Value.int _ _) (Value.ref 170)) _ _ _); k_dflt (refine in170 (by k_in) ?_))
  k_with "getMethod ref" => ((with_reducible show wpAny _ _ (getMethod (Value.ref 181) _ _) _ _ _); k_dflt (refine meth181 (by k_in) ?_))
  k_with "call builtin:dict.get" => ((with_reducible show wpAny _ _ (call (Value.builtin "dict.get") [Value.ref 181, Value.int _ _]) _ _ _); k_dflt (refine get181 (by k_in) ?_))
  k_with "call builtin:list.append" => (k_dflt (refine' append_K ?k1 ?k2 ?k3 ?_ ?z; (case k1 => k_asm); (case k2 => k_asm); (case k3 => k_upd); (case z => (rw [sizeLine_eq]; (try simp only [Array.size_push, Array.size_empty]); omega))); intro h' F' N'; (try k_sweep))
  k_with "binaryOp LShift int int" => (k_dflt (refine' lshift_int_small ?a ?b ?c ?_; (case a => omega); (case b => omega); (case c => (first | omega | (simp only [bitAnd_m6, bitAnd_m2, bitAnd_m4]; omega)))))
  k_with "subscriptTail" => ((with_reducible show wpAny _ _ (subscriptTail _ _ (Value.bytes _ _) (Value.int _ _)) _ _ _); k_dflt (refine' item_signs ?e ?a ?b ?_; (case e => exact rfl); (case a => (simp only [bitAnd_m6, bitAnd_m2, bitAnd_m4, Int.reduceToNat, Int.reducePow]; omega)); (case b => (simp only [bitAnd_m6, bitAnd_m2, bitAnd_m4, Int.reduceToNat, Int.reducePow]; omega))); intro _)
  intro dp un fr gd s Q E V _ hd hu ret
  refine' enter [(Str.ofString "data", .bytes b t)] V ?k6 ?k7 (by show dp < recursionLimit; omega) ?k9 ?kB ?c5 ?c2 ?c3 ?c4 ?_
  (case k6 => k_is)
  (case k7 => k_is)
  (case k9 => first | exact BindsTo.of_eq rfl | exact binds_K V.k rfl (by k_is) rfl rfl rfl)
  (case kB => exact locs rfl)
  (case c5 => decide +kernel)
  (case c2 => exact rfl)
  (case c3 => exact rfl)
  (case c4 => exact rfl)
  rintro L h₁ tk₁ X ⟨p, loose, mean, mg, mb, T⟩ F N
  dsimp only [ofB] at F
  rw [show bod 8 = [stm 8 0, stm 8 1, stm 8 2, stm 8 3, stm 8 4] from rfl]
  have hsc : sco 8 = sco 8 := rfl
  (conv at hsc => rhs; whnf)
  rw [hsc]
  clear hsc
  (try k_fold)
  k_steps
  all_goals (try dsimp only)
  rename Fr _ _ _ _ => F9
  exact ret _ _ _ F9.keep rfl
set_option maxHeartbeats 4000000 in
theorem truth_spec (w : World) : Spec w 1 85 [.bool false] [] (fun _ => True) (fun _ v _ => v = .bool false) := by
  k_with_none
  k_with "exec" => ((with_reducible show wpAny _ _ (exec (stm _ _) _) _ _ _); k_dflt (conv => arg 3; arg 1; whnf))
  k_with "call type:type" => ((with_reducible show wpAny _ _ (call (Value.type "type") [Value.bytes _ _]) _ _ _); refine type_bytes ?_)
  k_with "getMethod str" => ((with_reducible show wpAny _ _ (getMethod (Value.str _ _) (PySem.Str.ofString "encode") _) _ _ _); refine encode_get ?_)
  k_with "call builtin:str.encode" => (k_dflt (refine encode_call (by assumption) (by assumption) ?_); intro _)
  k_with "getMethod bytes" => (first | refine hex_get ?_ | refine bupper_get ?_)
  k_with "call builtin:bytes.hex" => (k_dflt (refine hex_call (by assumption) ?_); intro _)
  k_with "call builtin:bytes.upper" => (k_dflt (refine bupper_call (by assumption) ?_); intro _)
  k_with "compareOp In int ref" => ((with_reducible show wpAny _ _ (compareOp CmpOp.In (Value.int _ _) (Value.ref 170)) _ _ _); k_dflt (refine in170 (by k_in) ?_))
  k_with "getMethod ref" => ((with_reducible show wpAny _ _ (getMethod (Value.ref 181) _ _) _ _ _); k_dflt (refine meth181 (by k_in) ?_))
  k_with "call builtin:dict.get" => ((with_reducible show wpAny _ _ (call (Value.builtin "dict.get") [Value.ref 181, Value.int _ _]) _ _ _); k_dflt (refine get181 (by k_in) ?_))
  k_with "call builtin:list.append" => (k_dflt (refine' append_K ?k1 ?k2 ?k3 ?_ ?z; (case k1 => k_asm); (case k2 => k_asm); (case k3 => k_upd); (case z => (rw [sizeLine_eq]; (try simp only [Array.size_push, Array.size_empty]); omega))); intro h' F' N'; (try k_sweep))
  k_with "binaryOp LShift int int" => (k_dflt (refine' lshift_int_small ?a ?b ?c ?_; (case a => omega); (case b => omega); (case c => (first | omega | (simp only [bitAnd_m6, bitAnd_m2, bitAnd_m4]; omega)))))
  k_with "subscriptTail" => ((with_reducible show wpAny _ _ (subscriptTail _ _ (Value.bytes _ _) (Value.int _ _)) _ _ _); k_dflt (refine' item_signs ?e ?a ?b ?_; (case e => exact rfl); (case a => (simp only [bitAnd_m6, bitAnd_m2, bitAnd_m4, Int.reduceToNat, Int.reducePow]; omega)); (case b => (simp only [bitAnd_m6, bitAnd_m2, bitAnd_m4, Int.reduceToNat, Int.reducePow]; omega))); intro _)
  intro dp un fr gd s Q E V _ hd hu ret
  refine' enter [(Str.ofString "x", .bool false)] V ?k6 ?k7 (by show dp < recursionLimit; omega) ?k9 ?kB ?c5 ?c2 ?c3 ?c4 ?_
  (case k6 => k_is)
  (case k7 => k_is)
  (case k9 => first | exact BindsTo.of_eq rfl | exact binds_K V.k rfl (by k_is) rfl rfl rfl)
  (case kB => exact locs rfl)
  (case c5 => decide +kernel)
  (case c2 => exact rfl)
  (case c3 => exact rfl)
  (case c4 => exact rfl)
  rintro L h₁ tk₁ X ⟨p, loose, mean, mg, mb, T⟩ F N
  dsimp only [ofB] at F
  rw [show bod 10 = [stm 10 0, stm 10 1, stm 10 2] from rfl]
  have hsc : sco 10 = sco 10 := rfl
  (conv at hsc => rhs; whnf)
  rw [hsc]
  clear hsc
  (try k_fold)
  k_steps
  all_goals (try dsimp only)
  rename Fr _ _ _ _ => F9
  exact ret _ _ _ F9.keep rfl
end
section -- A2
open PySem PySem.W PyProof.Rows
set_option maxHeartbeats 4000000 in
theorem fromdata_spec (w : World) (x : Str) (t : Tok) (hx : ∀ c ∈ x.cps, c < 128) (hl : x.cps.size ≤ sizeLine) : Spec w 1 51 [.str x t] [] (fun _ => True) (fun _ v _ => ∃ t', v = .bytes (x.cps.map (·.toUInt8)) t') := by
  k_with_none
  k_with "exec" => ((with_reducible show wpAny _ _ (exec (stm _ _) _) _ _ _); k_dflt (conv => arg 3; arg 1; whnf))
  k_with "call type:type" => ((with_reducible show wpAny _ _ (call (Value.type "type") [Value.bytes _ _]) _ _ _); refine type_bytes ?_)
  k_with "getMethod str" => ((with_reducible show wpAny _ _ (getMethod (Value.str _ _) (PySem.Str.ofString "encode") _) _ _ _); refine encode_get ?_)
  k_with "call builtin:str.encode" => (k_dflt (refine encode_call (by assumption) (by assumption) ?_); intro _)
  k_with "getMethod bytes" => (first | refine hex_get ?_ | refine bupper_get ?_)
  k_with "call builtin:bytes.hex" => (k_dflt (refine hex_call (by assumption) ?_); intro _)
  k_with "call builtin:bytes.upper" => (k_dflt (refine bupper_call (by assumption) ?_); intro _)
  k_with "compareOp In int ref" => ((with_reducible show wpAny _ _ (compareOp CmpOp.In (Value.int _ _) (Value.ref 170)) _ _ _); k_dflt (refine in170 (by k_in) ?_))
  k_with "getMethod ref" => ((with_reducible show wpAny _ _ (getMethod (Value.ref 181) _ _) _ _ _); k_dflt (refine meth181 (by k_in) ?_))
  k_with "call builtin:dict.get" => ((with_reducible show wpAny _ _ (call (Value.builtin "dict.get") [Value.ref 181, Value.int _ _]) _ _ _); k_dflt (refine get181 (by k_in) ?_))
  k_with "call builtin:list.append" => (k_dflt (refine' append_K ?k1 ?k2 ?k3 ?_ ?z; (case k1 => k_asm); (case k2 => k_asm); (case k3 => k_upd); (case z => (rw [sizeLine_eq]; (try simp only [Array.size_push, Array.size_empty]); omega))); intro h' F' N'; (try k_sweep))
  k_with "binaryOp LShift int int" => (k_dflt (refine' lshift_int_small ?a ?b ?c ?_; (case a => omega); (case b => omega); (case c => (first | omega | (simp only [bitAnd_m6, bitAnd_m2, bitAnd_m4]; omega)))))
  k_with "subscriptTail" => ((with_reducible show wpAny _ _ (subscriptTail _ _ (Value.bytes _ _) (Value.int _ _)) _ _ _); k_dflt (refine' item_signs ?e ?a ?b ?_; (case e => exact rfl); (case a => (simp only [bitAnd_m6, bitAnd_m2, bitAnd_m4, Int.reduceToNat, Int.reducePow]; omega)); (case b => (simp only [bitAnd_m6, bitAnd_m2, bitAnd_m4, Int.reduceToNat, Int.reducePow]; omega))); intro _)
  intro dp un fr gd s Q E V _ hd hu ret
  refine' enter [(Str.ofString "s", .str x t)] V ?k6 ?k7 (by show dp < recursionLimit; omega) ?k9 ?kB ?c5 ?c2 ?c3 ?c4 ?_
  (case k6 => k_is)
  (case k7 => k_is)
  (case k9 => first | exact BindsTo.of_eq rfl | exact binds_K V.k rfl (by k_is) rfl rfl rfl)
  (case kB => exact locs rfl)
  (case c5 => decide +kernel)
  (case c2 => exact rfl)
  (case c3 => exact rfl)
  (case c4 => exact rfl)
  rintro L h₁ tk₁ X ⟨p, loose, mean, mg, mb, T⟩ F N
  dsimp only [ofB] at F
  rw [show bod 5 = [stm 5 0, stm 5 1, stm 5 2] from rfl]
  have hsc : sco 5 = sco 5 := rfl
  (conv at hsc => rhs; whnf)
  rw [hsc]
  clear hsc
  (try k_fold)
  k_steps
  all_goals (try dsimp only)
  rename Fr _ _ _ _ => F9
  exact ret _ _ _ F9.keep ⟨_, rfl⟩
set_option maxHeartbeats 4000000 in
theorem inb1_spec (w : World) (c : Nat) (t : Tok) : Spec w 1 180 [.str ⟨#[c]⟩ t] [] (fun _ => True) (fun _ v _ => v = .bool (inB1 c)) := by
  k_with_none
  k_with "exec" => ((with_reducible show wpAny _ _ (exec (stm _ _) _) _ _ _); k_dflt (conv => arg 3; arg 1; whnf))
  k_with "call type:type" => ((with_reducible show wpAny _ _ (call (Value.type "type") [Value.bytes _ _]) _ _ _); refine type_bytes ?_)
  k_with "getMethod str" => ((with_reducible show wpAny _ _ (getMethod (Value.str _ _) (PySem.Str.ofString "encode") _) _ _ _); refine encode_get ?_)
  k_with "call builtin:str.encode" => (k_dflt (refine encode_call (by assumption) (by assumption) ?_); intro _)
  k_with "getMethod bytes" => (first | refine hex_get ?_ | refine bupper_get ?_)
  k_with "call builtin:bytes.hex" => (k_dflt (refine hex_call (by assumption) ?_); intro _)
  k_with "call builtin:bytes.upper" => (k_dflt (refine bupper_call (by assumption) ?_); intro _)
  k_with "compareOp In int ref" => ((with_reducible show wpAny _ _ (compareOp CmpOp.In (Value.int _ _) (Value.ref 170)) _ _ _); k_dflt (refine in170 (by k_in) ?_))
  k_with "getMethod ref" => ((with_reducible show wpAny _ _ (getMethod (Value.ref 181) _ _) _ _ _); k_dflt (refine meth181 (by k_in) ?_))
  k_with "call builtin:dict.get" => ((with_reducible show wpAny _ _ (call (Value.builtin "dict.get") [Value.ref 181, Value.int _ _]) _ _ _); k_dflt (refine get181 (by k_in) ?_))
  k_with "call builtin:list.append" => (k_dflt (refine' append_K ?k1 ?k2 ?k3 ?_ ?z; (case k1 => k_asm); (case k2 => k_asm); (case k3 => k_upd); (case z => (rw [sizeLine_eq]; (try simp only [Array.size_push, Array.size_empty]); omega))); intro h' F' N'; (try k_sweep))
  k_with "binaryOp LShift int int" => (k_dflt (refine' lshift_int_small ?a ?b ?c ?_; (case a => omega); (case b => omega); (case c => (first | omega | (simp only [bitAnd_m6, bitAnd_m2, bitAnd_m4]; omega)))))
  k_with "subscriptTail" => ((with_reducible show wpAny _ _ (subscriptTail _ _ (Value.bytes _ _) (Value.int _ _)) _ _ _); k_dflt (refine' item_signs ?e ?a ?b ?_; (case e => exact rfl); (case a => (simp only [bitAnd_m6, bitAnd_m2, bitAnd_m4, Int.reduceToNat, Int.reducePow]; omega)); (case b => (simp only [bitAnd_m6, bitAnd_m2, bitAnd_m4, Int.reduceToNat, Int.reducePow]; omega))); intro _)
  intro dp un fr gd s Q E V _ hd hu ret
  refine' enter [(Str.ofString "code", .str ⟨#[c]⟩ t)] V ?k6 ?k7 (by show dp < recursionLimit; omega) ?k9 ?kB ?c5 ?c2 ?c3 ?c4 ?_
  (case k6 => k_is)
  (case k7 => k_is)
  (case k9 => first | exact BindsTo.of_eq rfl | exact binds_K V.k rfl (by k_is) rfl rfl rfl)
  (case kB => exact locs rfl)
  (case c5 => decide +kernel)
  (case c2 => exact rfl)
  (case c3 => exact rfl)
  (case c4 => exact rfl)
  rintro L h₁ tk₁ X ⟨p, loose, mean, mg, mb, T⟩ F N
  dsimp only [ofB] at F
  rw [show bod 28 = [stm 28 0] from rfl]
  have hsc : sco 28 = sco 28 := rfl
  (conv at hsc => rhs; whnf)
  rw [hsc]
  clear hsc
  (try k_fold)
  k_steps
  all_goals (try dsimp only)
  rename Fr _ _ _ _ => F9
  exact ret _ _ _ F9.keep rfl
set_option maxHeartbeats 4000000 in
theorem b3_spec (w : World) (c : Nat) (t : Tok) (hc : c < 128 ∨ (b3tab.lookup c).isSome = true) : Spec w 1 226 [.str ⟨#[c]⟩ t] [] (fun _ => True) (fun _ v _ => ∃ t', v = .str ⟨(foldC c).toArray⟩ t') := by
  k_with_none
  k_with "exec" => ((with_reducible show wpAny _ _ (exec (stm _ _) _) _ _ _); k_dflt (conv => arg 3; arg 1; whnf))
  k_with "call type:type" => ((with_reducible show wpAny _ _ (call (Value.type "type") [Value.bytes _ _]) _ _ _); refine type_bytes ?_)
  k_with "getMethod str" => ((with_reducible show wpAny _ _ (getMethod (Value.str _ _) (PySem.Str.ofString "encode") _) _ _ _); refine encode_get ?_)
  k_with "call builtin:str.encode" => (k_dflt (refine encode_call (by assumption) (by assumption) ?_); intro _)
  k_with "getMethod bytes" => (first | refine hex_get ?_ | refine bupper_get ?_)
  k_with "call builtin:bytes.hex" => (k_dflt (refine hex_call (by assumption) ?_); intro _)
  k_with "call builtin:bytes.upper" => (k_dflt (refine bupper_call (by assumption) ?_); intro _)
  k_with "compareOp In int ref" => ((with_reducible show wpAny _ _ (compareOp CmpOp.In (Value.int _ _) (Value.ref 170)) _ _ _); k_dflt (refine in170 (by k_in) ?_))
  k_with "getMethod ref" => ((with_reducible show wpAny _ _ (getMethod (Value.ref 181) _ _) _ _ _); k_dflt (refine meth181 (by k_in) ?_))
  k_with "call builtin:dict.get" => ((with_reducible show wpAny _ _ (call (Value.builtin "dict.get") [Value.ref 181, Value.int _ _]) _ _ _); k_dflt (refine get181 (by k_in) ?_))
  k_with "call builtin:list.append" => (k_dflt (refine' append_K ?k1 ?k2 ?k3 ?_ ?z; (case k1 => k_asm); (case k2 => k_asm); (case k3 => k_upd); (case z => (rw [sizeLine_eq]; (try simp only [Array.size_push, Array.size_empty]); omega))); intro h' F' N'; (try k_sweep))
  k_with "binaryOp LShift int int" => (k_dflt (refine' lshift_int_small ?a ?b ?c ?_; (case a => omega); (case b => omega); (case c => (first | omega | (simp only [bitAnd_m6, bitAnd_m2, bitAnd_m4]; omega)))))
  k_with "subscriptTail" => ((with_reducible show wpAny _ _ (subscriptTail _ _ (Value.bytes _ _) (Value.int _ _)) _ _ _); k_dflt (refine' item_signs ?e ?a ?b ?_; (case e => exact rfl); (case a => (simp only [bitAnd_m6, bitAnd_m2, bitAnd_m4, Int.reduceToNat, Int.reducePow]; omega)); (case b => (simp only [bitAnd_m6, bitAnd_m2, bitAnd_m4, Int.reduceToNat, Int.reducePow]; omega))); intro _)
  intro dp un fr gd s Q E V _ hd hu ret
  refine' enter [(Str.ofString "code", .str ⟨#[c]⟩ t)] V ?k6 ?k7 (by show dp < recursionLimit; omega) ?k9 ?kB ?c5 ?c2 ?c3 ?c4 ?_
  (case k6 => k_is)
  (case k7 => k_is)
  (case k9 => first | exact BindsTo.of_eq rfl | exact binds_K V.k rfl (by k_is) rfl rfl rfl)
  (case kB => exact locs rfl)
  (case c5 => decide +kernel)
  (case c2 => exact rfl)
  (case c3 => exact rfl)
  (case c4 => exact rfl)
  rintro L h₁ tk₁ X ⟨p, loose, mean, mg, mb, T⟩ F N
  dsimp only [ofB] at F
  rw [show bod 30 = [stm 30 0, stm 30 1, stm 30 2] from rfl]
  have hsc : sco 30 = sco 30 := rfl
  (conv at hsc => rhs; whnf)
  rw [hsc]
  clear hsc
  (try k_fold)
  k_steps
  rename Fr _ _ _ _ => F1
  rcases b3f_cases c with ⟨hb, hl⟩ | ⟨v, t', hb, hl⟩
  · rw [hb] at F1 ⊢
    dsimp only [Option.getD_none] at F1 ⊢
    k_steps
    have hc' : c < 128 := hc.resolve_right (by rw [hl]; decide)
    refine lower_call hc' fun _ => ?_
    k_steps
    all_goals (try dsimp only)
    exact ret _ _ _ F1.keep ⟨_, by unfold foldC; rw [hl]⟩
  · rw [hb] at F1 ⊢
    dsimp only [Option.getD_some] at F1 ⊢
    k_steps
    all_goals (try dsimp only)
    exact ret _ _ _ F1.keep ⟨_, by unfold foldC; rw [hl]⟩
end
section -- A3
open PySem PySem.W PyProof.Rows
set_option maxHeartbeats 4000000 in
theorem b64v_spec (w : World) (c : Int) (t : Tok) : Spec w 1 92 [.int c t] [] (fun _ => True) (fun _ v _ => ∃ t', v = .int (b64v c) t') := by
  k_with_none
  k_with "exec" => ((with_reducible show wpAny _ _ (exec (stm _ _) _) _ _ _); k_dflt (conv => arg 3; arg 1; whnf))
  k_with "call type:type" => ((with_reducible show wpAny _ _ (call (Value.type "type") [Value.bytes _ _]) _ _ _); refine type_bytes ?_)
  k_with "getMethod str" => ((with_reducible show wpAny _ _ (getMethod (Value.str _ _) (PySem.Str.ofString "encode") _) _ _ _); refine encode_get ?_)
  k_with "call builtin:str.encode" => (k_dflt (refine encode_call (by assumption) (by assumption) ?_); intro _)
  k_with "getMethod bytes" => (first | refine hex_get ?_ | refine bupper_get ?_)
  k_with "call builtin:bytes.hex" => (k_dflt (refine hex_call (by assumption) ?_); intro _)
  k_with "call builtin:bytes.upper" => (k_dflt (refine bupper_call (by assumption) ?_); intro _)
  k_with "compareOp In int ref" => ((with_reducible show wpAny _ _ (compareOp CmpOp.In (Value.int _ _) (Value.ref 170)) _ _ _); k_dflt (refine in170 (by k_in) ?_))
  k_with "getMethod ref" => ((with_reducible show wpAny _ _ (getMethod (Value.ref 181) _ _) _ _ _); k_dflt (refine meth181 (by k_in) ?_))
  k_with "call builtin:dict.get" => ((with_reducible show wpAny _ _ (call (Value.builtin "dict.get") [Value.ref 181, Value.int _ _]) _ _ _); k_dflt (refine get181 (by k_in) ?_))
  k_with "call builtin:list.append" => (k_dflt (refine' append_K ?k1 ?k2 ?k3 ?_ ?z; (case k1 => k_asm); (case k2 => k_asm); (case k3 => k_upd); (case z => (rw [sizeLine_eq]; (try simp only [Array.size_push, Array.size_empty]); omega))); intro h' F' N'; (try k_sweep))
  k_with "binaryOp LShift int int" => (k_dflt (refine' lshift_int_small ?a ?b ?c ?_; (case a => omega); (case b => omega); (case c => (first | omega | (simp only [bitAnd_m6, bitAnd_m2, bitAnd_m4]; omega)))))
  k_with "subscriptTail" => ((with_reducible show wpAny _ _ (subscriptTail _ _ (Value.bytes _ _) (Value.int _ _)) _ _ _); k_dflt (refine' item_signs ?e ?a ?b ?_; (case e => exact rfl); (case a => (simp only [bitAnd_m6, bitAnd_m2, bitAnd_m4, Int.reduceToNat, Int.reducePow]; omega)); (case b => (simp only [bitAnd_m6, bitAnd_m2, bitAnd_m4, Int.reduceToNat, Int.reducePow]; omega))); intro _)
  intro dp un fr gd s Q E V _ hd hu ret
  refine' enter [(Str.ofString "c", .int c t)] V ?k6 ?k7 (by show dp < recursionLimit; omega) ?k9 ?kB ?c5 ?c2 ?c3 ?c4 ?_
  (case k6 => k_is)
  (case k7 => k_is)
  (case k9 => first | exact BindsTo.of_eq rfl | exact binds_K V.k rfl (by k_is) rfl rfl rfl)
  (case kB => exact locs rfl)
  (case c5 => decide +kernel)
  (case c2 => exact rfl)
  (case c3 => exact rfl)
  (case c4 => exact rfl)
  rintro L h₁ tk₁ X ⟨p, loose, mean, mg, mb, T⟩ F N
  dsimp only [ofB] at F
  rw [show bod 12 = [stm 12 0, stm 12 1, stm 12 2, stm 12 3, stm 12 4, stm 12 5] from rfl]
  have hsc : sco 12 = sco 12 := rfl
  (conv at hsc => rhs; whnf)
  rw [hsc]
  clear hsc
  (try k_fold)
  k_steps
  all_goals (try dsimp only)
  all_goals (try k_steps)
  all_goals (refine ret _ _ _ F.keep (int_eq ?_); unfold b64v; (repeat' split) <;> omega)
set_option maxHeartbeats 4000000 in
theorem hexv_spec (w : World) (c : Int) (t : Tok) : Spec w 1 124 [.int c t] [] (fun _ => True) (fun _ v _ => ∃ t', v = .int (hexv c) t') := by
  k_with_none
  k_with "exec" => ((with_reducible show wpAny _ _ (exec (stm _ _) _) _ _ _); k_dflt (conv => arg 3; arg 1; whnf))
  k_with "call type:type" => ((with_reducible show wpAny _ _ (call (Value.type "type") [Value.bytes _ _]) _ _ _); refine type_bytes ?_)
  k_with "getMethod str" => ((with_reducible show wpAny _ _ (getMethod (Value.str _ _) (PySem.Str.ofString "encode") _) _ _ _); refine encode_get ?_)
  k_with "call builtin:str.encode" => (k_dflt (refine encode_call (by assumption) (by assumption) ?_); intro _)
  k_with "getMethod bytes" => (first | refine hex_get ?_ | refine bupper_get ?_)
  k_with "call builtin:bytes.hex" => (k_dflt (refine hex_call (by assumption) ?_); intro _)
  k_with "call builtin:bytes.upper" => (k_dflt (refine bupper_call (by assumption) ?_); intro _)
  k_with "compareOp In int ref" => ((with_reducible show wpAny _ _ (compareOp CmpOp.In (Value.int _ _) (Value.ref 170)) _ _ _); k_dflt (refine in170 (by k_in) ?_))
  k_with "getMethod ref" => ((with_reducible show wpAny _ _ (getMethod (Value.ref 181) _ _) _ _ _); k_dflt (refine meth181 (by k_in) ?_))
  k_with "call builtin:dict.get" => ((with_reducible show wpAny _ _ (call (Value.builtin "dict.get") [Value.ref 181, Value.int _ _]) _ _ _); k_dflt (refine get181 (by k_in) ?_))
  k_with "call builtin:list.append" => (k_dflt (refine' append_K ?k1 ?k2 ?k3 ?_ ?z; (case k1 => k_asm); (case k2 => k_asm); (case k3 => k_upd); (case z => (rw [sizeLine_eq]; (try simp only [Array.size_push, Array.size_empty]); omega))); intro h' F' N'; (try k_sweep))
  k_with "binaryOp LShift int int" => (k_dflt (refine' lshift_int_small ?a ?b ?c ?_; (case a => omega); (case b => omega); (case c => (first | omega | (simp only [bitAnd_m6, bitAnd_m2, bitAnd_m4]; omega)))))
  k_with "subscriptTail" => ((with_reducible show wpAny _ _ (subscriptTail _ _ (Value.bytes _ _) (Value.int _ _)) _ _ _); k_dflt (refine' item_signs ?e ?a ?b ?_; (case e => exact rfl); (case a => (simp only [bitAnd_m6, bitAnd_m2, bitAnd_m4, Int.reduceToNat, Int.reducePow]; omega)); (case b => (simp only [bitAnd_m6, bitAnd_m2, bitAnd_m4, Int.reduceToNat, Int.reducePow]; omega))); intro _)
  intro dp un fr gd s Q E V _ hd hu ret
  refine' enter [(Str.ofString "c", .int c t)] V ?k6 ?k7 (by show dp < recursionLimit; omega) ?k9 ?kB ?c5 ?c2 ?c3 ?c4 ?_
  (case k6 => k_is)
  (case k7 => k_is)
  (case k9 => first | exact BindsTo.of_eq rfl | exact binds_K V.k rfl (by k_is) rfl rfl rfl)
  (case kB => exact locs rfl)
  (case c5 => decide +kernel)
  (case c2 => exact rfl)
  (case c3 => exact rfl)
  (case c4 => exact rfl)
  rintro L h₁ tk₁ X ⟨p, loose, mean, mg, mb, T⟩ F N
  dsimp only [ofB] at F
  rw [show bod 18 = [stm 18 0, stm 18 1, stm 18 2, stm 18 3] from rfl]
  have hsc : sco 18 = sco 18 := rfl
  (conv at hsc => rhs; whnf)
  rw [hsc]
  clear hsc
  (try k_fold)
  k_steps
  all_goals (try dsimp only)
  all_goals (try k_steps)
  all_goals (refine ret _ _ _ F.keep (int_eq ?_); unfold hexv; (repeat' split) <;> omega)
end
section -- V1
open PySem PySem.W PyProof.Rows
theorem fill2 : KK = KK ∧ PySem.Challenge.rw_pa0018_01 = PySem.Challenge.rw_pa0018_01 := by k_fill; exact ⟨rfl, rfl⟩
set_option maxHeartbeats 4000000 in
theorem values_spec (w : World) (a : Addr) (vs : List Value) (ns : List Int) (hi : IntsAre vs ns) (hlen : ns.length ≤ 17) :
    Spec w 1 233 [.ref a] [] (fun h => h.IsList a vs.toArray) (fun h v h' => ∃ r us n, v = .ref r ∧ h.get? r = none ∧ h'.get? r = some (listOf us n) ∧ IntsAre us.toList (lawValues ns)) := by
  k_with_none
  k_with "exec" => ((with_reducible show wpAny _ _ (exec (stm _ _) _) _ _ _); k_dflt (conv => arg 3; arg 1; whnf))
  k_with "call type:type" => ((with_reducible show wpAny _ _ (call (Value.type "type") [Value.bytes _ _]) _ _ _); refine type_bytes ?_)
  k_with "getMethod str" => ((with_reducible show wpAny _ _ (getMethod (Value.str _ _) (PySem.Str.ofString "encode") _) _ _ _); refine encode_get ?_)
  k_with "call builtin:str.encode" => (k_dflt (refine encode_call (by assumption) (by assumption) ?_); intro _)
  k_with "getMethod bytes" => (first | refine hex_get ?_ | refine bupper_get ?_)
  k_with "call builtin:bytes.hex" => (k_dflt (refine hex_call (by assumption) ?_); intro _)
  k_with "call builtin:bytes.upper" => (k_dflt (refine bupper_call (by assumption) ?_); intro _)
  k_with "compareOp In int ref" => ((with_reducible show wpAny _ _ (compareOp CmpOp.In (Value.int _ _) (Value.ref 170)) _ _ _); k_dflt (refine in170 (by k_in) ?_))
  k_with "getMethod ref" => ((with_reducible show wpAny _ _ (getMethod (Value.ref 181) _ _) _ _ _); k_dflt (refine meth181 (by k_in) ?_))
  k_with "call builtin:dict.get" => ((with_reducible show wpAny _ _ (call (Value.builtin "dict.get") [Value.ref 181, Value.int _ _]) _ _ _); k_dflt (refine get181 (by k_in) ?_))
  k_with "call builtin:list.append" => (k_dflt (refine' append_K ?k1 ?k2 ?k3 ?_ ?z; (case k1 => k_asm); (case k2 => k_asm); (case k3 => k_upd); (case z => (rw [sizeLine_eq]; (try simp only [Array.size_push, Array.size_empty]); omega))); intro h' F' N'; (try k_sweep))
  k_with "binaryOp LShift int int" => (k_dflt (refine' lshift_int_small ?a ?b ?c ?_; (case a => omega); (case b => omega); (case c => (first | omega | (simp only [bitAnd_m6, bitAnd_m2, bitAnd_m4]; omega)))))
  k_with "subscriptTail" => ((with_reducible show wpAny _ _ (subscriptTail _ _ (Value.bytes _ _) (Value.int _ _)) _ _ _); k_dflt (refine' item_signs ?e ?a ?b ?_; (case e => exact rfl); (case a => (simp only [bitAnd_m6, bitAnd_m2, bitAnd_m4, Int.reduceToNat, Int.reducePow]; omega)); (case b => (simp only [bitAnd_m6, bitAnd_m2, bitAnd_m4, Int.reduceToNat, Int.reducePow]; omega))); intro _)
  intro dp un fr gd s Q E V hl hd hu ret
  refine' enter [(Str.ofString "row", .ref a)] V ?k6 ?k7 (by show dp < recursionLimit; omega) ?k9 ?kB ?c5 ?c2 ?c3 ?c4 ?_
  (case k6 => k_is)
  (case k7 => k_is)
  (case k9 => first | exact BindsTo.of_eq rfl | exact binds_K V.k rfl (by k_is) rfl rfl rfl)
  (case kB => exact locs rfl)
  (case c5 => decide +kernel)
  (case c2 => exact rfl)
  (case c3 => exact rfl)
  (case c4 => exact rfl)
  rintro L h₁ tk₁ X ⟨p, loose, mean, mg, mb, T⟩ F N
  dsimp only [ofB] at F
  rw [show bod 32 = [stm 32 0, lop 32 1, stm 32 2, lop 32 3, stm 32 4] from rfl]
  have hsc : sco 32 = sco 32 := rfl
  (conv at hsc => rhs; whnf)
  rw [hsc]
  clear hsc
  (try k_fold)
  k_steps
  (conv => arg 3; arg 1; whnf)
  refine For_invV s.heap (by rfl) (by rfl) ?_
  (try dsimp only)
  repeat ((fail_if_success (with_reducible show wpAny _ _ (pyIter _) _ _ _)); first | walk1 | (dsimp only; walk1))
  rename Fr _ _ _ _ => F1
  rename News _ _ _ _ => N1
  refine iter_list (fun _ _ i m nx => ∃ t l, Vals [Str.ofString "number", Str.ofString "values", Str.ofString "row"] [.int (numOf (ns.take i)) t, .ref l, .ref a] m ∧ nx = [(l, listOf #[] 0)]) rfl hl hi F1 (news_sub N1 (fun p hp => List.mem_cons_of_mem _ hp)) ⟨_, _, ⟨rfl, rfl, rfl, trivial⟩, rfl⟩ ?_ ?_
  · rintro i k t m₁ nx h tk I oI hk ⟨t', l, hv, rfl⟩ hne F N
    rw [overX hv] at F
    clear hv F1 N1
    dsimp only [over] at F
    replace F : Fr s.heap L _ _ := F
    replace N : News s.heap L _ _ := N
    k_steps
    rename Fr _ _ _ _ => F2
    rename News _ _ _ _ => N2
    refine Turn.next _ F2 N2 (by simp) (by simp) hne ⟨_, _, ⟨by rw [numOf_take hk]; rfl, rfl, rfl, trivial⟩, rfl⟩
  · rintro m₁ nx h tk ⟨t, l, hv, rfl⟩ F N
    rw [overV hv, List.take_length] at F
    clear hv F1 N1
    dsimp only [over] at F
    replace F : Fr s.heap L _ _ := F
    replace N : News s.heap L _ _ := N
    (try dsimp only)
    (try k_fold)
    k_steps
    rename 0 ≤ (-(_ : Int)).fmod 3 => hlo
    rename (-(_ : Int)).fmod 3 < 3 => hhi
    have hpow : (4 : Int) ^ ((-(ns.length : Int)).fmod 3).toNat ≤ 64 ∧ 0 ≤ (4 : Int) ^ ((-(ns.length : Int)).fmod 3).toNat := by
      generalize (-(ns.length : Int)).fmod 3 = e at *
      have : e = 0 ∨ e = 1 ∨ e = 2 := by omega
      rcases this with rfl | rfl | rfl <;> decide
    (refine PyProof.Rows.mul_int ?_ (IntMulOk.of_right (intBits_le_64 (by omega) (by omega))))
    (try dsimp only)
    clear hlo hhi hpow
    k_steps
    (conv => arg 3; arg 1; whnf)
    refine For_invV s.heap (by rfl) (by rfl) ?_
    (try dsimp only)
    repeat ((fail_if_success (with_reducible show wpAny _ _ (pyIter _) _ _ _)); first | walk1 | (dsimp only; walk1))
    rename Fr _ _ _ _ => F1
    rename News _ _ _ _ => N1
    rename IsRange _ _ _ _ _ _ _ _ => hrg
    have hfd : (4 * (ns.length : Int) + 2).fdiv 3 = (4 * (ns.length : Int) + 2) / 3 := Int.fdiv_eq_ediv_of_nonneg _ (by omega)
    refine iter_range0 (fun _ _ i m nx => ∃ t ad us n, Vals [Str.ofString "number", Str.ofString "values"] [.int (digits 64 (numOf ns * 4 ^ ((-(ns.length : Int)).fmod 3).toNat) i).1 t, .ref ad] m ∧ nx = [(ad, listOf us n)] ∧ IntsAre us.toList (digits 64 (numOf ns * 4 ^ ((-(ns.length : Int)).fmod 3).toNat) i).2)
      rfl hrg (by omega) (by omega) F1 N1 ⟨_, _, _, _, ⟨rfl, rfl, trivial⟩, rfl, IntsAre.nil⟩ ?_ ?_
    · rintro i t m₁ nx h tk I oI hi ⟨t', ad, us, n', hv, rfl, hus⟩ hne F N
      rw [overX hv] at F
      clear hv F1 N1 hrg
      have hul : us.size = i := by have := hus.length; rw [digits_len] at this; simpa using this
      have hneI := hne _ (.head _)
      clear hne
      generalize hz : digits 64 (numOf ns * 4 ^ ((-(ns.length : Int)).fmod 3).toNat) i = z at *
      dsimp only [over] at F
      replace F : Fr s.heap L _ _ := F
      replace N : News s.heap L _ _ := N
      dsimp only [List.cons_append, List.nil_append] at N
      k_steps
      rename Fr _ _ _ _ => F2
      rename News _ _ _ _ => N2
      refine add_lists' F2 N2 (N2.isList (.head _)) (N2.isList (.tail _ (.head _))) (by rw [sizeLine_eq, hul]; show 1 + i ≤ _; omega) fun D h3 F3 N3 l3 => ?_
      clear F2 N2
      k_steps
      rename Fr _ _ _ _ => F2
      rename News _ _ _ _ => N2
      have hDI : D ≠ I := Nat.ne_of_gt (l3 (I, oI) (by simp))
      refine Turn.next [(D, _)] F2 N2 (by simp) (fun p hp => by rw [List.mem_singleton.mp hp]; exact .head _) (fun p hp => by rw [List.mem_singleton.mp hp]; exact hDI) ⟨_, _, _, _, ⟨by rw [digits, hz]; rfl, rfl, trivial⟩, rfl, by rw [digits, hz, Array.toList_append]; exact .cons _ _ hus⟩
    · rintro m₁ nx h tk ⟨t, ad, us, n', hv, rfl, hus⟩ F N
      rw [overV hv] at F
      clear hv F1 N1
      dsimp only [over] at F
      replace F : Fr s.heap L _ _ := F
      replace N : News s.heap L _ _ := N
      (try dsimp only)
      (try k_fold)
      k_steps
      exact ret _ _ _ F.keep ⟨_, _, _, rfl, (N _ (.head _)).2.2, (N _ (.head _)).1, hus⟩
end
section -- V2
open PySem PySem.W PyProof.Rows
theorem fill3 : KK = KK ∧ PySem.Challenge.rw_pa0018_01 = PySem.Challenge.rw_pa0018_01 := by k_fill; exact ⟨rfl, rfl⟩
set_option maxHeartbeats 4000000 in
theorem octets_spec (w : World) (a : Addr) (vs : List Value) (ns : List Int) (size : Nat) (t : Tok) (hi : IntsAre vs ns) (hlen : ns.length ≤ 40) (hsz : size ≤ 17) :
    Spec w 1 240 [.ref a, .int (size : Int) t] [] (fun h => h.IsList a vs.toArray) (fun h v h' => ∃ t', v = .bytes (bts (lawOctets ns size)) t') := by
  k_with_none
  k_with "exec" => ((with_reducible show wpAny _ _ (exec (stm _ _) _) _ _ _); k_dflt (conv => arg 3; arg 1; whnf))
  k_with "call type:type" => ((with_reducible show wpAny _ _ (call (Value.type "type") [Value.bytes _ _]) _ _ _); refine type_bytes ?_)
  k_with "getMethod str" => ((with_reducible show wpAny _ _ (getMethod (Value.str _ _) (PySem.Str.ofString "encode") _) _ _ _); refine encode_get ?_)
  k_with "call builtin:str.encode" => (k_dflt (refine encode_call (by assumption) (by assumption) ?_); intro _)
  k_with "getMethod bytes" => (first | refine hex_get ?_ | refine bupper_get ?_)
  k_with "call builtin:bytes.hex" => (k_dflt (refine hex_call (by assumption) ?_); intro _)
  k_with "call builtin:bytes.upper" => (k_dflt (refine bupper_call (by assumption) ?_); intro _)
  k_with "compareOp In int ref" => ((with_reducible show wpAny _ _ (compareOp CmpOp.In (Value.int _ _) (Value.ref 170)) _ _ _); k_dflt (refine in170 (by k_in) ?_))
  k_with "getMethod ref" => ((with_reducible show wpAny _ _ (getMethod (Value.ref 181) _ _) _ _ _); k_dflt (refine meth181 (by k_in) ?_))
  k_with "call builtin:dict.get" => ((with_reducible show wpAny _ _ (call (Value.builtin "dict.get") [Value.ref 181, Value.int _ _]) _ _ _); k_dflt (refine get181 (by k_in) ?_))
  k_with "call builtin:list.append" => (k_dflt (refine' append_K ?k1 ?k2 ?k3 ?_ ?z; (case k1 => k_asm); (case k2 => k_asm); (case k3 => k_upd); (case z => (rw [sizeLine_eq]; (try simp only [Array.size_push, Array.size_empty]); omega))); intro h' F' N'; (try k_sweep))
  k_with "binaryOp LShift int int" => (k_dflt (refine' lshift_int_small ?a ?b ?c ?_; (case a => omega); (case b => omega); (case c => (first | omega | (simp only [bitAnd_m6, bitAnd_m2, bitAnd_m4]; omega)))))
  k_with "subscriptTail" => ((with_reducible show wpAny _ _ (subscriptTail _ _ (Value.bytes _ _) (Value.int _ _)) _ _ _); k_dflt (refine' item_signs ?e ?a ?b ?_; (case e => exact rfl); (case a => (simp only [bitAnd_m6, bitAnd_m2, bitAnd_m4, Int.reduceToNat, Int.reducePow]; omega)); (case b => (simp only [bitAnd_m6, bitAnd_m2, bitAnd_m4, Int.reduceToNat, Int.reducePow]; omega))); intro _)
  intro dp un fr gd s Q E V hl hd hu ret
  refine' enter [(Str.ofString "values", .ref a), (Str.ofString "size", .int (size : Int) t)] V ?k6 ?k7 (by show dp < recursionLimit; omega) ?k9 ?kB ?c5 ?c2 ?c3 ?c4 ?_
  (case k6 => k_is)
  (case k7 => k_is)
  (case k9 => first | exact BindsTo.of_eq rfl | exact binds_K V.k rfl (by k_is) rfl rfl rfl)
  (case kB => exact locs rfl)
  (case c5 => decide +kernel)
  (case c2 => exact rfl)
  (case c3 => exact rfl)
  (case c4 => exact rfl)
  rintro L h₁ tk₁ X ⟨p, loose, mean, mg, mb, T⟩ F N
  dsimp only [ofB] at F
  rw [show bod 33 = [stm 33 0, lop 33 1, stm 33 2, lop 33 3, stm 33 4] from rfl]
  have hsc : sco 33 = sco 33 := rfl
  (conv at hsc => rhs; whnf)
  rw [hsc]
  clear hsc
  (try k_fold)
  k_steps
  (conv => arg 3; arg 1; whnf)
  refine For_invV s.heap (by rfl) (by rfl) ?_
  (try dsimp only)
  repeat ((fail_if_success (with_reducible show wpAny _ _ (pyIter _) _ _ _)); first | walk1 | (dsimp only; walk1))
  rename Fr _ _ _ _ => F1
  rename News _ _ _ _ => N1
  refine iter_list (fun _ _ i m nx => ∃ t₁ l, Vals [Str.ofString "number", Str.ofString "row", Str.ofString "values", Str.ofString "size"] [.int (num64 (ns.take i)) t₁, .ref l, .ref a, .int (size : Int) t] m ∧ nx = [(l, listOf #[] 0)]) rfl hl hi F1 (news_sub N1 (fun p hp => List.mem_cons_of_mem _ hp)) ⟨_, _, ⟨rfl, rfl, rfl, rfl, trivial⟩, rfl⟩ ?_ ?_
  · rintro i k t₂ m₁ nx h tk I oI hk ⟨t', l, hv, rfl⟩ hne F N
    rw [overX hv] at F
    clear hv F1 N1
    dsimp only [over] at F
    replace F : Fr s.heap L _ _ := F
    replace N : News s.heap L _ _ := N
    k_steps
    rename Fr _ _ _ _ => F2
    rename News _ _ _ _ => N2
    refine Turn.next _ F2 N2 (by simp) (by simp) hne ⟨_, _, ⟨by rw [num64_take hk]; rfl, rfl, rfl, rfl, trivial⟩, rfl⟩
  · rintro m₁ nx h tk ⟨t₂, l, hv, rfl⟩ F N
    rw [overV hv, List.take_length] at F
    clear hv F1 N1
    dsimp only [over] at F
    replace F : Fr s.heap L _ _ := F
    replace N : News s.heap L _ _ := N
    (try dsimp only)
    (try k_fold)
    k_steps
    (try dsimp only)
    rename 0 ≤ (-(_ : Int)).fmod 3 => hlo
    rename (-(_ : Int)).fmod 3 < 3 => hhi
    have hpow : 1 ≤ (4 : Int) ^ ((-(size : Int)).fmod 3).toNat ∧ (4 : Int) ^ ((-(size : Int)).fmod 3).toNat ≤ 16 := by
      generalize (-(size : Int)).fmod 3 = e at *
      have : e = 0 ∨ e = 1 ∨ e = 2 := by omega
      rcases this with rfl | rfl | rfl <;> decide
    refine PyProof.Rows.floordiv_int (by omega) ?_ (.inl (PyProof.noPylong_small (by omega)))
    (try dsimp only)
    clear hlo hhi hpow
    k_steps
    (try dsimp only)
    (conv => arg 3; arg 1; whnf)
    refine For_invV s.heap (by rfl) (by rfl) ?_
    (try dsimp only)
    repeat ((fail_if_success (with_reducible show wpAny _ _ (pyIter _) _ _ _)); first | walk1 | (dsimp only; walk1))
    rename Fr _ _ _ _ => F1
    rename News _ _ _ _ => N1
    rename IsRange _ _ _ _ _ _ _ _ => hrg
    refine iter_range0 (fun _ _ i m nx => ∃ t ad us n, Vals [Str.ofString "number", Str.ofString "row"] [.int (digits 256 ((num64 ns).fdiv (4 ^ ((-(size : Int)).fmod 3).toNat)) i).1 t, .ref ad] m ∧ nx = [(ad, listOf us n)] ∧ IntsAre us.toList (digits 256 ((num64 ns).fdiv (4 ^ ((-(size : Int)).fmod 3).toNat)) i).2)
      rfl hrg (by omega) (by omega) F1 N1 ⟨_, _, _, _, ⟨rfl, rfl, trivial⟩, rfl, IntsAre.nil⟩ ?_ ?_
    · rintro i t m₁ nx h tk I oI hi ⟨t', ad, us, n', hv, rfl, hus⟩ hne F N
      rw [overX hv] at F
      clear hv F1 N1 hrg
      have hul : us.size = i := by have := hus.length; rw [digits_len] at this; simpa using this
      have hneI := hne _ (.head _)
      clear hne
      generalize hz : digits 256 ((num64 ns).fdiv (4 ^ ((-(size : Int)).fmod 3).toNat)) i = z at *
      dsimp only [over] at F
      replace F : Fr s.heap L _ _ := F
      replace N : News s.heap L _ _ := N
      dsimp only [List.cons_append, List.nil_append] at N
      k_steps
      rename Fr _ _ _ _ => F2
      rename News _ _ _ _ => N2
      refine add_lists' F2 N2 (N2.isList (.head _)) (N2.isList (.tail _ (.head _))) (by rw [sizeLine_eq, hul]; show 1 + i ≤ _; omega) fun D h3 F3 N3 l3 => ?_
      clear F2 N2
      k_steps
      rename Fr _ _ _ _ => F2
      rename News _ _ _ _ => N2
      have hDI : D ≠ I := Nat.ne_of_gt (l3 (I, oI) (by simp))
      refine Turn.next [(D, _)] F2 N2 (by simp) (fun p hp => by rw [List.mem_singleton.mp hp]; exact .head _) (fun p hp => by rw [List.mem_singleton.mp hp]; exact hDI) ⟨_, _, _, _, ⟨by rw [digits, hz]; rfl, rfl, trivial⟩, rfl, by rw [digits, hz, Array.toList_append]; exact .cons _ _ hus⟩
    · rintro m₁ nx h tk ⟨t, ad, us, n', hv, rfl, hus⟩ F N
      rw [overV hv] at F
      clear hv F1 N1
      dsimp only [over] at F
      replace F : Fr s.heap L _ _ := F
      replace N : News s.heap L _ _ := N
      (try dsimp only)
      (try k_fold)
      k_steps
      rw [Int.toNat_natCast] at hus
      have hul := hus.length
      rw [digits_len] at hul
      refine bytes_K F N (vs := us.toList) (by rw [Array.toArray_toList]; exact N.isList (.head _)) hus (digits_range (by decide) _ _) (by rw [sizeLine_eq, hul]; omega) rfl fun h4 t4 k4 F4 N4 _ => ?_
      k_steps
      (try dsimp only)
      exact ret _ _ _ F4.keep ⟨_, rfl⟩
end
section -- C1
open PySem PySem.W PyProof.Rows
set_option maxHeartbeats 4000000 in
theorem b2a_spec (w : World) (b : Array UInt8) (t : Tok) (hb : b.size ≤ 20) :
    Spec w 2 108 [.bytes b t] [(Str.ofString "newline", .bool false)] (fun _ => True) (fun _ v _ => ∃ t', v = .bytes (bts (encode (KBw.bInts b))) t') := by
  k_with_none
  k_with "exec" => ((with_reducible show wpAny _ _ (exec (stm _ _) _) _ _ _); k_dflt (conv => arg 3; arg 1; whnf))
  k_with "call type:type" => ((with_reducible show wpAny _ _ (call (Value.type "type") [Value.bytes _ _]) _ _ _); refine type_bytes ?_)
  k_with "getMethod str" => ((with_reducible show wpAny _ _ (getMethod (Value.str _ _) (PySem.Str.ofString "encode") _) _ _ _); refine encode_get ?_)
  k_with "call builtin:str.encode" => (k_dflt (refine encode_call (by assumption) (by assumption) ?_); intro _)
  k_with "getMethod bytes" => (first | refine hex_get ?_ | refine bupper_get ?_)
  k_with "call builtin:bytes.hex" => (k_dflt (refine hex_call (by assumption) ?_); intro _)
  k_with "call builtin:bytes.upper" => (k_dflt (refine bupper_call (by assumption) ?_); intro _)
  k_with "compareOp In int ref" => ((with_reducible show wpAny _ _ (compareOp CmpOp.In (Value.int _ _) (Value.ref 170)) _ _ _); k_dflt (refine in170 (by k_in) ?_))
  k_with "getMethod ref" => ((with_reducible show wpAny _ _ (getMethod (Value.ref 181) _ _) _ _ _); k_dflt (refine meth181 (by k_in) ?_))
  k_with "call builtin:dict.get" => ((with_reducible show wpAny _ _ (call (Value.builtin "dict.get") [Value.ref 181, Value.int _ _]) _ _ _); k_dflt (refine get181 (by k_in) ?_))
  k_with "call builtin:list.append" => (k_dflt (refine' append_K ?k1 ?k2 ?k3 ?_ ?z; (case k1 => k_asm); (case k2 => k_asm); (case k3 => k_upd); (case z => (rw [sizeLine_eq]; (try simp only [Array.size_push, Array.size_empty]); omega))); intro h' F' N'; (try k_sweep))
  k_with "binaryOp LShift int int" => (k_dflt (refine' lshift_int_small ?a ?b ?c ?_; (case a => omega); (case b => omega); (case c => (first | omega | (simp only [bitAnd_m6, bitAnd_m2, bitAnd_m4]; omega)))))
  k_with "subscriptTail" => ((with_reducible show wpAny _ _ (subscriptTail _ _ (Value.bytes _ _) (Value.int _ _)) _ _ _); k_dflt (refine' item_signs ?e ?a ?b ?_; (case e => exact rfl); (case a => (simp only [bitAnd_m6, bitAnd_m2, bitAnd_m4, Int.reduceToNat, Int.reducePow]; omega)); (case b => (simp only [bitAnd_m6, bitAnd_m2, bitAnd_m4, Int.reduceToNat, Int.reducePow]; omega))); intro _)
  k_with "call ref" => ((with_reducible show wpAny _ _ (call (Value.ref 78) _ _) _ _ _); k_dflt (refine' use_spec (buffer_spec _ _ _) ?V ?F ?N ?P ?D ?U ?_; (case V => assumption); (case F => k_asm); (case N => k_asm); (case P => first | trivial | assumption); (case D => (dsimp only; omega)); (case U => (dsimp only; omega))); intro v9 h9 tk9 F9 N9 k9 p9; (first | subst p9 | (obtain ⟨t9, p9⟩ := p9; subst p9)); (try k_sweep); (try dsimp only))
  k_with "call ref" => ((with_reducible show wpAny _ _ (call (Value.ref 85) _ _) _ _ _); k_dflt (refine' use_spec (truth_spec _) ?V ?F ?N ?P ?D ?U ?_; (case V => assumption); (case F => k_asm); (case N => k_asm); (case P => first | trivial | assumption); (case D => (dsimp only; omega)); (case U => (dsimp only; omega))); intro v9 h9 tk9 F9 N9 k9 p9; (first | subst p9 | (obtain ⟨t9, p9⟩ := p9; subst p9)); (try k_sweep); (try dsimp only))
  intro dp un fr gd s Q E V _ hd hu ret
  refine' enter [(Str.ofString "data", .bytes b t), (Str.ofString "newline", .bool false)] V ?k6 ?k7 (by show dp < recursionLimit; omega) ?k9 ?kB ?c5 ?c2 ?c3 ?c4 ?_
  (case k6 => k_is)
  (case k7 => k_is)
  (case k9 => first | exact BindsTo.of_eq rfl | exact binds_K V.k rfl (by k_is) rfl rfl rfl)
  (case kB => exact locs rfl)
  (case c5 => decide +kernel)
  (case c2 => exact rfl)
  (case c3 => exact rfl)
  (case c4 => exact rfl)
  rintro L h₁ tk₁ X ⟨p, loose, mean, mg, mb, T⟩ F N
  dsimp only [ofB] at F
  rw [show bod 14 = [stm 14 0, stm 14 1, stm 14 2, stm 14 3, stm 14 4, lop 14 5, stm 14 6, stm 14 7, stm 14 8] from rfl]
  have hsc : sco 14 = sco 14 := rfl
  (conv at hsc => rhs; whnf)
  rw [hsc]
  clear hsc
  (try k_fold)
  k_steps
  (conv => arg 3; arg 1; whnf)
  refine For_invV s.heap (by rfl) (by rfl) ?_
  (try dsimp only)
  repeat ((fail_if_success (with_reducible show wpAny _ _ (pyIter _) _ _ _)); first | walk1 | (dsimp only; walk1))
  rename Fr _ _ _ _ => F1
  rename News _ _ _ _ => N1
  refine iter_bytes (fun _ _ i m nx => ∃ t₁ t₂ l us n lc lb outs, Vals [Str.ofString "leftchar", Str.ofString "leftbits", Str.ofString "out", Str.ofString "newline"] [.int lc t₁, .int lb t₂, .ref l, .bool false] m ∧ nx = [(l, listOf us n)] ∧ IntsAre us.toList outs ∧ (lb = 0 ∨ lb = 2 ∨ lb = 4) ∧ 0 ≤ lc ∧ lc < 65536 ∧ outs.length ≤ 2 * i ∧ Byte outs ∧ encAt (KBw.bInts b) i = (lc, lb, outs)) rfl F1 N1 ⟨_, _, _, _, _, _, _, _, ⟨rfl, rfl, rfl, rfl, trivial⟩, rfl, IntsAre.nil, .inl rfl, by decide, by decide, Nat.le_refl _, (fun _ h => nomatch h), rfl⟩ ?_ ?_
  · rintro i k t₀ m₁ nx h tk I oI hk hk0 hk1 ⟨t₁, t₂, l, us, n, lc, lb, outs, hv, rfl, hus, hlb, hlc0, hlc1, hol, hob, henc⟩ hne F N
    have hneI : @Ne Nat l I := hne _ (.head _)
    have hneIS := Ne.symm hneI
    have hil : i < b.size := by
      have := (List.getElem?_eq_some_iff.mp hk).1
      rwa [KBw.ints_length] at this
    have hul : us.size ≤ 40 := by have := hus.length; simp only [Array.length_toList] at this; omega
    clear hne
    rw [overX hv] at F
    clear hv F1 N1
    dsimp only [over] at F
    replace F : Fr s.heap L _ _ := F
    replace N : News s.heap L _ _ := N
    dsimp only [List.cons_append, List.nil_append] at N
    rcases hlb with rfl | rfl | rfl
    · k_steps
      rename Fr _ _ _ _ => F2
      rename News _ _ _ _ => N2
      refine Turn.next [(l, _)] F2 N2 (by simp) (fun p hp => by rw [List.mem_singleton.mp hp]; exact .head _) (fun p hp => by rw [List.mem_singleton.mp hp]; exact hneI) ⟨_, _, _, _, _, _, _, _, ⟨rfl, rfl, rfl, rfl, trivial⟩, rfl, intsAre_push hus, .inr (.inl rfl), ?_, ?_, ?_, byte_snoc hob, ?_⟩
      · rw [lcv hlc0 hk0 hk1]; omega
      · rw [lcv hlc0 hk0 hk1]; omega
      · simp only [List.length_append, List.length_cons, List.length_nil]; omega
      · rw [encAt_succ hk, henc, lcv hlc0 hk0 hk1]; simp only [bitAnd_m6, shv]; simp [encStep]
    · k_steps
      rename Fr _ _ _ _ => F2
      rename News _ _ _ _ => N2
      refine Turn.next [(l, _)] F2 N2 (by simp) (fun p hp => by rw [List.mem_singleton.mp hp]; exact .head _) (fun p hp => by rw [List.mem_singleton.mp hp]; exact hneI) ⟨_, _, _, _, _, _, _, _, ⟨rfl, rfl, rfl, rfl, trivial⟩, rfl, intsAre_push hus, .inr (.inr rfl), ?_, ?_, ?_, byte_snoc hob, ?_⟩
      · rw [lcv hlc0 hk0 hk1]; omega
      · rw [lcv hlc0 hk0 hk1]; omega
      · simp only [List.length_append, List.length_cons, List.length_nil]; omega
      · rw [encAt_succ hk, henc, lcv hlc0 hk0 hk1]; simp only [bitAnd_m6, shv]; simp [encStep]
    · k_steps
      rename Fr _ _ _ _ => F2
      rename News _ _ _ _ => N2
      refine Turn.next [(l, _)] F2 N2 (by simp) (fun p hp => by rw [List.mem_singleton.mp hp]; exact .head _) (fun p hp => by rw [List.mem_singleton.mp hp]; exact hneI) ⟨_, _, _, _, _, _, _, _, ⟨rfl, rfl, rfl, rfl, trivial⟩, rfl, intsAre_push (intsAre_push hus), .inl rfl, ?_, ?_, ?_, byte_snoc (byte_snoc hob), ?_⟩
      · rw [lcv hlc0 hk0 hk1]; omega
      · rw [lcv hlc0 hk0 hk1]; omega
      · simp only [List.length_append, List.length_cons, List.length_nil]; omega
      · rw [encAt_succ hk, henc, lcv hlc0 hk0 hk1]; simp only [bitAnd_m6, shv]; simp [encStep]
  · rintro m₁ nx h tk ⟨t₁, t₂, l, us, n, lc, lb, outs, hv, rfl, hus, hlb, hlc0, hlc1, hol, hob, henc⟩ F N
    rw [overV hv] at F
    clear hv F1 N1
    dsimp only [over] at F
    replace F : Fr s.heap L _ _ := F
    replace N : News s.heap L _ _ := N
    have hul : us.size ≤ 40 := by have := hus.length; simp only [Array.length_toList] at this; omega
    (try dsimp only)
    (try k_fold)
    rcases hlb with rfl | rfl | rfl
    · k_steps
      rename Fr _ _ _ _ => F5
      exact ret _ _ _ F5.keep ⟨_, by rw [encode, KBw.ints_length, henc]; rfl⟩
    · k_steps
      rename Fr _ _ _ _ => F2
      rename News _ _ _ _ => N2
      refine bytes_A F2 N2 (.head _) (intsAre_push (intsAre_push (intsAre_push hus))) (byte61 (byte61 (byte_snoc hob))) (by (try simp only [Array.size_push]); omega) rfl (fun h5 t5 k5 F5 N5 => ?_)
      clear F2 N2
      k_steps
      exact ret _ _ _ F5.keep ⟨_, by rw [encode, KBw.ints_length, henc]; rw [enc2]⟩
    · k_steps
      rename Fr _ _ _ _ => F2
      rename News _ _ _ _ => N2
      refine bytes_A F2 N2 (.head _) (intsAre_push (intsAre_push hus)) (byte61 (byte_snoc hob)) (by (try simp only [Array.size_push]); omega) rfl (fun h5 t5 k5 F5 N5 => ?_)
      clear F2 N2
      k_steps
      exact ret _ _ _ F5.keep ⟨_, by rw [encode, KBw.ints_length, henc]; rw [enc4]⟩
end
section -- C2
open PySem PySem.W PyProof.Rows
set_option maxHeartbeats 4000000 in
theorem a2b_spec (w : World) (b : Array UInt8) (t : Tok) (hb : b.size ≤ 60) (hend : decEnd (KBw.bInts b)) :
    Spec w 2 100 [.bytes b t] [(Str.ofString "strict_mode", .bool false)] (fun _ => True) (fun _ v _ => ∃ t', v = .bytes (bts (decode (KBw.bInts b))) t') := by
  k_with_none
  k_with "exec" => ((with_reducible show wpAny _ _ (exec (stm _ _) _) _ _ _); k_dflt (conv => arg 3; arg 1; whnf))
  k_with "call type:type" => ((with_reducible show wpAny _ _ (call (Value.type "type") [Value.bytes _ _]) _ _ _); refine type_bytes ?_)
  k_with "getMethod str" => ((with_reducible show wpAny _ _ (getMethod (Value.str _ _) (PySem.Str.ofString "encode") _) _ _ _); refine encode_get ?_)
  k_with "call builtin:str.encode" => (k_dflt (refine encode_call (by assumption) (by assumption) ?_); intro _)
  k_with "getMethod bytes" => (first | refine hex_get ?_ | refine bupper_get ?_)
  k_with "call builtin:bytes.hex" => (k_dflt (refine hex_call (by assumption) ?_); intro _)
  k_with "call builtin:bytes.upper" => (k_dflt (refine bupper_call (by assumption) ?_); intro _)
  k_with "compareOp In int ref" => ((with_reducible show wpAny _ _ (compareOp CmpOp.In (Value.int _ _) (Value.ref 170)) _ _ _); k_dflt (refine in170 (by k_in) ?_))
  k_with "getMethod ref" => ((with_reducible show wpAny _ _ (getMethod (Value.ref 181) _ _) _ _ _); k_dflt (refine meth181 (by k_in) ?_))
  k_with "call builtin:dict.get" => ((with_reducible show wpAny _ _ (call (Value.builtin "dict.get") [Value.ref 181, Value.int _ _]) _ _ _); k_dflt (refine get181 (by k_in) ?_))
  k_with "call builtin:list.append" => (k_dflt (refine' append_K ?k1 ?k2 ?k3 ?_ ?z; (case k1 => k_asm); (case k2 => k_asm); (case k3 => k_upd); (case z => (rw [sizeLine_eq]; (try simp only [Array.size_push, Array.size_empty]); omega))); intro h' F' N'; (try k_sweep))
  k_with "binaryOp LShift int int" => (k_dflt (refine' lshift_int_small ?a ?b ?c ?_; (case a => omega); (case b => omega); (case c => (first | omega | (simp only [bitAnd_m6, bitAnd_m2, bitAnd_m4]; omega)))))
  k_with "subscriptTail" => ((with_reducible show wpAny _ _ (subscriptTail _ _ (Value.bytes _ _) (Value.int _ _)) _ _ _); k_dflt (refine' item_signs ?e ?a ?b ?_; (case e => exact rfl); (case a => (simp only [bitAnd_m6, bitAnd_m2, bitAnd_m4, Int.reduceToNat, Int.reducePow]; omega)); (case b => (simp only [bitAnd_m6, bitAnd_m2, bitAnd_m4, Int.reduceToNat, Int.reducePow]; omega))); intro _)
  k_with "call ref" => ((with_reducible show wpAny _ _ (call (Value.ref 71) _ _) _ _ _); k_dflt (refine' use_spec (asciibuf_spec _ _ _) ?V ?F ?N ?P ?D ?U ?_; (case V => assumption); (case F => k_asm); (case N => k_asm); (case P => first | trivial | assumption); (case D => (dsimp only; omega)); (case U => (dsimp only; omega))); intro v9 h9 tk9 F9 N9 k9 p9; (first | subst p9 | (obtain ⟨t9, p9⟩ := p9; subst p9)); (try k_sweep); (try dsimp only))
  k_with "call ref" => ((with_reducible show wpAny _ _ (call (Value.ref 85) _ _) _ _ _); k_dflt (refine' use_spec (truth_spec _) ?V ?F ?N ?P ?D ?U ?_; (case V => assumption); (case F => k_asm); (case N => k_asm); (case P => first | trivial | assumption); (case D => (dsimp only; omega)); (case U => (dsimp only; omega))); intro v9 h9 tk9 F9 N9 k9 p9; (first | subst p9 | (obtain ⟨t9, p9⟩ := p9; subst p9)); (try k_sweep); (try dsimp only))
  k_with "call ref" => ((with_reducible show wpAny _ _ (call (Value.ref 92) _ _) _ _ _); k_dflt (refine' use_spec (b64v_spec _ _ _) ?V ?F ?N ?P ?D ?U ?_; (case V => assumption); (case F => k_asm); (case N => k_asm); (case P => first | trivial | assumption); (case D => (dsimp only; omega)); (case U => (dsimp only; omega))); intro v9 h9 tk9 F9 N9 k9 p9; (first | subst p9 | (obtain ⟨t9, p9⟩ := p9; subst p9)); (try k_sweep); (try dsimp only))
  intro dp un fr gd s Q E V _ hd hu ret
  refine' enter [(Str.ofString "data", .bytes b t), (Str.ofString "strict_mode", .bool false)] V ?k6 ?k7 (by show dp < recursionLimit; omega) ?k9 ?kB ?c5 ?c2 ?c3 ?c4 ?_
  (case k6 => k_is)
  (case k7 => k_is)
  (case k9 => first | exact BindsTo.of_eq rfl | exact binds_K V.k rfl (by k_is) rfl rfl rfl)
  (case kB => exact locs rfl)
  (case c5 => decide +kernel)
  (case c2 => exact rfl)
  (case c3 => exact rfl)
  (case c4 => exact rfl)
  rintro L h₁ tk₁ X ⟨p, loose, mean, mg, mb, T⟩ F N
  dsimp only [ofB] at F
  rw [show bod 13 = [stm 13 0, stm 13 1, stm 13 2, stm 13 3, stm 13 4, stm 13 5, stm 13 6, lop 13 7, stm 13 8, stm 13 9, stm 13 10] from rfl]
  have hsc : sco 13 = sco 13 := rfl
  (conv at hsc => rhs; whnf)
  rw [hsc]
  clear hsc
  (try k_fold)
  k_steps
  (conv => arg 3; arg 1; whnf)
  refine For_invV s.heap (by rfl) (by rfl) ?_
  (try dsimp only)
  repeat ((fail_if_success (with_reducible show wpAny _ _ (pyIter _) _ _ _)); first | walk1 | (dsimp only; walk1))
  rename Fr _ _ _ _ => F1
  rename News _ _ _ _ => N1
  refine iter_bytes (fun _ _ i m nx => ∃ t₁ t₂ t₃ t₄ ii l us n z, Vals [Str.ofString "quad_pos", Str.ofString "leftchar", Str.ofString "pads", Str.ofString "i", Str.ofString "out", Str.ofString "strict_mode"] [.int z.q t₁, .int z.l t₂, .int z.p t₃, .int ii t₄, .ref l, .bool false] m ∧ nx = [(l, listOf us n)] ∧ IntsAre us.toList z.o ∧ DecOk z i ∧ decAt (KBw.bInts b) i = z) rfl F1 N1 ⟨_, _, _, _, _, _, _, _, ⟨0, 0, 0, []⟩, ⟨rfl, rfl, rfl, rfl, rfl, rfl, trivial⟩, rfl, IntsAre.nil, decOk0, rfl⟩ ?_ ?_
  · rintro i k t₀ m₁ nx h tk I oI hk hk0 hk1 ⟨t₁, t₂, t₃, t₄, ii, l, us, n, ⟨q, lc, pd, outs⟩, hv, rfl, hus, hz, henc⟩ hne F N
    have hneI : @Ne Nat l I := hne _ (.head _)
    have hneIS := Ne.symm hneI
    have hz1 := hz.step k
    have hil : i < b.size := by
      have := (List.getElem?_eq_some_iff.mp hk).1
      rwa [KBw.ints_length] at this
    obtain ⟨hq, l0, l1, l2, l3, p0, ho, hn⟩ := hz
    dsimp only at hv hus hq l0 l1 l2 l3 p0 ho hn
    have hul : us.size ≤ 60 := by have := hus.length; simp only [Array.length_toList] at this; omega
    have hvr := b64v_range k
    clear hne
    rw [overX hv] at F
    clear hv F1 N1
    dsimp only [over] at F
    replace F : Fr s.heap L _ _ := F
    replace N : News s.heap L _ _ := N
    dsimp only [List.cons_append, List.nil_append] at N
    k_steps
    all_goals
      rename Fr _ _ _ _ => F2
      rename News _ _ _ _ => N2
      obtain ⟨BO, hBO⟩ : ∃ f, f = Builtin.bitOr := ⟨_, rfl⟩
      obtain ⟨BA, hBA⟩ : ∃ f, f = Builtin.bitAnd := ⟨_, rfl⟩
      obtain ⟨BV, hBV⟩ : ∃ f, f = b64v k := ⟨_, rfl⟩
      (try rw [← hBO] at F2)
      (try rw [← hBO] at N2)
      (try rw [← hBA] at F2)
      (try rw [← hBA] at N2)
      (try rw [← hBV] at F2)
      (try rw [← hBV] at N2)
      first
      | refine Turn.next [(l, _)] F2 N2 (by simp) (fun p hp => by rw [List.mem_singleton.mp hp]; exact .head _) (fun p hp => by rw [List.mem_singleton.mp hp]; exact hneI) ⟨_, _, _, _, _, _, _, _, ⟨_, _, _, _⟩, ⟨rfl, rfl, rfl, rfl, rfl, rfl, trivial⟩, rfl, by first | exact hus | exact intsAre_push hus, fin_dec hk henc hz1 ?_⟩
      | refine Turn.cont [(l, _)] F2 N2 (by simp) (fun p hp => by rw [List.mem_singleton.mp hp]; exact .head _) (fun p hp => by rw [List.mem_singleton.mp hp]; exact hneI) ⟨_, _, _, _, _, _, _, _, ⟨_, _, _, _⟩, ⟨rfl, rfl, rfl, rfl, rfl, rfl, trivial⟩, rfl, by first | exact hus | exact intsAre_push hus, fin_dec hk henc hz1 ?_⟩
      clear F2 N2
      (try rw [hBO])
      (try rw [hBA])
      (try rw [hBV])
      (try rw [or4 l0 hvr.1 (by omega)])
      (try rw [or16 l0 hvr.1 (by omega)])
      (try rw [or64 l0 hvr.1 (by omega)])
      (try simp only [bitAnd_m4, bitAnd_m2])
      clear hz1 ret
      unfold decStep
      dsimp only
      clear hBO hBA hBV
      generalize b64v k = v at *
      (repeat' split) <;> first | rfl | (exfalso; omega)
  · rintro m₁ nx h tk ⟨t₁, t₂, t₃, t₄, ii, l, us, n, ⟨q, lc, pd, outs⟩, hv, rfl, hus, hz, henc⟩ F N
    obtain ⟨hq, l0, l1, l2, l3, p0, ho, hn⟩ := hz
    dsimp only at hv hus hq l0 l1 l2 l3 p0 ho hn
    have hul : us.size ≤ 60 := by have := hus.length; simp only [Array.length_toList] at this; omega
    unfold decEnd at hend
    rw [KBw.ints_length, henc] at hend
    dsimp only at hend
    rw [overV hv] at F
    clear hv F1 N1
    dsimp only [over] at F
    replace F : Fr s.heap L _ _ := F
    replace N : News s.heap L _ _ := N
    (try dsimp only)
    (try k_fold)
    rcases hq with rfl | rfl | rfl | rfl
    · k_steps
      rename Fr _ _ _ _ => F5
      exact ret _ _ _ F5.keep ⟨_, by rw [decode, KBw.ints_length, henc]; rfl⟩
    · exfalso; omega
    · have hend : 4 ≤ 2 + pd := by omega
      k_steps
      all_goals first | (exfalso; omega) | skip
      rename Fr _ _ _ _ => F5
      exact ret _ _ _ F5.keep ⟨_, by rw [decode, KBw.ints_length, henc]; rfl⟩
    · have hend : 4 ≤ 3 + pd := by omega
      k_steps
      all_goals first | (exfalso; omega) | skip
      rename Fr _ _ _ _ => F5
      exact ret _ _ _ F5.keep ⟨_, by rw [decode, KBw.ints_length, henc]; rfl⟩
end
section -- C3
open PySem PySem.W PyProof.Rows
set_option maxHeartbeats 4000000 in
theorem b64encode_spec (w : World) (b : Array UInt8) (t : Tok) (hb : b.size ≤ 20) :
    Spec w 3 139 [.bytes b t] [] (fun _ => True) (fun _ v _ => ∃ t', v = .bytes (bts (encode (KBw.bInts b))) t') := by
  k_with_none
  k_with "exec" => ((with_reducible show wpAny _ _ (exec (stm _ _) _) _ _ _); k_dflt (conv => arg 3; arg 1; whnf))
  k_with "call type:type" => ((with_reducible show wpAny _ _ (call (Value.type "type") [Value.bytes _ _]) _ _ _); refine type_bytes ?_)
  k_with "getMethod str" => ((with_reducible show wpAny _ _ (getMethod (Value.str _ _) (PySem.Str.ofString "encode") _) _ _ _); refine encode_get ?_)
  k_with "call builtin:str.encode" => (k_dflt (refine encode_call (by assumption) (by assumption) ?_); intro _)
  k_with "getMethod bytes" => (first | refine hex_get ?_ | refine bupper_get ?_)
  k_with "call builtin:bytes.hex" => (k_dflt (refine hex_call (by assumption) ?_); intro _)
  k_with "call builtin:bytes.upper" => (k_dflt (refine bupper_call (by assumption) ?_); intro _)
  k_with "compareOp In int ref" => ((with_reducible show wpAny _ _ (compareOp CmpOp.In (Value.int _ _) (Value.ref 170)) _ _ _); k_dflt (refine in170 (by k_in) ?_))
  k_with "getMethod ref" => ((with_reducible show wpAny _ _ (getMethod (Value.ref 181) _ _) _ _ _); k_dflt (refine meth181 (by k_in) ?_))
  k_with "call builtin:dict.get" => ((with_reducible show wpAny _ _ (call (Value.builtin "dict.get") [Value.ref 181, Value.int _ _]) _ _ _); k_dflt (refine get181 (by k_in) ?_))
  k_with "call builtin:list.append" => (k_dflt (refine' append_K ?k1 ?k2 ?k3 ?_ ?z; (case k1 => k_asm); (case k2 => k_asm); (case k3 => k_upd); (case z => (rw [sizeLine_eq]; (try simp only [Array.size_push, Array.size_empty]); omega))); intro h' F' N'; (try k_sweep))
  k_with "binaryOp LShift int int" => (k_dflt (refine' lshift_int_small ?a ?b ?c ?_; (case a => omega); (case b => omega); (case c => (first | omega | (simp only [bitAnd_m6, bitAnd_m2, bitAnd_m4]; omega)))))
  k_with "subscriptTail" => ((with_reducible show wpAny _ _ (subscriptTail _ _ (Value.bytes _ _) (Value.int _ _)) _ _ _); k_dflt (refine' item_signs ?e ?a ?b ?_; (case e => exact rfl); (case a => (simp only [bitAnd_m6, bitAnd_m2, bitAnd_m4, Int.reduceToNat, Int.reducePow]; omega)); (case b => (simp only [bitAnd_m6, bitAnd_m2, bitAnd_m4, Int.reduceToNat, Int.reducePow]; omega))); intro _)
  k_with "call ref" => ((with_reducible show wpAny _ _ (call (Value.ref 78) _ _) _ _ _); k_dflt (refine' use_spec (buffer_spec _ _ _) ?V ?F ?N ?P ?D ?U ?_; (case V => assumption); (case F => k_asm); (case N => k_asm); (case P => first | trivial | assumption); (case D => (dsimp only; omega)); (case U => (dsimp only; omega))); intro v9 h9 tk9 F9 N9 k9 p9; (first | subst p9 | (obtain ⟨t9, p9⟩ := p9; subst p9)); (try k_sweep); (try dsimp only))
  k_with "call ref" => ((with_reducible show wpAny _ _ (call (Value.ref 108) _ _) _ _ _); k_dflt (refine' use_spec (b2a_spec _ _ _ (by assumption)) ?V ?F ?N ?P ?D ?U ?_; (case V => assumption); (case F => k_asm); (case N => k_asm); (case P => first | trivial | assumption); (case D => (dsimp only; omega)); (case U => (dsimp only; omega))); intro v9 h9 tk9 F9 N9 k9 p9; (first | subst p9 | (obtain ⟨t9, p9⟩ := p9; subst p9)); (try k_sweep); (try dsimp only))
  k_with "call ref" => ((with_reducible show wpAny _ _ (call (Value.ref 51) _ _) _ _ _); k_dflt (refine' use_spec (fromdata_spec _ _ _ (by assumption) (by assumption)) ?V ?F ?N ?P ?D ?U ?_; (case V => assumption); (case F => k_asm); (case N => k_asm); (case P => first | trivial | assumption); (case D => (dsimp only; omega)); (case U => (dsimp only; omega))); intro v9 h9 tk9 F9 N9 k9 p9; (first | subst p9 | (obtain ⟨t9, p9⟩ := p9; subst p9)); (try k_sweep); (try dsimp only))
  k_with "call ref" => ((with_reducible show wpAny _ _ (call (Value.ref 100) _ _) _ _ _); k_dflt (refine' use_spec (a2b_spec _ _ _ (by assumption) (by assumption)) ?V ?F ?N ?P ?D ?U ?_; (case V => assumption); (case F => k_asm); (case N => k_asm); (case P => first | trivial | assumption); (case D => (dsimp only; omega)); (case U => (dsimp only; omega))); intro v9 h9 tk9 F9 N9 k9 p9; (first | subst p9 | (obtain ⟨t9, p9⟩ := p9; subst p9)); (try k_sweep); (try dsimp only))
  intro dp un fr gd s Q E V _ hd hu ret
  refine' enter [(Str.ofString "s", .bytes b t), (Str.ofString "altchars", .none)] V ?k6 ?k7 (by show dp < recursionLimit; omega) ?k9 ?kB ?c5 ?c2 ?c3 ?c4 ?_
  (case k6 => k_is)
  (case k7 => k_is)
  (case k9 => first | exact BindsTo.of_eq rfl | exact binds_K V.k rfl (by k_is) rfl rfl rfl)
  (case kB => exact locs rfl)
  (case c5 => decide +kernel)
  (case c2 => exact rfl)
  (case c3 => exact rfl)
  (case c4 => exact rfl)
  rintro L h₁ tk₁ X ⟨p, loose, mean, mg, mb, T⟩ F N
  dsimp only [ofB] at F
  rw [show bod 22 = [stm 22 0, stm 22 1, stm 22 2] from rfl]
  have hsc : sco 22 = sco 22 := rfl
  (conv at hsc => rhs; whnf)
  rw [hsc]
  clear hsc
  (try k_fold)
  k_steps
  rename Fr _ _ _ _ => F9
  exact ret _ _ _ F9.keep ⟨_, rfl⟩
set_option maxHeartbeats 4000000 in
theorem b64decode_spec (w : World) (x : Str) (t : Tok) (hx : ∀ c ∈ x.cps, c < 128) (hl : x.cps.size ≤ sizeLine) (hb : (x.cps.map (·.toUInt8)).size ≤ 60) (hend : decEnd (KBw.bInts (x.cps.map (·.toUInt8)))) :
    Spec w 3 147 [.str x t] [] (fun _ => True) (fun _ v _ => ∃ t', v = .bytes (bts (decode (KBw.bInts (x.cps.map (·.toUInt8))))) t') := by
  k_with_none
  k_with "exec" => ((with_reducible show wpAny _ _ (exec (stm _ _) _) _ _ _); k_dflt (conv => arg 3; arg 1; whnf))
  k_with "call type:type" => ((with_reducible show wpAny _ _ (call (Value.type "type") [Value.bytes _ _]) _ _ _); refine type_bytes ?_)
  k_with "getMethod str" => ((with_reducible show wpAny _ _ (getMethod (Value.str _ _) (PySem.Str.ofString "encode") _) _ _ _); refine encode_get ?_)
  k_with "call builtin:str.encode" => (k_dflt (refine encode_call (by assumption) (by assumption) ?_); intro _)
  k_with "getMethod bytes" => (first | refine hex_get ?_ | refine bupper_get ?_)
  k_with "call builtin:bytes.hex" => (k_dflt (refine hex_call (by assumption) ?_); intro _)
  k_with "call builtin:bytes.upper" => (k_dflt (refine bupper_call (by assumption) ?_); intro _)
  k_with "compareOp In int ref" => ((with_reducible show wpAny _ _ (compareOp CmpOp.In (Value.int _ _) (Value.ref 170)) _ _ _); k_dflt (refine in170 (by k_in) ?_))
  k_with "getMethod ref" => ((with_reducible show wpAny _ _ (getMethod (Value.ref 181) _ _) _ _ _); k_dflt (refine meth181 (by k_in) ?_))
  k_with "call builtin:dict.get" => ((with_reducible show wpAny _ _ (call (Value.builtin "dict.get") [Value.ref 181, Value.int _ _]) _ _ _); k_dflt (refine get181 (by k_in) ?_))
  k_with "call builtin:list.append" => (k_dflt (refine' append_K ?k1 ?k2 ?k3 ?_ ?z; (case k1 => k_asm); (case k2 => k_asm); (case k3 => k_upd); (case z => (rw [sizeLine_eq]; (try simp only [Array.size_push, Array.size_empty]); omega))); intro h' F' N'; (try k_sweep))
  k_with "binaryOp LShift int int" => (k_dflt (refine' lshift_int_small ?a ?b ?c ?_; (case a => omega); (case b => omega); (case c => (first | omega | (simp only [bitAnd_m6, bitAnd_m2, bitAnd_m4]; omega)))))
  k_with "subscriptTail" => ((with_reducible show wpAny _ _ (subscriptTail _ _ (Value.bytes _ _) (Value.int _ _)) _ _ _); k_dflt (refine' item_signs ?e ?a ?b ?_; (case e => exact rfl); (case a => (simp only [bitAnd_m6, bitAnd_m2, bitAnd_m4, Int.reduceToNat, Int.reducePow]; omega)); (case b => (simp only [bitAnd_m6, bitAnd_m2, bitAnd_m4, Int.reduceToNat, Int.reducePow]; omega))); intro _)
  k_with "call ref" => ((with_reducible show wpAny _ _ (call (Value.ref 78) _ _) _ _ _); k_dflt (refine' use_spec (buffer_spec _ _ _) ?V ?F ?N ?P ?D ?U ?_; (case V => assumption); (case F => k_asm); (case N => k_asm); (case P => first | trivial | assumption); (case D => (dsimp only; omega)); (case U => (dsimp only; omega))); intro v9 h9 tk9 F9 N9 k9 p9; (first | subst p9 | (obtain ⟨t9, p9⟩ := p9; subst p9)); (try k_sweep); (try dsimp only))
  k_with "call ref" => ((with_reducible show wpAny _ _ (call (Value.ref 108) _ _) _ _ _); k_dflt (refine' use_spec (b2a_spec _ _ _ (by assumption)) ?V ?F ?N ?P ?D ?U ?_; (case V => assumption); (case F => k_asm); (case N => k_asm); (case P => first | trivial | assumption); (case D => (dsimp only; omega)); (case U => (dsimp only; omega))); intro v9 h9 tk9 F9 N9 k9 p9; (first | subst p9 | (obtain ⟨t9, p9⟩ := p9; subst p9)); (try k_sweep); (try dsimp only))
  k_with "call ref" => ((with_reducible show wpAny _ _ (call (Value.ref 51) _ _) _ _ _); k_dflt (refine' use_spec (fromdata_spec _ _ _ (by assumption) (by assumption)) ?V ?F ?N ?P ?D ?U ?_; (case V => assumption); (case F => k_asm); (case N => k_asm); (case P => first | trivial | assumption); (case D => (dsimp only; omega)); (case U => (dsimp only; omega))); intro v9 h9 tk9 F9 N9 k9 p9; (first | subst p9 | (obtain ⟨t9, p9⟩ := p9; subst p9)); (try k_sweep); (try dsimp only))
  k_with "call ref" => ((with_reducible show wpAny _ _ (call (Value.ref 100) _ _) _ _ _); k_dflt (refine' use_spec (a2b_spec _ _ _ (by assumption) (by assumption)) ?V ?F ?N ?P ?D ?U ?_; (case V => assumption); (case F => k_asm); (case N => k_asm); (case P => first | trivial | assumption); (case D => (dsimp only; omega)); (case U => (dsimp only; omega))); intro v9 h9 tk9 F9 N9 k9 p9; (first | subst p9 | (obtain ⟨t9, p9⟩ := p9; subst p9)); (try k_sweep); (try dsimp only))
  intro dp un fr gd s Q E V _ hd hu ret
  refine' enter [(Str.ofString "s", .str x t), (Str.ofString "altchars", .none), (Str.ofString "validate", .bool false)] V ?k6 ?k7 (by show dp < recursionLimit; omega) ?k9 ?kB ?c5 ?c2 ?c3 ?c4 ?_
  (case k6 => k_is)
  (case k7 => k_is)
  (case k9 => first | exact BindsTo.of_eq rfl | exact binds_K V.k rfl (by k_is) rfl rfl rfl)
  (case kB => exact locs rfl)
  (case c5 => decide +kernel)
  (case c2 => exact rfl)
  (case c3 => exact rfl)
  (case c4 => exact rfl)
  rintro L h₁ tk₁ X ⟨p, loose, mean, mg, mb, T⟩ F N
  dsimp only [ofB] at F
  rw [show bod 23 = [stm 23 0, stm 23 1, stm 23 2] from rfl]
  have hsc : sco 23 = sco 23 := rfl
  (conv at hsc => rhs; whnf)
  rw [hsc]
  clear hsc
  (try k_fold)
  k_steps
  rename Fr _ _ _ _ => F9
  exact ret _ _ _ F9.keep ⟨_, rfl⟩
set_option maxHeartbeats 4000000 in
theorem b2ahex_spec (w : World) (b : Array UInt8) (t : Tok) (hl : (hexOut b).size ≤ sizeLine) (hl2 : (⟨hexOut b⟩ : Str).cps.size ≤ sizeLine) (hx : ∀ c ∈ (⟨hexOut b⟩ : Str).cps, c < 128) :
    Spec w 2 117 [.bytes b t] [] (fun _ => True) (fun _ v _ => ∃ t', v = .bytes ((hexOut b).map (·.toUInt8)) t') := by
  k_with_none
  k_with "exec" => ((with_reducible show wpAny _ _ (exec (stm _ _) _) _ _ _); k_dflt (conv => arg 3; arg 1; whnf))
  k_with "call type:type" => ((with_reducible show wpAny _ _ (call (Value.type "type") [Value.bytes _ _]) _ _ _); refine type_bytes ?_)
  k_with "getMethod str" => ((with_reducible show wpAny _ _ (getMethod (Value.str _ _) (PySem.Str.ofString "encode") _) _ _ _); refine encode_get ?_)
  k_with "call builtin:str.encode" => (k_dflt (refine encode_call (by assumption) (by assumption) ?_); intro _)
  k_with "getMethod bytes" => (first | refine hex_get ?_ | refine bupper_get ?_)
  k_with "call builtin:bytes.hex" => (k_dflt (refine hex_call (by assumption) ?_); intro _)
  k_with "call builtin:bytes.upper" => (k_dflt (refine bupper_call (by assumption) ?_); intro _)
  k_with "compareOp In int ref" => ((with_reducible show wpAny _ _ (compareOp CmpOp.In (Value.int _ _) (Value.ref 170)) _ _ _); k_dflt (refine in170 (by k_in) ?_))
  k_with "getMethod ref" => ((with_reducible show wpAny _ _ (getMethod (Value.ref 181) _ _) _ _ _); k_dflt (refine meth181 (by k_in) ?_))
  k_with "call builtin:dict.get" => ((with_reducible show wpAny _ _ (call (Value.builtin "dict.get") [Value.ref 181, Value.int _ _]) _ _ _); k_dflt (refine get181 (by k_in) ?_))
  k_with "call builtin:list.append" => (k_dflt (refine' append_K ?k1 ?k2 ?k3 ?_ ?z; (case k1 => k_asm); (case k2 => k_asm); (case k3 => k_upd); (case z => (rw [sizeLine_eq]; (try simp only [Array.size_push, Array.size_empty]); omega))); intro h' F' N'; (try k_sweep))
  k_with "binaryOp LShift int int" => (k_dflt (refine' lshift_int_small ?a ?b ?c ?_; (case a => omega); (case b => omega); (case c => (first | omega | (simp only [bitAnd_m6, bitAnd_m2, bitAnd_m4]; omega)))))
  k_with "subscriptTail" => ((with_reducible show wpAny _ _ (subscriptTail _ _ (Value.bytes _ _) (Value.int _ _)) _ _ _); k_dflt (refine' item_signs ?e ?a ?b ?_; (case e => exact rfl); (case a => (simp only [bitAnd_m6, bitAnd_m2, bitAnd_m4, Int.reduceToNat, Int.reducePow]; omega)); (case b => (simp only [bitAnd_m6, bitAnd_m2, bitAnd_m4, Int.reduceToNat, Int.reducePow]; omega))); intro _)
  k_with "call ref" => ((with_reducible show wpAny _ _ (call (Value.ref 78) _ _) _ _ _); k_dflt (refine' use_spec (buffer_spec _ _ _) ?V ?F ?N ?P ?D ?U ?_; (case V => assumption); (case F => k_asm); (case N => k_asm); (case P => first | trivial | assumption); (case D => (dsimp only; omega)); (case U => (dsimp only; omega))); intro v9 h9 tk9 F9 N9 k9 p9; (first | subst p9 | (obtain ⟨t9, p9⟩ := p9; subst p9)); (try k_sweep); (try dsimp only))
  k_with "call ref" => ((with_reducible show wpAny _ _ (call (Value.ref 108) _ _) _ _ _); k_dflt (refine' use_spec (b2a_spec _ _ _ (by assumption)) ?V ?F ?N ?P ?D ?U ?_; (case V => assumption); (case F => k_asm); (case N => k_asm); (case P => first | trivial | assumption); (case D => (dsimp only; omega)); (case U => (dsimp only; omega))); intro v9 h9 tk9 F9 N9 k9 p9; (first | subst p9 | (obtain ⟨t9, p9⟩ := p9; subst p9)); (try k_sweep); (try dsimp only))
  k_with "call ref" => ((with_reducible show wpAny _ _ (call (Value.ref 51) _ _) _ _ _); k_dflt (refine' use_spec (fromdata_spec _ _ _ (by assumption) (by assumption)) ?V ?F ?N ?P ?D ?U ?_; (case V => assumption); (case F => k_asm); (case N => k_asm); (case P => first | trivial | assumption); (case D => (dsimp only; omega)); (case U => (dsimp only; omega))); intro v9 h9 tk9 F9 N9 k9 p9; (first | subst p9 | (obtain ⟨t9, p9⟩ := p9; subst p9)); (try k_sweep); (try dsimp only))
  k_with "call ref" => ((with_reducible show wpAny _ _ (call (Value.ref 100) _ _) _ _ _); k_dflt (refine' use_spec (a2b_spec _ _ _ (by assumption) (by assumption)) ?V ?F ?N ?P ?D ?U ?_; (case V => assumption); (case F => k_asm); (case N => k_asm); (case P => first | trivial | assumption); (case D => (dsimp only; omega)); (case U => (dsimp only; omega))); intro v9 h9 tk9 F9 N9 k9 p9; (first | subst p9 | (obtain ⟨t9, p9⟩ := p9; subst p9)); (try k_sweep); (try dsimp only))
  intro dp un fr gd s Q E V _ hd hu ret
  refine' enter [(Str.ofString "data", .bytes b t), (Str.ofString "sep", .ref 109), (Str.ofString "bytes_per_sep", .int 1 413)] V ?k6 ?k7 (by show dp < recursionLimit; omega) ?k9 ?kB ?c5 ?c2 ?c3 ?c4 ?_
  (case k6 => k_is)
  (case k7 => k_is)
  (case k9 => first | exact BindsTo.of_eq rfl | exact binds_K V.k rfl (by k_is) rfl rfl rfl)
  (case kB => exact locs rfl)
  (case c5 => decide +kernel)
  (case c2 => exact rfl)
  (case c3 => exact rfl)
  (case c4 => exact rfl)
  rintro L h₁ tk₁ X ⟨p, loose, mean, mg, mb, T⟩ F N
  dsimp only [ofB] at F
  rw [show bod 16 = [stm 16 0, stm 16 1, stm 16 2, stm 16 3, stm 16 4, stm 16 5] from rfl]
  have hsc : sco 16 = sco 16 := rfl
  (conv at hsc => rhs; whnf)
  rw [hsc]
  clear hsc
  (try k_fold)
  k_steps
  rename Fr _ _ _ _ => F9
  exact ret _ _ _ F9.keep ⟨_, rfl⟩
set_option maxHeartbeats 4000000 in
theorem b16encode_spec (w : World) (b : Array UInt8) (t : Tok) (hl : (hexOut b).size ≤ sizeLine) (hl2 : (⟨hexOut b⟩ : Str).cps.size ≤ sizeLine) (hx : ∀ c ∈ (⟨hexOut b⟩ : Str).cps, c < 128) (hl3 : ((hexOut b).map (·.toUInt8)).size ≤ sizeLine) :
    Spec w 3 154 [.bytes b t] [] (fun _ => True) (fun _ v _ => ∃ t', v = .bytes (((hexOut b).map (·.toUInt8)).toList.map Builtin.Bytes.toUpper).toArray t') := by
  k_with_none
  k_with "exec" => ((with_reducible show wpAny _ _ (exec (stm _ _) _) _ _ _); k_dflt (conv => arg 3; arg 1; whnf))
  k_with "call type:type" => ((with_reducible show wpAny _ _ (call (Value.type "type") [Value.bytes _ _]) _ _ _); refine type_bytes ?_)
  k_with "getMethod str" => ((with_reducible show wpAny _ _ (getMethod (Value.str _ _) (PySem.Str.ofString "encode") _) _ _ _); refine encode_get ?_)
  k_with "call builtin:str.encode" => (k_dflt (refine encode_call (by assumption) (by assumption) ?_); intro _)
  k_with "getMethod bytes" => (first | refine hex_get ?_ | refine bupper_get ?_)
  k_with "call builtin:bytes.hex" => (k_dflt (refine hex_call (by assumption) ?_); intro _)
  k_with "call builtin:bytes.upper" => (k_dflt (refine bupper_call (by assumption) ?_); intro _)
  k_with "compareOp In int ref" => ((with_reducible show wpAny _ _ (compareOp CmpOp.In (Value.int _ _) (Value.ref 170)) _ _ _); k_dflt (refine in170 (by k_in) ?_))
  k_with "getMethod ref" => ((with_reducible show wpAny _ _ (getMethod (Value.ref 181) _ _) _ _ _); k_dflt (refine meth181 (by k_in) ?_))
  k_with "call builtin:dict.get" => ((with_reducible show wpAny _ _ (call (Value.builtin "dict.get") [Value.ref 181, Value.int _ _]) _ _ _); k_dflt (refine get181 (by k_in) ?_))
  k_with "call builtin:list.append" => (k_dflt (refine' append_K ?k1 ?k2 ?k3 ?_ ?z; (case k1 => k_asm); (case k2 => k_asm); (case k3 => k_upd); (case z => (rw [sizeLine_eq]; (try simp only [Array.size_push, Array.size_empty]); omega))); intro h' F' N'; (try k_sweep))
  k_with "binaryOp LShift int int" => (k_dflt (refine' lshift_int_small ?a ?b ?c ?_; (case a => omega); (case b => omega); (case c => (first | omega | (simp only [bitAnd_m6, bitAnd_m2, bitAnd_m4]; omega)))))
  k_with "subscriptTail" => ((with_reducible show wpAny _ _ (subscriptTail _ _ (Value.bytes _ _) (Value.int _ _)) _ _ _); k_dflt (refine' item_signs ?e ?a ?b ?_; (case e => exact rfl); (case a => (simp only [bitAnd_m6, bitAnd_m2, bitAnd_m4, Int.reduceToNat, Int.reducePow]; omega)); (case b => (simp only [bitAnd_m6, bitAnd_m2, bitAnd_m4, Int.reduceToNat, Int.reducePow]; omega))); intro _)
  k_with "call ref" => ((with_reducible show wpAny _ _ (call (Value.ref 78) _ _) _ _ _); k_dflt (refine' use_spec (buffer_spec _ _ _) ?V ?F ?N ?P ?D ?U ?_; (case V => assumption); (case F => k_asm); (case N => k_asm); (case P => first | trivial | assumption); (case D => (dsimp only; omega)); (case U => (dsimp only; omega))); intro v9 h9 tk9 F9 N9 k9 p9; (first | subst p9 | (obtain ⟨t9, p9⟩ := p9; subst p9)); (try k_sweep); (try dsimp only))
  k_with "call ref" => ((with_reducible show wpAny _ _ (call (Value.ref 108) _ _) _ _ _); k_dflt (refine' use_spec (b2a_spec _ _ _ (by assumption)) ?V ?F ?N ?P ?D ?U ?_; (case V => assumption); (case F => k_asm); (case N => k_asm); (case P => first | trivial | assumption); (case D => (dsimp only; omega)); (case U => (dsimp only; omega))); intro v9 h9 tk9 F9 N9 k9 p9; (first | subst p9 | (obtain ⟨t9, p9⟩ := p9; subst p9)); (try k_sweep); (try dsimp only))
  k_with "call ref" => ((with_reducible show wpAny _ _ (call (Value.ref 51) _ _) _ _ _); k_dflt (refine' use_spec (fromdata_spec _ _ _ (by assumption) (by assumption)) ?V ?F ?N ?P ?D ?U ?_; (case V => assumption); (case F => k_asm); (case N => k_asm); (case P => first | trivial | assumption); (case D => (dsimp only; omega)); (case U => (dsimp only; omega))); intro v9 h9 tk9 F9 N9 k9 p9; (first | subst p9 | (obtain ⟨t9, p9⟩ := p9; subst p9)); (try k_sweep); (try dsimp only))
  k_with "call ref" => ((with_reducible show wpAny _ _ (call (Value.ref 100) _ _) _ _ _); k_dflt (refine' use_spec (a2b_spec _ _ _ (by assumption) (by assumption)) ?V ?F ?N ?P ?D ?U ?_; (case V => assumption); (case F => k_asm); (case N => k_asm); (case P => first | trivial | assumption); (case D => (dsimp only; omega)); (case U => (dsimp only; omega))); intro v9 h9 tk9 F9 N9 k9 p9; (first | subst p9 | (obtain ⟨t9, p9⟩ := p9; subst p9)); (try k_sweep); (try dsimp only))
  k_with "call ref" => ((with_reducible show wpAny _ _ (call (Value.ref 117) _ _) _ _ _); k_dflt (refine' use_spec (b2ahex_spec _ _ _ (by assumption) (by assumption) (by assumption)) ?V ?F ?N ?P ?D ?U ?_; (case V => assumption); (case F => k_asm); (case N => k_asm); (case P => first | trivial | assumption); (case D => (dsimp only; omega)); (case U => (dsimp only; omega))); intro v9 h9 tk9 F9 N9 k9 p9; (first | subst p9 | (obtain ⟨t9, p9⟩ := p9; subst p9)); (try k_sweep); (try dsimp only))
  intro dp un fr gd s Q E V _ hd hu ret
  refine' enter [(Str.ofString "s", .bytes b t)] V ?k6 ?k7 (by show dp < recursionLimit; omega) ?k9 ?kB ?c5 ?c2 ?c3 ?c4 ?_
  (case k6 => k_is)
  (case k7 => k_is)
  (case k9 => first | exact BindsTo.of_eq rfl | exact binds_K V.k rfl (by k_is) rfl rfl rfl)
  (case kB => exact locs rfl)
  (case c5 => decide +kernel)
  (case c2 => exact rfl)
  (case c3 => exact rfl)
  (case c4 => exact rfl)
  rintro L h₁ tk₁ X ⟨p, loose, mean, mg, mb, T⟩ F N
  dsimp only [ofB] at F
  rw [show bod 24 = [stm 24 0] from rfl]
  have hsc : sco 24 = sco 24 := rfl
  (conv at hsc => rhs; whnf)
  rw [hsc]
  clear hsc
  (try k_fold)
  k_steps
  rename Fr _ _ _ _ => F9
  exact ret _ _ _ F9.keep ⟨_, rfl⟩
end
section -- C4
open PySem PySem.W PyProof.Rows
set_option maxHeartbeats 4000000 in
theorem a2bhex_spec (w : World) (b : Array UInt8) (t : Tok) (K : Nat) (hb : b.size = 2 * K) (hK : K ≤ 20) (hh : ∀ i < 2 * K, hexv (nat0 (KBw.bInts b) i) < 16) :
    Spec w 2 131 [.bytes b t] [] (fun _ => True) (fun _ v _ => ∃ t', v = .bytes (bts (unhexAt (KBw.bInts b) K)) t') := by
  k_with_none
  k_with "exec" => ((with_reducible show wpAny _ _ (exec (stm _ _) _) _ _ _); k_dflt (conv => arg 3; arg 1; whnf))
  k_with "call type:type" => ((with_reducible show wpAny _ _ (call (Value.type "type") [Value.bytes _ _]) _ _ _); refine type_bytes ?_)
  k_with "getMethod str" => ((with_reducible show wpAny _ _ (getMethod (Value.str _ _) (PySem.Str.ofString "encode") _) _ _ _); refine encode_get ?_)
  k_with "call builtin:str.encode" => (k_dflt (refine encode_call (by assumption) (by assumption) ?_); intro _)
  k_with "getMethod bytes" => (first | refine hex_get ?_ | refine bupper_get ?_)
  k_with "call builtin:bytes.hex" => (k_dflt (refine hex_call (by assumption) ?_); intro _)
  k_with "call builtin:bytes.upper" => (k_dflt (refine bupper_call (by assumption) ?_); intro _)
  k_with "compareOp In int ref" => ((with_reducible show wpAny _ _ (compareOp CmpOp.In (Value.int _ _) (Value.ref 170)) _ _ _); k_dflt (refine in170 (by k_in) ?_))
  k_with "getMethod ref" => ((with_reducible show wpAny _ _ (getMethod (Value.ref 181) _ _) _ _ _); k_dflt (refine meth181 (by k_in) ?_))
  k_with "call builtin:dict.get" => ((with_reducible show wpAny _ _ (call (Value.builtin "dict.get") [Value.ref 181, Value.int _ _]) _ _ _); k_dflt (refine get181 (by k_in) ?_))
  k_with "call builtin:list.append" => (k_dflt (refine' append_K ?k1 ?k2 ?k3 ?_ ?z; (case k1 => k_asm); (case k2 => k_asm); (case k3 => k_upd); (case z => (rw [sizeLine_eq]; (try simp only [Array.size_push, Array.size_empty]); omega))); intro h' F' N'; (try k_sweep))
  k_with "binaryOp LShift int int" => (k_dflt (refine' lshift_int_small ?a ?b ?c ?_; (case a => omega); (case b => omega); (case c => (first | omega | (simp only [bitAnd_m6, bitAnd_m2, bitAnd_m4]; omega)))))
  k_with "subscriptTail" => ((with_reducible show wpAny _ _ (subscriptTail _ _ (Value.bytes _ _) (Value.int _ _)) _ _ _); k_dflt (refine' item_signs ?e ?a ?b ?_; (case e => exact rfl); (case a => (simp only [bitAnd_m6, bitAnd_m2, bitAnd_m4, Int.reduceToNat, Int.reducePow]; omega)); (case b => (simp only [bitAnd_m6, bitAnd_m2, bitAnd_m4, Int.reduceToNat, Int.reducePow]; omega))); intro _)
  k_with "call ref" => ((with_reducible show wpAny _ _ (call (Value.ref 71) _ _) _ _ _); k_dflt (refine' use_spec (asciibuf_spec _ _ _) ?V ?F ?N ?P ?D ?U ?_; (case V => assumption); (case F => k_asm); (case N => k_asm); (case P => first | trivial | assumption); (case D => (dsimp only; omega)); (case U => (dsimp only; omega))); intro v9 h9 tk9 F9 N9 k9 p9; (first | subst p9 | (obtain ⟨t9, p9⟩ := p9; subst p9)); (try k_sweep); (try dsimp only))
  k_with "call ref" => ((with_reducible show wpAny _ _ (call (Value.ref 124) _ _) _ _ _); k_dflt (refine' use_spec (hexv_spec _ _ _) ?V ?F ?N ?P ?D ?U ?_; (case V => assumption); (case F => k_asm); (case N => k_asm); (case P => first | trivial | assumption); (case D => (dsimp only; omega)); (case U => (dsimp only; omega))); intro v9 h9 tk9 F9 N9 k9 p9; (first | subst p9 | (obtain ⟨t9, p9⟩ := p9; subst p9)); (try k_sweep); (try dsimp only))
  intro dp un fr gd s Q E V _ hd hu ret
  refine' enter [(Str.ofString "hexstr", .bytes b t)] V ?k6 ?k7 (by show dp < recursionLimit; omega) ?k9 ?kB ?c5 ?c2 ?c3 ?c4 ?_
  (case k6 => k_is)
  (case k7 => k_is)
  (case k9 => first | exact BindsTo.of_eq rfl | exact binds_K V.k rfl (by k_is) rfl rfl rfl)
  (case kB => exact locs rfl)
  (case c5 => decide +kernel)
  (case c2 => exact rfl)
  (case c3 => exact rfl)
  (case c4 => exact rfl)
  rintro L h₁ tk₁ X ⟨p, loose, mean, mg, mb, T⟩ F N
  dsimp only [ofB] at F
  rw [show bod 19 = [stm 19 0, stm 19 1, stm 19 2, stm 19 3, stm 19 4, lop 19 5, stm 19 6] from rfl]
  have hsc : sco 19 = sco 19 := rfl
  (conv at hsc => rhs; whnf)
  rw [hsc]
  clear hsc
  (try k_fold)
  k_steps
  rename Fr _ _ _ _ => F1
  rename News _ _ _ _ => N1
  (conv => arg 3; arg 1; whnf)
  refine While_inv (fun c m nx => ∃ j t₁ t₂ l us n, Vals [Str.ofString "i", Str.ofString "out", Str.ofString "argbuf", Str.ofString "arglen"] [.int ((2 * j : Nat) : Int) t₁, .ref l, .bytes b t, .int (b.size : Int) t₂] m ∧ nx = [(l, listOf us n)] ∧ IntsAre us.toList (unhexAt (KBw.bInts b) j) ∧ j + c = K) (n₀ := K) F1 N1 ⟨0, _, _, _, _, _, ⟨rfl, rfl, rfl, rfl, trivial⟩, rfl, IntsAre.nil, Nat.zero_add _⟩ ?_
  rintro c m₁ nx h tk F N ⟨j, t₁, t₂, l, us, n, hv, rfl, hus, hjc⟩
  have hul : us.size = j := by have := hus.length; rw [unhexAt_len] at this; simpa using this
  rw [overV hv] at F
  clear hv F1 N1
  dsimp only [over] at F
  replace F : Fr s.heap L _ _ := F
  replace N : News s.heap L _ _ := N
  by_cases hjK : j < K
  · have hx0 := hh (2 * j) (by omega)
    have hx1 := hh (2 * j + 1) (by omega)
    have hr0 := hexv_range (nat0 (KBw.bInts b) (2 * j))
    have hr1 := hexv_range (nat0 (KBw.bInts b) (2 * j + 1))
    k_steps
    refine item_any (2 * j) rfl (by omega) (by omega) (fun t3 => ?_)
    (try dsimp only)
    k_steps
    refine item_any (2 * j + 1) (by omega) (by omega) (by omega) (fun t3 => ?_)
    (try dsimp only)
    k_steps
    rename Fr _ _ _ _ => F2
    rename News _ _ _ _ => N2
    refine WhileStep.intro F2 N2 (n' := c - 1) (by omega) ⟨j + 1, _, _, l, _, _, ⟨rfl, rfl, rfl, rfl, trivial⟩, rfl, ?_, by omega⟩
    · rw [unhexAt, ← show hexv (nat0 (KBw.bInts b) (2 * j)) * 2 ^ Int.toNat 4 = hexv (nat0 (KBw.bInts b) (2 * j)) * 16 from rfl]; exact intsAre_push hus
  · have hjK : j = K := by omega
    subst hjK
    have hby := unhexAt_byte hh
    k_steps
    refine bytes_A F N (.head _) hus hby (by omega) rfl (fun h5 t5 k5 F5 N5 => ?_)
    exact ret _ _ _ F5.keep ⟨_, rfl⟩
end
section -- C5
open PySem PySem.W PyProof.Rows
noncomputable def upB (x : Str) : Array UInt8 := ((x.cps.map (·.toUInt8)).toList.map Builtin.Bytes.toUpper).toArray
set_option maxHeartbeats 4000000 in
theorem b16decode_spec (w : World) (x : Str) (t : Tok) (K : Nat) (hx : ∀ c ∈ x.cps, c < 128) (hl : x.cps.size = 2 * K) (hK : K ≤ 20) (hc : ∀ i < (upB x).size, Hexc (((upB x).map (·.toNat)).getD i 0)) (hh : ∀ i < 2 * K, hexv (nat0 (KBw.bInts (upB x)) i) < 16) :
    Spec w 3 162 [.str x t, .bool true] [] (fun _ => True) (fun _ v _ => ∃ t', v = .bytes (bts (unhexAt (KBw.bInts (upB x)) K)) t') := by
  k_with_none
  k_with "exec" => ((with_reducible show wpAny _ _ (exec (stm _ _) _) _ _ _); k_dflt (conv => arg 3; arg 1; whnf))
  k_with "call type:type" => ((with_reducible show wpAny _ _ (call (Value.type "type") [Value.bytes _ _]) _ _ _); refine type_bytes ?_)
  k_with "getMethod str" => ((with_reducible show wpAny _ _ (getMethod (Value.str _ _) (PySem.Str.ofString "encode") _) _ _ _); refine encode_get ?_)
  k_with "call builtin:str.encode" => (k_dflt (refine encode_call (by assumption) (by assumption) ?_); intro _)
  k_with "getMethod bytes" => (first | refine hex_get ?_ | refine bupper_get ?_)
  k_with "call builtin:bytes.hex" => (k_dflt (refine hex_call (by assumption) ?_); intro _)
  k_with "call builtin:bytes.upper" => (k_dflt (refine bupper_call (by assumption) ?_); intro _)
  k_with "compareOp In int ref" => ((with_reducible show wpAny _ _ (compareOp CmpOp.In (Value.int _ _) (Value.ref 170)) _ _ _); k_dflt (refine in170 (by k_in) ?_))
  k_with "getMethod ref" => ((with_reducible show wpAny _ _ (getMethod (Value.ref 181) _ _) _ _ _); k_dflt (refine meth181 (by k_in) ?_))
  k_with "call builtin:dict.get" => ((with_reducible show wpAny _ _ (call (Value.builtin "dict.get") [Value.ref 181, Value.int _ _]) _ _ _); k_dflt (refine get181 (by k_in) ?_))
  k_with "call builtin:list.append" => (k_dflt (refine' append_K ?k1 ?k2 ?k3 ?_ ?z; (case k1 => k_asm); (case k2 => k_asm); (case k3 => k_upd); (case z => (rw [sizeLine_eq]; (try simp only [Array.size_push, Array.size_empty]); omega))); intro h' F' N'; (try k_sweep))
  k_with "binaryOp LShift int int" => (k_dflt (refine' lshift_int_small ?a ?b ?c ?_; (case a => omega); (case b => omega); (case c => (first | omega | (simp only [bitAnd_m6, bitAnd_m2, bitAnd_m4]; omega)))))
  k_with "subscriptTail" => ((with_reducible show wpAny _ _ (subscriptTail _ _ (Value.bytes _ _) (Value.int _ _)) _ _ _); k_dflt (refine' item_signs ?e ?a ?b ?_; (case e => exact rfl); (case a => (simp only [bitAnd_m6, bitAnd_m2, bitAnd_m4, Int.reduceToNat, Int.reducePow]; omega)); (case b => (simp only [bitAnd_m6, bitAnd_m2, bitAnd_m4, Int.reduceToNat, Int.reducePow]; omega))); intro _)
  k_with "getMethod ref" => ((with_reducible show wpAny _ _ (getMethod (Value.ref 43) _ _) _ _ _); k_dflt (refine search_get (by k_in) ?_))
  k_with "call builtin:re.Pattern.search" => (k_dflt (refine search_call (by k_in) (by assumption) (by assumption) ?_))
  k_with "call ref" => ((with_reducible show wpAny _ _ (call (Value.ref 51) _ _) _ _ _); k_dflt (refine' use_spec (fromdata_spec _ _ _ (by assumption) (by assumption)) ?V ?F ?N ?P ?D ?U ?_; (case V => assumption); (case F => k_asm); (case N => k_asm); (case P => first | trivial | assumption); (case D => (dsimp only; omega)); (case U => (dsimp only; omega))); intro v9 h9 tk9 F9 N9 k9 p9; (first | subst p9 | (obtain ⟨t9, p9⟩ := p9; subst p9)); (try k_sweep); (try dsimp only))
  k_with "call ref" => ((with_reducible show wpAny _ _ (call (Value.ref 131) _ _) _ _ _); k_dflt (refine' use_spec (a2bhex_spec _ _ _ _ (by assumption) (by assumption) (by assumption)) ?V ?F ?N ?P ?D ?U ?_; (case V => assumption); (case F => k_asm); (case N => k_asm); (case P => first | trivial | assumption); (case D => (dsimp only; omega)); (case U => (dsimp only; omega))); intro v9 h9 tk9 F9 N9 k9 p9; (first | subst p9 | (obtain ⟨t9, p9⟩ := p9; subst p9)); (try k_sweep); (try dsimp only))
  intro dp un fr gd s Q E V _ hd hu ret
  have hl2 : x.cps.size ≤ sizeLine := by rw [sizeLine_eq]; omega
  have hl3 : (x.cps.map (·.toUInt8)).size ≤ sizeLine := by rw [Array.size_map]; exact hl2
  have hl5 : (upB x).size = 2 * K := by simp [upB, hl]
  have hl4 : (upB x).size ≤ 1000 := by omega
  unfold upB at hc hh hl5 hl4
  unfold upB at ret
  refine' enter [(Str.ofString "s", .str x t), (Str.ofString "casefold", .bool true)] V ?k6 ?k7 (by show dp < recursionLimit; omega) ?k9 ?kB ?c5 ?c2 ?c3 ?c4 ?_
  (case k6 => k_is)
  (case k7 => k_is)
  (case k9 => first | exact BindsTo.of_eq rfl | exact binds_K V.k rfl (by k_is) rfl rfl rfl)
  (case kB => exact locs rfl)
  (case c5 => decide +kernel)
  (case c2 => exact rfl)
  (case c3 => exact rfl)
  (case c4 => exact rfl)
  rintro L h₁ tk₁ X ⟨p, loose, mean, mg, mb, T⟩ F N
  dsimp only [ofB] at F
  rw [show bod 25 = [stm 25 0, stm 25 1, stm 25 2, stm 25 3] from rfl]
  have hsc : sco 25 = sco 25 := rfl
  (conv at hsc => rhs; whnf)
  rw [hsc]
  clear hsc
  (try k_fold)
  k_steps
  rename Fr _ _ _ _ => F9
  exact ret _ _ _ F9.keep ⟨_, rfl⟩
end
section -- D1
open PySem PySem.W PyProof.Rows
noncomputable def chrs (b : Array UInt8) : List Nat := b.toList.map (·.toNat)
theorem flat_one (l : List Nat) : (l.map ([·])).flatten = l := by induction l with | nil => rfl | cons a r ih => simp [ih]
theorem chrs_get {b : Array UInt8} {i : Nat} {k : Int} (hk : (KBw.bInts b)[i]? = some k) : ((chrs b).map ([·]))[i]? = some [k.toNat] := by
  unfold KBw.bInts at hk
  rw [List.getElem?_map] at hk
  cases e : b.toList[i]? with
  | none => rw [e] at hk; cases hk
  | some c =>
    rw [e] at hk
    cases hk
    simp [chrs, e, List.getElem?_map]
set_option maxHeartbeats 4000000 in
theorem signs_spec (w : World) (b : Array UInt8) (t : Tok) (hb : b.size ≤ 100) :
    Spec w 1 250 [.bytes b t] [] (fun _ => True) (fun _ v _ => ∃ t', v = .str (txt (chrs b)) t') := by
  k_with_none
  k_with "exec" => ((with_reducible show wpAny _ _ (exec (stm _ _) _) _ _ _); k_dflt (conv => arg 3; arg 1; whnf))
  k_with "call type:type" => ((with_reducible show wpAny _ _ (call (Value.type "type") [Value.bytes _ _]) _ _ _); refine type_bytes ?_)
  k_with "getMethod str" => ((with_reducible show wpAny _ _ (getMethod (Value.str _ _) (PySem.Str.ofString "encode") _) _ _ _); refine encode_get ?_)
  k_with "call builtin:str.encode" => (k_dflt (refine encode_call (by assumption) (by assumption) ?_); intro _)
  k_with "getMethod bytes" => (first | refine hex_get ?_ | refine bupper_get ?_)
  k_with "call builtin:bytes.hex" => (k_dflt (refine hex_call (by assumption) ?_); intro _)
  k_with "call builtin:bytes.upper" => (k_dflt (refine bupper_call (by assumption) ?_); intro _)
  k_with "compareOp In int ref" => ((with_reducible show wpAny _ _ (compareOp CmpOp.In (Value.int _ _) (Value.ref 170)) _ _ _); k_dflt (refine in170 (by k_in) ?_))
  k_with "getMethod ref" => ((with_reducible show wpAny _ _ (getMethod (Value.ref 181) _ _) _ _ _); k_dflt (refine meth181 (by k_in) ?_))
  k_with "call builtin:dict.get" => ((with_reducible show wpAny _ _ (call (Value.builtin "dict.get") [Value.ref 181, Value.int _ _]) _ _ _); k_dflt (refine get181 (by k_in) ?_))
  k_with "call builtin:list.append" => (k_dflt (refine' append_K ?k1 ?k2 ?k3 ?_ ?z; (case k1 => k_asm); (case k2 => k_asm); (case k3 => k_upd); (case z => (rw [sizeLine_eq]; (try simp only [Array.size_push, Array.size_empty]); omega))); intro h' F' N'; (try k_sweep))
  k_with "binaryOp LShift int int" => (k_dflt (refine' lshift_int_small ?a ?b ?c ?_; (case a => omega); (case b => omega); (case c => (first | omega | (simp only [bitAnd_m6, bitAnd_m2, bitAnd_m4]; omega)))))
  k_with "subscriptTail" => ((with_reducible show wpAny _ _ (subscriptTail _ _ (Value.bytes _ _) (Value.int _ _)) _ _ _); k_dflt (refine' item_signs ?e ?a ?b ?_; (case e => exact rfl); (case a => (simp only [bitAnd_m6, bitAnd_m2, bitAnd_m4, Int.reduceToNat, Int.reducePow]; omega)); (case b => (simp only [bitAnd_m6, bitAnd_m2, bitAnd_m4, Int.reduceToNat, Int.reducePow]; omega))); intro _)
  k_with "eval ListComp" => (k_dflt (refine' comp_U ?f ?a ?b ?c ?d ?e ?h; (case f => k_asm); (case a => exact rfl); (case b => decide +kernel); (case c => exact rfl); (case d => decide +kernel); (case e => exact rfl)))
  intro dp un fr gd s Q E V _ hd hu ret
  refine' enter [(Str.ofString "octets", .bytes b t)] V ?k6 ?k7 (by show dp < recursionLimit; omega) ?k9 ?kB ?c5 ?c2 ?c3 ?c4 ?_
  (case k6 => k_is)
  (case k7 => k_is)
  (case k9 => first | exact BindsTo.of_eq rfl | exact binds_K V.k rfl (by k_is) rfl rfl rfl)
  (case kB => exact locs rfl)
  (case c5 => decide +kernel)
  (case c2 => exact rfl)
  (case c3 => exact rfl)
  (case c4 => exact rfl)
  rintro L h₁ tk₁ X ⟨p, loose, mean, mg, mb, T⟩ F N
  dsimp only [ofB] at F
  rw [show bod 35 = [stm 35 0] from rfl]
  have hsc : sco 35 = sco 35 := rfl
  (conv at hsc => rhs; whnf)
  rw [hsc]
  clear hsc
  (try k_fold)
  k_steps
  refine ⟨_, _, fun i y => ∃ l t, ((chrs b).map ([·]))[i]? = some l ∧ y = Value.str (txt l) t, [], F, N, src_bytes rfl, by rw [sizeLine_eq]; omega, ?_, ?_⟩
  · rintro i v I oI C oC D m₂ h tk ys E' hi ⟨k, u, hk, hk0, hk1, rfl⟩ hC hx F2 N2
    clear F N
    k_steps
    exact EltEnd.intro F2 N2 (fun p h => h) ⟨_, _, chrs_get hk, rfl⟩
  · intro D h tk ys F2 N2 o1 hl hy
    clear F N
    k_steps
    refine join_A N2 (.head _) (by rw [hl]; simp [chrs]) hy (by simp [chrs]; omega) (by rw [flat_one]; simp [chrs]; omega) (fun t' k' => ?_)
    exact ret _ _ _ F2.keep ⟨_, by rw [flat_one]⟩
end
section -- D2
open PySem PySem.W PyProof.Rows
noncomputable def Folds (c : Nat) : Prop := c < 128 ∨ (b3tab.lookup c).isSome = true
theorem map_get {l : List Nat} {i c : Nat} (f : Nat → List Nat) (h : l.toArray[i]? = some c) : (l.map f)[i]? = some (f c) := by
  rw [List.getElem?_toArray] at h
  rw [List.getElem?_map, h]; rfl
set_option maxHeartbeats 4000000 in
theorem folded_str (w : World) (l : List Nat) (t : Tok) (hl : l.length ≤ 200) (hf : ∀ c ∈ l, Folds c) (hz : (l.map foldC).flatten.length ≤ 1000) :
    Spec w 2 255 [.str (txt l) t] [] (fun _ => True) (fun _ v _ => ∃ t', v = .str (txt (l.map foldC).flatten) t') := by
  k_with_none
  k_with "exec" => ((with_reducible show wpAny _ _ (exec (stm _ _) _) _ _ _); k_dflt (conv => arg 3; arg 1; whnf))
  k_with "call type:type" => ((with_reducible show wpAny _ _ (call (Value.type "type") [Value.bytes _ _]) _ _ _); refine type_bytes ?_)
  k_with "getMethod str" => ((with_reducible show wpAny _ _ (getMethod (Value.str _ _) (PySem.Str.ofString "encode") _) _ _ _); refine encode_get ?_)
  k_with "call builtin:str.encode" => (k_dflt (refine encode_call (by assumption) (by assumption) ?_); intro _)
  k_with "getMethod bytes" => (first | refine hex_get ?_ | refine bupper_get ?_)
  k_with "call builtin:bytes.hex" => (k_dflt (refine hex_call (by assumption) ?_); intro _)
  k_with "call builtin:bytes.upper" => (k_dflt (refine bupper_call (by assumption) ?_); intro _)
  k_with "compareOp In int ref" => ((with_reducible show wpAny _ _ (compareOp CmpOp.In (Value.int _ _) (Value.ref 170)) _ _ _); k_dflt (refine in170 (by k_in) ?_))
  k_with "getMethod ref" => ((with_reducible show wpAny _ _ (getMethod (Value.ref 181) _ _) _ _ _); k_dflt (refine meth181 (by k_in) ?_))
  k_with "call builtin:dict.get" => ((with_reducible show wpAny _ _ (call (Value.builtin "dict.get") [Value.ref 181, Value.int _ _]) _ _ _); k_dflt (refine get181 (by k_in) ?_))
  k_with "call builtin:list.append" => (k_dflt (refine' append_K ?k1 ?k2 ?k3 ?_ ?z; (case k1 => k_asm); (case k2 => k_asm); (case k3 => k_upd); (case z => (rw [sizeLine_eq]; (try simp only [Array.size_push, Array.size_empty]); omega))); intro h' F' N'; (try k_sweep))
  k_with "binaryOp LShift int int" => (k_dflt (refine' lshift_int_small ?a ?b ?c ?_; (case a => omega); (case b => omega); (case c => (first | omega | (simp only [bitAnd_m6, bitAnd_m2, bitAnd_m4]; omega)))))
  k_with "subscriptTail" => ((with_reducible show wpAny _ _ (subscriptTail _ _ (Value.bytes _ _) (Value.int _ _)) _ _ _); k_dflt (refine' item_signs ?e ?a ?b ?_; (case e => exact rfl); (case a => (simp only [bitAnd_m6, bitAnd_m2, bitAnd_m4, Int.reduceToNat, Int.reducePow]; omega)); (case b => (simp only [bitAnd_m6, bitAnd_m2, bitAnd_m4, Int.reduceToNat, Int.reducePow]; omega))); intro _)
  k_with "eval ListComp" => (k_dflt (refine' comp_U ?f ?a ?b ?c ?d ?e ?h; (case f => k_asm); (case a => exact rfl); (case b => decide +kernel); (case c => exact rfl); (case d => decide +kernel); (case e => exact rfl)))
  k_with "call ref" => ((with_reducible show wpAny _ _ (call (Value.ref 226) _ _) _ _ _); k_dflt (refine' use_spec (b3_spec _ _ _ (by assumption)) ?V ?F ?N ?P ?D ?U ?_; (case V => assumption); (case F => k_asm); (case N => k_asm); (case P => first | trivial | assumption); (case D => (dsimp only; omega)); (case U => (dsimp only; omega))); intro v9 h9 tk9 F9 N9 k9 p9; (first | subst p9 | (obtain ⟨t9, p9⟩ := p9; subst p9)); (try k_sweep); (try dsimp only))
  intro dp un fr gd s Q E V _ hd hu ret
  refine' enter [(Str.ofString "text", .str (txt l) t)] V ?k6 ?k7 (by show dp < recursionLimit; omega) ?k9 ?kB ?c5 ?c2 ?c3 ?c4 ?_
  (case k6 => k_is)
  (case k7 => k_is)
  (case k9 => first | exact BindsTo.of_eq rfl | exact binds_K V.k rfl (by k_is) rfl rfl rfl)
  (case kB => exact locs rfl)
  (case c5 => decide +kernel)
  (case c2 => exact rfl)
  (case c3 => exact rfl)
  (case c4 => exact rfl)
  rintro L h₁ tk₁ X ⟨p, loose, mean, mg, mb, T⟩ F N
  dsimp only [ofB] at F
  rw [show bod 36 = [stm 36 0] from rfl]
  have hsc : sco 36 = sco 36 := rfl
  (conv at hsc => rhs; whnf)
  rw [hsc]
  clear hsc
  (try k_fold)
  k_steps
  refine ⟨_, _, fun i y => ∃ k t, (l.map foldC)[i]? = some k ∧ y = Value.str (txt k) t, [], F, N, src_str rfl, by rw [sizeLine_eq]; simp only [List.size_toArray]; omega, ?_, ?_⟩
  · rintro i v I oI C oC D m₂ h tk ys E' hi ⟨c, u, hk, rfl⟩ hC hx F2 N2
    have hc : Folds c := hf c (List.mem_of_getElem? (by rw [← List.getElem?_toArray]; exact hk))
    unfold Folds at hc
    clear F N
    k_steps
    rename Fr _ _ _ _ => F3
    rename News _ _ _ _ => N3
    exact EltEnd.intro F3 N3 (fun p h => h) ⟨_, _, map_get foldC hk, rfl⟩
  · intro D h tk ys F2 N2 o1 hl hy
    clear F N
    k_steps
    refine join_A N2 (.head _) (by rw [hl]; simp) hy (by simp; omega) (by omega) (fun t' k' => ?_)
    exact ret _ _ _ F2.keep ⟨_, rfl⟩
set_option maxHeartbeats 4000000 in
theorem folded_list (w : World) (a : Addr) (vs : List Value) (l : List Nat) (hs : StrsAre vs (l.map fun c => txt [c])) (hl : l.length ≤ 200) (hf : ∀ c ∈ l, Folds c) (hz : (l.map foldC).flatten.length ≤ 1000) :
    Spec w 2 255 [.ref a] [] (fun h => h.IsList a vs.toArray) (fun _ v _ => ∃ t', v = .str (txt (l.map foldC).flatten) t') := by
  k_with_none
  k_with "exec" => ((with_reducible show wpAny _ _ (exec (stm _ _) _) _ _ _); k_dflt (conv => arg 3; arg 1; whnf))
  k_with "call type:type" => ((with_reducible show wpAny _ _ (call (Value.type "type") [Value.bytes _ _]) _ _ _); refine type_bytes ?_)
  k_with "getMethod str" => ((with_reducible show wpAny _ _ (getMethod (Value.str _ _) (PySem.Str.ofString "encode") _) _ _ _); refine encode_get ?_)
  k_with "call builtin:str.encode" => (k_dflt (refine encode_call (by assumption) (by assumption) ?_); intro _)
  k_with "getMethod bytes" => (first | refine hex_get ?_ | refine bupper_get ?_)
  k_with "call builtin:bytes.hex" => (k_dflt (refine hex_call (by assumption) ?_); intro _)
  k_with "call builtin:bytes.upper" => (k_dflt (refine bupper_call (by assumption) ?_); intro _)
  k_with "compareOp In int ref" => ((with_reducible show wpAny _ _ (compareOp CmpOp.In (Value.int _ _) (Value.ref 170)) _ _ _); k_dflt (refine in170 (by k_in) ?_))
  k_with "getMethod ref" => ((with_reducible show wpAny _ _ (getMethod (Value.ref 181) _ _) _ _ _); k_dflt (refine meth181 (by k_in) ?_))
  k_with "call builtin:dict.get" => ((with_reducible show wpAny _ _ (call (Value.builtin "dict.get") [Value.ref 181, Value.int _ _]) _ _ _); k_dflt (refine get181 (by k_in) ?_))
  k_with "call builtin:list.append" => (k_dflt (refine' append_K ?k1 ?k2 ?k3 ?_ ?z; (case k1 => k_asm); (case k2 => k_asm); (case k3 => k_upd); (case z => (rw [sizeLine_eq]; (try simp only [Array.size_push, Array.size_empty]); omega))); intro h' F' N'; (try k_sweep))
  k_with "binaryOp LShift int int" => (k_dflt (refine' lshift_int_small ?a ?b ?c ?_; (case a => omega); (case b => omega); (case c => (first | omega | (simp only [bitAnd_m6, bitAnd_m2, bitAnd_m4]; omega)))))
  k_with "subscriptTail" => ((with_reducible show wpAny _ _ (subscriptTail _ _ (Value.bytes _ _) (Value.int _ _)) _ _ _); k_dflt (refine' item_signs ?e ?a ?b ?_; (case e => exact rfl); (case a => (simp only [bitAnd_m6, bitAnd_m2, bitAnd_m4, Int.reduceToNat, Int.reducePow]; omega)); (case b => (simp only [bitAnd_m6, bitAnd_m2, bitAnd_m4, Int.reduceToNat, Int.reducePow]; omega))); intro _)
  k_with "eval ListComp" => (k_dflt (refine' comp_U ?f ?a ?b ?c ?d ?e ?h; (case f => k_asm); (case a => exact rfl); (case b => decide +kernel); (case c => exact rfl); (case d => decide +kernel); (case e => exact rfl)))
  k_with "call ref" => ((with_reducible show wpAny _ _ (call (Value.ref 226) _ _) _ _ _); k_dflt (refine' use_spec (b3_spec _ _ _ (by assumption)) ?V ?F ?N ?P ?D ?U ?_; (case V => assumption); (case F => k_asm); (case N => k_asm); (case P => first | trivial | assumption); (case D => (dsimp only; omega)); (case U => (dsimp only; omega))); intro v9 h9 tk9 F9 N9 k9 p9; (first | subst p9 | (obtain ⟨t9, p9⟩ := p9; subst p9)); (try k_sweep); (try dsimp only))
  intro dp un fr gd s Q E V hlist hd hu ret
  refine' enter [(Str.ofString "text", .ref a)] V ?k6 ?k7 (by show dp < recursionLimit; omega) ?k9 ?kB ?c5 ?c2 ?c3 ?c4 ?_
  (case k6 => k_is)
  (case k7 => k_is)
  (case k9 => first | exact BindsTo.of_eq rfl | exact binds_K V.k rfl (by k_is) rfl rfl rfl)
  (case kB => exact locs rfl)
  (case c5 => decide +kernel)
  (case c2 => exact rfl)
  (case c3 => exact rfl)
  (case c4 => exact rfl)
  rintro L h₁ tk₁ X ⟨p, loose, mean, mg, mb, T⟩ F N
  dsimp only [ofB] at F
  rw [show bod 36 = [stm 36 0] from rfl]
  have hsc : sco 36 = sco 36 := rfl
  (conv at hsc => rhs; whnf)
  rw [hsc]
  clear hsc
  (try k_fold)
  k_steps
  have hlen : vs.toArray.size = l.length := by have := hs.length; simpa using this
  refine ⟨_, _, fun i y => ∃ k t, (l.map foldC)[i]? = some k ∧ y = Value.str (txt k) t, [], F, N, src_list rfl F N (.inl hlist), by rw [sizeLine_eq]; omega, ?_, ?_⟩
  · rintro i v I oI C oC D m₂ h tk ys E' hi hv hC hx F2 N2
    obtain ⟨c, u, hk, rfl⟩ : ∃ c u, l[i]? = some c ∧ v = .str (txt [c]) u := by
      obtain ⟨y, u, rfl, hy⟩ := hs.item i v (by simpa using hv)
      rw [List.getElem?_map] at hy
      cases e : l[i]? with
      | none => rw [e] at hy; cases hy
      | some c => rw [e] at hy; cases hy; exact ⟨c, u, rfl, rfl⟩
    have hc : Folds c := hf c (List.mem_of_getElem? hk)
    unfold Folds at hc
    clear F N hv
    k_steps
    rename Fr _ _ _ _ => F3
    rename News _ _ _ _ => N3
    exact EltEnd.intro F3 N3 (fun p h => h) ⟨_, _, by rw [List.getElem?_map, hk]; rfl, rfl⟩
  · intro D h tk ys F2 N2 o1 hl hy
    clear F N
    k_steps
    refine join_A N2 (.head _) (by rw [hl, hlen]; simp) hy (by simp; omega) (by omega) (fun t' k' => ?_)
    exact ret _ _ _ F2.keep ⟨_, rfl⟩
end
section -- D3
open PySem PySem.W PyProof.Rows
noncomputable def sgnN (v : Int) : Nat := (signsB.getD v.toNat 0).toNat
noncomputable def written (vals : List Int) (size : Nat) : List Nat := vals.map sgnN ++ List.replicate ((-(size : Int)).fmod 3).toNat 61
theorem signs_len : (Str.ofString "ABCDEFGHIJKLMNOPQRSTUVWXYZabcdefghijklmnopqrstuvwxyz0123456789+/").length = 64 := by decide +kernel
theorem signs_item : ∀ n < 64, Txt.item (Str.ofString "ABCDEFGHIJKLMNOPQRSTUVWXYZabcdefghijklmnopqrstuvwxyz0123456789+/") (n : Nat) = txt [sgnN (n : Nat)] := by decide +kernel
theorem signs_at {n : Int} (h0 : 0 ≤ n) (h1 : n < 64) : Txt.item (Str.ofString "ABCDEFGHIJKLMNOPQRSTUVWXYZabcdefghijklmnopqrstuvwxyz0123456789+/") n = txt [sgnN n] := by
  have := signs_item n.toNat (by omega)
  rwa [Int.toNat_of_nonneg h0] at this
theorem flat_sgn (ns : List Int) : (ns.map fun v => [sgnN v]).flatten = ns.map sgnN := by induction ns with | nil => rfl | cons a r ih => simp [ih]
theorem mul_pad {e : Int} (h0 : 0 ≤ e) (h1 : e < 3) : Txt.mul (Str.ofString "=") e = txt (List.replicate e.toNat 61) := by
  have : e = 0 ∨ e = 1 ∨ e = 2 := by omega
  rcases this with rfl | rfl | rfl <;> decide +kernel
theorem pad_range (size : Nat) : 0 ≤ (-(size : Int)).fmod 3 ∧ (-(size : Int)).fmod 3 < 3 := by
  rw [Int.fmod_eq_emod_of_nonneg _ (by decide)]; omega
set_option maxHeartbeats 4000000 in
theorem written_spec (w : World) (a : Addr) (vs : List Value) (ns : List Int) (size : Nat) (t : Tok) (hi : IntsAre vs ns) (hlen : ns.length ≤ 100) (hr : ∀ n ∈ ns, 0 ≤ n ∧ n < 64) :
    Spec w 1 245 [.ref a, .int (size : Int) t] [] (fun h => h.IsList a vs.toArray) (fun _ v _ => ∃ t', v = .str (txt (written ns size)) t') := by
  k_with_none
  k_with "exec" => ((with_reducible show wpAny _ _ (exec (stm _ _) _) _ _ _); k_dflt (conv => arg 3; arg 1; whnf))
  k_with "call type:type" => ((with_reducible show wpAny _ _ (call (Value.type "type") [Value.bytes _ _]) _ _ _); refine type_bytes ?_)
  k_with "getMethod str" => ((with_reducible show wpAny _ _ (getMethod (Value.str _ _) (PySem.Str.ofString "encode") _) _ _ _); refine encode_get ?_)
  k_with "call builtin:str.encode" => (k_dflt (refine encode_call (by assumption) (by assumption) ?_); intro _)
  k_with "getMethod bytes" => (first | refine hex_get ?_ | refine bupper_get ?_)
  k_with "call builtin:bytes.hex" => (k_dflt (refine hex_call (by assumption) ?_); intro _)
  k_with "call builtin:bytes.upper" => (k_dflt (refine bupper_call (by assumption) ?_); intro _)
  k_with "compareOp In int ref" => ((with_reducible show wpAny _ _ (compareOp CmpOp.In (Value.int _ _) (Value.ref 170)) _ _ _); k_dflt (refine in170 (by k_in) ?_))
  k_with "getMethod ref" => ((with_reducible show wpAny _ _ (getMethod (Value.ref 181) _ _) _ _ _); k_dflt (refine meth181 (by k_in) ?_))
  k_with "call builtin:dict.get" => ((with_reducible show wpAny _ _ (call (Value.builtin "dict.get") [Value.ref 181, Value.int _ _]) _ _ _); k_dflt (refine get181 (by k_in) ?_))
  k_with "call builtin:list.append" => (k_dflt (refine' append_K ?k1 ?k2 ?k3 ?_ ?z; (case k1 => k_asm); (case k2 => k_asm); (case k3 => k_upd); (case z => (rw [sizeLine_eq]; (try simp only [Array.size_push, Array.size_empty]); omega))); intro h' F' N'; (try k_sweep))
  k_with "binaryOp LShift int int" => (k_dflt (refine' lshift_int_small ?a ?b ?c ?_; (case a => omega); (case b => omega); (case c => (first | omega | (simp only [bitAnd_m6, bitAnd_m2, bitAnd_m4]; omega)))))
  k_with "subscriptTail" => ((with_reducible show wpAny _ _ (subscriptTail _ _ (Value.bytes _ _) (Value.int _ _)) _ _ _); k_dflt (refine' item_signs ?e ?a ?b ?_; (case e => exact rfl); (case a => (simp only [bitAnd_m6, bitAnd_m2, bitAnd_m4, Int.reduceToNat, Int.reducePow]; omega)); (case b => (simp only [bitAnd_m6, bitAnd_m2, bitAnd_m4, Int.reduceToNat, Int.reducePow]; omega))); intro _)
  k_with "eval ListComp" => (k_dflt (refine' comp_U ?f ?a ?b ?c ?d ?e ?h; (case f => k_asm); (case a => exact rfl); (case b => decide +kernel); (case c => exact rfl); (case d => decide +kernel); (case e => exact rfl)))
  intro dp un fr gd s Q E V hlist hd hu ret
  refine' enterC [(Str.ofString "values", .ref a), (Str.ofString "size", .int (size : Int) t)] V ?k6 ?k7 (by show dp < recursionLimit; omega) ?k9 ?kB ?kD ?c2 ?c3 ?c4 ?_
  (case k6 => k_is)
  (case k7 => k_is)
  (case k9 => first | exact BindsTo.of_eq rfl | exact binds_K V.k rfl (by k_is) rfl rfl rfl)
  (case kB => exact rfl)
  (case kD => decide +kernel)
  (case c2 => exact rfl)
  (case c3 => exact rfl)
  (case c4 => exact rfl)
  rw [show bod 34 = [stm 34 0, stm 34 1] from rfl]
  have hsc : sco 34 = sco 34 := rfl
  (conv at hsc => rhs; whnf)
  rw [hsc]
  clear hsc
  rintro L h₁ tk₁ cells X ⟨p, loose, mean, mg, mb, T⟩ F N Y
  k_cells Y
  (try dsimp only)
  (try k_fold)
  k_steps
  rename Fr _ _ _ _ => F1
  rename News _ _ _ _ => N1
  have hln : vs.toArray.size = ns.length := by have := hi.length; simpa using this
  refine ⟨_, _, fun i y => ∃ k t, (ns.map fun v => [sgnN v])[i]? = some k ∧ y = Value.str (txt k) t, _, F1, N1, src_list rfl F1 N1 (.inl hlist), by rw [sizeLine_eq]; omega, ?_, ?_⟩
  · rintro i v I oI C oC D m₂ h tk ys E' hil hv hC hx F2 N2
    obtain ⟨n, u, rfl, hn⟩ := hi.at i v (by simpa using hv)
    obtain ⟨hr0, hr1⟩ := hr n (List.mem_of_getElem? hn)
    clear F1 N1 hv
    k_steps
    · exfalso
      rename _ < -_ ∨ _ ≤ _ => hcon
      rw [signs_len] at hcon
      omega
    · exact EltEnd.intro F2 N2 (fun p h => h) ⟨_, _, by rw [List.getElem?_map, hn]; rfl, by rw [signs_at hr0 hr1]⟩
  · intro D h tk ys F2 N2 o1 hl hy
    clear F1 N1
    k_steps
    refine join_A N2 (.head _) (by rw [hl, hln]; simp) hy (by simp; omega) (by rw [flat_sgn]; simp; omega) (fun t' k' => ?_)
    (try dsimp only)
    k_steps
    rw [mul_pad (pad_range size).1 (pad_range size).2]
    have := pad_range size
    refine add_txt (by rw [flat_sgn]; simp; omega) (fun t' k' => ?_)
    exact ret _ _ _ F2.keep ⟨_, by rw [flat_sgn]; rfl⟩
end
section -- E1
open PySem PySem.W PyProof.Rows
noncomputable def elseE : Ents := elsewhere.map fun x => ((x.1 : Int), fun t => Value.int (x.2 : Nat) t)
theorem elseE_new : New [] elseE := ⟨(fun _ h => nomatch h), by decide +kernel⟩
theorem Ev.low {w : World} {h : Heap} (V : Ev w h) : sysModules < h.objs.size := Nat.lt_trans (by decide : sysModules < 226) (Heap.lt_size (V.k 226 _ rfl))
def nothingL : List Nat := [173, 847, 6150, 6155, 6156, 6157, 8203, 8204, 8205, 8288, 65279]
theorem nothing_eq : Str.ofString "\u00ad\u034f\u1806\u180b\u180c\u180d\u200b\u200c\u200d\u2060\ufeff" = txt nothingL := by decide +kernel
noncomputable def spellC (p c : Nat) : Nat := if 64 < c then (if p % 3 = 0 then 97 + (c % 32 - 1) else if p % 3 = 1 then 65 + (c % 32 - 1) else fancy (p % 13) (c % 32 - 1)) else c
noncomputable def spellX (p : Nat) : List Nat := if p % 5 = 0 then [if p % 27 < 16 then 65024 + p % 27 else nothingL.getD (p % 27 - 16) 0] else []
noncomputable def pickAt (ns : List Int) (k : Nat) : Nat := (ns.getD (k % ns.length) 0 + (k : Int)).toNat
noncomputable def spelledAt (ns : List Int) (l : List Nat) : Nat → List (List Nat)
  | 0 => []
  | k + 1 => spelledAt ns l k ++ [spellC (pickAt ns k) (l.getD k 0)] :: (spellX (pickAt ns k)).map fun x => [x]
noncomputable def TxtsAre (us : List Value) (ls : List (List Nat)) : Prop := us.length = ls.length ∧ ∀ (i : Nat) y, us[i]? = some y → ∃ l t, ls[i]? = some l ∧ y = Value.str (txt l) t
theorem TxtsAre.push {us : Array Value} {ls : List (List Nat)} (h : TxtsAre us.toList ls) (a : List Nat) (t : Tok) : TxtsAre (us.push (Value.str (txt a) t)).toList (ls ++ [a]) := by
  obtain ⟨h1, h2⟩ := h
  rw [Array.toList_push]
  refine ⟨by rw [List.length_append, List.length_append, h1]; rfl, fun i y hy => ?_⟩
  by_cases hi : i < us.toList.length
  · rw [List.getElem?_append_left hi] at hy
    rw [List.getElem?_append_left (by omega)]
    exact h2 i y hy
  · rw [List.getElem?_append_right (by omega)] at hy
    have e : i = us.toList.length := by
      have := (List.getElem?_eq_some_iff.mp hy).1
      simp only [List.length_singleton] at this; omega
    subst e
    rw [Nat.sub_self] at hy
    cases hy
    rw [h1, List.getElem?_append_right (by omega), Nat.sub_self]
    exact ⟨a, t, rfl, rfl⟩
theorem else_lookup (n : Nat) : ∀ l : List (Nat × Nat), (l.map fun x => ((x.1 : Int), fun t => Value.int (x.2 : Nat) t)).lookup (n : Int) = (l.lookup n).map fun b => fun t => Value.int (b : Nat) t
  | [] => rfl
  | (a, b) :: l => by
    rw [List.map_cons, List.lookup_cons, List.lookup_cons]
    by_cases h : n = a
    · subst h; simp
    · have h1 : (n == a) = false := beq_eq_false_iff_ne.mpr h
      have h2 : ((n : Int) == (a : Int)) = false := beq_eq_false_iff_ne.mpr (by omega)
      rw [h1]
      simp only [h2]
      exact else_lookup n l
theorem else_at {n : Nat} {i : Int} (hi : i = n) {gv : Value} {t : Tok} (gh : elseE.lookup i = none ∧ gv = .int i t ∨ ∃ f u, elseE.lookup i = some f ∧ gv = f u) : ∃ u, gv = .int (((elsewhere.lookup n).getD n : Nat) : Int) u := by
  subst hi
  unfold elseE at gh
  rw [else_lookup] at gh
  cases h : elsewhere.lookup n with
  | none =>
    rw [h] at gh
    rcases gh with ⟨_, rfl⟩ | ⟨f, u, e, _⟩
    · exact ⟨t, rfl⟩
    · cases e
  | some b =>
    rw [h] at gh
    rcases gh with ⟨e, _⟩ | ⟨f, u, e, rfl⟩
    · cases e
    · cases e
      exact ⟨u, rfl⟩
theorem else_low {n : Nat} (h : n < 119965) : (elsewhere.lookup n).getD n = n := by
  rw [lookup_none_of (m := 119965) (by decide) h]; rfl
theorem else_small : ∀ x ∈ elsewhere, x.2 ≤ 1114111 := by decide
theorem lookup_mem {α β : Type} [BEq α] [LawfulBEq α] {k : α} {b : β} : ∀ {l : List (α × β)}, l.lookup k = some b → (k, b) ∈ l
  | (a, c) :: l, h => by
    rw [List.lookup_cons] at h
    by_cases e : k = a
    · subst e
      simp at h
      subst h
      exact .head _
    · rw [beq_eq_false_iff_ne.mpr e] at h
      exact .tail _ (lookup_mem h)
theorem else_le {n : Nat} (h : n ≤ 1114111) : (elsewhere.lookup n).getD n ≤ 1114111 := by
  cases e : elsewhere.lookup n with
  | none => exact h
  | some b => exact else_small _ (lookup_mem e)
theorem fm {n m : Nat} : ((n : Int).fmod (m : Int)) = ((n % m : Nat) : Int) := by
  rw [Int.fmod_eq_emod_of_nonneg _ (by omega)]; rfl
theorem pick_eq {ns : List Int} {i : Nat} (hpos : 0 < ns.length) (hr : ∀ n ∈ ns, 0 ≤ n ∧ n < 10530) : ns.getD ((i : Int).fmod (ns.length : Int)).toNat 0 + (i : Int) = (pickAt ns i : Int) := by
  rw [fm, Int.toNat_natCast]
  unfold pickAt
  have h1 : i % ns.length < ns.length := Nat.mod_lt _ hpos
  have h2 := hr _ (List.getElem_mem h1)
  have h3 : ns.getD (i % ns.length) 0 = ns[i % ns.length] := by rw [List.getD_eq_getElem?_getD, List.getElem?_eq_getElem h1]; rfl
  rw [h3]
  omega
theorem nothing_item : ∀ n < 11, Txt.item (txt nothingL) (n : Nat) = txt [nothingL.getD n 0] := by decide +kernel
theorem join_L {prog : Program} {w : World} {A : Around} {E : Value → Shared → Prop} {s : Shared} {h₀ : Heap} {L : Addr} {news : List (Addr × Obj)} {D : Addr} {us : Array Value} {n : Nat} {ls : List (List Nat)} {t : Tok} {Q : Value → Shared → Prop} (N : News h₀ L s.heap news) (hm : (D, listOf us n) ∈ news) (hy : TxtsAre us.toList ls) (hn : ls.length ≤ 1000) (hz : ls.flatten.length ≤ 10000)
    (h : ∀ t' k, Q (.str (txt ls.flatten) t') { s with toks := k }) : wpAny (model prog w) A (call (.builtin "str.join") [.str (Str.ofString "") t, .ref D]) Q E s := by
  refine join_listW (N.isList hm) (strsAre_of hy.1 hy.2) (by decide) ?_ ?_
  · rw [sum_map_txt, List.length_map]; omega
  · rw [join_nil_txt]; exact h
theorem spelledAt_len (ns : List Int) (l : List Nat) : ∀ i, (spelledAt ns l i).length ≤ 2 * i ∧ (spelledAt ns l i).flatten.length ≤ 2 * i
  | 0 => ⟨Nat.le_refl _, Nat.le_refl _⟩
  | i + 1 => by
    obtain ⟨h1, h2⟩ := spelledAt_len ns l i
    unfold spelledAt
    have hx : (spellX (pickAt ns i)).length ≤ 1 := by unfold spellX; split <;> simp
    have hf : ((spellX (pickAt ns i)).map fun x => [x]).flatten.length = (spellX (pickAt ns i)).length := by
      induction spellX (pickAt ns i) with
      | nil => rfl
      | cons a r ih => rw [List.map_cons, List.flatten_cons, List.length_append, ih, List.length_singleton, List.length_cons]; omega
    rw [List.length_append, List.length_cons, List.length_map, List.flatten_append, List.flatten_cons, List.length_append, List.length_append, hf, List.length_singleton]
    omega
theorem two_in {α : Type} {a b : α} {l : List α} (ha : a ∈ l) (hb : b ∈ l) : ∀ p ∈ [a, b], p ∈ l := fun p hp => by
  rcases List.mem_cons.mp hp with rfl | hp
  · exact ha
  · rw [List.mem_singleton.mp hp]; exact hb
theorem two_off {a b I : Addr} {x y : Obj} (ha : @Ne Nat a I) (hb : @Ne Nat b I) : ∀ p ∈ [(a, x), (b, y)], p.1 ≠ I := fun p hp => by
  rcases List.mem_cons.mp hp with rfl | hp
  · exact ha
  · rw [List.mem_singleton.mp hp]; exact hb
theorem end1 {us : Array Value} {ns : List Int} {l : List Nat} {i c p : Nat} {X : Str} {t : Tok} (hus : TxtsAre us.toList (spelledAt ns l i)) (hck : l[i]? = some c) (hp : pickAt ns i = p) (hX : X = txt [spellC p c]) (h5 : p % 5 ≠ 0) : TxtsAre (us.push (Value.str X t)).toList (spelledAt ns l (i + 1)) := by
  have e : spelledAt ns l (i + 1) = spelledAt ns l i ++ [[spellC p c]] := by
    conv => lhs; unfold spelledAt
    rw [hp, List.getD_eq_getElem?_getD, hck]
    unfold spellX
    rw [if_neg h5]; rfl
  rw [e, hX]
  exact hus.push _ _
theorem end2 {us : Array Value} {ns : List Int} {l : List Nat} {i c p : Nat} {X Y : Str} {t u : Tok} (hus : TxtsAre us.toList (spelledAt ns l i)) (hck : l[i]? = some c) (hp : pickAt ns i = p) (hX : X = txt [spellC p c]) (h5 : p % 5 = 0) (hY : Y = txt [if p % 27 < 16 then 65024 + p % 27 else nothingL.getD (p % 27 - 16) 0]) :
    TxtsAre ((us.push (Value.str X t)).push (Value.str Y u)).toList (spelledAt ns l (i + 1)) := by
  have e : spelledAt ns l (i + 1) = (spelledAt ns l i ++ [[spellC p c]]) ++ [[if p % 27 < 16 then 65024 + p % 27 else nothingL.getD (p % 27 - 16) 0]] := by
    conv => lhs; unfold spelledAt
    rw [hp, List.getD_eq_getElem?_getD, hck]
    unfold spellX
    rw [if_pos h5, List.append_assoc]; rfl
  rw [e, hX, hY]
  exact (hus.push _ _).push _ _
theorem item_nothing {i : Int} {n : Nat} (h : i = (n : Int)) (hn : n < 11) : Txt.item (txt nothingL) i = txt [nothingL.getD n 0] := by rw [h]; exact nothing_item n hn
section
variable {prog : Program} {w : World} {A : Around} {E : Value → Shared → Prop} {s : Shared} {h₀ : Heap} {L D : Addr} {news : List (Addr × Obj)}
theorem tup3_at {value slice : Expr} {a b c k : Int} {ta tb tc u : Tok} {j n : Nat} {Q : Value → Shared → Prop} (N : News h₀ L s.heap news) (hm : (D, ({ cls := .type "tuple", data := .seq [Value.int a ta, Value.int b tb, Value.int c tc].toArray n } : Obj)) ∈ news)
    (hk : k = (j : Int)) (hj : j < 3) (h : ∀ t, Q (.int ([a, b, c].getD j 0) t) s)
    (hs : subscripted slice false (.ref D) (.int k u) = operate [.ref D, .int k u] (getItem (.ref D) (.int k u)) := by with_unfolding_all rfl) : wpAny (model prog w) A (subscriptTail value slice (.ref D) (.int k u)) Q E s := by
  subst hk
  have T : IsTup s.heap D [Value.int a ta, Value.int b tb, Value.int c tc].toArray := ⟨_, (N _ hm).1, rfl, _, rfl⟩
  match j, hj with
  | 0, _ => exact item_tupleT (j := 0) T (by decide) (by decide) rfl rfl (h _) hs
  | 1, _ => exact item_tupleT (j := 1) T (by decide) (by decide) rfl rfl (h _) hs
  | 2, _ => exact item_tupleT (j := 2) T (by decide) (by decide) rfl rfl (h _) hs
end
theorem z5 {x : Int} {p : Nat} (h : x.fmod 5 = ((p % 5 : Nat) : Int)) (h0 : x.fmod 5 = 0) : p % 5 = 0 := Int.natCast_eq_zero.mp (h.symm.trans h0)
theorem z5n {x : Int} {p : Nat} (h : x.fmod 5 = ((p % 5 : Nat) : Int)) (h0 : x.fmod 5 ≠ 0) : p % 5 ≠ 0 := fun e => h0 (h.trans (by rw [e]; rfl))
theorem yLow {x : Int} {p : Nat} (h : x.fmod 27 = ((p % 27 : Nat) : Int)) (h0 : x.fmod 27 < 16) : (65024 + x.fmod 27).toNat = 65024 + p % 27 ∧ p % 27 < 16 := by
  rw [h] at h0 ⊢
  generalize p % 27 = n at *
  omega
theorem yHigh {x : Int} {p : Nat} (h : x.fmod 27 = ((p % 27 : Nat) : Int)) (h0 : ¬ x.fmod 27 < 16) : x.fmod 27 - 16 = ((p % 27 - 16 : Nat) : Int) ∧ p % 27 - 16 < 11 ∧ ¬ p % 27 < 16 := by
  rw [h] at h0 ⊢
  have hn : p % 27 < 27 := Nat.mod_lt _ (by decide)
  generalize p % 27 = n at *
  omega
noncomputable def codeN (p c : Nat) : Nat := if p % 3 = 0 then 97 + (c % 32 - 1) else if p % 3 = 1 then 65 + (c % 32 - 1) else 119808 + 52 * (p % 13) + (c % 32 - 1)
theorem code_int {p c : Nat} {x y : Int} (h64 : 64 < c) (hcc : c ≤ 64 ∨ (65 ≤ c ∧ c ≤ 90) ∨ (97 ≤ c ∧ c ≤ 122)) (hx : x = ((c % 32 : Nat) : Int)) (hy : y = ((p % 13 : Nat) : Int)) :
    [97 + (x - 1), 65 + (x - 1), 119808 + 52 * y + (x - 1)].getD (p % 3) 0 = ((codeN p c : Nat) : Int) := by
  subst hx hy
  obtain ⟨d, hd⟩ : ∃ d, c % 32 = d + 1 := ⟨c % 32 - 1, by omega⟩
  unfold codeN
  rw [hd]
  have : p % 3 = 0 ∨ p % 3 = 1 ∨ p % 3 = 2 := by omega
  rcases this with e | e | e
  · rw [e]; show 97 + (((d + 1 : Nat) : Int) - 1) = _; simp
  · rw [e]; show 65 + (((d + 1 : Nat) : Int) - 1) = _; simp
  · rw [e]; show 119808 + 52 * ((p % 13 : Nat) : Int) + (((d + 1 : Nat) : Int) - 1) = _; simp
theorem code_spell {p c : Nat} (h64 : 64 < c) (hcc : c ≤ 64 ∨ (65 ≤ c ∧ c ≤ 90) ∨ (97 ≤ c ∧ c ≤ 122)) : (elsewhere.lookup (codeN p c)).getD (codeN p c) = spellC p c ∧ codeN p c ≤ 1114111 := by
  have hc : c % 32 - 1 ≤ 31 := by omega
  unfold codeN spellC fancy
  rw [if_pos h64]
  by_cases e : p % 3 = 0
  · rw [if_pos e, if_pos e]; exact ⟨else_low (by omega), by omega⟩
  · rw [if_neg e, if_neg e]
    by_cases e1 : p % 3 = 1
    · rw [if_pos e1, if_pos e1]; exact ⟨else_low (by omega), by omega⟩
    · rw [if_neg e1, if_neg e1]; exact ⟨rfl, by omega⟩
set_option maxHeartbeats 4000000 in
theorem spelled_spec (w : World) (l : List Nat) (t : Tok) (a : Addr) (vs : List Value) (ns : List Int) (hi : IntsAre vs ns) (hlen : ns.length ≤ 12) (hpos : 0 < ns.length) (hl : l.length ≤ 60) (hr : ∀ n ∈ ns, 0 ≤ n ∧ n < 10530) (hc : ∀ c ∈ l, c ≤ 64 ∨ (65 ≤ c ∧ c ≤ 90) ∨ (97 ≤ c ∧ c ≤ 122)) :
    Spec w 1 262 [.str (txt l) t, .ref a] [] (fun h => h.IsList a vs.toArray) (fun _ v _ => ∃ t', v = .str (txt (spelledAt ns l l.length).flatten) t') := by
  k_with_none
  k_with "exec" => ((with_reducible show wpAny _ _ (exec (stm _ _) _) _ _ _); k_dflt (conv => arg 3; arg 1; whnf))
  k_with "call type:type" => ((with_reducible show wpAny _ _ (call (Value.type "type") [Value.bytes _ _]) _ _ _); refine type_bytes ?_)
  k_with "getMethod str" => ((with_reducible show wpAny _ _ (getMethod (Value.str _ _) (PySem.Str.ofString "encode") _) _ _ _); refine encode_get ?_)
  k_with "call builtin:str.encode" => (k_dflt (refine encode_call (by assumption) (by assumption) ?_); intro _)
  k_with "getMethod bytes" => (first | refine hex_get ?_ | refine bupper_get ?_)
  k_with "call builtin:bytes.hex" => (k_dflt (refine hex_call (by assumption) ?_); intro _)
  k_with "call builtin:bytes.upper" => (k_dflt (refine bupper_call (by assumption) ?_); intro _)
  k_with "compareOp In int ref" => ((with_reducible show wpAny _ _ (compareOp CmpOp.In (Value.int _ _) (Value.ref 170)) _ _ _); k_dflt (refine in170 (by k_in) ?_))
  k_with "getMethod ref" => ((with_reducible show wpAny _ _ (getMethod (Value.ref 181) _ _) _ _ _); k_dflt (refine meth181 (by k_in) ?_))
  k_with "call builtin:dict.get" => ((with_reducible show wpAny _ _ (call (Value.builtin "dict.get") [Value.ref 181, Value.int _ _]) _ _ _); k_dflt (refine get181 (by k_in) ?_))
  k_with "call builtin:list.append" => (k_dflt (refine' append_K ?k1 ?k2 ?k3 ?_ ?z; (case k1 => k_asm); (case k2 => k_asm); (case k3 => k_upd); (case z => (rw [sizeLine_eq]; (try simp only [Array.size_push, Array.size_empty]); omega))); intro h' F' N'; (try k_sweep))
  k_with "binaryOp LShift int int" => (k_dflt (refine' lshift_int_small ?a ?b ?c ?_; (case a => omega); (case b => omega); (case c => (first | omega | (simp only [bitAnd_m6, bitAnd_m2, bitAnd_m4]; omega)))))
  k_with "subscriptTail" => ((with_reducible show wpAny _ _ (subscriptTail _ _ (Value.bytes _ _) (Value.int _ _)) _ _ _); k_dflt (refine' item_signs ?e ?a ?b ?_; (case e => exact rfl); (case a => (simp only [bitAnd_m6, bitAnd_m2, bitAnd_m4, Int.reduceToNat, Int.reducePow]; omega)); (case b => (simp only [bitAnd_m6, bitAnd_m2, bitAnd_m4, Int.reduceToNat, Int.reducePow]; omega))); intro _)
  k_with "getMethod ref" => ((with_reducible show wpAny _ _ (getMethod (Value.ref _) (Str.ofString "get") _) _ _ _); k_dflt (refine' meth_dict ?S ?N ?m ?_; (case S => assumption); (case N => k_asm); (case m => (first | exact .head _ | exact .tail _ (.head _) | exact .tail _ (.tail _ (.head _)) | exact .tail _ (.tail _ (.tail _ (.head _))) | exact .tail _ (.tail _ (.tail _ (.tail _ (.head _)))) | exact .tail _ (.tail _ (.tail _ (.tail _ (.tail _ (.head _)))))))))
  k_with "call builtin:dict.get" => ((with_reducible show wpAny _ _ (call (Value.builtin "dict.get") [Value.ref _, Value.int _ _, _]) _ _ _); k_dflt (refine' get_dict ?S ?N ?m ?z ?_; (case S => assumption); (case N => k_asm); (case m => (first | exact .head _ | exact .tail _ (.head _) | exact .tail _ (.tail _ (.head _)) | exact .tail _ (.tail _ (.tail _ (.head _))) | exact .tail _ (.tail _ (.tail _ (.tail _ (.head _)))) | exact .tail _ (.tail _ (.tail _ (.tail _ (.tail _ (.head _))))))); (case z => (refine beq_eq_false_iff_ne.mpr (Nat.ne_of_gt ?_); assumption))); intro gv gh)
  k_with "eval Dict" => ((with_reducible refine' Dict_step (l := elseE) ?F ?N ?b ?c ?l 0 ?h1 ?h2 ?hz elseE_new ?_); k_dflt ((case F => k_asm); (case N => k_asm); (case b => exact Ev.low (by assumption)); (case c => kernel_rfl); (case l => kernel_rfl); (case h1 => decide +kernel); (case h2 => decide +kernel); (case hz => decide +kernel)); intro dD dE dh dt dS F' N' dne)
  k_with "call builtin:len" => ((with_reducible show wpAny _ _ (call (Value.builtin "len") [Value.str (txt _) _]) _ _ _); k_dflt (refine len_txt (by omega) ?_); intro tl kl)
  k_with "subscriptTail Name Name str int" => ((with_reducible show wpAny _ _ (subscriptTail _ _ (Value.str (txt _) _) (Value.int _ _)) _ _ _); k_dflt (refine item_txt (by assumption) (by omega) ?_); intro ti)
  k_with "call builtin:ord" => ((with_reducible show wpAny _ _ (call (Value.builtin "ord") [Value.str (txt _) _]) _ _ _); k_dflt (refine ord_txt ?_); intro to ko)
  k_with "compareOp Gt str str" => ((with_reducible show wpAny _ _ (compareOp CmpOp.Gt (Value.str (txt _) _) _) _ _ _); k_dflt (refine gt_txt (d := 64) ?_))
  k_with "subscriptTail" => ((with_reducible show wpAny _ _ (subscriptTail (PySem.Expr.Tuple _ _ _) _ (Value.ref _) (Value.int _ _)) _ _ _); k_dflt (refine' tup3_at ?N ?m ?k ?j ?_; (case N => k_asm); (case m => exact .head _); (case k => assumption); (case j => exact Nat.mod_lt _ (by decide))); intro t3)
  intro dp un fr gd s Q E V hlist hd hu ret
  refine' enter [(Str.ofString "text", .str (txt l) t), (Str.ofString "picks", .ref a)] V ?k6 ?k7 (by show dp < recursionLimit; omega) ?k9 ?kB ?c5 ?c2 ?c3 ?c4 ?_
  (case k6 => k_is)
  (case k7 => k_is)
  (case k9 => first | exact BindsTo.of_eq rfl | exact binds_K V.k rfl (by k_is) rfl rfl rfl)
  (case kB => exact locs rfl)
  (case c5 => decide +kernel)
  (case c2 => exact rfl)
  (case c3 => exact rfl)
  (case c4 => exact rfl)
  rintro L h₁ tk₁ X ⟨p, loose, mean, mg, mb, T⟩ F N
  dsimp only [ofB] at F
  rw [show bod 37 = [stm 37 0, stm 37 1, stm 37 2, lop 37 3, stm 37 4] from rfl]
  have hsc : sco 37 = sco 37 := rfl
  (conv at hsc => rhs; whnf)
  rw [hsc]
  clear hsc
  (try k_fold)
  k_steps
  (conv => arg 3; arg 1; whnf)
  refine For_invV s.heap (by rfl) (by rfl) ?_
  (try dsimp only)
  repeat ((fail_if_success (with_reducible show wpAny _ _ (pyIter _) _ _ _)); first | walk1 | (dsimp only; walk1))
  rename Fr _ _ _ _ => F1
  rename News _ _ _ _ => N1
  rename IsRange _ _ _ _ _ _ _ _ => hrg
  refine iter_range0 (fun _ _ i m nx => ∃ pl us n, Vals [Str.ofString "pieces", Str.ofString "elsewhere", Str.ofString "nothing", Str.ofString "picks", Str.ofString "text"] [.ref pl, .ref dD, .str (txt nothingL) tk₁, .ref a, .str (txt l) t] m ∧ nx = [(pl, listOf us n), (dD, dob dE.toArray dE.length)] ∧ TxtsAre us.toList (spelledAt ns l i) ∧ us.size ≤ 2 * i ∧ @LT.lt Nat _ dD pl)
    rfl hrg (by omega) (by omega) F1 N1 ⟨_, #[], 0, ⟨rfl, rfl, congrArg (fun x => some (Value.str x tk₁)) nothing_eq, rfl, rfl, trivial⟩, rfl, ⟨rfl, fun i y h => by simp at h⟩, by simp, by assumption⟩ ?_ ?_
  · rintro i ti m₁ nx h tk I oI hil ⟨pl, us, n', hv, rfl, hus, hsz, hDp⟩ hne F N
    rw [overX hv] at F
    clear hv F1 N1 hrg
    rw [Int.toNat_natCast] at hil
    obtain ⟨c, hck⟩ : ∃ c, l[i]? = some c := ⟨l[i], List.getElem?_eq_getElem hil⟩
    have hcc := hc c (List.mem_of_getElem? hck)
    have hplI : @Ne Nat pl I := hne _ (.head _)
    have hplIS := Ne.symm hplI
    have hDI : @Ne Nat dD I := hne _ (.tail _ (.head _))
    have hDIS := Ne.symm hDI
    have hDpA := Nat.ne_of_lt hDp
    have hDpB := Nat.ne_of_gt hDp
    clear hne
    dsimp only [over] at F
    replace F : Fr s.heap L _ _ := F
    replace N : News s.heap L _ _ := N
    dsimp only [List.cons_append, List.nil_append] at N
    have hP := pick_eq (i := i) hpos hr
    have hcm : ((c : Int).fmod 32) = ((c % 32 : Nat) : Int) := fm (m := 32)
    have hP3 : (ns.getD ((i : Int).fmod (ns.length : Int)).toNat 0 + (i : Int)).fmod 3 = ((pickAt ns i % 3 : Nat) : Int) := by rw [hP]; exact fm (m := 3)
    have hP5 : (ns.getD ((i : Int).fmod (ns.length : Int)).toNat 0 + (i : Int)).fmod 5 = ((pickAt ns i % 5 : Nat) : Int) := by rw [hP]; exact fm (m := 5)
    have hP13 : (ns.getD ((i : Int).fmod (ns.length : Int)).toNat 0 + (i : Int)).fmod 13 = ((pickAt ns i % 13 : Nat) : Int) := by rw [hP]; exact fm (m := 13)
    have hP27 : (ns.getD ((i : Int).fmod (ns.length : Int)).toNat 0 + (i : Int)).fmod 27 = ((pickAt ns i % 27 : Nat) : Int) := by rw [hP]; exact fm (m := 27)
    clear hP
    generalize hp : pickAt ns i = p at hP3 hP5 hP13 hP27
    k_steps
    rotate_left 1
    · have hX : txt [c] = txt [spellC p c] := by unfold spellC; rw [if_neg (by omega)]
      rename Fr _ _ _ _ => F2
      rename News _ _ _ _ => N2
      refine Turn.next [(pl, _), (dD, _)] F2 N2 (.tail _ (.tail _ (.tail _ (.head _)))) (two_in (.tail _ (.head _)) (.tail _ (.tail _ (.head _)))) (two_off hplI hDI) ⟨pl, _, _, ⟨rfl, rfl, rfl, rfl, rfl, trivial⟩, rfl, end2 hus hck hp hX (z5 hP5 (by assumption)) ?_, by simp only [Array.size_push]; omega, hDp⟩
      (first | (rw [if_pos (yLow hP27 (by assumption)).2]; exact congrArg (fun x => (⟨#[x]⟩ : Str)) (yLow hP27 (by assumption)).1) | (rw [if_neg (yHigh hP27 (by assumption)).2.2]; exact item_nothing (yHigh hP27 (by assumption)).1 (yHigh hP27 (by assumption)).2.1))
    · have hX : txt [c] = txt [spellC p c] := by unfold spellC; rw [if_neg (by omega)]
      rename Fr _ _ _ _ => F2
      rename News _ _ _ _ => N2
      refine Turn.next [(pl, _), (dD, _)] F2 N2 (.tail _ (.tail _ (.tail _ (.head _)))) (two_in (.tail _ (.head _)) (.tail _ (.tail _ (.head _)))) (two_off hplI hDI) ⟨pl, _, _, ⟨rfl, rfl, rfl, rfl, rfl, trivial⟩, rfl, end2 hus hck hp hX (z5 hP5 (by assumption)) ?_, by simp only [Array.size_push]; omega, hDp⟩
      (first | (rw [if_pos (yLow hP27 (by assumption)).2]; exact congrArg (fun x => (⟨#[x]⟩ : Str)) (yLow hP27 (by assumption)).1) | (rw [if_neg (yHigh hP27 (by assumption)).2.2]; exact item_nothing (yHigh hP27 (by assumption)).1 (yHigh hP27 (by assumption)).2.1))
    · have hX : txt [c] = txt [spellC p c] := by unfold spellC; rw [if_neg (by omega)]
      rename Fr _ _ _ _ => F2
      rename News _ _ _ _ => N2
      exact Turn.next [(pl, _), (dD, _)] F2 N2 (.tail _ (.tail _ (.tail _ (.head _)))) (two_in (.tail _ (.head _)) (.tail _ (.tail _ (.head _)))) (two_off hplI hDI) ⟨pl, _, _, ⟨rfl, rfl, rfl, rfl, rfl, trivial⟩, rfl, end1 hus hck hp hX (z5n hP5 (by assumption)), by simp only [Array.size_push]; omega, hDp⟩
    · have h64 : 64 < c := by omega
      obtain ⟨hX, hle⟩ := code_spell (p := p) h64 hcc
      obtain ⟨u, rfl⟩ := else_at (n := codeN p c) (code_int h64 hcc hcm hP13) gh
      replace hX := congrArg (fun x => txt [x]) hX
      refine chr_txt rfl (else_le hle) fun t' k' => ?_
      k_steps
      · rename Fr _ _ _ _ => F2
        rename News _ _ _ _ => N2
        refine Turn.next [(pl, _), (dD, _)] F2 N2 (.tail _ (.tail _ (.tail _ (.tail _ (.head _))))) (two_in (.tail _ (.tail _ (.head _))) (.tail _ (.tail _ (.tail _ (.head _))))) (two_off hplI hDI) ⟨pl, _, _, ⟨rfl, rfl, rfl, rfl, rfl, trivial⟩, rfl, end2 hus hck hp hX (z5 hP5 (by assumption)) ?_, by simp only [Array.size_push]; omega, hDp⟩
        (first | (rw [if_pos (yLow hP27 (by assumption)).2]; exact congrArg (fun x => (⟨#[x]⟩ : Str)) (yLow hP27 (by assumption)).1) | (rw [if_neg (yHigh hP27 (by assumption)).2.2]; exact item_nothing (yHigh hP27 (by assumption)).1 (yHigh hP27 (by assumption)).2.1))
      · rename Fr _ _ _ _ => F2
        rename News _ _ _ _ => N2
        refine Turn.next [(pl, _), (dD, _)] F2 N2 (.tail _ (.tail _ (.tail _ (.tail _ (.head _))))) (two_in (.tail _ (.tail _ (.head _))) (.tail _ (.tail _ (.tail _ (.head _))))) (two_off hplI hDI) ⟨pl, _, _, ⟨rfl, rfl, rfl, rfl, rfl, trivial⟩, rfl, end2 hus hck hp hX (z5 hP5 (by assumption)) ?_, by simp only [Array.size_push]; omega, hDp⟩
        (first | (rw [if_pos (yLow hP27 (by assumption)).2]; exact congrArg (fun x => (⟨#[x]⟩ : Str)) (yLow hP27 (by assumption)).1) | (rw [if_neg (yHigh hP27 (by assumption)).2.2]; exact item_nothing (yHigh hP27 (by assumption)).1 (yHigh hP27 (by assumption)).2.1))
      · rename Fr _ _ _ _ => F2
        rename News _ _ _ _ => N2
        exact Turn.next [(pl, _), (dD, _)] F2 N2 (.tail _ (.tail _ (.tail _ (.tail _ (.head _))))) (two_in (.tail _ (.tail _ (.head _))) (.tail _ (.tail _ (.tail _ (.head _))))) (two_off hplI hDI) ⟨pl, _, _, ⟨rfl, rfl, rfl, rfl, rfl, trivial⟩, rfl, end1 hus hck hp hX (z5n hP5 (by assumption)), by simp only [Array.size_push]; omega, hDp⟩
  · rintro m₁ nx h tk ⟨pl, us, n', hv, rfl, hus, hsz, hDp⟩ F N
    rw [overV hv, Int.toNat_natCast] at *
    clear hv F1 N1
    dsimp only [over] at F
    replace F : Fr s.heap L _ _ := F
    replace N : News s.heap L _ _ := N
    (try dsimp only)
    (try k_fold)
    k_steps
    have hsl := spelledAt_len ns l l.length
    refine join_L N (.head _) hus (by omega) (by omega) (fun t' k' => ?_)
    exact ret _ _ _ F.keep ⟨_, rfl⟩
end
section -- F1
open PySem PySem.W PyProof.Rows
theorem use_values {w : World} {a : Addr} {vs : List Value} {ns : List Int} {dp un : Nat} {fr : Option (List Env)} {gd : Option (List Code)} {s : Shared} {Q E : Value → Shared → Prop} {h₀ : Heap} {L : Addr} {m : Str → Option Value} {news : List (Addr × Obj)}
    (hi : IntsAre vs ns) (hlen : ns.length ≤ 17) (V : Ev w h₀) (F : Fr h₀ L s.heap m) (N : News h₀ L s.heap news) (hp : s.heap.IsList a vs.toArray) (hd : dp + 1 < recursionLimit) (hu : un + 10 * 1 + 50 < cLine)
    (ret : ∀ r ws n h' tk', Fr h₀ L h' m → News h₀ L h' ((r, listOf ws n) :: news) → (∀ p ∈ news, p.1 ≠ r) → IntsAre ws.toList (lawValues ns) → Q (.ref r) { s with heap := h', toks := tk' }) : wpAny (model PP w) (AA dp un fr gd) (call (.ref 233) [.ref a]) Q E s := by
  refine use_spec (values_spec w a vs ns hi hlen) V F N hp hd hu fun v h' tk' F' N' k' p' => ?_
  obtain ⟨r, ws, n, rfl, g1, g2, g3⟩ := p'
  obtain ⟨F2, N2, ne⟩ := news_add F N k' g1 g2
  exact ret r ws n h' tk' F2 N2 ne g3
set_option maxHeartbeats 4000000 in
theorem seg1 (w : World) (a b : Addr) (oc : Obj) (vs : List Value) (ns : List Int) (hi : IntsAre vs ns) (hlen : ns.length ≤ 17) :
    SegC w [stm 38 0] (fun h₀ L m news => Vals [Str.ofString "row", Str.ofString "picks"] [.ref a, .ref b] m ∧ h₀.IsList a vs.toArray ∧ news = [(L + 1, oc)])
      (fun _ L m news => ∃ t vl ws wn, Vals [Str.ofString "size", Str.ofString "values", Str.ofString "row", Str.ofString "picks"] [.int (ns.length : Int) t, .ref vl, .ref a, .ref b] m ∧ news = [(vl, listOf ws wn), (L + 1, oc)] ∧ IntsAre ws.toList (lawValues ns)) := by
  k_with_none
  k_with "exec" => ((with_reducible show wpAny _ _ (exec (stm _ _) _) _ _ _); k_dflt (conv => arg 3; arg 1; whnf))
  k_with "call type:type" => ((with_reducible show wpAny _ _ (call (Value.type "type") [Value.bytes _ _]) _ _ _); refine type_bytes ?_)
  k_with "getMethod str" => ((with_reducible show wpAny _ _ (getMethod (Value.str _ _) (PySem.Str.ofString "encode") _) _ _ _); refine encode_get ?_)
  k_with "call builtin:str.encode" => (k_dflt (refine encode_call (by assumption) (by assumption) ?_); intro _)
  k_with "getMethod bytes" => (first | refine hex_get ?_ | refine bupper_get ?_)
  k_with "call builtin:bytes.hex" => (k_dflt (refine hex_call (by assumption) ?_); intro _)
  k_with "call builtin:bytes.upper" => (k_dflt (refine bupper_call (by assumption) ?_); intro _)
  k_with "compareOp In int ref" => ((with_reducible show wpAny _ _ (compareOp CmpOp.In (Value.int _ _) (Value.ref 170)) _ _ _); k_dflt (refine in170 (by k_in) ?_))
  k_with "getMethod ref" => ((with_reducible show wpAny _ _ (getMethod (Value.ref 181) _ _) _ _ _); k_dflt (refine meth181 (by k_in) ?_))
  k_with "call builtin:dict.get" => ((with_reducible show wpAny _ _ (call (Value.builtin "dict.get") [Value.ref 181, Value.int _ _]) _ _ _); k_dflt (refine get181 (by k_in) ?_))
  k_with "call builtin:list.append" => (k_dflt (refine' append_K ?k1 ?k2 ?k3 ?_ ?z; (case k1 => k_asm); (case k2 => k_asm); (case k3 => k_upd); (case z => (rw [sizeLine_eq]; (try simp only [Array.size_push, Array.size_empty]); omega))); intro h' F' N'; (try k_sweep))
  k_with "binaryOp LShift int int" => (k_dflt (refine' lshift_int_small ?a ?b ?c ?_; (case a => omega); (case b => omega); (case c => (first | omega | (simp only [bitAnd_m6, bitAnd_m2, bitAnd_m4]; omega)))))
  k_with "subscriptTail" => ((with_reducible show wpAny _ _ (subscriptTail _ _ (Value.bytes _ _) (Value.int _ _)) _ _ _); k_dflt (refine' item_signs ?e ?a ?b ?_; (case e => exact rfl); (case a => (simp only [bitAnd_m6, bitAnd_m2, bitAnd_m4, Int.reduceToNat, Int.reducePow]; omega)); (case b => (simp only [bitAnd_m6, bitAnd_m2, bitAnd_m4, Int.reduceToNat, Int.reducePow]; omega))); intro _)
  k_with "eval ListComp" => (k_dflt (refine' comp_U ?f ?a ?b ?c ?d ?e ?h; (case f => k_asm); (case a => exact rfl); (case b => decide +kernel); (case c => exact rfl); (case d => decide +kernel); (case e => exact rfl)))
  k_with "call ref" => ((with_reducible show wpAny _ _ (call (Value.ref 233) _ _) _ _ _); k_dflt (refine' use_values (by assumption) (by assumption) ?V ?F ?N ?P ?D ?U ?_; (case V => assumption); (case F => k_asm); (case N => k_asm); (case P => is_list); (case D => (dsimp only; omega)); (case U => (dsimp only; omega))); intro r9 ws9 n9 h9 tk9 F9 N9 ne9 i9; (try k_sweep); (try dsimp only))
  rintro dp un fr gd h₀ L s m news Q V hd hu F N ⟨hv, hla, rfl⟩ ret
  rw [overV hv] at F
  clear hv
  dsimp only [over] at F
  have X := V.k
  obtain ⟨p, loose, mean, mg, mb, T⟩ := V.t
  unfold carE at *
  have hsc : sco 38 = sco 38 := rfl
  (conv at hsc => rhs; whnf)
  rw [hsc] at *
  clear hsc
  (try dsimp only)
  (try k_fold)
  k_steps
  rename Fr _ _ _ _ => F2
  rename News _ _ _ _ => N2
  exact ret _ _ _ _ F2 (news_sub N2 fun p hp => .tail _ hp) ⟨_, _, _, _, ⟨rfl, rfl, rfl, rfl, trivial⟩, rfl, by assumption⟩
theorem signs_eq (w : World) (b : Array UInt8) (t : Tok) (W : List Nat) (hb : b.size ≤ 100) (h : chrs b = W) :
    Spec w 1 250 [.bytes b t] [] (fun _ => True) (fun _ v _ => ∃ t', v = .str (txt W) t') := by
  subst h; exact signs_spec w b t hb
theorem written_eq (w : World) (a : Addr) (vs : List Value) (ns : List Int) (size : Nat) (t : Tok) (W : List Nat) (hi : IntsAre vs ns) (hlen : ns.length ≤ 100) (hr : ∀ n ∈ ns, 0 ≤ n ∧ n < 64) (h : written ns size = W) :
    Spec w 1 245 [.ref a, .int (size : Int) t] [] (fun h => h.IsList a vs.toArray) (fun _ v _ => ∃ t', v = .str (txt W) t') := by
  subst h; exact written_spec w a vs ns size t hi hlen hr
theorem ne_txt {prog : Program} {w : World} {A : Around} {E : Value → Shared → Prop} {s : Shared} {l : List Nat} {t u : Tok} {Q : Value → Shared → Prop} (h : Q (.bool false) s) : wpAny (model prog w) A (compareOp .NotEq (.str (txt l) t) (.str (txt l) u)) Q E s := by
  refine P.ne_str ?_
  have : ((txt l).cps.toList != (txt l).cps.toList) = false := by simp
  rw [this]; exact h
set_option maxHeartbeats 4000000 in
theorem seg2 (w : World) (a b : Addr) (oc : Obj) (vs : List Value) (ns V' : List Int) (W : List Nat) (hi : IntsAre vs ns) (hlen : ns.length ≤ 17) (hb : Byte ns) (hbz : (bts ns).size ≤ 20) (hez : (bts (encode (KBw.bInts (bts ns)))).size ≤ 100) (hW : chrs (bts (encode (KBw.bInts (bts ns)))) = W) (hVl : V'.length ≤ 100) (hVr : ∀ n ∈ V', 0 ≤ n ∧ n < 64) (hW2 : written V' ns.length = W) :
    SegC w [stm 38 1, stm 38 2, stm 38 3]
      (fun h₀ L m news => h₀.IsList a vs.toArray ∧ ∃ t vl ws wn, Vals [Str.ofString "size", Str.ofString "values", Str.ofString "row", Str.ofString "picks"] [.int (ns.length : Int) t, .ref vl, .ref a, .ref b] m ∧ news = [(vl, listOf ws wn), (L + 1, oc)] ∧ IntsAre ws.toList V')
      (fun _ L m news => ∃ t vl ws wn t2, Vals [Str.ofString "writing", Str.ofString "size", Str.ofString "values", Str.ofString "row", Str.ofString "picks"] [.str (txt W) t2, .int (ns.length : Int) t, .ref vl, .ref a, .ref b] m ∧ news = [(vl, listOf ws wn), (L + 1, oc)] ∧ IntsAre ws.toList V') := by
  k_with_none
  k_with "exec" => ((with_reducible show wpAny _ _ (exec (stm _ _) _) _ _ _); k_dflt (conv => arg 3; arg 1; whnf))
  k_with "call type:type" => ((with_reducible show wpAny _ _ (call (Value.type "type") [Value.bytes _ _]) _ _ _); refine type_bytes ?_)
  k_with "getMethod str" => ((with_reducible show wpAny _ _ (getMethod (Value.str _ _) (PySem.Str.ofString "encode") _) _ _ _); refine encode_get ?_)
  k_with "call builtin:str.encode" => (k_dflt (refine encode_call (by assumption) (by assumption) ?_); intro _)
  k_with "getMethod bytes" => (first | refine hex_get ?_ | refine bupper_get ?_)
  k_with "call builtin:bytes.hex" => (k_dflt (refine hex_call (by assumption) ?_); intro _)
  k_with "call builtin:bytes.upper" => (k_dflt (refine bupper_call (by assumption) ?_); intro _)
  k_with "compareOp In int ref" => ((with_reducible show wpAny _ _ (compareOp CmpOp.In (Value.int _ _) (Value.ref 170)) _ _ _); k_dflt (refine in170 (by k_in) ?_))
  k_with "getMethod ref" => ((with_reducible show wpAny _ _ (getMethod (Value.ref 181) _ _) _ _ _); k_dflt (refine meth181 (by k_in) ?_))
  k_with "call builtin:dict.get" => ((with_reducible show wpAny _ _ (call (Value.builtin "dict.get") [Value.ref 181, Value.int _ _]) _ _ _); k_dflt (refine get181 (by k_in) ?_))
  k_with "call builtin:list.append" => (k_dflt (refine' append_K ?k1 ?k2 ?k3 ?_ ?z; (case k1 => k_asm); (case k2 => k_asm); (case k3 => k_upd); (case z => (rw [sizeLine_eq]; (try simp only [Array.size_push, Array.size_empty]); omega))); intro h' F' N'; (try k_sweep))
  k_with "binaryOp LShift int int" => (k_dflt (refine' lshift_int_small ?a ?b ?c ?_; (case a => omega); (case b => omega); (case c => (first | omega | (simp only [bitAnd_m6, bitAnd_m2, bitAnd_m4]; omega)))))
  k_with "subscriptTail" => ((with_reducible show wpAny _ _ (subscriptTail _ _ (Value.bytes _ _) (Value.int _ _)) _ _ _); k_dflt (refine' item_signs ?e ?a ?b ?_; (case e => exact rfl); (case a => (simp only [bitAnd_m6, bitAnd_m2, bitAnd_m4, Int.reduceToNat, Int.reducePow]; omega)); (case b => (simp only [bitAnd_m6, bitAnd_m2, bitAnd_m4, Int.reduceToNat, Int.reducePow]; omega))); intro _)
  k_with "eval ListComp" => (k_dflt (refine' comp_U ?f ?a ?b ?c ?d ?e ?h; (case f => k_asm); (case a => exact rfl); (case b => decide +kernel); (case c => exact rfl); (case d => decide +kernel); (case e => exact rfl)))
  k_with "call ref" => ((with_reducible show wpAny _ _ (call (Value.ref 233) _ _) _ _ _); k_dflt (refine' use_values (by assumption) (by assumption) ?V ?F ?N ?P ?D ?U ?_; (case V => assumption); (case F => k_asm); (case N => k_asm); (case P => is_list); (case D => (dsimp only; omega)); (case U => (dsimp only; omega))); intro r9 ws9 n9 h9 tk9 F9 N9 ne9 i9; (try k_sweep); (try dsimp only))
  k_with "call ref" => ((with_reducible show wpAny _ _ (call (Value.ref 139) _ _) _ _ _); k_dflt (refine' use_spec (b64encode_spec _ _ _ (by assumption)) ?V ?F ?N ?P ?D ?U ?_; (case V => assumption); (case F => k_asm); (case N => k_asm); (case P => first | trivial | assumption); (case D => (dsimp only; omega)); (case U => (dsimp only; omega))); intro v9 h9 tk9 F9 N9 k9 p9; (first | subst p9 | (obtain ⟨t9, p9⟩ := p9; subst p9)); (try k_sweep); (try dsimp only))
  k_with "call ref" => ((with_reducible show wpAny _ _ (call (Value.ref 250) _ _) _ _ _); k_dflt (refine' use_spec (signs_eq _ _ _ _ (by assumption) (by assumption)) ?V ?F ?N ?P ?D ?U ?_; (case V => assumption); (case F => k_asm); (case N => k_asm); (case P => first | trivial | assumption); (case D => (dsimp only; omega)); (case U => (dsimp only; omega))); intro v9 h9 tk9 F9 N9 k9 p9; (first | subst p9 | (obtain ⟨t9, p9⟩ := p9; subst p9)); (try k_sweep); (try dsimp only))
  k_with "call ref" => ((with_reducible show wpAny _ _ (call (Value.ref 245) _ _) _ _ _); k_dflt (refine' use_spec (written_eq _ _ _ _ _ _ _ (by assumption) (by assumption) (by assumption) (by assumption)) ?V ?F ?N ?P ?D ?U ?_; (case V => assumption); (case F => k_asm); (case N => k_asm); (case P => is_list); (case D => (dsimp only; omega)); (case U => (dsimp only; omega))); intro v9 h9 tk9 F9 N9 k9 p9; (obtain ⟨t9, p9⟩ := p9; subst p9); (try k_sweep); (try dsimp only))
  k_with "compareOp NotEq str str" => ((with_reducible show wpAny _ _ (compareOp CmpOp.NotEq (Value.str (txt _) _) (Value.str (txt _) _)) _ _ _); k_dflt (refine ne_txt ?_))
  rintro dp un fr gd h₀ L s m news Q V hd hu F N ⟨hla, t, vl, ws, wn, hv, rfl, hws⟩ ret
  rw [overV hv] at F
  clear hv
  dsimp only [over] at F
  have X := V.k
  obtain ⟨p, loose, mean, mg, mb, T⟩ := V.t
  unfold carE at *
  have hsc : sco 38 = sco 38 := rfl
  (conv at hsc => rhs; whnf)
  rw [hsc] at *
  clear hsc
  (try dsimp only)
  (try k_fold)
  k_steps
  rename Fr _ _ _ _ => F2
  rename News _ _ _ _ => N2
  exact ret _ _ _ _ F2 N2 ⟨_, _, _, _, _, ⟨rfl, rfl, rfl, rfl, rfl, trivial⟩, rfl, by assumption⟩
end
section -- F2
open PySem PySem.W PyProof.Rows
set_option maxHeartbeats 4000000 in
theorem seg3 (w : World) (a b : Addr) (oc : Obj) (size : Nat) (V' S : List Int) (W FD : List Nat) (hVl : V'.length ≤ 100) (hWl : W.length ≤ 200) (hWf : ∀ c ∈ W, Folds c) (hFD : (W.map foldC).flatten = FD) (hFl : FD.length ≤ 1000) (hS : V'.map (fun v => if v < 26 then v + 26 else v) = S) :
    SegC w [stm 38 4, stm 38 5]
      (fun _ L m news => ∃ t vl ws wn t2, Vals [Str.ofString "writing", Str.ofString "size", Str.ofString "values", Str.ofString "row", Str.ofString "picks"] [.str (txt W) t2, .int (size : Int) t, .ref vl, .ref a, .ref b] m ∧ news = [(vl, listOf ws wn), (L + 1, oc)] ∧ IntsAre ws.toList V')
      (fun _ L m news => ∃ t vl ws wn t2 t3 dF ys dS zs, Vals [Str.ofString "folded", Str.ofString "small", Str.ofString "folds", Str.ofString "writing", Str.ofString "size", Str.ofString "values", Str.ofString "row", Str.ofString "picks"] [.str (txt FD) t3, .ref dS, .ref dF, .str (txt W) t2, .int (size : Int) t, .ref vl, .ref a, .ref b] m ∧ news = [(dS, LCg.lst zs), (dF, LCg.lst ys), (vl, listOf ws wn), (L + 1, oc)] ∧ IntsAre ws.toList V' ∧ TxtsAre ys (W.map foldC) ∧ IntsAre zs S) := by
  k_with_none
  k_with "exec" => ((with_reducible show wpAny _ _ (exec (stm _ _) _) _ _ _); k_dflt (conv => arg 3; arg 1; whnf))
  k_with "call type:type" => ((with_reducible show wpAny _ _ (call (Value.type "type") [Value.bytes _ _]) _ _ _); refine type_bytes ?_)
  k_with "getMethod str" => ((with_reducible show wpAny _ _ (getMethod (Value.str _ _) (PySem.Str.ofString "encode") _) _ _ _); refine encode_get ?_)
  k_with "call builtin:str.encode" => (k_dflt (refine encode_call (by assumption) (by assumption) ?_); intro _)
  k_with "getMethod bytes" => (first | refine hex_get ?_ | refine bupper_get ?_)
  k_with "call builtin:bytes.hex" => (k_dflt (refine hex_call (by assumption) ?_); intro _)
  k_with "call builtin:bytes.upper" => (k_dflt (refine bupper_call (by assumption) ?_); intro _)
  k_with "compareOp In int ref" => ((with_reducible show wpAny _ _ (compareOp CmpOp.In (Value.int _ _) (Value.ref 170)) _ _ _); k_dflt (refine in170 (by k_in) ?_))
  k_with "getMethod ref" => ((with_reducible show wpAny _ _ (getMethod (Value.ref 181) _ _) _ _ _); k_dflt (refine meth181 (by k_in) ?_))
  k_with "call builtin:dict.get" => ((with_reducible show wpAny _ _ (call (Value.builtin "dict.get") [Value.ref 181, Value.int _ _]) _ _ _); k_dflt (refine get181 (by k_in) ?_))
  k_with "call builtin:list.append" => (k_dflt (refine' append_K ?k1 ?k2 ?k3 ?_ ?z; (case k1 => k_asm); (case k2 => k_asm); (case k3 => k_upd); (case z => (rw [sizeLine_eq]; (try simp only [Array.size_push, Array.size_empty]); omega))); intro h' F' N'; (try k_sweep))
  k_with "binaryOp LShift int int" => (k_dflt (refine' lshift_int_small ?a ?b ?c ?_; (case a => omega); (case b => omega); (case c => (first | omega | (simp only [bitAnd_m6, bitAnd_m2, bitAnd_m4]; omega)))))
  k_with "subscriptTail" => ((with_reducible show wpAny _ _ (subscriptTail _ _ (Value.bytes _ _) (Value.int _ _)) _ _ _); k_dflt (refine' item_signs ?e ?a ?b ?_; (case e => exact rfl); (case a => (simp only [bitAnd_m6, bitAnd_m2, bitAnd_m4, Int.reduceToNat, Int.reducePow]; omega)); (case b => (simp only [bitAnd_m6, bitAnd_m2, bitAnd_m4, Int.reduceToNat, Int.reducePow]; omega))); intro _)
  k_with "eval ListComp" => (k_dflt (refine' comp_U ?f ?a ?b ?c ?d ?e ?h; (case f => k_asm); (case a => exact rfl); (case b => decide +kernel); (case c => exact rfl); (case d => decide +kernel); (case e => exact rfl)))
  k_with "exec Assign cons ListComp" => (k_dflt (refine' comp_A ?f ?hL ?sw ?a ?b ?c ?d ?e ?hy ?hp ?h; (case f => k_asm); (case hL => exact rfl); (case sw => with_unfolding_all rfl); (case a => with_unfolding_all rfl); (case b => decide +kernel); (case c => exact rfl); (case d => decide +kernel); (case e => exact rfl); (case hy => exact rfl); (case hp => exact rfl)))
  k_with "call ref" => ((with_reducible show wpAny _ _ (call (Value.ref 226) _ _) _ _ _); k_dflt (refine' use_spec (b3_spec _ _ _ (by assumption)) ?V ?F ?N ?P ?D ?U ?_; (case V => assumption); (case F => k_asm); (case N => k_asm); (case P => first | trivial | assumption); (case D => (dsimp only; omega)); (case U => (dsimp only; omega))); intro v9 h9 tk9 F9 N9 k9 p9; (first | subst p9 | (obtain ⟨t9, p9⟩ := p9; subst p9)); (try k_sweep); (try dsimp only))
  rintro dp un fr gd h₀ L s m news Q V hd hu F N ⟨t, vl, ws, wn, t2, hv, rfl, hws⟩ ret
  rw [overV hv] at F
  clear hv
  dsimp only [over] at F
  have X := V.k
  obtain ⟨p, loose, mean, mg, mb, T⟩ := V.t
  unfold carE at *
  have hsc : sco 38 = sco 38 := rfl
  (conv at hsc => rhs; whnf)
  rw [hsc] at *
  clear hsc
  (try dsimp only)
  (try k_fold)
  k_steps
  refine ⟨_, _, fun i y => ∃ k t, (W.map foldC)[i]? = some k ∧ y = Value.str (txt k) t, _, F, N, src_str rfl, by rw [sizeLine_eq]; simp only [List.size_toArray]; omega, ?_, ?_⟩
  · rintro i v I oI C oC D m₂ h tk ys E' hil ⟨c, u, hk, rfl⟩ hC hx F2 N2
    have hc : Folds c := hWf c (List.mem_of_getElem? (by rw [← List.getElem?_toArray]; exact hk))
    unfold Folds at hc
    clear F N
    k_steps
    rename Fr _ _ _ _ => F3
    rename News _ _ _ _ => N3
    exact EltEnd.intro F3 N3 (fun p h => h) ⟨_, _, map_get foldC hk, rfl⟩
  · intro D h tk ys F2 N2 o1 hyl hy
    clear F N
    k_steps
    have hyt : TxtsAre ys (W.map foldC) := ⟨by rw [hyl]; simp, hy⟩
    refine join_A N2 (.head _) hyt.1 hyt.2 (by simp; omega) (by rw [hFD]; omega) (fun t' k' => ?_)
    rw [hFD]
    (try dsimp only)
    clear hyl hy
    k_steps
    have hwl := hws.length
    refine ⟨_, _, fun i y => ∃ n t, S[i]? = some n ∧ y = Value.int n t, _, F2, N2, src_list rfl F2 N2 (.inr ⟨wn, .tail _ (.head _)⟩), by rw [sizeLine_eq, ← Array.length_toList]; omega, ?_, ?_⟩
    · rintro i v I oI C oC D m₂ h tk zs E' hil hv hC hx F3 N3
      obtain ⟨n, u, rfl, hn⟩ := hws.at i v (by simpa using hv)
      have hSn : S[i]? = some (if n < 26 then n + 26 else n) := by rw [← hS, List.getElem?_map, hn]; rfl
      clear F2 N2 hv
      k_steps
      · rename Fr _ _ _ _ => F4
        rename News _ _ _ _ => N4
        exact EltEnd.intro F4 N4 (fun p h => h) ⟨_, _, hSn, by rw [if_pos (by assumption)]⟩
      · rename Fr _ _ _ _ => F4
        rename News _ _ _ _ => N4
        exact EltEnd.intro F4 N4 (fun p h => h) ⟨_, _, hSn, by rw [if_neg (by omega)]⟩
    · intro D2 h tk zs F3 N3 o2 hzl hz
      clear F2 N2
      have hzs : IntsAre zs S := intsAre_of (by rw [hzl, ← hS, List.length_map, ← Array.length_toList, hwl]) hz
      k_steps
      rename Fr _ _ _ _ => F4
      rename News _ _ _ _ => N4
      exact ret _ _ _ _ F4 (news_sub N4 fun p hp => .tail _ hp) ⟨_, _, _, _, _, _, _, _, _, _, ⟨rfl, rfl, rfl, rfl, rfl, rfl, rfl, rfl, trivial⟩, rfl, hws, hyt, hzs⟩
theorem ints_txt {l : List Nat} (h : ∀ c ∈ l, c < 128) : KBw.bInts ((txt l).cps.map (·.toUInt8)) = cInts l := by
  unfold KBw.bInts cInts
  rw [Array.toList_map, List.map_map]
  refine List.map_congr_left fun c hc => ?_
  have := h c (by simpa using hc)
  show ((c.toUInt8.toNat : Nat) : Int) = c
  rw [Nat.toUInt8, UInt8.toNat_ofNat', Nat.mod_eq_of_lt (by omega)]
theorem decode_eq (w : World) (l : List Nat) (t : Tok) (R : Array UInt8) (hx : ∀ c ∈ l, c < 128) (hz : l.length ≤ 60) (hend : decEnd (cInts l)) (h : bts (decode (cInts l)) = R) :
    Spec w 3 147 [.str (txt l) t] [] (fun _ => True) (fun _ v _ => ∃ t', v = .bytes R t') := by
  subst h
  have := b64decode_spec w (txt l) t (fun c hc => hx c (by simpa using hc)) (by rw [sizeLine_eq]; simp only [List.size_toArray]; omega) (by simpa using hz) (by rw [ints_txt hx]; exact hend)
  rw [ints_txt hx] at this
  exact this
theorem octets_eq (w : World) (a : Addr) (vs : List Value) (ns : List Int) (size : Nat) (t : Tok) (R : Array UInt8) (hi : IntsAre vs ns) (hlen : ns.length ≤ 40) (hsz : size ≤ 17) (h : bts (lawOctets ns size) = R) :
    Spec w 1 240 [.ref a, .int (size : Int) t] [] (fun h => h.IsList a vs.toArray) (fun _ v _ => ∃ t', v = .bytes R t') := by
  subst h; exact octets_spec w a vs ns size t hi hlen hsz
theorem ne_same {prog : Program} {w : World} {A : Around} {E : Value → Shared → Prop} {s : Shared} {R : Array UInt8} {t u : Tok} {Q : Value → Shared → Prop} (h : Q (.bool false) s) : wpAny (model prog w) A (compareOp .NotEq (.bytes R t) (.bytes R u)) Q E s := by
  refine ne_bytes ?_
  have : (R.toList != R.toList) = false := by simp
  rw [this]; exact h
set_option maxHeartbeats 4000000 in
theorem seg3b (w : World) (a b : Addr) (oc : Obj) (size : Nat) (V' S : List Int) (W FD : List Nat) (R : Array UInt8) (hSl : S.length ≤ 40) (hSl' : S.length ≤ 100) (hsz : size ≤ 17) (hSr : ∀ n ∈ S, 0 ≤ n ∧ n < 64) (hFD : written S size = FD) (hFa : ∀ c ∈ FD, c < 128) (hFl : FD.length ≤ 60) (hend : decEnd (cInts FD)) (hR : bts (decode (cInts FD)) = R) (hR2 : bts (lawOctets S size) = R) :
    SegC w [stm 38 6]
      (fun _ L m news => ∃ t vl ws wn t2 t3 dF ys dS zs, Vals [Str.ofString "folded", Str.ofString "small", Str.ofString "folds", Str.ofString "writing", Str.ofString "size", Str.ofString "values", Str.ofString "row", Str.ofString "picks"] [.str (txt FD) t3, .ref dS, .ref dF, .str (txt W) t2, .int (size : Int) t, .ref vl, .ref a, .ref b] m ∧ news = [(dS, LCg.lst zs), (dF, LCg.lst ys), (vl, listOf ws wn), (L + 1, oc)] ∧ IntsAre ws.toList V' ∧ TxtsAre ys (W.map foldC) ∧ IntsAre zs S)
      (fun _ L m news => ∃ t vl ws wn t2 t3 dF ys, Vals [Str.ofString "folded", Str.ofString "folds", Str.ofString "writing", Str.ofString "size", Str.ofString "values", Str.ofString "row", Str.ofString "picks"] [.str (txt FD) t3, .ref dF, .str (txt W) t2, .int (size : Int) t, .ref vl, .ref a, .ref b] m ∧ news = [(dF, LCg.lst ys), (vl, listOf ws wn), (L + 1, oc)] ∧ IntsAre ws.toList V' ∧ TxtsAre ys (W.map foldC)) := by
  k_with_none
  k_with "exec" => ((with_reducible show wpAny _ _ (exec (stm _ _) _) _ _ _); k_dflt (conv => arg 3; arg 1; whnf))
  k_with "call type:type" => ((with_reducible show wpAny _ _ (call (Value.type "type") [Value.bytes _ _]) _ _ _); refine type_bytes ?_)
  k_with "getMethod str" => ((with_reducible show wpAny _ _ (getMethod (Value.str _ _) (PySem.Str.ofString "encode") _) _ _ _); refine encode_get ?_)
  k_with "call builtin:str.encode" => (k_dflt (refine encode_call (by assumption) (by assumption) ?_); intro _)
  k_with "getMethod bytes" => (first | refine hex_get ?_ | refine bupper_get ?_)
  k_with "call builtin:bytes.hex" => (k_dflt (refine hex_call (by assumption) ?_); intro _)
  k_with "call builtin:bytes.upper" => (k_dflt (refine bupper_call (by assumption) ?_); intro _)
  k_with "compareOp In int ref" => ((with_reducible show wpAny _ _ (compareOp CmpOp.In (Value.int _ _) (Value.ref 170)) _ _ _); k_dflt (refine in170 (by k_in) ?_))
  k_with "getMethod ref" => ((with_reducible show wpAny _ _ (getMethod (Value.ref 181) _ _) _ _ _); k_dflt (refine meth181 (by k_in) ?_))
  k_with "call builtin:dict.get" => ((with_reducible show wpAny _ _ (call (Value.builtin "dict.get") [Value.ref 181, Value.int _ _]) _ _ _); k_dflt (refine get181 (by k_in) ?_))
  k_with "call builtin:list.append" => (k_dflt (refine' append_K ?k1 ?k2 ?k3 ?_ ?z; (case k1 => k_asm); (case k2 => k_asm); (case k3 => k_upd); (case z => (rw [sizeLine_eq]; (try simp only [Array.size_push, Array.size_empty]); omega))); intro h' F' N'; (try k_sweep))
  k_with "binaryOp LShift int int" => (k_dflt (refine' lshift_int_small ?a ?b ?c ?_; (case a => omega); (case b => omega); (case c => (first | omega | (simp only [bitAnd_m6, bitAnd_m2, bitAnd_m4]; omega)))))
  k_with "subscriptTail" => ((with_reducible show wpAny _ _ (subscriptTail _ _ (Value.bytes _ _) (Value.int _ _)) _ _ _); k_dflt (refine' item_signs ?e ?a ?b ?_; (case e => exact rfl); (case a => (simp only [bitAnd_m6, bitAnd_m2, bitAnd_m4, Int.reduceToNat, Int.reducePow]; omega)); (case b => (simp only [bitAnd_m6, bitAnd_m2, bitAnd_m4, Int.reduceToNat, Int.reducePow]; omega))); intro _)
  k_with "eval ListComp" => (k_dflt (refine' comp_U ?f ?a ?b ?c ?d ?e ?h; (case f => k_asm); (case a => exact rfl); (case b => decide +kernel); (case c => exact rfl); (case d => decide +kernel); (case e => exact rfl)))
  k_with "exec Assign cons ListComp" => (k_dflt (refine' comp_A ?f ?hL ?sw ?a ?b ?c ?d ?e ?hy ?hp ?h; (case f => k_asm); (case hL => exact rfl); (case sw => with_unfolding_all rfl); (case a => with_unfolding_all rfl); (case b => decide +kernel); (case c => exact rfl); (case d => decide +kernel); (case e => exact rfl); (case hy => exact rfl); (case hp => exact rfl)))
  k_with "call ref" => ((with_reducible show wpAny _ _ (call (Value.ref 226) _ _) _ _ _); k_dflt (refine' use_spec (b3_spec _ _ _ (by assumption)) ?V ?F ?N ?P ?D ?U ?_; (case V => assumption); (case F => k_asm); (case N => k_asm); (case P => first | trivial | assumption); (case D => (dsimp only; omega)); (case U => (dsimp only; omega))); intro v9 h9 tk9 F9 N9 k9 p9; (first | subst p9 | (obtain ⟨t9, p9⟩ := p9; subst p9)); (try k_sweep); (try dsimp only))
  k_with "call ref" => ((with_reducible show wpAny _ _ (call (Value.ref 147) _ _) _ _ _); k_dflt (refine' use_spec (decode_eq _ _ _ _ (by assumption) (by assumption) (by assumption) (by assumption)) ?V ?F ?N ?P ?D ?U ?_; (case V => assumption); (case F => k_asm); (case N => k_asm); (case P => first | trivial | assumption); (case D => (dsimp only; omega)); (case U => (dsimp only; omega))); intro v9 h9 tk9 F9 N9 k9 p9; (first | subst p9 | (obtain ⟨t9, p9⟩ := p9; subst p9)); (try k_sweep); (try dsimp only))
  k_with "call ref" => ((with_reducible show wpAny _ _ (call (Value.ref 245) _ _) _ _ _); k_dflt (refine' use_spec (written_eq _ _ _ _ _ _ _ (by assumption) (by assumption) (by assumption) (by assumption)) ?V ?F ?N ?P ?D ?U ?_; (case V => assumption); (case F => k_asm); (case N => k_asm); (case P => is_list); (case D => (dsimp only; omega)); (case U => (dsimp only; omega))); intro v9 h9 tk9 F9 N9 k9 p9; (obtain ⟨t9, p9⟩ := p9; subst p9); (try k_sweep); (try dsimp only))
  k_with "call ref" => ((with_reducible show wpAny _ _ (call (Value.ref 240) _ _) _ _ _); k_dflt (refine' use_spec (octets_eq _ _ _ _ _ _ _ (by assumption) (by assumption) (by assumption) (by assumption)) ?V ?F ?N ?P ?D ?U ?_; (case V => assumption); (case F => k_asm); (case N => k_asm); (case P => is_list); (case D => (dsimp only; omega)); (case U => (dsimp only; omega))); intro v9 h9 tk9 F9 N9 k9 p9; (obtain ⟨t9, p9⟩ := p9; subst p9); (try k_sweep); (try dsimp only))
  k_with "compareOp NotEq str str" => ((with_reducible show wpAny _ _ (compareOp CmpOp.NotEq (Value.str (txt _) _) (Value.str (txt _) _)) _ _ _); k_dflt (refine ne_txt ?_))
  k_with "compareOp NotEq bytes bytes" => (k_dflt (refine ne_same ?_))
  rintro dp un fr gd h₀ L s m news Q V hd hu F N ⟨t, vl, ws, wn, t2, t3, dF, ys, dS, zs, hv, rfl, hws, hys, hzs⟩ ret
  rw [overV hv] at F
  clear hv
  dsimp only [over] at F
  have X := V.k
  obtain ⟨p, loose, mean, mg, mb, T⟩ := V.t
  unfold carE at *
  have hsc : sco 38 = sco 38 := rfl
  (conv at hsc => rhs; whnf)
  rw [hsc] at *
  clear hsc
  (try dsimp only)
  (try k_fold)
  k_steps
  rename Fr _ _ _ _ => F4
  rename News _ _ _ _ => N4
  exact ret _ _ _ _ F4 (news_sub N4 fun p hp => .tail _ hp) ⟨_, _, _, _, _, _, _, _, ⟨rfl, rfl, rfl, rfl, rfl, rfl, rfl, trivial⟩, rfl, hws, hys⟩
end
section -- F3
open PySem PySem.W PyProof.Rows
noncomputable def caseV (ps : List Int) (k : Nat) (v : Int) : Int := if 51 < v then v else v.fmod 26 + (if pickAt ps k % 2 = 1 then 0 else 26)
theorem intsAre_snoc {x : Int} {t : Tok} : ∀ {vs : List Value} {ns : List Int}, IntsAre vs ns → IntsAre (vs ++ [.int x t]) (ns ++ [x])
  | _, _, .nil => .cons _ _ .nil
  | _, _, .cons _ _ h => .cons _ _ (intsAre_snoc h)
theorem intsAre_push {cs : Array Value} {C : List Int} {i : Nat} {x y : Int} {t : Tok} (h : IntsAre cs.toList (C.take i)) (hx : C[i]? = some x) (e : y = x) : IntsAre (cs.push (.int y t)).toList (C.take (i + 1)) := by
  subst e
  rw [Array.toList_push, List.take_add_one, hx]
  exact intsAre_snoc h
theorem four_sub {α : Type} {a b c : α} {l : List α} (ha : a ∈ l) (hb : b ∈ l) (hc : c ∈ l) : ∀ p ∈ [a, b, c], p ∈ l := fun p hp => by
  rcases List.mem_cons.mp hp with rfl | hp
  · exact ha
  exact two_in hb hc p hp
theorem four_in {α : Type} {a b c d : α} {l : List α} (ha : a ∈ l) (hb : b ∈ l) (hc : c ∈ l) (hd : d ∈ l) : ∀ p ∈ [a, b, c, d], p ∈ l := fun p hp => by
  rcases List.mem_cons.mp hp with rfl | hp
  · exact ha
  rcases List.mem_cons.mp hp with rfl | hp
  · exact hb
  exact two_in hc hd p hp
theorem four_off {a b c d I : Addr} {x y z u : Obj} (ha : @Ne Nat a I) (hb : @Ne Nat b I) (hc : @Ne Nat c I) (hd : @Ne Nat d I) : ∀ p ∈ [(a, x), (b, y), (c, z), (d, u)], p.1 ≠ I := fun p hp => by
  rcases List.mem_cons.mp hp with rfl | hp
  · exact ha
  rcases List.mem_cons.mp hp with rfl | hp
  · exact hb
  exact two_off hc hd p hp
set_option maxHeartbeats 4000000 in
theorem seg4 (w : World) (a b : Addr) (oc : Obj) (size : Nat) (us : List Value) (V' C ps : List Int) (W FD : List Nat) (hj : IntsAre us ps) (hpl : ps.length ≤ 12) (hpos : 0 < ps.length) (hr : ∀ n ∈ ps, 0 ≤ n ∧ n < 10530) (hVl : V'.length ≤ 24) (hVr : ∀ n ∈ V', 0 ≤ n ∧ n < 64) (hC : ∀ k v, V'[k]? = some v → C[k]? = some (caseV ps k v)) (hCl : C.length = V'.length) :
    SegC w [stm 38 7, lop 38 8]
      (fun h₀ L m news => h₀.IsList b us.toArray ∧ ∃ t vl ws wn t2 t3 dF ys, Vals [Str.ofString "folded", Str.ofString "folds", Str.ofString "writing", Str.ofString "size", Str.ofString "values", Str.ofString "row", Str.ofString "picks"] [.str (txt FD) t3, .ref dF, .str (txt W) t2, .int (size : Int) t, .ref vl, .ref a, .ref b] m ∧ news = [(dF, LCg.lst ys), (vl, listOf ws wn), (L + 1, oc)] ∧ IntsAre ws.toList V' ∧ TxtsAre ys (W.map foldC))
      (fun _ L m news => ∃ t t2 t3 dF ys dC cs cn, Vals [Str.ofString "cased", Str.ofString "folded", Str.ofString "folds", Str.ofString "writing", Str.ofString "size", Str.ofString "row", Str.ofString "picks"] [.ref dC, .str (txt FD) t3, .ref dF, .str (txt W) t2, .int (size : Int) t, .ref a, .ref b] m ∧ news = [(dC, listOf cs cn), (dF, LCg.lst ys), (L + 1, oc)] ∧ IntsAre cs.toList C ∧ TxtsAre ys (W.map foldC)) := by
  k_with_none
  k_with "exec" => ((with_reducible show wpAny _ _ (exec (stm _ _) _) _ _ _); k_dflt (conv => arg 3; arg 1; whnf))
  k_with "call type:type" => ((with_reducible show wpAny _ _ (call (Value.type "type") [Value.bytes _ _]) _ _ _); refine type_bytes ?_)
  k_with "getMethod str" => ((with_reducible show wpAny _ _ (getMethod (Value.str _ _) (PySem.Str.ofString "encode") _) _ _ _); refine encode_get ?_)
  k_with "call builtin:str.encode" => (k_dflt (refine encode_call (by assumption) (by assumption) ?_); intro _)
  k_with "getMethod bytes" => (first | refine hex_get ?_ | refine bupper_get ?_)
  k_with "call builtin:bytes.hex" => (k_dflt (refine hex_call (by assumption) ?_); intro _)
  k_with "call builtin:bytes.upper" => (k_dflt (refine bupper_call (by assumption) ?_); intro _)
  k_with "compareOp In int ref" => ((with_reducible show wpAny _ _ (compareOp CmpOp.In (Value.int _ _) (Value.ref 170)) _ _ _); k_dflt (refine in170 (by k_in) ?_))
  k_with "getMethod ref" => ((with_reducible show wpAny _ _ (getMethod (Value.ref 181) _ _) _ _ _); k_dflt (refine meth181 (by k_in) ?_))
  k_with "call builtin:dict.get" => ((with_reducible show wpAny _ _ (call (Value.builtin "dict.get") [Value.ref 181, Value.int _ _]) _ _ _); k_dflt (refine get181 (by k_in) ?_))
  k_with "call builtin:list.append" => (k_dflt (refine' append_K ?k1 ?k2 ?k3 ?_ ?z; (case k1 => k_asm); (case k2 => k_asm); (case k3 => k_upd); (case z => (rw [sizeLine_eq]; (try simp only [Array.size_push, Array.size_empty]); omega))); intro h' F' N'; (try k_sweep))
  k_with "binaryOp LShift int int" => (k_dflt (refine' lshift_int_small ?a ?b ?c ?_; (case a => omega); (case b => omega); (case c => (first | omega | (simp only [bitAnd_m6, bitAnd_m2, bitAnd_m4]; omega)))))
  k_with "subscriptTail" => ((with_reducible show wpAny _ _ (subscriptTail _ _ (Value.bytes _ _) (Value.int _ _)) _ _ _); k_dflt (refine' item_signs ?e ?a ?b ?_; (case e => exact rfl); (case a => (simp only [bitAnd_m6, bitAnd_m2, bitAnd_m4, Int.reduceToNat, Int.reducePow]; omega)); (case b => (simp only [bitAnd_m6, bitAnd_m2, bitAnd_m4, Int.reduceToNat, Int.reducePow]; omega))); intro _)
  rintro dp un fr gd h₀ L s m news Q V hd hu F N ⟨hlb, t, vl, ws, wn, t2, t3, dF, ys, hv, rfl, hws, hys⟩ ret
  rw [overV hv] at F
  clear hv
  dsimp only [over] at F
  have X := V.k
  obtain ⟨p, loose, mean, mg, mb, T⟩ := V.t
  unfold carE at *
  have hsc : sco 38 = sco 38 := rfl
  (conv at hsc => rhs; whnf)
  rw [hsc] at *
  clear hsc
  (try dsimp only)
  (try k_fold)
  k_steps
  (conv => arg 3; arg 1; whnf)
  refine For_invV h₀ (by rfl) (by rfl) ?_
  (try dsimp only)
  repeat ((fail_if_success (with_reducible show wpAny _ _ (pyIter _) _ _ _)); first | walk1 | (dsimp only; walk1))
  rename Fr _ _ _ _ => F1
  rename News _ _ _ _ => N1
  rename IsRange _ _ _ _ _ _ _ _ => hrg
  refine iter_range0 (fun _ _ i m nx => ∃ dC cs cn, Vals [Str.ofString "cased", Str.ofString "folded", Str.ofString "folds", Str.ofString "writing", Str.ofString "size", Str.ofString "values", Str.ofString "row", Str.ofString "picks"] [.ref dC, .str (txt FD) t3, .ref dF, .str (txt W) t2, .int (size : Int) t, .ref vl, .ref a, .ref b] m ∧ nx = [(dC, listOf cs cn), (dF, LCg.lst ys), (vl, listOf ws wn), (L + 1, oc)] ∧ IntsAre cs.toList (C.take i) ∧ @LT.lt Nat _ dF dC ∧ @LT.lt Nat _ vl dC ∧ @LT.lt Nat _ (L + 1) dC)
    rfl hrg (by omega) (by omega) F1 N1 ⟨_, #[], 0, ⟨rfl, rfl, rfl, rfl, rfl, rfl, rfl, rfl, trivial⟩, rfl, .nil, by simp_all⟩ ?_ ?_
  · rintro i ti m₁ nx h tk I oI hil ⟨dC, cs, cn, hv, rfl, hcs, q1, q2, q3⟩ hne F N
    rw [overX hv] at F
    clear hv F1 N1 hrg
    rw [Int.toNat_natCast] at hil
    obtain ⟨v, hvk⟩ : ∃ v, V'[i]? = some v := ⟨V'[i], List.getElem?_eq_getElem hil⟩
    have hvr := hVr v (List.mem_of_getElem? hvk)
    have hCv := hC i v hvk
    have i1 : @Ne Nat dC I := hne _ (.head _)
    have i1S := Ne.symm i1
    have i2 : @Ne Nat dF I := hne _ (.tail _ (.head _))
    have i2S := Ne.symm i2
    have i3 : @Ne Nat vl I := hne _ (.tail _ (.tail _ (.head _)))
    have i3S := Ne.symm i3
    have i4 : @Ne Nat (L + 1) I := hne _ (.tail _ (.tail _ (.tail _ (.head _))))
    have i4S := Ne.symm i4
    have hcl : cs.size ≤ i := by have := hcs.length; rw [List.length_take] at this; simp at this; omega
    clear hne
    dsimp only [over] at F
    replace F : Fr h₀ L _ _ := F
    replace N : News h₀ L _ _ := N
    dsimp only [List.cons_append, List.nil_append] at N
    k_steps
    all_goals have hvE : V'.getD ((i : Nat) : Int).toNat 0 = v := by rw [Int.toNat_natCast, List.getD_eq_getElem?_getD, hvk]; rfl
    all_goals have hP2 : (ps.getD ((i : Int).fmod (ps.length : Int)).toNat 0 + (i : Int)).fmod 2 = ((pickAt ps i % 2 : Nat) : Int) := by rw [pick_eq hpos hr]; exact fm (m := 2)
    · rename Fr _ _ _ _ => F2
      rename News _ _ _ _ => N2
      exact Turn.next [(dC, _), (dF, _), (vl, _), (L + 1, _)] F2 N2 (.tail _ (.tail _ (.tail _ (.tail _ (.head _))))) (four_in (.head _) (.tail _ (.head _)) (.tail _ (.tail _ (.head _))) (.tail _ (.tail _ (.tail _ (.head _))))) (four_off i1 i2 i3 i4) ⟨_, _, _, ⟨rfl, rfl, rfl, rfl, rfl, rfl, rfl, rfl, trivial⟩, rfl, intsAre_push hcs hCv (by unfold caseV; rw [if_pos (by omega), hvE]), q1, q2, q3⟩
    · rename Fr _ _ _ _ => F2
      rename News _ _ _ _ => N2
      exact Turn.next [(dC, _), (dF, _), (vl, _), (L + 1, _)] F2 N2 (.tail _ (.tail _ (.tail _ (.tail _ (.head _))))) (four_in (.head _) (.tail _ (.head _)) (.tail _ (.tail _ (.head _))) (.tail _ (.tail _ (.tail _ (.head _))))) (four_off i1 i2 i3 i4) ⟨_, _, _, ⟨rfl, rfl, rfl, rfl, rfl, rfl, rfl, rfl, trivial⟩, rfl, intsAre_push hcs hCv (by unfold caseV; rw [if_neg (by omega), if_pos (by omega), hvE]), q1, q2, q3⟩
    · rename Fr _ _ _ _ => F2
      rename News _ _ _ _ => N2
      exact Turn.next [(dC, _), (dF, _), (vl, _), (L + 1, _)] F2 N2 (.tail _ (.tail _ (.tail _ (.tail _ (.head _))))) (four_in (.head _) (.tail _ (.head _)) (.tail _ (.tail _ (.head _))) (.tail _ (.tail _ (.tail _ (.head _))))) (four_off i1 i2 i3 i4) ⟨_, _, _, ⟨rfl, rfl, rfl, rfl, rfl, rfl, rfl, rfl, trivial⟩, rfl, intsAre_push hcs hCv (by unfold caseV; rw [if_neg (by omega), if_neg (by omega), hvE]), q1, q2, q3⟩
  · rintro m₁ nx h tk ⟨dC, cs, cn, hv, rfl, hcs, q1, q2, q3⟩ F N
    rw [overV hv] at F
    rw [Int.toNat_natCast, ← hCl, List.take_length] at hcs
    clear hv F1 N1
    dsimp only [over] at F
    replace F : Fr h₀ L _ _ := F
    replace N : News h₀ L _ _ := N
    (try dsimp only)
    (try k_fold)
    k_steps
    exact ret _ _ _ _ F (news_sub N (four_sub (.head _) (.tail _ (.head _)) (.tail _ (.tail _ (.tail _ (.head _)))))) ⟨_, _, _, _, _, _, _, _, ⟨rfl, rfl, rfl, rfl, rfl, rfl, rfl, trivial⟩, rfl, hcs, hys⟩
end
section -- F4
open PySem PySem.W PyProof.Rows
theorem folded_eq (w : World) (l : List Nat) (t : Tok) (FD : List Nat) (hx : ∀ c ∈ l, c < 128) (hl : l.length ≤ 60) (hz : FD.length ≤ 60) (h : (l.map foldC).flatten = FD) :
    Spec w 2 255 [.str (txt l) t] [] (fun _ => True) (fun _ v _ => ∃ t', v = .str (txt FD) t') := by
  have := folded_str w l t (by omega) (fun c hc => .inl (hx c hc)) (by rw [h]; omega)
  rw [h] at this
  exact this
theorem item_last {prog : Program} {w : World} {A : Around} {E : Value → Shared → Prop} {s : Shared} {h₀ : Heap} {L : Addr} {news : List (Addr × Obj)} {value slice : Expr} {D : Addr} {cs : Array Value} {n : Nat} {C : List Int} {x : Int} {u : Tok} {Q : Value → Shared → Prop} (N : News h₀ L s.heap news) (hm : (D, listOf cs n) ∈ news) (hi : IntsAre cs.toList C) (hx : C.getLast? = some x) (hz : C.length ≤ 1000) (h : ∀ t', Q (.int x t') s)
    (hs : subscripted slice false (.ref D) (.int (-1) u) = operate [.ref D, .int (-1) u] (getItem (.ref D) (.int (-1) u)) := by with_unfolding_all rfl) :
    wpAny (model prog w) A (subscriptTail value slice (.ref D) (.int (-1) u)) Q E s := by
  have hl := N.isList hm
  have hlen : cs.size = C.length := by have := hi.length; simpa using this
  have hpos : 0 < C.length := by
    cases C with
    | nil => cases hx
    | cons _ _ => simp
  rw [List.getLast?_eq_getElem?] at hx
  have hc : C.length - 1 < C.length := by omega
  obtain ⟨t, ht⟩ := hi.get (C.length - 1) x hx
  refine tail_any hl.typeIs slot_list_getitem.lookup (wpAny_getItem_list_neg (x := .int x t) hl (by decide) (by rw [hlen]; omega) (by decide) ?_ (h t)) hs
  rw [hlen, show ((-1 : Int) + (C.length : Int)).toNat = C.length - 1 by omega, ← Array.getElem?_toList]
  exact ht
set_option maxHeartbeats 4000000 in
theorem seg5 (w : World) (a b : Addr) (oc : Obj) (size : Nat) (C : List Int) (W FD O G : List Nat) (R : Array UInt8) (hsz : size ≤ 17) (hCl : C.length ≤ 40) (hCl' : C.length ≤ 100) (hCr : ∀ n ∈ C, 0 ≤ n ∧ n < 64) (hO : written C size = O) (hOa : ∀ c ∈ O, c < 128) (hOl : O.length ≤ 60) (hend : decEnd (cInts O)) (hR : bts (decode (cInts O)) = R) (hR2 : bts (lawOctets C size) = R) (x : Int) (hx : C.getLast? = some x)
    (hFl : FD.length ≤ 60) (hF : (O.map foldC).flatten = FD) (hRz : R.size ≤ 20) (hez : (bts (encode (KBw.bInts R))).size ≤ 100) (hG : chrs (bts (encode (KBw.bInts R))) = G) (hK : (txt G == txt O) = (x.fmod (4 ^ ((-(size : Int)).fmod 3).toNat) == 0)) :
    SegC w [stm 38 9, stm 38 10, stm 38 11]
      (fun _ L m news => ∃ t t2 t3 dF ys dC cs cn, Vals [Str.ofString "cased", Str.ofString "folded", Str.ofString "folds", Str.ofString "writing", Str.ofString "size", Str.ofString "row", Str.ofString "picks"] [.ref dC, .str (txt FD) t3, .ref dF, .str (txt W) t2, .int (size : Int) t, .ref a, .ref b] m ∧ news = [(dC, listOf cs cn), (dF, LCg.lst ys), (L + 1, oc)] ∧ IntsAre cs.toList C ∧ TxtsAre ys (W.map foldC))
      (fun _ L m news => ∃ t2 t3 dF ys, Vals [Str.ofString "folded", Str.ofString "folds", Str.ofString "writing", Str.ofString "row", Str.ofString "picks"] [.str (txt FD) t3, .ref dF, .str (txt W) t2, .ref a, .ref b] m ∧ news = [(dF, LCg.lst ys), (L + 1, oc)] ∧ TxtsAre ys (W.map foldC)) := by
  k_with_none
  k_with "exec" => ((with_reducible show wpAny _ _ (exec (stm _ _) _) _ _ _); k_dflt (conv => arg 3; arg 1; whnf))
  k_with "call type:type" => ((with_reducible show wpAny _ _ (call (Value.type "type") [Value.bytes _ _]) _ _ _); refine type_bytes ?_)
  k_with "getMethod str" => ((with_reducible show wpAny _ _ (getMethod (Value.str _ _) (PySem.Str.ofString "encode") _) _ _ _); refine encode_get ?_)
  k_with "call builtin:str.encode" => (k_dflt (refine encode_call (by assumption) (by assumption) ?_); intro _)
  k_with "getMethod bytes" => (first | refine hex_get ?_ | refine bupper_get ?_)
  k_with "call builtin:bytes.hex" => (k_dflt (refine hex_call (by assumption) ?_); intro _)
  k_with "call builtin:bytes.upper" => (k_dflt (refine bupper_call (by assumption) ?_); intro _)
  k_with "compareOp In int ref" => ((with_reducible show wpAny _ _ (compareOp CmpOp.In (Value.int _ _) (Value.ref 170)) _ _ _); k_dflt (refine in170 (by k_in) ?_))
  k_with "getMethod ref" => ((with_reducible show wpAny _ _ (getMethod (Value.ref 181) _ _) _ _ _); k_dflt (refine meth181 (by k_in) ?_))
  k_with "call builtin:dict.get" => ((with_reducible show wpAny _ _ (call (Value.builtin "dict.get") [Value.ref 181, Value.int _ _]) _ _ _); k_dflt (refine get181 (by k_in) ?_))
  k_with "call builtin:list.append" => (k_dflt (refine' append_K ?k1 ?k2 ?k3 ?_ ?z; (case k1 => k_asm); (case k2 => k_asm); (case k3 => k_upd); (case z => (rw [sizeLine_eq]; (try simp only [Array.size_push, Array.size_empty]); omega))); intro h' F' N'; (try k_sweep))
  k_with "binaryOp LShift int int" => (k_dflt (refine' lshift_int_small ?a ?b ?c ?_; (case a => omega); (case b => omega); (case c => (first | omega | (simp only [bitAnd_m6, bitAnd_m2, bitAnd_m4]; omega)))))
  k_with "subscriptTail" => ((with_reducible show wpAny _ _ (subscriptTail _ _ (Value.bytes _ _) (Value.int _ _)) _ _ _); k_dflt (refine' item_signs ?e ?a ?b ?_; (case e => exact rfl); (case a => (simp only [bitAnd_m6, bitAnd_m2, bitAnd_m4, Int.reduceToNat, Int.reducePow]; omega)); (case b => (simp only [bitAnd_m6, bitAnd_m2, bitAnd_m4, Int.reduceToNat, Int.reducePow]; omega))); intro _)
  k_with "call ref" => ((with_reducible show wpAny _ _ (call (Value.ref 255) _ _) _ _ _); k_dflt (refine' use_spec (folded_eq _ _ _ _ (by assumption) (by assumption) (by assumption) (by assumption)) ?V ?F ?N ?P ?D ?U ?_; (case V => assumption); (case F => k_asm); (case N => k_asm); (case P => first | trivial | assumption); (case D => (dsimp only; omega)); (case U => (dsimp only; omega))); intro v9 h9 tk9 F9 N9 k9 p9; (first | subst p9 | (obtain ⟨t9, p9⟩ := p9; subst p9)); (try k_sweep); (try dsimp only))
  k_with "call ref" => ((with_reducible show wpAny _ _ (call (Value.ref 139) _ _) _ _ _); k_dflt (refine' use_spec (b64encode_spec _ _ _ (by assumption)) ?V ?F ?N ?P ?D ?U ?_; (case V => assumption); (case F => k_asm); (case N => k_asm); (case P => first | trivial | assumption); (case D => (dsimp only; omega)); (case U => (dsimp only; omega))); intro v9 h9 tk9 F9 N9 k9 p9; (first | subst p9 | (obtain ⟨t9, p9⟩ := p9; subst p9)); (try k_sweep); (try dsimp only))
  k_with "call ref" => ((with_reducible show wpAny _ _ (call (Value.ref 250) _ _) _ _ _); k_dflt (refine' use_spec (signs_eq _ _ _ _ (by assumption) (by assumption)) ?V ?F ?N ?P ?D ?U ?_; (case V => assumption); (case F => k_asm); (case N => k_asm); (case P => first | trivial | assumption); (case D => (dsimp only; omega)); (case U => (dsimp only; omega))); intro v9 h9 tk9 F9 N9 k9 p9; (first | subst p9 | (obtain ⟨t9, p9⟩ := p9; subst p9)); (try k_sweep); (try dsimp only))
  k_with "call ref" => ((with_reducible show wpAny _ _ (call (Value.ref 147) _ _) _ _ _); k_dflt (refine' use_spec (decode_eq _ _ _ _ (by assumption) (by assumption) (by assumption) (by assumption)) ?V ?F ?N ?P ?D ?U ?_; (case V => assumption); (case F => k_asm); (case N => k_asm); (case P => first | trivial | assumption); (case D => (dsimp only; omega)); (case U => (dsimp only; omega))); intro v9 h9 tk9 F9 N9 k9 p9; (first | subst p9 | (obtain ⟨t9, p9⟩ := p9; subst p9)); (try k_sweep); (try dsimp only))
  k_with "call ref" => ((with_reducible show wpAny _ _ (call (Value.ref 245) _ _) _ _ _); k_dflt (refine' use_spec (written_eq _ _ _ _ _ _ _ (by assumption) (by assumption) (by assumption) (by assumption)) ?V ?F ?N ?P ?D ?U ?_; (case V => assumption); (case F => k_asm); (case N => k_asm); (case P => is_list); (case D => (dsimp only; omega)); (case U => (dsimp only; omega))); intro v9 h9 tk9 F9 N9 k9 p9; (obtain ⟨t9, p9⟩ := p9; subst p9); (try k_sweep); (try dsimp only))
  k_with "call ref" => ((with_reducible show wpAny _ _ (call (Value.ref 240) _ _) _ _ _); k_dflt (refine' use_spec (octets_eq _ _ _ _ _ _ _ (by assumption) (by assumption) (by assumption) (by assumption)) ?V ?F ?N ?P ?D ?U ?_; (case V => assumption); (case F => k_asm); (case N => k_asm); (case P => is_list); (case D => (dsimp only; omega)); (case U => (dsimp only; omega))); intro v9 h9 tk9 F9 N9 k9 p9; (obtain ⟨t9, p9⟩ := p9; subst p9); (try k_sweep); (try dsimp only))
  k_with "compareOp NotEq str str" => ((with_reducible show wpAny _ _ (compareOp CmpOp.NotEq (Value.str (txt _) _) (Value.str (txt _) _)) _ _ _); k_dflt (refine ne_txt ?_))
  k_with "compareOp NotEq bytes bytes" => (k_dflt (refine ne_same ?_))
  k_with "subscriptTail" => ((with_reducible show wpAny _ _ (subscriptTail _ _ (Value.ref _) (Value.int (-1) _)) _ _ _); k_dflt (refine' item_last ?N ?m (by assumption) (by assumption) (by omega) ?_; (case N => k_asm); (case m => first | exact .head _ | exact .tail _ (.head _) | exact .tail _ (.tail _ (.head _)))); intro tq)
  rintro dp un fr gd h₀ L s m news Q V hd hu F N ⟨t, t2, t3, dF, ys, dC, cs, cn, hv, rfl, hcs, hys⟩ ret
  rw [overV hv] at F
  clear hv
  dsimp only [over] at F
  have X := V.k
  obtain ⟨p, loose, mean, mg, mb, T⟩ := V.t
  unfold carE at *
  have hsc : sco 38 = sco 38 := rfl
  (conv at hsc => rhs; whnf)
  rw [hsc] at *
  clear hsc
  (try dsimp only)
  (try k_fold)
  k_steps
  · exfalso
    rename (_ != _) = true => hbad
    rw [hK] at hbad
    simp at hbad
  · rename Fr _ _ _ _ => F4
    rename News _ _ _ _ => N4
    exact ret _ _ _ _ F4 (news_sub N4 (two_in (.tail _ (.tail _ (.head _))) (.tail _ (.tail _ (.tail _ (.head _)))))) ⟨_, _, _, _, ⟨rfl, rfl, rfl, rfl, rfl, trivial⟩, rfl, hys⟩
end
section -- F5
open PySem PySem.W PyProof.Rows
theorem txt_bne (a b : List Nat) : (txt a != txt b) = (a != b) := by
  by_cases h : a = b
  · subst h; simp
  · have h1 : (a != b) = true := by simpa using h
    have h2 : (txt a != txt b) = true := by
      rw [bne_iff_ne]
      intro e
      exact h (by simpa [txt] using e)
    rw [h1, h2]
theorem bools_of {B : List Bool} {zs : List Value} (hl : zs.length = B.length) (h : ∀ (i : Nat) y, zs[i]? = some y → ∃ b, B[i]? = some b ∧ y = Value.bool b) : zs = B.map Value.bool := by
  apply List.ext_getElem? fun i => ?_
  rw [List.getElem?_map]
  cases hz : zs[i]? with
  | none =>
    have : B[i]? = none := by rw [List.getElem?_eq_none_iff] at hz ⊢; omega
    rw [this]; rfl
  | some y =>
    obtain ⟨b, hb, rfl⟩ := h i y hz
    rw [hb]; rfl
noncomputable def toldOf (W : List Nat) : List Bool := W.map fun c => foldC c != [c]
set_option maxHeartbeats 4000000 in
theorem seg6 (w : World) (a b : Addr) (oc : Obj) (W FD : List Nat) (hWa : ∀ c ∈ W, c < 128) (hWl : W.length ≤ 60) :
    SegC w [stm 38 12]
      (fun _ L m news => ∃ t2 t3 dF ys, Vals [Str.ofString "folded", Str.ofString "folds", Str.ofString "writing", Str.ofString "row", Str.ofString "picks"] [.str (txt FD) t3, .ref dF, .str (txt W) t2, .ref a, .ref b] m ∧ news = [(dF, LCg.lst ys), (L + 1, oc)] ∧ TxtsAre ys (W.map foldC))
      (fun _ L m news => ∃ t3 dT dM, Vals [Str.ofString "told", Str.ofString "mask", Str.ofString "folded", Str.ofString "row", Str.ofString "picks"] [.ref dT, .ref dM, .str (txt FD) t3, .ref a, .ref b] m ∧ news = [(dM, listOf #[] 0), (dT, LCg.lst ((toldOf W).map Value.bool)), (L + 1, oc)] ∧ @LT.lt Nat _ dT dM ∧ @LT.lt Nat _ (L + 1) dM ∧ @Ne Nat (L + 1) dT) := by
  k_with_none
  k_with "exec" => ((with_reducible show wpAny _ _ (exec (stm _ _) _) _ _ _); k_dflt (conv => arg 3; arg 1; whnf))
  k_with "call type:type" => ((with_reducible show wpAny _ _ (call (Value.type "type") [Value.bytes _ _]) _ _ _); refine type_bytes ?_)
  k_with "getMethod str" => ((with_reducible show wpAny _ _ (getMethod (Value.str _ _) (PySem.Str.ofString "encode") _) _ _ _); refine encode_get ?_)
  k_with "call builtin:str.encode" => (k_dflt (refine encode_call (by assumption) (by assumption) ?_); intro _)
  k_with "getMethod bytes" => (first | refine hex_get ?_ | refine bupper_get ?_)
  k_with "call builtin:bytes.hex" => (k_dflt (refine hex_call (by assumption) ?_); intro _)
  k_with "call builtin:bytes.upper" => (k_dflt (refine bupper_call (by assumption) ?_); intro _)
  k_with "compareOp In int ref" => ((with_reducible show wpAny _ _ (compareOp CmpOp.In (Value.int _ _) (Value.ref 170)) _ _ _); k_dflt (refine in170 (by k_in) ?_))
  k_with "getMethod ref" => ((with_reducible show wpAny _ _ (getMethod (Value.ref 181) _ _) _ _ _); k_dflt (refine meth181 (by k_in) ?_))
  k_with "call builtin:dict.get" => ((with_reducible show wpAny _ _ (call (Value.builtin "dict.get") [Value.ref 181, Value.int _ _]) _ _ _); k_dflt (refine get181 (by k_in) ?_))
  k_with "call builtin:list.append" => (k_dflt (refine' append_K ?k1 ?k2 ?k3 ?_ ?z; (case k1 => k_asm); (case k2 => k_asm); (case k3 => k_upd); (case z => (rw [sizeLine_eq]; (try simp only [Array.size_push, Array.size_empty]); omega))); intro h' F' N'; (try k_sweep))
  k_with "binaryOp LShift int int" => (k_dflt (refine' lshift_int_small ?a ?b ?c ?_; (case a => omega); (case b => omega); (case c => (first | omega | (simp only [bitAnd_m6, bitAnd_m2, bitAnd_m4]; omega)))))
  k_with "subscriptTail" => ((with_reducible show wpAny _ _ (subscriptTail _ _ (Value.bytes _ _) (Value.int _ _)) _ _ _); k_dflt (refine' item_signs ?e ?a ?b ?_; (case e => exact rfl); (case a => (simp only [bitAnd_m6, bitAnd_m2, bitAnd_m4, Int.reduceToNat, Int.reducePow]; omega)); (case b => (simp only [bitAnd_m6, bitAnd_m2, bitAnd_m4, Int.reduceToNat, Int.reducePow]; omega))); intro _)
  k_with "eval ListComp" => ((with_reducible show wpAny _ _ (eval (Expr.ListComp _ [⟨Expr.Tuple _ _ _, _, _, _⟩] _ _) _) _ _ _); k_dflt (refine' comp_Z ?f ?a ?b ?c ?d ?e ?e2 ?x ?h; (case f => k_asm); (case a => exact rfl); (case b => decide +kernel); (case c => exact rfl); (case d => decide +kernel); (case e => exact rfl); (case e2 => exact rfl); (case x => decide +kernel)))
  rintro dp un fr gd h₀ L s m news Q V hd hu F N ⟨t2, t3, dF, ys, hv, rfl, hys⟩ ret
  rw [overV hv] at F
  clear hv
  dsimp only [over] at F
  have X := V.k
  obtain ⟨p, loose, mean, mg, mb, T⟩ := V.t
  unfold carE at *
  have hsc : sco 38 = sco 38 := rfl
  (conv at hsc => rhs; whnf)
  rw [hsc] at *
  clear hsc
  (try dsimp only)
  (try k_fold)
  k_steps
  refine zip_comp (fun i v => ∃ c, W[i]? = some c ∧ v = .bool (foldC c != [c])) rfl F N (.head _) hWa (by rw [hys.1, List.length_map]) (by rw [hys.1, List.length_map]; omega) ?_ ?_
  · rintro i y c u C oC m₂ h tk E' hy hc hC hx hx₂ F2 N2
    obtain ⟨k, t, hk, rfl⟩ := hys.2 i y hy
    rw [List.getElem?_map, hc] at hk
    cases hk
    clear F N hy
    k_steps
    exact congrArg Value.bool (txt_bne _ _)
  · intro D h tk zs F2 N2 o1 hzl hz
    clear F N
    k_steps
    have e := bools_of (B := toldOf W) (by rw [hzl, hys.1]; simp [toldOf]) fun i y hy => let ⟨c, hc, e⟩ := hz i y hy; ⟨_, by unfold toldOf; rw [List.getElem?_map, hc]; rfl, e⟩
    subst e
    rename Fr _ _ _ _ => F4
    rename News _ _ _ _ => N4
    exact ret _ _ _ _ F4 (news_sub N4 (four_sub (.tail _ (.head _)) (.tail _ (.tail _ (.head _))) (.tail _ (.tail _ (.tail _ (.tail _ (.head _))))))) ⟨_, _, _, ⟨rfl, rfl, rfl, rfl, rfl, trivial⟩, rfl, by simp_all, by simp_all, o1.2.1⟩
end
section -- F6
open PySem PySem.W PyProof.Rows
noncomputable def octOf (bs : List Bool) : Int := ((List.range 8).map fun j => if bs.getD j false then (2 : Int) ^ (7 - j) else 0).sum
noncomputable def maskOf (B : List Bool) : List Int := (List.range ((B.length + 7) / 8)).map fun k => octOf ((B.drop (8 * k)).take 8)
theorem clip_nat (n a : Nat) : clipAt n (a : Int) = min a n := by
  unfold clipAt
  rw [if_neg (Int.not_lt.mpr (Int.natCast_nonneg a))]
  omega
theorem slice8 (B : List Bool) (i : Nat) : (slicePick (B.map Value.bool).toArray (some (0 + (i : Int) * 8)) (some (0 + (i : Int) * 8 + 8)) none).toList = ((B.drop (8 * i)).take 8).map Value.bool := by
  have e1 : 0 + (i : Int) * 8 = ((8 * i : Nat) : Int) := by omega
  have e2 : 0 + (i : Int) * 8 + 8 = ((8 * i + 8 : Nat) : Int) := by omega
  rw [e2, e1, slicePick_plain]
  show ((B.map Value.bool).drop (clipAt _ ((8 * i : Nat) : Int))).take (clipAt _ ((8 * i + 8 : Nat) : Int) - clipAt _ ((8 * i : Nat) : Int)) = _
  rw [clip_nat, clip_nat, List.size_toArray, List.map_take, List.map_drop]
  generalize B.map Value.bool = l
  generalize 8 * i = a
  rw [kmk_drop_min]
  by_cases hl : a + 8 ≤ l.length
  · rw [Nat.min_eq_left hl, Nat.min_eq_left (Nat.le_trans (Nat.le_add_right _ _) hl), Nat.add_sub_cancel_left]
  · have h : ((l.drop a).length) = l.length - a := List.length_drop ..
    rw [List.take_of_length_le (by rw [h, Nat.min_eq_right (Nat.le_of_not_le hl)]; exact Nat.sub_le_sub_left (Nat.min_le_left _ _) _ |> fun x => by omega), List.take_of_length_le (by omega)]
theorem eight_get {bs : List Bool} (hb : bs.length ≤ 8) {j : Nat} (hj : j < 8) : ((bs.map Value.bool).toArray ++ #[Value.bool false, Value.bool false, Value.bool false, Value.bool false, Value.bool false, Value.bool false, Value.bool false, Value.bool false])[(0 + (j : Int)).toNat]? = some (Value.bool (bs.getD j false)) := by
  have e : (0 + (j : Int)).toNat = j := by omega
  rw [e]
  show (((bs.map Value.bool).toArray ++ ([Value.bool false, Value.bool false, Value.bool false, Value.bool false, Value.bool false, Value.bool false, Value.bool false, Value.bool false] : List Value).toArray))[j]? = _
  rw [List.append_toArray, List.getElem?_toArray]
  by_cases h : j < bs.length
  · rw [List.getElem?_append_left (by rw [List.length_map]; exact h), List.getElem?_map, List.getElem?_eq_getElem h, List.getD_eq_getElem?_getD, List.getElem?_eq_getElem h]; rfl
  · have hn : bs[j]? = none := List.getElem?_eq_none (by omega)
    rw [List.getElem?_append_right (by rw [List.length_map]; omega), List.length_map, List.getD_eq_getElem?_getD, hn]
    have : j - bs.length < 8 := by omega
    generalize j - bs.length = n at this
    have : n = 0 ∨ n = 1 ∨ n = 2 ∨ n = 3 ∨ n = 4 ∨ n = 5 ∨ n = 6 ∨ n = 7 := by omega
    rcases this with rfl | rfl | rfl | rfl | rfl | rfl | rfl | rfl <;> rfl
theorem ints_filter (f : Nat → Option Int) : ∀ (rs : List (Option Value)) (k : Nat), (∀ (i : Nat) y, rs[i]? = some y → (y = none ∧ f (i + k) = none) ∨ ∃ x t, y = some (Value.int x t) ∧ f (i + k) = some x) → IntsAre (rs.filterMap id) ((List.range' k rs.length).filterMap f)
  | [], _, _ => .nil
  | r :: rs, k, h => by
    have ih := ints_filter f rs (k + 1) fun i y hy => by
      have := h (i + 1) y hy
      rwa [show i + 1 + k = i + (k + 1) by omega] at this
    rw [List.length_cons, List.range'_succ, List.filterMap_cons, List.filterMap_cons]
    have h0 := h 0 r rfl
    rw [Nat.zero_add] at h0
    rcases h0 with ⟨rfl, e⟩ | ⟨x, t, rfl, e⟩
    · rw [e]; exact ih
    · rw [e]; exact .cons _ _ ih
noncomputable def octF (bs : List Bool) (j : Nat) : Option Int := if bs.getD j false then some ((2 : Int) ^ (7 - j)) else none
theorem sum_filter {f : Nat → Bool} {g : Nat → Int} : ∀ l : List Nat, (l.filterMap fun j => if f j then some (g j) else none).sum = (l.map fun j => if f j then g j else 0).sum
  | [] => rfl
  | a :: l => by
    rw [List.filterMap_cons, List.map_cons, List.sum_cons, ← sum_filter l]
    cases f a with
    | true => rfl
    | false => simp
theorem oct_sum (bs : List Bool) : ((List.range' 0 8).filterMap (octF bs)).sum = octOf bs := by
  unfold octF octOf
  rw [sum_filter (f := fun j => bs.getD j false) (g := fun j => (2 : Int) ^ (7 - j)), List.range_eq_range']
theorem bits_range (f : Nat → Bool) (g : Nat → Int) (hg : ∀ j, 0 ≤ g j) : ∀ l : List Nat, 0 ≤ (l.map fun j => if f j then g j else 0).sum ∧ (l.map fun j => if f j then g j else 0).sum ≤ (l.map g).sum
  | [] => ⟨Int.le_refl _, Int.le_refl _⟩
  | a :: l => by
    have ih := bits_range f g hg l
    have h : 0 ≤ (if f a then g a else 0) ∧ (if f a then g a else 0) ≤ g a := by
      cases f a
      · exact ⟨Int.le_refl _, hg a⟩
      · exact ⟨hg a, Int.le_refl _⟩
    rw [List.map_cons, List.map_cons, List.sum_cons, List.sum_cons]
    exact ⟨Int.add_nonneg h.1 ih.1, Int.add_le_add h.2 ih.2⟩
theorem octOf_range (bs : List Bool) : 0 ≤ octOf bs ∧ octOf bs < 256 := by
  have h := bits_range (fun j => bs.getD j false) (fun j => (2 : Int) ^ (7 - j)) (fun j => Int.le_of_lt (Int.pow_pos (by decide))) (List.range 8)
  exact ⟨h.1, Int.lt_of_le_of_lt h.2 (by decide)⟩
theorem three_off {a b c I : Addr} {x y z : Obj} (ha : @Ne Nat a I) (hb : @Ne Nat b I) (hc : @Ne Nat c I) : ∀ p ∈ [(a, x), (b, y), (c, z)], p.1 ≠ I := fun p hp => by
  rcases List.mem_cons.mp hp with rfl | hp
  · exact ha
  exact two_off hb hc p hp
theorem fits_long {i : Int} (h0 : -(2 ^ 63) ≤ i) (h1 : i < 2 ^ 63) : Builtin.Range.rangeFitsLong i = true := by
  unfold Builtin.Range.rangeFitsLong
  rw [decide_eq_true h0, decide_eq_true h1]; rfl
theorem small8 {n : Nat} (h : n ≤ 1000) : Builtin.Range.small 0 (n : Int) 8 = true := by
  unfold Builtin.Range.small
  have e : ∃ k : Int, Builtin.Range.rangeSize 0 (n : Int) 8 = k ∧ 0 ≤ k ∧ k ≤ 1000 := by
    unfold Builtin.Range.rangeSize
    rw [if_pos (by decide)]
    split
    · exact ⟨_, rfl, by omega, by omega⟩
    · exact ⟨_, rfl, by omega, by omega⟩
  obtain ⟨k, e, k0, k1⟩ := e
  rw [e, if_pos (by decide), fits_long (by omega) (by omega), fits_long (by omega) (by omega), fits_long (by omega) (by omega), fits_long (by omega) (by omega), fits_long (by omega) (by omega)]
  simp
theorem len_lst {prog : Program} {w : World} {A : Around} {E : Value → Shared → Prop} {s : Shared} {h₀ : Heap} {L D : Addr} {news : List (Addr × Obj)} {ys : List Value} {Q : Value → Shared → Prop} (N : News h₀ L s.heap news) (hm : (D, LCg.lst ys) ∈ news) (n : Nat) (hn : ys.length = n) (hz : n ≤ 1000) (h : ∀ t' k, Q (.int (n : Int) t') { s with toks := k }) : wpAny (model prog w) A (call (.builtin "len") [.ref D]) Q E s := by
  subst hn
  refine PySem.Calls.call_len_list (N.isList hm) (by simp only [List.size_toArray]; omega) ?_
  rw [List.size_toArray]
  exact h _ _
set_option maxHeartbeats 4000000 in
theorem seg7 (w : World) (a b : Addr) (oc : Obj) (v₀ : Option Value) (hoc : oc.data = .cell v₀) (B : List Bool) (FD : List Nat) (hB : B.length ≤ 24) :
    SegC w [lop 38 13]
      (fun _ L m news => ∃ t3 dT dM, Vals [Str.ofString "told", Str.ofString "mask", Str.ofString "folded", Str.ofString "row", Str.ofString "picks"] [.ref dT, .ref dM, .str (txt FD) t3, .ref a, .ref b] m ∧ news = [(dM, listOf #[] 0), (dT, LCg.lst (B.map Value.bool)), (L + 1, oc)] ∧ @LT.lt Nat _ dT dM ∧ @LT.lt Nat _ (L + 1) dM ∧ @Ne Nat (L + 1) dT)
      (fun _ L m news => ∃ t3 dM cs cn, Vals [Str.ofString "mask", Str.ofString "folded", Str.ofString "row", Str.ofString "picks"] [.ref dM, .str (txt FD) t3, .ref a, .ref b] m ∧ news = [(dM, listOf cs cn)] ∧ IntsAre cs.toList (maskOf B)) := by
  k_with_none
  k_with "exec" => ((with_reducible show wpAny _ _ (exec (stm _ _) _) _ _ _); k_dflt (conv => arg 3; arg 1; whnf))
  k_with "call type:type" => ((with_reducible show wpAny _ _ (call (Value.type "type") [Value.bytes _ _]) _ _ _); refine type_bytes ?_)
  k_with "getMethod str" => ((with_reducible show wpAny _ _ (getMethod (Value.str _ _) (PySem.Str.ofString "encode") _) _ _ _); refine encode_get ?_)
  k_with "call builtin:str.encode" => (k_dflt (refine encode_call (by assumption) (by assumption) ?_); intro _)
  k_with "getMethod bytes" => (first | refine hex_get ?_ | refine bupper_get ?_)
  k_with "call builtin:bytes.hex" => (k_dflt (refine hex_call (by assumption) ?_); intro _)
  k_with "call builtin:bytes.upper" => (k_dflt (refine bupper_call (by assumption) ?_); intro _)
  k_with "compareOp In int ref" => ((with_reducible show wpAny _ _ (compareOp CmpOp.In (Value.int _ _) (Value.ref 170)) _ _ _); k_dflt (refine in170 (by k_in) ?_))
  k_with "getMethod ref" => ((with_reducible show wpAny _ _ (getMethod (Value.ref 181) _ _) _ _ _); k_dflt (refine meth181 (by k_in) ?_))
  k_with "call builtin:dict.get" => ((with_reducible show wpAny _ _ (call (Value.builtin "dict.get") [Value.ref 181, Value.int _ _]) _ _ _); k_dflt (refine get181 (by k_in) ?_))
  k_with "call builtin:list.append" => (k_dflt (refine' append_K ?k1 ?k2 ?k3 ?_ ?z; (case k1 => k_asm); (case k2 => k_asm); (case k3 => k_upd); (case z => (rw [sizeLine_eq]; (try simp only [Array.size_push, Array.size_empty]); omega))); intro h' F' N'; (try k_sweep))
  k_with "binaryOp LShift int int" => (k_dflt (refine' lshift_int_small ?a ?b ?c ?_; (case a => omega); (case b => omega); (case c => (first | omega | (simp only [bitAnd_m6, bitAnd_m2, bitAnd_m4]; omega)))))
  k_with "subscriptTail" => ((with_reducible show wpAny _ _ (subscriptTail _ _ (Value.bytes _ _) (Value.int _ _)) _ _ _); k_dflt (refine' item_signs ?e ?a ?b ?_; (case e => exact rfl); (case a => (simp only [bitAnd_m6, bitAnd_m2, bitAnd_m4, Int.reduceToNat, Int.reducePow]; omega)); (case b => (simp only [bitAnd_m6, bitAnd_m2, bitAnd_m4, Int.reduceToNat, Int.reducePow]; omega))); intro _)
  k_with "eval ListComp" => ((with_reducible show wpAny _ _ (eval (Expr.ListComp _ [⟨Expr.Name _ _, _, [_], _⟩] _ _) _) _ _ _); k_dflt (refine' comp_T ?f ?a ?b ?c ?d ?e ?h; (case f => k_asm); (case a => exact rfl); (case b => decide +kernel); (case c => exact rfl); (case d => decide +kernel); (case e => exact rfl)))
  k_with "call builtin:len" => ((with_reducible show wpAny _ _ (call (Value.builtin "len") [Value.ref _]) _ _ _); k_dflt (refine' len_lst ?N ?m B.length ?e ?z ?_; (case N => k_asm); (case m => first | exact .head _ | exact .tail _ (.head _) | exact .tail _ (.tail _ (.head _))); (case e => exact List.length_map ..); (case z => omega)); intro tl kl)
  rintro dp un fr gd h₀ L s m news Q V hd hu F N ⟨t3, dT, dM, hv, rfl, q1, q2, q3⟩ ret
  rw [overV hv] at F
  clear hv
  dsimp only [over] at F
  have X := V.k
  obtain ⟨p, loose, mean, mg, mb, T⟩ := V.t
  unfold carE at *
  have hsc : sco 38 = sco 38 := rfl
  (conv at hsc => rhs; whnf)
  rw [hsc] at *
  clear hsc
  (try dsimp only)
  (try k_fold)
  k_steps
  (conv => arg 3; arg 1; whnf)
  refine For_invV h₀ (by rfl) (by rfl) ?_
  (try dsimp only)
  repeat ((fail_if_success (with_reducible show wpAny _ _ (pyIter _) _ _ _)); first | walk1 | (dsimp only; walk1))
  rename Fr _ _ _ _ => F1
  rename News _ _ _ _ => N1
  rename IsRange _ _ _ _ _ _ _ _ => hrg
  have hsz : Builtin.Range.rangeSize 0 (B.length : Int) 8 = (((B.length + 7) / 8 : Nat) : Int) := by
    unfold Builtin.Range.rangeSize
    rw [if_pos (by decide)]
    split <;> omega
  refine iter_range (fun _ _ i m nx => ∃ ov oc' cs cn, Vals [Str.ofString "told", Str.ofString "mask", Str.ofString "folded", Str.ofString "row", Str.ofString "picks"] [.ref dT, .ref dM, .str (txt FD) t3, .ref a, .ref b] m ∧ nx = [(dM, listOf cs cn), (dT, LCg.lst (B.map Value.bool)), (L + 1, oc')] ∧ oc'.data = .cell ov ∧ IntsAre cs.toList ((maskOf B).take i))
    rfl hrg ?_ hsz F1 N1 ⟨_, _, #[], 0, ⟨rfl, rfl, rfl, rfl, rfl, trivial⟩, rfl, hoc, .nil⟩ ?_ ?_
  · exact small8 (by omega)
  · rintro i ti m₁ nx h tk I oI hil ⟨ov, oc', cs, cn, hv, rfl, hoc', hcs⟩ hne F N
    rw [overX hv] at F
    clear hv F1 N1 hrg
    have i1 : @Ne Nat dM I := hne _ (.head _)
    have i1S := Ne.symm i1
    have i2 : @Ne Nat dT I := hne _ (.tail _ (.head _))
    have i2S := Ne.symm i2
    have i3 : @Ne Nat (L + 1) I := hne _ (.tail _ (.tail _ (.head _)))
    have i3S := Ne.symm i3
    have q1A := Nat.ne_of_lt q1
    have q1B := Nat.ne_of_gt q1
    have q2A := Nat.ne_of_lt q2
    have q2B := Nat.ne_of_gt q2
    have q3S := Ne.symm q3
    clear hne
    dsimp only [over] at F
    replace F : Fr h₀ L _ _ := F
    replace N : News h₀ L _ _ := N
    dsimp only [List.cons_append, List.nil_append] at N
    k_steps
    refine' kmk_slice_lit (s := { heap := h, gens := s.gens, drawn := s.drawn, toks := _, os := s.os }) F N (N.isList (.tail _ (.head _))) (.int _ _) (.int _ _) (slice8 B i) ?_ ?hs ?ht ?hz
    case hs => with_unfolding_all rfl
    case ht => intro _; with_unfolding_all rfl
    case hz => rw [sizeLine_eq]; simp; omega
    intro D2 h2 F2 N2 l2
    clear F N
    k_steps
    rename Fr _ _ _ _ => F3
    rename News _ _ _ _ => N3
    refine add_lists' F3 N3 (N3.isList (.tail _ (.tail _ (.head _)))) (N3.isList (.head _)) (by rw [sizeLine_eq]; simp; omega) fun D4 h4 F4 N4 l4 => ?_
    have m1 : @LT.lt Nat _ dM D4 := l4 (dM, _) (.tail _ (.tail _ (.tail _ (.head _))))
    have m2 : @LT.lt Nat _ dT D4 := l4 (dT, _) (.tail _ (.tail _ (.tail _ (.tail _ (.head _)))))
    have m3 : @LT.lt Nat _ (L + 1) D4 := l4 (L + 1, _) (.tail _ (.tail _ (.tail _ (.tail _ (.tail _ (.head _))))))
    have m4 : @LT.lt Nat _ I D4 := l4 (I, _) (.tail _ (.tail _ (.tail _ (.tail _ (.tail _ (.tail _ (.head _)))))))
    replace N4 := news_sub (news' := [(D4, _), (dM, _), (dT, _), (L + 1, _), (I, _)]) N4 (fun p hp => by
      rcases List.mem_cons.mp hp with rfl | hp
      · exact .head _
      · exact .tail _ (.tail _ (.tail _ (.tail _ hp))))
    clear F3 N3 l4 l2
    generalize hbs : (B.drop (8 * i)).take 8 = bs at N4
    k_steps
    rename Fr _ _ _ _ => F5
    rename News _ _ _ _ => N5
    rename IsRange _ _ _ _ _ _ _ _ => hr8
    refine ⟨_, _, fun j r => r = none ∧ bs.getD j false = false ∨ ∃ t, r = some (Value.int (2 ^ (7 - j)) t) ∧ bs.getD j false = true, _, F5, N5, src_range rfl hr8 (by decide) (n := 8) (by decide), by rw [sizeLine_eq]; omega, ?_, ?_⟩
    · rintro j v I' oI' C oC D m₂ h tk ys E' hj ⟨tj, rfl⟩ hC hx F6 N6
      clear F5 N5 hr8
      k_steps
      have hbl : bs.length ≤ 8 := by rw [← hbs, List.length_take]; omega
      refine PyProof.Rows.item_list (N6.isList (.tail _ (.tail _ (.tail _ (.head _))))) (by omega) (by omega) (eight_get hbl hj) ?_
      generalize hbj : bs.getD j false = bj
      cases bj
      · k_steps
        exact EltEnd.intro F6 N6 (fun p h => h) (.inl ⟨rfl, rfl⟩)
      · k_steps
        exact EltEnd.intro F6 N6 (fun p h => h) (.inr ⟨_, by rw [show (7 - (0 + (j : Int))).toNat = 7 - j by omega], rfl⟩)
    · intro D h tk rs F6 N6 o1 hrl hry
      clear F5 N5 hr8
      have hks : IntsAre (rs.filterMap id) ((List.range' 0 8).filterMap (octF bs)) := by
        have := ints_filter (octF bs) rs 0 fun i y hy => by
          rcases hry i y hy with ⟨e1, e2⟩ | ⟨t, e1, e2⟩
          · exact .inl ⟨e1, by unfold octF; rw [Nat.add_zero, e2]; rfl⟩
          · exact .inr ⟨_, t, e1, by unfold octF; rw [Nat.add_zero, e2]; rfl⟩
        rwa [hrl] at this
      have hsum := oct_sum bs
      have hor := octOf_range bs
      generalize (List.range' 0 8).filterMap (octF bs) = ks at hks hsum
      have hcl : cs.size ≤ i := by have := hcs.length; rw [List.length_take] at this; simp at this; omega
      have hmk : (maskOf B)[i]? = some (octOf bs) := by
        unfold maskOf
        rw [List.getElem?_map, List.getElem?_range hil, ← hbs]; rfl
      obtain ⟨e1, e2, e3, e4, e5, _⟩ := id o1
      replace e1 : @Ne Nat D4 D := e1
      replace e2 : @Ne Nat dM D := e2
      replace e3 : @Ne Nat dT D := e3
      replace e4 : @Ne Nat (L + 1) D := e4
      replace e5 : @Ne Nat I D := e5
      k_steps
      rename Fr _ _ _ _ => F7
      rename News _ _ _ _ => N7
      exact Turn.next [(dM, _), (dT, _), (L + 1, _)] F7 N7 (.tail _ (.tail _ (.tail _ (.tail _ (.tail _ (.head _)))))) (four_sub (.tail _ (.tail _ (.head _))) (.tail _ (.tail _ (.tail _ (.head _)))) (.tail _ (.tail _ (.tail _ (.tail _ (.head _)))))) (three_off i1 i2 i3) ⟨_, _, _, _, ⟨rfl, rfl, rfl, rfl, rfl, trivial⟩, rfl, by assumption, intsAre_push hcs hmk hsum⟩
  · rintro m₁ nx h tk ⟨ov, oc', cs, cn, hv, rfl, hoc', hcs⟩ F N
    rw [overV hv] at F
    rw [List.take_of_length_le (by unfold maskOf; simp)] at hcs
    clear hv F1 N1
    dsimp only [over] at F
    replace F : Fr h₀ L _ _ := F
    replace N : News h₀ L _ _ := N
    (try dsimp only)
    (try k_fold)
    k_steps
    exact ret _ _ _ _ F (news_sub N fun p hp => by rw [List.mem_singleton.mp hp]; exact .head _) ⟨_, _, _, _, ⟨rfl, rfl, rfl, rfl, trivial⟩, rfl, hcs⟩
end
section -- F7
open PySem PySem.W PyProof.Rows
noncomputable def hexB (b : Array UInt8) : Array UInt8 := (((hexOut b).map (·.toUInt8)).toList.map Builtin.Bytes.toUpper).toArray
theorem b16encode_eq (w : World) (b : Array UInt8) (t : Tok) (G : Array UInt8) (hl : (hexOut b).size ≤ 1000) (hx : ∀ c ∈ (hexOut b), c < 128) (h : hexB b = G) :
    Spec w 3 154 [.bytes b t] [] (fun _ => True) (fun _ v _ => ∃ t', v = .bytes G t') := by
  subst h
  exact b16encode_spec w b t (by rw [sizeLine_eq]; omega) (by rw [sizeLine_eq]; show (hexOut b).size ≤ _; omega) hx (by rw [sizeLine_eq, Array.size_map]; omega)
noncomputable def hexU (n : Nat) : Nat := if n < 10 then 48 + n else 55 + n
noncomputable def hexT (MK : List Int) : List (List Nat) := MK.map fun n => [hexU (n / 16).toNat, hexU (n % 16).toNat]
theorem hex_item0 : ∀ k < 16, Txt.item (Str.ofString "0123456789ABCDEF") ((k : Nat) : Int) = txt [hexU k] := by decide +kernel
theorem hex_item {k : Int} (h0 : 0 ≤ k) (h1 : k < 16) : Txt.item (Str.ofString "0123456789ABCDEF") k = txt [hexU k.toNat] := by
  have := hex_item0 k.toNat (by omega)
  rwa [Int.toNat_of_nonneg h0] at this
theorem hex_pair {n : Int} (h0 : 0 ≤ n) (h1 : n < 256) : Txt.item (Str.ofString "0123456789ABCDEF") (n.fdiv 16) ++ Txt.item (Str.ofString "0123456789ABCDEF") (n.fmod 16) = txt [hexU (n / 16).toNat, hexU (n % 16).toNat] := by
  have e1 : n.fdiv 16 = n / 16 := Int.fdiv_eq_ediv_of_nonneg _ (by decide)
  have e2 : n.fmod 16 = n % 16 := Int.fmod_eq_emod_of_nonneg _ (by decide)
  rw [e1, e2, hex_item (by omega) (by omega), hex_item (by omega) (by omega), txt_append]; rfl
set_option maxHeartbeats 4000000 in
theorem seg8 (w : World) (a b : Addr) (MK : List Int) (FD PL : List Nat) (G : Array UInt8) (hMb : Byte MK) (hMl : MK.length ≤ 3) (hMl2 : MK.length ≤ 1000) (hxl : (hexOut (bts MK)).size ≤ 1000) (hx : ∀ c ∈ hexOut (bts MK), c < 128) (hG : hexB (bts MK) = G) (hGz : G.size ≤ 100) (hPL : chrs G = PL) (hPL2 : (hexT MK).flatten = PL) :
    SegC w [stm 38 14, stm 38 15, stm 38 16]
      (fun _ _ m news => ∃ t3 dM cs cn, Vals [Str.ofString "mask", Str.ofString "folded", Str.ofString "row", Str.ofString "picks"] [.ref dM, .str (txt FD) t3, .ref a, .ref b] m ∧ news = [(dM, listOf cs cn)] ∧ IntsAre cs.toList MK)
      (fun _ _ m news => ∃ t3 t4 dM cs cn, Vals [Str.ofString "plain", Str.ofString "mask", Str.ofString "folded", Str.ofString "row", Str.ofString "picks"] [.str (txt PL) t4, .ref dM, .str (txt FD) t3, .ref a, .ref b] m ∧ news = [(dM, listOf cs cn)] ∧ IntsAre cs.toList MK) := by
  k_with_none
  k_with "exec" => ((with_reducible show wpAny _ _ (exec (stm _ _) _) _ _ _); k_dflt (conv => arg 3; arg 1; whnf))
  k_with "call type:type" => ((with_reducible show wpAny _ _ (call (Value.type "type") [Value.bytes _ _]) _ _ _); refine type_bytes ?_)
  k_with "getMethod str" => ((with_reducible show wpAny _ _ (getMethod (Value.str _ _) (PySem.Str.ofString "encode") _) _ _ _); refine encode_get ?_)
  k_with "call builtin:str.encode" => (k_dflt (refine encode_call (by assumption) (by assumption) ?_); intro _)
  k_with "getMethod bytes" => (first | refine hex_get ?_ | refine bupper_get ?_)
  k_with "call builtin:bytes.hex" => (k_dflt (refine hex_call (by assumption) ?_); intro _)
  k_with "call builtin:bytes.upper" => (k_dflt (refine bupper_call (by assumption) ?_); intro _)
  k_with "compareOp In int ref" => ((with_reducible show wpAny _ _ (compareOp CmpOp.In (Value.int _ _) (Value.ref 170)) _ _ _); k_dflt (refine in170 (by k_in) ?_))
  k_with "getMethod ref" => ((with_reducible show wpAny _ _ (getMethod (Value.ref 181) _ _) _ _ _); k_dflt (refine meth181 (by k_in) ?_))
  k_with "call builtin:dict.get" => ((with_reducible show wpAny _ _ (call (Value.builtin "dict.get") [Value.ref 181, Value.int _ _]) _ _ _); k_dflt (refine get181 (by k_in) ?_))
  k_with "call builtin:list.append" => (k_dflt (refine' append_K ?k1 ?k2 ?k3 ?_ ?z; (case k1 => k_asm); (case k2 => k_asm); (case k3 => k_upd); (case z => (rw [sizeLine_eq]; (try simp only [Array.size_push, Array.size_empty]); omega))); intro h' F' N'; (try k_sweep))
  k_with "binaryOp LShift int int" => (k_dflt (refine' lshift_int_small ?a ?b ?c ?_; (case a => omega); (case b => omega); (case c => (first | omega | (simp only [bitAnd_m6, bitAnd_m2, bitAnd_m4]; omega)))))
  k_with "subscriptTail" => ((with_reducible show wpAny _ _ (subscriptTail _ _ (Value.bytes _ _) (Value.int _ _)) _ _ _); k_dflt (refine' item_signs ?e ?a ?b ?_; (case e => exact rfl); (case a => (simp only [bitAnd_m6, bitAnd_m2, bitAnd_m4, Int.reduceToNat, Int.reducePow]; omega)); (case b => (simp only [bitAnd_m6, bitAnd_m2, bitAnd_m4, Int.reduceToNat, Int.reducePow]; omega))); intro _)
  k_with "eval ListComp" => (k_dflt (refine' comp_U ?f ?a ?b ?c ?d ?e ?h; (case f => k_asm); (case a => exact rfl); (case b => decide +kernel); (case c => exact rfl); (case d => decide +kernel); (case e => exact rfl)))
  k_with "call ref" => ((with_reducible show wpAny _ _ (call (Value.ref 154) _ _) _ _ _); k_dflt (refine' use_spec (b16encode_eq _ _ _ _ (by assumption) (by assumption) (by assumption)) ?V ?F ?N ?P ?D ?U ?_; (case V => assumption); (case F => k_asm); (case N => k_asm); (case P => first | trivial | assumption); (case D => (dsimp only; omega)); (case U => (dsimp only; omega))); intro v9 h9 tk9 F9 N9 k9 p9; (first | subst p9 | (obtain ⟨t9, p9⟩ := p9; subst p9)); (try k_sweep); (try dsimp only))
  k_with "call ref" => ((with_reducible show wpAny _ _ (call (Value.ref 250) _ _) _ _ _); k_dflt (refine' use_spec (signs_eq _ _ _ _ (by assumption) (by assumption)) ?V ?F ?N ?P ?D ?U ?_; (case V => assumption); (case F => k_asm); (case N => k_asm); (case P => first | trivial | assumption); (case D => (dsimp only; omega)); (case U => (dsimp only; omega))); intro v9 h9 tk9 F9 N9 k9 p9; (first | subst p9 | (obtain ⟨t9, p9⟩ := p9; subst p9)); (try k_sweep); (try dsimp only))
  k_with "compareOp NotEq str str" => ((with_reducible show wpAny _ _ (compareOp CmpOp.NotEq (Value.str (txt _) _) (Value.str (txt _) _)) _ _ _); k_dflt (refine ne_txt ?_))
  rintro dp un fr gd h₀ L s m news Q V hd hu F N ⟨t3, dM, cs, cn, hv, rfl, hcs⟩ ret
  rw [overV hv] at F
  clear hv
  dsimp only [over] at F
  have X := V.k
  obtain ⟨p, loose, mean, mg, mb, T⟩ := V.t
  unfold carE at *
  have hsc : sco 38 = sco 38 := rfl
  (conv at hsc => rhs; whnf)
  rw [hsc] at *
  clear hsc
  (try dsimp only)
  (try k_fold)
  k_steps
  rename Fr _ _ _ _ => F1
  rename News _ _ _ _ => N1
  have hcl := hcs.length
  refine ⟨_, _, fun i y => ∃ k t, (hexT MK)[i]? = some k ∧ y = Value.str (txt k) t, _, F1, N1, src_list rfl F1 N1 (.inr ⟨cn, by first | exact .head _ | exact .tail _ (.head _) | exact .tail _ (.tail _ (.head _))⟩), by rw [sizeLine_eq, ← Array.length_toList]; omega, ?_, ?_⟩
  · rintro i v I oI C oC D m₂ h tk ys E' hil hv hC hx F2 N2
    obtain ⟨n, u, rfl, hn⟩ := hcs.at i v (by simpa using hv)
    obtain ⟨hr0, hr1⟩ := hMb n (List.mem_of_getElem? hn)
    clear F1 N1 hv
    k_steps
    rename Fr _ _ _ _ => F3
    rename News _ _ _ _ => N3
    exact EltEnd.intro F3 N3 (fun p h => h) ⟨_, _, by unfold hexT; rw [List.getElem?_map, hn]; rfl, by rw [hex_pair hr0 hr1]⟩
  · intro D h tk ys F2 N2 o1 hyl hy
    clear F1 N1
    k_steps
    have hpl : PL.length ≤ 6 := by
      rw [← hPL2]
      have : ∀ l : List Int, (hexT l).flatten.length = 2 * l.length := fun l => by
        induction l with
        | nil => rfl
        | cons a r ih =>
          show ([hexU (a / 16).toNat, hexU (a % 16).toNat] ++ (hexT r).flatten).length = _
          rw [List.length_append, ih, List.length_cons]
          show 2 + 2 * r.length = 2 * (r.length + 1)
          omega
      rw [this]; omega
    refine join_A N2 (.head _) (by rw [hyl, ← Array.length_toList, hcl]; simp [hexT]) hy (by simp [hexT]; omega) (by rw [hPL2]; omega) (fun t' k' => ?_)
    rw [hPL2]
    (try dsimp only)
    clear hyl hy
    k_steps
    rename Fr _ _ _ _ => F5
    rename News _ _ _ _ => N5
    exact ret _ _ _ _ F5 (news_sub N5 fun p hp => .tail _ hp) ⟨_, _, _, _, _, ⟨rfl, rfl, rfl, rfl, rfl, trivial⟩, rfl, hcs⟩
end
section -- F8
open PySem PySem.W PyProof.Rows
theorem spelled_eq (w : World) (l : List Nat) (t : Tok) (a : Addr) (vs : List Value) (ns : List Int) (hi : IntsAre vs ns) (hlen : ns.length ≤ 12) (hpos : 0 < ns.length) (hr : ∀ n ∈ ns, 0 ≤ n ∧ n < 10530) (hl : l.length ≤ 60) (hc : ∀ c ∈ l, c ≤ 64 ∨ (65 ≤ c ∧ c ≤ 90) ∨ (97 ≤ c ∧ c ≤ 122)) (S : List Nat) (h : (spelledAt ns l l.length).flatten = S) :
    Spec w 1 262 [.str (txt l) t, .ref a] [] (fun h => h.IsList a vs.toArray) (fun _ v _ => ∃ t', v = .str (txt S) t') := by
  subst h; exact spelled_spec w l t a vs ns hi hlen hpos hl hr hc
theorem colon_eq : Str.ofString ":" = txt [58] := by decide +kernel
section
variable {prog : Program} {w : World} {A : Around} {E : Value → Shared → Prop} {s : Shared} {l : List Nat} {t u : Tok} {Q : Value → Shared → Prop}
theorem add_colon (hz : l.length ≤ 10000) (h : ∀ t' k, Q (.str (txt (l ++ [58])) t') { s with toks := k }) : wpAny (model prog w) A (binaryOp .Add (.str (txt l) t) (.str (Str.ofString ":") u)) Q E s := by
  rw [colon_eq]; exact add_txt (by simp; omega) h
theorem colon_add (hz : l.length ≤ 10000) (h : ∀ t' k, Q (.str (txt (58 :: l)) t') { s with toks := k }) : wpAny (model prog w) A (binaryOp .Add (.str (Str.ofString ":") t) (.str (txt l) u)) Q E s := by
  rw [colon_eq]; exact add_txt (by simp; omega) h
end
noncomputable def lowC (c : Nat) : Nat := if c < 65 then c else c + 32
noncomputable def lowL (l : List Nat) : List Nat := l.map lowC
theorem strs_filter (p : Nat → Bool) : ∀ (l : List Nat) (rs : List (Option Value)), rs.length = l.length → (∀ (i : Nat) y, rs[i]? = some y → ∃ c, l[i]? = some c ∧ ((y = none ∧ p c = false) ∨ ∃ u, y = some (Value.str (txt [c]) u) ∧ p c = true)) → StrsAre (rs.filterMap id) ((l.filter p).map fun c => txt [c])
  | [], [], _, _ => .nil
  | [], _ :: _, h, _ => by cases h
  | _ :: _, [], h, _ => by cases h
  | c :: l, r :: rs, hl, h => by
    have ih := strs_filter p l rs (by simpa using hl) fun i y hy => h (i + 1) y hy
    rw [List.filterMap_cons, List.filter_cons]
    obtain ⟨c', e, h0⟩ := h 0 r rfl
    cases e
    rcases h0 with ⟨rfl, e⟩ | ⟨u, rfl, e⟩
    · rw [e]; exact ih
    · rw [e]; exact .cons _ _ ih
theorem folded_list_eq (w : World) (a : Addr) (vs : List Value) (l : List Nat) (hs : StrsAre vs (l.map fun c => txt [c])) (PR : List Nat) (h : (l.map foldC).flatten = PR) (hf : ∀ c ∈ l, Folds c) (hl : l.length ≤ 200) (hz : PR.length ≤ 1000) :
    Spec w 2 255 [.ref a] [] (fun h => h.IsList a vs.toArray) (fun _ v _ => ∃ t', v = .str (txt PR) t') := by
  subst h; exact folded_list w a vs l hs hl hf hz
set_option maxHeartbeats 4000000 in
theorem seg9 (w : World) (a b : Addr) (us : List Value) (ps MK : List Int) (FD PL SA SB : List Nat) (hj : IntsAre us ps) (hpl : ps.length ≤ 12) (hpos : 0 < ps.length) (hr : ∀ n ∈ ps, 0 ≤ n ∧ n < 10530) (hFl : FD.length ≤ 60) (hPl : PL.length ≤ 60)
    (hFc : ∀ c ∈ FD, c ≤ 64 ∨ (65 ≤ c ∧ c ≤ 90) ∨ (97 ≤ c ∧ c ≤ 122)) (hPc : ∀ c ∈ PL, c ≤ 64 ∨ (65 ≤ c ∧ c ≤ 90) ∨ (97 ≤ c ∧ c ≤ 122)) (hSA : (spelledAt ps FD FD.length).flatten = SA) (hSB : (spelledAt ps PL PL.length).flatten = SB) (hSAl : SA.length ≤ 1000) (hSBl : SB.length ≤ 1000) (KP : List Nat) (hKP : (SA ++ [58] ++ SB).filter (fun c => !inB1 (c : Int)) = KP) (hKf : ∀ c ∈ KP, Folds c) (hKl : KP.length ≤ 200) (hPR : (KP.map foldC).flatten = FD ++ [58] ++ lowL PL) (hPRl : (FD ++ [58] ++ lowL PL).length ≤ 1000) :
    SegC w [stm 38 17, stm 38 18]
      (fun h₀ _ m news => h₀.IsList b us.toArray ∧ ∃ t3 t4 dM cs cn, Vals [Str.ofString "plain", Str.ofString "mask", Str.ofString "folded", Str.ofString "row", Str.ofString "picks"] [.str (txt PL) t4, .ref dM, .str (txt FD) t3, .ref a, .ref b] m ∧ news = [(dM, listOf cs cn)] ∧ IntsAre cs.toList MK)
      (fun _ _ m news => ∃ t3 t4 t5 dM cs cn, Vals [Str.ofString "prepared", Str.ofString "plain", Str.ofString "mask", Str.ofString "folded", Str.ofString "row", Str.ofString "picks"] [.str (txt (FD ++ [58] ++ lowL PL)) t5, .str (txt PL) t4, .ref dM, .str (txt FD) t3, .ref a, .ref b] m ∧ news = [(dM, listOf cs cn)] ∧ IntsAre cs.toList MK) := by
  k_with_none
  k_with "exec" => ((with_reducible show wpAny _ _ (exec (stm _ _) _) _ _ _); k_dflt (conv => arg 3; arg 1; whnf))
  k_with "call type:type" => ((with_reducible show wpAny _ _ (call (Value.type "type") [Value.bytes _ _]) _ _ _); refine type_bytes ?_)
  k_with "getMethod str" => ((with_reducible show wpAny _ _ (getMethod (Value.str _ _) (PySem.Str.ofString "encode") _) _ _ _); refine encode_get ?_)
  k_with "call builtin:str.encode" => (k_dflt (refine encode_call (by assumption) (by assumption) ?_); intro _)
  k_with "getMethod bytes" => (first | refine hex_get ?_ | refine bupper_get ?_)
  k_with "call builtin:bytes.hex" => (k_dflt (refine hex_call (by assumption) ?_); intro _)
  k_with "call builtin:bytes.upper" => (k_dflt (refine bupper_call (by assumption) ?_); intro _)
  k_with "compareOp In int ref" => ((with_reducible show wpAny _ _ (compareOp CmpOp.In (Value.int _ _) (Value.ref 170)) _ _ _); k_dflt (refine in170 (by k_in) ?_))
  k_with "getMethod ref" => ((with_reducible show wpAny _ _ (getMethod (Value.ref 181) _ _) _ _ _); k_dflt (refine meth181 (by k_in) ?_))
  k_with "call builtin:dict.get" => ((with_reducible show wpAny _ _ (call (Value.builtin "dict.get") [Value.ref 181, Value.int _ _]) _ _ _); k_dflt (refine get181 (by k_in) ?_))
  k_with "call builtin:list.append" => (k_dflt (refine' append_K ?k1 ?k2 ?k3 ?_ ?z; (case k1 => k_asm); (case k2 => k_asm); (case k3 => k_upd); (case z => (rw [sizeLine_eq]; (try simp only [Array.size_push, Array.size_empty]); omega))); intro h' F' N'; (try k_sweep))
  k_with "binaryOp LShift int int" => (k_dflt (refine' lshift_int_small ?a ?b ?c ?_; (case a => omega); (case b => omega); (case c => (first | omega | (simp only [bitAnd_m6, bitAnd_m2, bitAnd_m4]; omega)))))
  k_with "subscriptTail" => ((with_reducible show wpAny _ _ (subscriptTail _ _ (Value.bytes _ _) (Value.int _ _)) _ _ _); k_dflt (refine' item_signs ?e ?a ?b ?_; (case e => exact rfl); (case a => (simp only [bitAnd_m6, bitAnd_m2, bitAnd_m4, Int.reduceToNat, Int.reducePow]; omega)); (case b => (simp only [bitAnd_m6, bitAnd_m2, bitAnd_m4, Int.reduceToNat, Int.reducePow]; omega))); intro _)
  k_with "eval ListComp" => (k_dflt (refine' comp_U ?f ?a ?b ?c ?d ?e ?h; (case f => k_asm); (case a => exact rfl); (case b => decide +kernel); (case c => exact rfl); (case d => decide +kernel); (case e => exact rfl)))
  k_with "eval ListComp" => ((with_reducible show wpAny _ _ (eval (Expr.ListComp _ [⟨Expr.Name _ _, _, [_], _⟩] _ _) _) _ _ _); k_dflt (refine' comp_T ?f ?a ?b ?c ?d ?e ?h; (case f => k_asm); (case a => exact rfl); (case b => decide +kernel); (case c => exact rfl); (case d => decide +kernel); (case e => exact rfl)))
  k_with "call ref" => ((with_reducible show wpAny _ _ (call (Value.ref 180) _ _) _ _ _); k_dflt (refine' use_spec (inb1_spec _ _ _) ?V ?F ?N ?P ?D ?U ?_; (case V => assumption); (case F => k_asm); (case N => k_asm); (case P => first | trivial | assumption); (case D => (dsimp only; omega)); (case U => (dsimp only; omega))); intro v9 h9 tk9 F9 N9 k9 p9; (first | subst p9 | (obtain ⟨t9, p9⟩ := p9; subst p9)); (try k_sweep); (try dsimp only))
  k_with "call ref" => ((with_reducible show wpAny _ _ (call (Value.ref 262) _ _) _ _ _); k_dflt (refine' use_spec (spelled_eq _ _ _ _ _ _ hj hpl hpos hr (by assumption) (by assumption) _ (by assumption)) ?V ?F ?N ?P ?D ?U ?_; (case V => assumption); (case F => k_asm); (case N => k_asm); (case P => is_list); (case D => (dsimp only; omega)); (case U => (dsimp only; omega))); intro v9 h9 tk9 F9 N9 k9 p9; (obtain ⟨t9, p9⟩ := p9; subst p9); (try k_sweep); (try dsimp only))
  k_with "binaryOp Add str str" => ((with_reducible show wpAny _ _ (binaryOp _ (Value.str (txt _) _) (Value.str (txt _) _)) _ _ _); k_dflt (refine' add_txt ?z ?_; (case z => (simp only [List.length_append, List.length_cons, List.length_nil]; omega))); intro ta ka)
  k_with "binaryOp Add str str" => ((with_reducible show wpAny _ _ (binaryOp _ (Value.str (txt _) _) (Value.str (Str.ofString _) _)) _ _ _); k_dflt (refine' add_colon ?z ?_; (case z => (try simp only [List.length_append, List.length_cons, List.length_nil]); omega)); intro ta ka)
  k_with "binaryOp Add str str" => ((with_reducible show wpAny _ _ (binaryOp _ (Value.str (Str.ofString _) _) (Value.str (txt _) _)) _ _ _); k_dflt (refine' colon_add ?z ?_; (case z => (try simp only [List.length_append, List.length_cons, List.length_nil]); omega)); intro ta ka)
  k_with "call ref" => ((with_reducible show wpAny _ _ (call (Value.ref 255) _ _) _ _ _); k_dflt (refine' use_spec (folded_list_eq _ _ _ _ (by assumption) _ (by assumption) (by assumption) (by assumption) (by assumption)) ?V ?F ?N ?P ?D ?U ?_; (case V => assumption); (case F => k_asm); (case N => k_asm); (case P => is_list); (case D => (dsimp only; omega)); (case U => (dsimp only; omega))); intro v9 h9 tk9 F9 N9 k9 p9; (obtain ⟨t9, p9⟩ := p9; subst p9); (try k_sweep); (try dsimp only))
  rintro dp un fr gd h₀ L s m news Q V hd hu F N ⟨hlb, t3, t4, dM, cs, cn, hv, rfl, hcs⟩ ret
  rw [overV hv] at F
  clear hv
  dsimp only [over] at F
  have X := V.k
  obtain ⟨p, loose, mean, mg, mb, T⟩ := V.t
  unfold carE at *
  have hsc : sco 38 = sco 38 := rfl
  (conv at hsc => rhs; whnf)
  rw [hsc] at *
  clear hsc
  (try dsimp only)
  (try k_fold)
  k_steps
  rename Fr _ _ _ _ => F1
  rename News _ _ _ _ => N1
  generalize hSP : SA ++ [58] ++ SB = SP at F1 hKP
  have hSPl : SP.length ≤ 3000 := by rw [← hSP]; simp; omega
  refine ⟨_, _, fun i y => ∃ c, SP[i]? = some c ∧ ((y = none ∧ (!inB1 (c : Int)) = false) ∨ ∃ u, y = some (Value.str (txt [c]) u) ∧ (!inB1 (c : Int)) = true), _, F1, N1, src_str rfl, by rw [sizeLine_eq]; simp only [List.size_toArray]; omega, ?_, ?_⟩
  · rintro i v I oI C oC D m₂ h tk ys E' hil ⟨c, u, hk, rfl⟩ hC hx F2 N2
    have hc : SP[i]? = some c := by rw [← List.getElem?_toArray]; exact hk
    clear F1 N1
    k_steps
    · rename Fr _ _ _ _ => F3
      rename News _ _ _ _ => N3
      rename inB1 _ = true => hb
      exact EltEnd.intro F3 N3 (fun p h => h) ⟨c, hc, .inl ⟨rfl, by rw [hb]; rfl⟩⟩
    · rename Fr _ _ _ _ => F3
      rename News _ _ _ _ => N3
      rename inB1 _ = false => hb
      exact EltEnd.intro F3 N3 (fun p h => h) ⟨c, hc, .inr ⟨u, rfl, by rw [hb]; rfl⟩⟩
  · intro D h tk rs F2 N2 o1 hrl hry
    clear F1 N1
    have hss := strs_filter (fun c => !inB1 (c : Int)) SP rs (by rw [hrl]; simp) hry
    rw [hKP] at hss
    k_steps
    rename Fr _ _ _ _ => F3
    rename News _ _ _ _ => N3
    exact ret _ _ _ _ F3 (news_sub N3 fun p hp => .tail _ hp) ⟨_, _, _, _, _, _, ⟨rfl, rfl, rfl, rfl, rfl, rfl, trivial⟩, rfl, hcs⟩
end
section -- F9
open PySem PySem.W PyProof.Rows
theorem txt_end {l : List (List Nat)} {i : Nat} {k : List Nat} {X : Str} {t : Tok} (h : l[i]? = some k) (e : X = txt k) : ∃ k t', l[i]? = some k ∧ Value.str X t = .str (txt k) t' := ⟨k, t, h, by rw [e]⟩
theorem flat_low : ∀ l : List Nat, (l.map fun c => [lowC c]).flatten = lowL l
  | [] => rfl
  | a :: l => by
    show [lowC a] ++ (l.map fun c => [lowC c]).flatten = lowC a :: lowL l
    rw [flat_low l]; rfl
set_option maxHeartbeats 4000000 in
theorem seg9b (w : World) (a b : Addr) (MK : List Int) (FD PL : List Nat) (hPl : PL.length ≤ 60) (hFl : FD.length ≤ 60) (hPc : ∀ c ∈ PL, c ≤ 64 ∨ (65 ≤ c ∧ c ≤ 90) ∨ (97 ≤ c ∧ c ≤ 122)) :
    SegC w [stm 38 19]
      (fun _ _ m news => ∃ t3 t4 t5 dM cs cn, Vals [Str.ofString "prepared", Str.ofString "plain", Str.ofString "mask", Str.ofString "folded", Str.ofString "row", Str.ofString "picks"] [.str (txt (FD ++ [58] ++ lowL PL)) t5, .str (txt PL) t4, .ref dM, .str (txt FD) t3, .ref a, .ref b] m ∧ news = [(dM, listOf cs cn)] ∧ IntsAre cs.toList MK)
      (fun _ _ m news => ∃ t3 t4 t5 dM cs cn, Vals [Str.ofString "prepared", Str.ofString "plain", Str.ofString "mask", Str.ofString "folded", Str.ofString "row", Str.ofString "picks"] [.str (txt (FD ++ [58] ++ lowL PL)) t5, .str (txt PL) t4, .ref dM, .str (txt FD) t3, .ref a, .ref b] m ∧ news = [(dM, listOf cs cn)] ∧ IntsAre cs.toList MK) := by
  k_with_none
  k_with "exec" => ((with_reducible show wpAny _ _ (exec (stm _ _) _) _ _ _); k_dflt (conv => arg 3; arg 1; whnf))
  k_with "call type:type" => ((with_reducible show wpAny _ _ (call (Value.type "type") [Value.bytes _ _]) _ _ _); refine type_bytes ?_)
  k_with "getMethod str" => ((with_reducible show wpAny _ _ (getMethod (Value.str _ _) (PySem.Str.ofString "encode") _) _ _ _); refine encode_get ?_)
  k_with "call builtin:str.encode" => (k_dflt (refine encode_call (by assumption) (by assumption) ?_); intro _)
  k_with "getMethod bytes" => (first | refine hex_get ?_ | refine bupper_get ?_)
  k_with "call builtin:bytes.hex" => (k_dflt (refine hex_call (by assumption) ?_); intro _)
  k_with "call builtin:bytes.upper" => (k_dflt (refine bupper_call (by assumption) ?_); intro _)
  k_with "compareOp In int ref" => ((with_reducible show wpAny _ _ (compareOp CmpOp.In (Value.int _ _) (Value.ref 170)) _ _ _); k_dflt (refine in170 (by k_in) ?_))
  k_with "getMethod ref" => ((with_reducible show wpAny _ _ (getMethod (Value.ref 181) _ _) _ _ _); k_dflt (refine meth181 (by k_in) ?_))
  k_with "call builtin:dict.get" => ((with_reducible show wpAny _ _ (call (Value.builtin "dict.get") [Value.ref 181, Value.int _ _]) _ _ _); k_dflt (refine get181 (by k_in) ?_))
  k_with "call builtin:list.append" => (k_dflt (refine' append_K ?k1 ?k2 ?k3 ?_ ?z; (case k1 => k_asm); (case k2 => k_asm); (case k3 => k_upd); (case z => (rw [sizeLine_eq]; (try simp only [Array.size_push, Array.size_empty]); omega))); intro h' F' N'; (try k_sweep))
  k_with "binaryOp LShift int int" => (k_dflt (refine' lshift_int_small ?a ?b ?c ?_; (case a => omega); (case b => omega); (case c => (first | omega | (simp only [bitAnd_m6, bitAnd_m2, bitAnd_m4]; omega)))))
  k_with "subscriptTail" => ((with_reducible show wpAny _ _ (subscriptTail _ _ (Value.bytes _ _) (Value.int _ _)) _ _ _); k_dflt (refine' item_signs ?e ?a ?b ?_; (case e => exact rfl); (case a => (simp only [bitAnd_m6, bitAnd_m2, bitAnd_m4, Int.reduceToNat, Int.reducePow]; omega)); (case b => (simp only [bitAnd_m6, bitAnd_m2, bitAnd_m4, Int.reduceToNat, Int.reducePow]; omega))); intro _)
  k_with "eval ListComp" => (k_dflt (refine' comp_U ?f ?a ?b ?c ?d ?e ?h; (case f => k_asm); (case a => exact rfl); (case b => decide +kernel); (case c => exact rfl); (case d => decide +kernel); (case e => exact rfl)))
  k_with "binaryOp Add str str" => ((with_reducible show wpAny _ _ (binaryOp _ (Value.str (txt _) _) (Value.str (txt _) _)) _ _ _); k_dflt (refine' add_txt ?z ?_; (case z => (simp only [List.length_append, List.length_cons, List.length_nil]; omega))); intro ta ka)
  k_with "binaryOp Add str str" => ((with_reducible show wpAny _ _ (binaryOp _ (Value.str (txt _) _) (Value.str (Str.ofString _) _)) _ _ _); k_dflt (refine' add_colon ?z ?_; (case z => (try simp only [List.length_append, List.length_cons, List.length_nil]); omega)); intro ta ka)
  k_with "binaryOp Add str str" => ((with_reducible show wpAny _ _ (binaryOp _ (Value.str (Str.ofString _) _) (Value.str (txt _) _)) _ _ _); k_dflt (refine' colon_add ?z ?_; (case z => (try simp only [List.length_append, List.length_cons, List.length_nil]); omega)); intro ta ka)
  k_with "compareOp Lt str str" => ((with_reducible show wpAny _ _ (compareOp CmpOp.Lt (Value.str _ _) _) _ _ _); k_dflt (refine lt_txt (d := 65) ?_))
  k_with "call builtin:ord" => ((with_reducible show wpAny _ _ (call (Value.builtin "ord") [Value.str _ _]) _ _ _); k_dflt (refine ord_txt ?_); intro to ko)
  k_with "compareOp NotEq str str" => ((with_reducible show wpAny _ _ (compareOp CmpOp.NotEq (Value.str (txt _) _) (Value.str (txt _) _)) _ _ _); k_dflt (refine ne_txt ?_))
  rintro dp un fr gd h₀ L s m news Q V hd hu F N ⟨t3, t4, t5, dM, cs, cn, hv, rfl, hcs⟩ ret
  rw [overV hv] at F
  clear hv
  dsimp only [over] at F
  have X := V.k
  obtain ⟨p, loose, mean, mg, mb, T⟩ := V.t
  unfold carE at *
  have hsc : sco 38 = sco 38 := rfl
  (conv at hsc => rhs; whnf)
  rw [hsc] at *
  clear hsc
  (try dsimp only)
  (try k_fold)
  k_steps
  refine ⟨_, _, fun i y => ∃ k t, (PL.map fun c => [lowC c])[i]? = some k ∧ y = Value.str (txt k) t, _, F, N, src_str rfl, by rw [sizeLine_eq]; simp only [List.size_toArray]; omega, ?_, ?_⟩
  · rintro i v I oI C oC D2 m₂ h tk ys E' hil ⟨c, u, hk, rfl⟩ hC hx F4 N4
    have hc : PL[i]? = some c := by rw [← List.getElem?_toArray]; exact hk
    have hcr := hPc c (List.mem_of_getElem? hc)
    clear F N
    have hmc : (PL.map fun c => [lowC c])[i]? = some [lowC c] := by rw [List.getElem?_map, hc]; rfl
    k_steps
    · refine EltEnd.intro F4 N4 (fun p h => h) (txt_end hmc ?_)
      unfold lowC
      rw [if_pos (by assumption)]
    · refine EltEnd.intro F4 N4 (fun p h => h) (txt_end hmc ?_)
      unfold lowC
      rw [if_neg (by assumption), show ((c : Int) + 32).toNat = c + 32 by omega]
  · intro D2 h tk ys F4 N4 o2 hyl hy
    clear F N
    k_steps
    have hfl : (PL.map fun c => [lowC c]).flatten = lowL PL := flat_low PL
    refine join_A N4 (.head _) (by rw [hyl]; simp) hy (by simp; omega) (by rw [hfl]; simp [lowL]; omega) (fun t' k' => ?_)
    rw [hfl]
    have hll : (lowL PL).length ≤ 60 := by simp [lowL]; omega
    (try dsimp only)
    clear hyl hy
    k_steps
    all_goals rename Fr _ _ _ _ => F5
    all_goals rename News _ _ _ _ => N5
    exact ret _ _ _ _ F5 (news_sub N5 fun p hp => .tail _ hp) ⟨_, _, _, _, _, _, ⟨rfl, rfl, rfl, rfl, rfl, rfl, trivial⟩, rfl, hcs⟩
end
section -- F10
open PySem PySem.W PyProof.Rows
theorem first_colon : ∀ (p x : List Nat) {q y : List Nat}, 58 ∉ p → 58 ∉ x → p ++ 58 :: q = x ++ 58 :: y → p = x ∧ q = y
  | [], [], q, y, _, _, h => ⟨rfl, (List.cons.inj h).2⟩
  | [], a :: x, q, y, _, hx, h => absurd (List.mem_cons.mpr (.inl (List.cons.inj h).1)) hx
  | a :: p, [], q, y, hp, _, h => absurd (List.mem_cons.mpr (.inl (List.cons.inj h).1.symm)) hp
  | a :: p, b :: x, q, y, hp, hx, h => by
    obtain ⟨e1, e2⟩ := List.cons.inj h
    obtain ⟨e3, e4⟩ := first_colon p x (fun m => hp (.tail _ m)) (fun m => hx (.tail _ m)) e2
    exact ⟨by rw [e1, e3], e4⟩
theorem txt_of (p : Str) : p = txt p.cps.toList := by
  apply Str.ext'
  rfl
theorem split_two (x y : List Nat) (hx : 58 ∉ x) (hy : 58 ∉ y) : Txt.split (txt (x ++ [58] ++ y)) (Str.ofString ":") = [txt x, txt y] := by
  rw [colon_eq]
  have hj := StrLaws.join_split (txt (x ++ [58] ++ y)) (txt [58])
  have hf := StrLaws.split_free (txt (x ++ [58] ++ y)) 58
  have hp := split_pos (txt (x ++ [58] ++ y)) (txt [58])
  change ∀ p ∈ Txt.split (txt (x ++ [58] ++ y)) (txt [58]), _ at hf
  revert hj hf hp
  generalize Txt.split (txt (x ++ [58] ++ y)) (txt [58]) = l
  intro hj hp hf
  match l, hj, hf, hp with
  | [p], hj, hf, _ =>
    have h1 : p = txt (x ++ [58] ++ y) := hj
    have := hf p (.head _)
    rw [h1] at this
    exact absurd (by simp) this
  | [p, q], hj, hf, _ =>
    have h1 : p ++ txt [58] ++ q = txt (x ++ [58] ++ y) := hj
    rw [txt_of p, txt_of q, txt_append, txt_append] at h1
    have h2 : p.cps.toList ++ [58] ++ q.cps.toList = x ++ [58] ++ y := by
      have := congrArg (fun s : Str => s.cps.toList) h1
      simpa using this
    rw [List.append_assoc, List.append_assoc] at h2
    obtain ⟨e1, e2⟩ := first_colon _ _ (hf p (.head _)) hx h2
    have e2 : q.cps.toList = y := e2
    rw [txt_of p, txt_of q, e1, e2]
  | p :: q :: r :: l, hj, hf, _ =>
    have h1 : p ++ txt [58] ++ (q ++ txt [58] ++ Str.join (txt [58]) (r :: l)) = txt (x ++ [58] ++ y) := hj
    rw [txt_of p, txt_of q, txt_of (Str.join _ _), txt_append, txt_append, txt_append, txt_append] at h1
    have h2 := congrArg (fun s : Str => s.cps.toList) h1
    simp only [List.append_assoc] at h2
    obtain ⟨e1, e2⟩ := first_colon _ _ (hf p (.head _)) hx h2
    have e2 : q.cps.toList ++ ([58] ++ (Str.join (txt [58]) (r :: l)).cps.toList) = y := e2
    rw [← e2] at hy
    exact absurd (by simp) hy
theorem split_colon {prog : Program} {w : World} {A : Around} {E : Value → Shared → Prop} {s : Shared} {h₀ : Heap} {L : Addr} {m : Str → Option Value} {news : List (Addr × Obj)} {x y : List Nat} {t u : Tok} {Q : Value → Shared → Prop}
    (F : Fr h₀ L s.heap m) (N : News h₀ L s.heap news) (hx : 58 ∉ x) (hy : 58 ∉ y) (hz : x.length + y.length ≤ 1000)
    (h : ∀ D t1 t2 h' k, Fr h₀ L h' m → News h₀ L h' ((D, listOf #[.str (txt x) t1, .str (txt y) t2] 0) :: news) → (∀ p ∈ news, @LT.lt Nat _ p.1 D) → Q (.ref D) { s with heap := h', toks := k }) :
    wpAny (model prog w) A (call (.builtin "str.split") [.str (txt (x ++ [58] ++ y)) t, .str (Str.ofString ":") u]) Q E s := by
  refine KSpl.split1 F N (by decide +kernel) (fun D l h' k e _ F' N' hD => ?_) (by rw [sizeLine_eq, txt_len]; simp; omega)
  rw [split_two x y hx hy] at e
  obtain ⟨t1, l1, rfl, e1⟩ := KSpl.cons_of e
  obtain ⟨t2, l2, rfl, e2⟩ := KSpl.cons_of e1
  have := KSpl.nil_of e2
  subst this
  exact h D t1 t2 h' k F' N' hD
theorem unhex_eq (w : World) (LO : List Nat) (t : Tok) (K : Nat) (R : Array UInt8) (hx : ∀ c ∈ LO, c < 128) (hl : LO.length = 2 * K) (hK : K ≤ 20) (hc : ∀ i < (upB (txt LO)).size, Hexc (((upB (txt LO)).map (·.toNat)).getD i 0)) (hh : ∀ i < 2 * K, hexv (nat0 (KBw.bInts (upB (txt LO))) i) < 16) (h : bts (unhexAt (KBw.bInts (upB (txt LO))) K) = R) :
    Spec w 3 162 [.str (txt LO) t, .bool true] [] (fun _ => True) (fun _ v _ => ∃ t', v = .bytes R t') := by
  subst h
  exact b16decode_spec w (txt LO) t K (fun c hc => hx c (by simpa using hc)) (by simpa using hl) hK hc hh
set_option maxHeartbeats 4000000 in
theorem seg10 (w : World) (a b : Addr) (MK : List Int) (FD PL LO : List Nat) (K : Nat) (hFl : FD.length ≤ 60) (hLl : LO.length ≤ 60) (hF58 : 58 ∉ FD) (hL58 : 58 ∉ LO) (hx : ∀ c ∈ LO, c < 128) (hl : LO.length = 2 * K) (hK : K ≤ 20) (hc : ∀ i < (upB (txt LO)).size, Hexc (((upB (txt LO)).map (·.toNat)).getD i 0)) (hh : ∀ i < 2 * K, hexv (nat0 (KBw.bInts (upB (txt LO))) i) < 16) (h : bts (unhexAt (KBw.bInts (upB (txt LO))) K) = bts MK) (hMb : Byte MK) (hMl2 : MK.length ≤ 1000) :
    SegC w [stm 38 20, stm 38 21, stm 38 22]
      (fun _ _ m news => ∃ t3 t4 t5 dM cs cn, Vals [Str.ofString "prepared", Str.ofString "plain", Str.ofString "mask", Str.ofString "folded", Str.ofString "row", Str.ofString "picks"] [.str (txt (FD ++ [58] ++ LO)) t5, .str (txt PL) t4, .ref dM, .str (txt FD) t3, .ref a, .ref b] m ∧ news = [(dM, listOf cs cn)] ∧ IntsAre cs.toList MK)
      (fun _ _ m _ => ∃ t1 t2 t3, Vals [Str.ofString "head", Str.ofString "bits", Str.ofString "restored", Str.ofString "row", Str.ofString "picks"] [.str (txt FD) t1, .bytes (bts MK) t2, .str (txt []) t3, .ref a, .ref b] m) := by
  k_with_none
  k_with "exec" => ((with_reducible show wpAny _ _ (exec (stm _ _) _) _ _ _); k_dflt (conv => arg 3; arg 1; whnf))
  k_with "call type:type" => ((with_reducible show wpAny _ _ (call (Value.type "type") [Value.bytes _ _]) _ _ _); refine type_bytes ?_)
  k_with "getMethod str" => ((with_reducible show wpAny _ _ (getMethod (Value.str _ _) (PySem.Str.ofString "encode") _) _ _ _); refine encode_get ?_)
  k_with "call builtin:str.encode" => (k_dflt (refine encode_call (by assumption) (by assumption) ?_); intro _)
  k_with "getMethod bytes" => (first | refine hex_get ?_ | refine bupper_get ?_)
  k_with "call builtin:bytes.hex" => (k_dflt (refine hex_call (by assumption) ?_); intro _)
  k_with "call builtin:bytes.upper" => (k_dflt (refine bupper_call (by assumption) ?_); intro _)
  k_with "compareOp In int ref" => ((with_reducible show wpAny _ _ (compareOp CmpOp.In (Value.int _ _) (Value.ref 170)) _ _ _); k_dflt (refine in170 (by k_in) ?_))
  k_with "getMethod ref" => ((with_reducible show wpAny _ _ (getMethod (Value.ref 181) _ _) _ _ _); k_dflt (refine meth181 (by k_in) ?_))
  k_with "call builtin:dict.get" => ((with_reducible show wpAny _ _ (call (Value.builtin "dict.get") [Value.ref 181, Value.int _ _]) _ _ _); k_dflt (refine get181 (by k_in) ?_))
  k_with "call builtin:list.append" => (k_dflt (refine' append_K ?k1 ?k2 ?k3 ?_ ?z; (case k1 => k_asm); (case k2 => k_asm); (case k3 => k_upd); (case z => (rw [sizeLine_eq]; (try simp only [Array.size_push, Array.size_empty]); omega))); intro h' F' N'; (try k_sweep))
  k_with "binaryOp LShift int int" => (k_dflt (refine' lshift_int_small ?a ?b ?c ?_; (case a => omega); (case b => omega); (case c => (first | omega | (simp only [bitAnd_m6, bitAnd_m2, bitAnd_m4]; omega)))))
  k_with "subscriptTail" => ((with_reducible show wpAny _ _ (subscriptTail _ _ (Value.bytes _ _) (Value.int _ _)) _ _ _); k_dflt (refine' item_signs ?e ?a ?b ?_; (case e => exact rfl); (case a => (simp only [bitAnd_m6, bitAnd_m2, bitAnd_m4, Int.reduceToNat, Int.reducePow]; omega)); (case b => (simp only [bitAnd_m6, bitAnd_m2, bitAnd_m4, Int.reduceToNat, Int.reducePow]; omega))); intro _)
  k_with "eval ListComp" => (k_dflt (refine' comp_U ?f ?a ?b ?c ?d ?e ?h; (case f => k_asm); (case a => exact rfl); (case b => decide +kernel); (case c => exact rfl); (case d => decide +kernel); (case e => exact rfl)))
  k_with "call builtin:str.split" => (k_dflt (refine' split_colon ?a ?b ?c ?d ?z ?_; (case a => k_asm); (case b => k_asm); (case c => assumption); (case d => assumption); (case z => omega)); intro Ds t1s t2s hs ks Fs Ns hDs; (try k_sweep); (try dsimp only))
  k_with "call ref" => ((with_reducible show wpAny _ _ (call (Value.ref 162) _ _) _ _ _); k_dflt (refine' use_spec (unhex_eq _ _ _ _ _ (by assumption) (by assumption) (by assumption) (by assumption) (by assumption) (by assumption)) ?V ?F ?N ?P ?D ?U ?_; (case V => assumption); (case F => k_asm); (case N => k_asm); (case P => first | trivial | assumption); (case D => (dsimp only; omega)); (case U => (dsimp only; omega))); intro v9 h9 tk9 F9 N9 k9 p9; (first | subst p9 | (obtain ⟨t9, p9⟩ := p9; subst p9)); (try k_sweep); (try dsimp only))
  k_with "compareOp NotEq bytes bytes" => (k_dflt (refine ne_same ?_))
  rintro dp un fr gd h₀ L s m news Q V hd hu F N ⟨t3, t4, t5, dM, cs, cn, hv, rfl, hcs⟩ ret
  rw [overV hv] at F
  clear hv
  dsimp only [over] at F
  have X := V.k
  obtain ⟨p, loose, mean, mg, mb, T⟩ := V.t
  unfold carE at *
  have hsc : sco 38 = sco 38 := rfl
  (conv at hsc => rhs; whnf)
  rw [hsc] at *
  clear hsc
  (try dsimp only)
  (try k_fold)
  k_steps
  rename Fr _ _ _ _ => F5
  rename News _ _ _ _ => N5
  exact ret _ _ _ _ F5 N5 ⟨_, _, _, ⟨rfl, rfl, rfl, rfl, rfl, trivial⟩⟩
end
section -- F11
open PySem PySem.W PyProof.Rows
noncomputable def greatAt (MK : List Int) (i : Nat) : Bool := (((MK.getD (i / 8) 0) / 2 ^ (7 - i % 8)) % 2 == 1)
noncomputable def upAt (MK : List Int) (FD : List Nat) (i : Nat) : Nat := if greatAt MK i then FD.getD i 0 - 32 else FD.getD i 0
noncomputable def upL (MK : List Int) (FD : List Nat) (n : Nat) : List Nat := (List.range n).map (upAt MK FD)
theorem upL_len (MK : List Int) (FD : List Nat) (n : Nat) : (upL MK FD n).length = n := by simp [upL]
theorem upL_succ (MK : List Int) (FD : List Nat) (n : Nat) : upL MK FD (n + 1) = upL MK FD n ++ [upAt MK FD n] := by simp [upL, List.range_succ]
theorem great_iff {MK : List Int} {i : Nat} : greatAt MK i = true ↔ ((MK.getD ((i : Int).fdiv 8).toNat 0).fdiv (2 ^ (7 - (i : Int).fmod 8).toNat)).fmod 2 = 1 := by
  have e1 : ((i : Int).fdiv 8).toNat = i / 8 := by rw [Int.fdiv_eq_ediv_of_nonneg _ (by decide)]; omega
  have e2 : (7 - (i : Int).fmod 8).toNat = 7 - i % 8 := by rw [Int.fmod_eq_emod_of_nonneg _ (by decide)]; omega
  rw [e1, e2, Int.fdiv_eq_ediv_of_nonneg _ (Int.le_of_lt (Int.pow_pos (by decide))), Int.fmod_eq_emod_of_nonneg _ (by decide)]
  unfold greatAt
  exact beq_iff_eq
theorem up_ret {MK : List Int} {FD : List Nat} {i c : Nat} (h : FD[i]? = some c) (g : greatAt MK i = true) : upL MK FD i ++ [c - 32] = upL MK FD (i + 1) := by
  rw [upL_succ]; unfold upAt; rw [g, if_pos rfl, List.getD_eq_getElem?_getD, h]; rfl
theorem low_ret {MK : List Int} {FD : List Nat} {i c : Nat} (h : FD[i]? = some c) (g : ¬ greatAt MK i = true) : upL MK FD i ++ [c] = upL MK FD (i + 1) := by
  rw [upL_succ]; unfold upAt; rw [if_neg g, List.getD_eq_getElem?_getD, h]; rfl
set_option maxHeartbeats 4000000 in
theorem seg11 (w : World) (a b : Addr) (MK : List Int) (FD : List Nat) (hFl : FD.length ≤ 24) (hMl : (FD.length + 7) / 8 = MK.length) (hMb : Byte MK) (hup : ∀ i < FD.length, greatAt MK i = true → 32 ≤ FD.getD i 0) (hlo : ∀ c ∈ FD, c < 128) :
    SegC w [lop 38 23]
      (fun _ _ m _ => ∃ t1 t2 t3, Vals [Str.ofString "head", Str.ofString "bits", Str.ofString "restored", Str.ofString "row", Str.ofString "picks"] [.str (txt FD) t1, .bytes (bts MK) t2, .str (txt []) t3, .ref a, .ref b] m)
      (fun _ _ m _ => ∃ t3, Vals [Str.ofString "restored", Str.ofString "row", Str.ofString "picks"] [.str (txt (upL MK FD FD.length)) t3, .ref a, .ref b] m) := by
  k_with_none
  k_with "exec" => ((with_reducible show wpAny _ _ (exec (stm _ _) _) _ _ _); k_dflt (conv => arg 3; arg 1; whnf))
  k_with "call type:type" => ((with_reducible show wpAny _ _ (call (Value.type "type") [Value.bytes _ _]) _ _ _); refine type_bytes ?_)
  k_with "getMethod str" => ((with_reducible show wpAny _ _ (getMethod (Value.str _ _) (PySem.Str.ofString "encode") _) _ _ _); refine encode_get ?_)
  k_with "call builtin:str.encode" => (k_dflt (refine encode_call (by assumption) (by assumption) ?_); intro _)
  k_with "getMethod bytes" => (first | refine hex_get ?_ | refine bupper_get ?_)
  k_with "call builtin:bytes.hex" => (k_dflt (refine hex_call (by assumption) ?_); intro _)
  k_with "call builtin:bytes.upper" => (k_dflt (refine bupper_call (by assumption) ?_); intro _)
  k_with "compareOp In int ref" => ((with_reducible show wpAny _ _ (compareOp CmpOp.In (Value.int _ _) (Value.ref 170)) _ _ _); k_dflt (refine in170 (by k_in) ?_))
  k_with "getMethod ref" => ((with_reducible show wpAny _ _ (getMethod (Value.ref 181) _ _) _ _ _); k_dflt (refine meth181 (by k_in) ?_))
  k_with "call builtin:dict.get" => ((with_reducible show wpAny _ _ (call (Value.builtin "dict.get") [Value.ref 181, Value.int _ _]) _ _ _); k_dflt (refine get181 (by k_in) ?_))
  k_with "call builtin:list.append" => (k_dflt (refine' append_K ?k1 ?k2 ?k3 ?_ ?z; (case k1 => k_asm); (case k2 => k_asm); (case k3 => k_upd); (case z => (rw [sizeLine_eq]; (try simp only [Array.size_push, Array.size_empty]); omega))); intro h' F' N'; (try k_sweep))
  k_with "binaryOp LShift int int" => (k_dflt (refine' lshift_int_small ?a ?b ?c ?_; (case a => omega); (case b => omega); (case c => (first | omega | (simp only [bitAnd_m6, bitAnd_m2, bitAnd_m4]; omega)))))
  k_with "subscriptTail" => ((with_reducible show wpAny _ _ (subscriptTail _ _ (Value.bytes _ _) (Value.int _ _)) _ _ _); k_dflt (refine' item_signs ?e ?a ?b ?_; (case e => exact rfl); (case a => (simp only [bitAnd_m6, bitAnd_m2, bitAnd_m4, Int.reduceToNat, Int.reducePow]; omega)); (case b => (simp only [bitAnd_m6, bitAnd_m2, bitAnd_m4, Int.reduceToNat, Int.reducePow]; omega))); intro _)
  k_with "binaryOp Add str str" => ((with_reducible show wpAny _ _ (binaryOp _ (Value.str (txt _) _) (Value.str (txt _) _)) _ _ _); k_dflt (refine' add_txt ?z ?_; (case z => (simp only [List.length_append, List.length_cons, List.length_nil]; omega))); intro ta ka)
  k_with "call builtin:ord" => ((with_reducible show wpAny _ _ (call (Value.builtin "ord") [Value.str _ _]) _ _ _); k_dflt (refine ord_txt ?_); intro to ko)
  k_with "call builtin:len" => ((with_reducible show wpAny _ _ (call (Value.builtin "len") [Value.str (txt _) _]) _ _ _); k_dflt (refine len_txt (by omega) ?_); intro tl kl)
  k_with "subscriptTail Name Name str int" => ((with_reducible show wpAny _ _ (subscriptTail _ _ (Value.str (txt _) _) (Value.int _ _)) _ _ _); k_dflt (refine item_txt (by assumption) (by omega) ?_); intro ti)
  rintro dp un fr gd h₀ L s m news Q V hd hu F N ⟨t1, t2, t3, hv⟩ ret
  rw [overV hv] at F
  clear hv
  dsimp only [over] at F
  have X := V.k
  obtain ⟨p, loose, mean, mg, mb, T⟩ := V.t
  unfold carE at *
  have hsc : sco 38 = sco 38 := rfl
  (conv at hsc => rhs; whnf)
  rw [hsc] at *
  clear hsc
  (try dsimp only)
  (try k_fold)
  k_steps
  (conv => arg 3; arg 1; whnf)
  refine For_invV h₀ (by rfl) (by rfl) ?_
  (try dsimp only)
  repeat ((fail_if_success (with_reducible show wpAny _ _ (pyIter _) _ _ _)); first | walk1 | (dsimp only; walk1))
  rename Fr _ _ _ _ => F1
  rename News _ _ _ _ => N1
  rename IsRange _ _ _ _ _ _ _ _ => hrg
  refine iter_range0 (fun _ _ i m nx => ∃ t3, Vals [Str.ofString "head", Str.ofString "bits", Str.ofString "restored", Str.ofString "row", Str.ofString "picks"] [.str (txt FD) t1, .bytes (bts MK) t2, .str (txt (upL MK FD i)) t3, .ref a, .ref b] m ∧ nx = [])
    rfl hrg (by omega) (by omega) F1 (news_sub N1 (by simp)) ⟨_, ⟨rfl, rfl, rfl, rfl, rfl, trivial⟩, rfl⟩ ?_ ?_
  · rintro i ti m₁ nx h tk I oI hil ⟨t3, hv, rfl⟩ hne F N
    rw [overX hv] at F
    clear hv F1 N1 hrg hne
    rw [Int.toNat_natCast] at hil
    obtain ⟨c, hck⟩ : ∃ c, FD[i]? = some c := ⟨FD[i], List.getElem?_eq_getElem hil⟩
    dsimp only [over] at F
    replace F : Fr h₀ L _ _ := F
    replace N : News h₀ L _ _ := N
    dsimp only [List.cons_append, List.nil_append] at N
    k_steps
    · have hg := great_iff.mpr (by assumption)
      have h32 := hup i hil hg
      rw [List.getD_eq_getElem?_getD, hck] at h32
      replace h32 : 32 ≤ c := h32
      have hc2 := hlo c (List.mem_of_getElem? hck)
      have hul := upL_len MK FD i
      refine chr_txt (c := c - 32) (by omega) (by omega) fun t' k' => ?_
      k_steps
      rename Fr _ _ _ _ => F7
      rename News _ _ _ _ => N7
      exact Turn.next [] F7 N7 (.head _) (by simp) (by simp) ⟨_, ⟨rfl, rfl, congrArg (fun l => some (Value.str (txt l) _)) (up_ret hck hg), rfl, rfl, trivial⟩, rfl⟩
    · have hg : ¬ greatAt MK i = true := fun e => by
        have := great_iff.mp e
        contradiction
      have hul := upL_len MK FD i
      k_steps
      rename Fr _ _ _ _ => F7
      rename News _ _ _ _ => N7
      exact Turn.next [] F7 N7 (.head _) (by simp) (by simp) ⟨_, ⟨rfl, rfl, congrArg (fun l => some (Value.str (txt l) _)) (low_ret hck hg), rfl, rfl, trivial⟩, rfl⟩
  · rintro m₁ nx h tk ⟨t3, hv, rfl⟩ F N
    rw [overV hv] at F
    clear hv F1 N1
    dsimp only [over] at F
    replace F : Fr h₀ L _ _ := F
    replace N : News h₀ L _ _ := N
    (try dsimp only)
    (try k_fold)
    k_steps
    exact ret _ _ _ _ F N ⟨_, ⟨congrArg (fun n : Nat => some (Value.str (txt (upL MK FD n)) t3)) (Int.toNat_natCast FD.length), rfl, rfl, trivial⟩⟩
end
section -- F12
open PySem PySem.W PyProof.Rows
theorem eq_same {prog : Program} {w : World} {A : Around} {E : Value → Shared → Prop} {s : Shared} {R : Array UInt8} {t u : Tok} {Q : Value → Shared → Prop} (h : Q (.bool true) s) : wpAny (model prog w) A (compareOp .Eq (.bytes R t) (.bytes R u)) Q E s := by
  refine eq_bytes ?_
  have : (R.toList == R.toList) = true := by simp
  rw [this]; exact h
/-- a stretch of statements that ends by a return of True -/
noncomputable abbrev RetC (w : World) (l : List Stmt) (Pre : Heap → Addr → (Str → Option Value) → List (Addr × Obj) → Prop) : Prop :=
  ∀ (dp un : Nat) (fr : Option (List Env)) (gd : Option (List Code)) (h₀ : Heap) (L : Addr) (s : Shared) (m : Str → Option Value) (news : List (Addr × Obj)) (Q : Flow → Shared → Prop),
    Ev w h₀ → dp + 4 < recursionLimit → un + 90 < cLine → Fr h₀ L s.heap m → News h₀ L s.heap news → Pre h₀ L m news →
    (∀ h' tk' m', Fr h₀ L h' m' → Q (.ret (.bool true)) { s with heap := h', toks := tk' }) →
    wpAny (model PP w) ((AA dp un fr gd).deeper (carE L)) (execs l (carE L)) Q (fun _ _ => False) s
theorem SegC.ret {w : World} {l l' : List Stmt} {A B : Heap → Addr → (Str → Option Value) → List (Addr × Obj) → Prop} (x : SegC w l A B) (y : RetC w l' B) : RetC w (l ++ l') A := by
  intro dp un fr gd h₀ L s m news Q V hd hu F N p ret
  rw [execs_append]
  refine wpAny_bind (x dp un fr gd h₀ L s m news _ V hd hu F N p fun h' tk' m' news' F' N' p' => ?_)
  exact y dp un fr gd h₀ L _ m' news' Q V hd hu F' N' p' ret
set_option maxHeartbeats 4000000 in
theorem seg12 (w : World) (a b : Addr) (vs : List Value) (ns : List Int) (U : List Nat) (hi : IntsAre vs ns) (hlen : ns.length ≤ 17) (hlen2 : ns.length ≤ 1000) (hb : Byte ns) (hUl : U.length ≤ 59) (hUl2 : (58 :: U).length ≤ 60) (hUx : ∀ c ∈ 58 :: U, c < 128) (hend : decEnd (cInts (58 :: U))) (h : bts (decode (cInts (58 :: U))) = bts ns) :
    RetC w [stm 38 24] (fun h₀ _ m _ => h₀.IsList a vs.toArray ∧ ∃ t3, Vals [Str.ofString "restored", Str.ofString "row", Str.ofString "picks"] [.str (txt U) t3, .ref a, .ref b] m) := by
  k_with_none
  k_with "exec" => ((with_reducible show wpAny _ _ (exec (stm _ _) _) _ _ _); k_dflt (conv => arg 3; arg 1; whnf))
  k_with "call type:type" => ((with_reducible show wpAny _ _ (call (Value.type "type") [Value.bytes _ _]) _ _ _); refine type_bytes ?_)
  k_with "getMethod str" => ((with_reducible show wpAny _ _ (getMethod (Value.str _ _) (PySem.Str.ofString "encode") _) _ _ _); refine encode_get ?_)
  k_with "call builtin:str.encode" => (k_dflt (refine encode_call (by assumption) (by assumption) ?_); intro _)
  k_with "getMethod bytes" => (first | refine hex_get ?_ | refine bupper_get ?_)
  k_with "call builtin:bytes.hex" => (k_dflt (refine hex_call (by assumption) ?_); intro _)
  k_with "call builtin:bytes.upper" => (k_dflt (refine bupper_call (by assumption) ?_); intro _)
  k_with "compareOp In int ref" => ((with_reducible show wpAny _ _ (compareOp CmpOp.In (Value.int _ _) (Value.ref 170)) _ _ _); k_dflt (refine in170 (by k_in) ?_))
  k_with "getMethod ref" => ((with_reducible show wpAny _ _ (getMethod (Value.ref 181) _ _) _ _ _); k_dflt (refine meth181 (by k_in) ?_))
  k_with "call builtin:dict.get" => ((with_reducible show wpAny _ _ (call (Value.builtin "dict.get") [Value.ref 181, Value.int _ _]) _ _ _); k_dflt (refine get181 (by k_in) ?_))
  k_with "call builtin:list.append" => (k_dflt (refine' append_K ?k1 ?k2 ?k3 ?_ ?z; (case k1 => k_asm); (case k2 => k_asm); (case k3 => k_upd); (case z => (rw [sizeLine_eq]; (try simp only [Array.size_push, Array.size_empty]); omega))); intro h' F' N'; (try k_sweep))
  k_with "binaryOp LShift int int" => (k_dflt (refine' lshift_int_small ?a ?b ?c ?_; (case a => omega); (case b => omega); (case c => (first | omega | (simp only [bitAnd_m6, bitAnd_m2, bitAnd_m4]; omega)))))
  k_with "subscriptTail" => ((with_reducible show wpAny _ _ (subscriptTail _ _ (Value.bytes _ _) (Value.int _ _)) _ _ _); k_dflt (refine' item_signs ?e ?a ?b ?_; (case e => exact rfl); (case a => (simp only [bitAnd_m6, bitAnd_m2, bitAnd_m4, Int.reduceToNat, Int.reducePow]; omega)); (case b => (simp only [bitAnd_m6, bitAnd_m2, bitAnd_m4, Int.reduceToNat, Int.reducePow]; omega))); intro _)
  k_with "call ref" => ((with_reducible show wpAny _ _ (call (Value.ref 147) _ _) _ _ _); k_dflt (refine' use_spec (decode_eq _ _ _ _ (by assumption) (by assumption) (by assumption) (by assumption)) ?V ?F ?N ?P ?D ?U ?_; (case V => assumption); (case F => k_asm); (case N => k_asm); (case P => first | trivial | assumption); (case D => (dsimp only; omega)); (case U => (dsimp only; omega))); intro v9 h9 tk9 F9 N9 k9 p9; (first | subst p9 | (obtain ⟨t9, p9⟩ := p9; subst p9)); (try k_sweep); (try dsimp only))
  k_with "binaryOp Add str str" => ((with_reducible show wpAny _ _ (binaryOp _ (Value.str (Str.ofString _) _) (Value.str (txt _) _)) _ _ _); k_dflt (refine' colon_add ?z ?_; (case z => (try simp only [List.length_append, List.length_cons, List.length_nil]); omega)); intro ta ka)
  k_with "compareOp Eq bytes bytes" => (k_dflt (refine eq_same ?_))
  rintro dp un fr gd h₀ L s m news Q V hd hu F N ⟨hla, t3, hv⟩ ret
  rw [overV hv] at F
  clear hv
  dsimp only [over] at F
  have X := V.k
  obtain ⟨p, loose, mean, mg, mb, T⟩ := V.t
  unfold carE at *
  have hsc : sco 38 = sco 38 := rfl
  (conv at hsc => rhs; whnf)
  rw [hsc] at *
  clear hsc
  (try dsimp only)
  (try k_fold)
  k_steps
  rename Fr _ _ _ _ => F5
  exact ret _ _ _ F5
end
section -- F13
open PySem PySem.W PyProof.Rows
/-- what the plain law has to know of a row ns and picks ps -/
structure Facts (ns ps V' S C MK : List Int) (W FD O G PL SA SB KP U : List Nat) (R R2 GB : Array UInt8) (x : Int) : Prop where
  len : 1 ≤ ns.length ∧ ns.length ≤ 17
  byte : Byte ns
  psl : ps.length ≤ 12
  psp : 0 < ps.length
  psr : ∀ n ∈ ps, 0 ≤ n ∧ n < 10530
  vals : lawValues ns = V'
  vlen : V'.length ≤ 24
  vr : ∀ n ∈ V', 0 ≤ n ∧ n < 64
  enc : chrs (bts (encode (KBw.bInts (bts ns)))) = W
  encl : (bts (encode (KBw.bInts (bts ns)))).size ≤ 100
  wr : written V' ns.length = W
  wl : W.length ≤ 24
  wa : ∀ c ∈ W, c < 128
  fold : (W.map foldC).flatten = FD
  fl : FD.length ≤ 24
  fa : ∀ c ∈ FD, c < 128
  fc : ∀ c ∈ FD, c ≤ 64 ∨ (65 ≤ c ∧ c ≤ 90) ∨ (97 ≤ c ∧ c ≤ 122)
  f58 : 58 ∉ FD
  sm : V'.map (fun v => if v < 26 then v + 26 else v) = S
  sl : S.length ≤ 24
  sr : ∀ n ∈ S, 0 ≤ n ∧ n < 64
  swr : written S ns.length = FD
  send : decEnd (cInts FD)
  sdec : bts (decode (cInts FD)) = R
  soct : bts (lawOctets S ns.length) = R
  cs : ∀ k v, V'[k]? = some v → C[k]? = some (caseV ps k v)
  cl : C.length = V'.length
  cr : ∀ n ∈ C, 0 ≤ n ∧ n < 64
  cwr : written C ns.length = O
  oa : ∀ c ∈ O, c < 128
  ol : O.length ≤ 24
  oend : decEnd (cInts O)
  odec : bts (decode (cInts O)) = R2
  ooct : bts (lawOctets C ns.length) = R2
  clast : C.getLast? = some x
  ofold : (O.map foldC).flatten = FD
  rz : R2.size ≤ 20
  oenc : (bts (encode (KBw.bInts R2))).size ≤ 100
  og : chrs (bts (encode (KBw.bInts R2))) = G
  oiff : (txt G == txt O) = (x.fmod (4 ^ ((-(ns.length : Int)).fmod 3).toNat) == 0)
  mask : maskOf (toldOf W) = MK
  mb : Byte MK
  ml : MK.length ≤ 3
  mlf : (FD.length + 7) / 8 = MK.length
  hl : (hexOut (bts MK)).size ≤ 1000
  ha : ∀ c ∈ hexOut (bts MK), c < 128
  hb : hexB (bts MK) = GB
  hbl : GB.size ≤ 100
  hp : chrs GB = PL
  hp2 : (hexT MK).flatten = PL
  pl : PL.length = 2 * MK.length
  pc : ∀ c ∈ PL, c ≤ 64 ∨ (65 ≤ c ∧ c ≤ 90) ∨ (97 ≤ c ∧ c ≤ 122)
  sa : (spelledAt ps FD FD.length).flatten = SA
  sb : (spelledAt ps PL PL.length).flatten = SB
  kp : (SA ++ [58] ++ SB).filter (fun c => !inB1 (c : Int)) = KP
  kf : ∀ c ∈ KP, Folds c
  kl : KP.length ≤ 200
  kr : (KP.map foldC).flatten = FD ++ [58] ++ lowL PL
  l58 : 58 ∉ lowL PL
  la : ∀ c ∈ lowL PL, c < 128
  lh : ∀ i < (upB (txt (lowL PL))).size, Hexc (((upB (txt (lowL PL))).map (·.toNat)).getD i 0)
  lv : ∀ i < 2 * MK.length, hexv (nat0 (KBw.bInts (upB (txt (lowL PL)))) i) < 16
  lu : bts (unhexAt (KBw.bInts (upB (txt (lowL PL)))) MK.length) = bts MK
  gu : ∀ i < FD.length, greatAt MK i = true → 32 ≤ FD.getD i 0
  ur : upL MK FD FD.length = U
  ua : ∀ c ∈ 58 :: U, c < 128
  uend : decEnd (cInts (58 :: U))
  udec : bts (decode (cInts (58 :: U))) = bts ns
theorem SegC.pre {w : World} {l : List Stmt} {A' A B : Heap → Addr → (Str → Option Value) → List (Addr × Obj) → Prop} (x : SegC w l A B) (h : ∀ h₀ L m n, A' h₀ L m n → A h₀ L m n) : SegC w l A' B :=
  fun dp un fr gd h₀ L s m news Q V hd hu F N p ret => x dp un fr gd h₀ L s m news Q V hd hu F N (h _ _ _ _ p) ret
theorem SegC.keep {w : World} {l : List Stmt} {A B : Heap → Addr → (Str → Option Value) → List (Addr × Obj) → Prop} (x : SegC w l A B) (P : Heap → Prop) : SegC w l (fun h L m n => P h ∧ A h L m n) (fun h L m n => P h ∧ B h L m n) :=
  fun dp un fr gd h₀ L s m news Q V hd hu F N p ret => x dp un fr gd h₀ L s m news Q V hd hu F N p.2 fun h' tk' m' news' F' N' q => ret h' tk' m' news' F' N' ⟨p.1, q⟩
theorem RetC.pre {w : World} {l : List Stmt} {A' A : Heap → Addr → (Str → Option Value) → List (Addr × Obj) → Prop} (x : RetC w l A) (h : ∀ h₀ L m n, A' h₀ L m n → A h₀ L m n) : RetC w l A' :=
  fun dp un fr gd h₀ L s m news Q V hd hu F N p ret => x dp un fr gd h₀ L s m news Q V hd hu F N (h _ _ _ _ p) ret
theorem car_all (w : World) (a b : Addr) (oc : Obj) (v₀ : Option Value) (hoc : oc.data = .cell v₀) (vs us : List Value) (ns ps V' S C MK : List Int) (W FD O G PL SA SB KP U : List Nat) (R R2 GB : Array UInt8) (x : Int) (hi : IntsAre vs ns) (hj : IntsAre us ps) (K : Facts ns ps V' S C MK W FD O G PL SA SB KP U R R2 GB x) :
    RetC w ([stm 38 0] ++ ([stm 38 1, stm 38 2, stm 38 3] ++ ([stm 38 4, stm 38 5] ++ ([stm 38 6] ++ ([stm 38 7, lop 38 8] ++ ([stm 38 9, stm 38 10, stm 38 11] ++ ([stm 38 12] ++ ([lop 38 13] ++ ([stm 38 14, stm 38 15, stm 38 16] ++ ([stm 38 17, stm 38 18] ++ ([stm 38 19] ++ ([stm 38 20, stm 38 21, stm 38 22] ++ ([lop 38 23] ++ [stm 38 24])))))))))))))
      (fun h₀ L m news => (h₀.IsList a vs.toArray ∧ h₀.IsList b us.toArray) ∧ Vals [Str.ofString "row", Str.ofString "picks"] [.ref a, .ref b] m ∧ h₀.IsList a vs.toArray ∧ news = [(L + 1, oc)]) := by
  have hn := K.len.2
  have hv := K.vlen
  have hw := K.wl
  have hf := K.fl
  have ho := K.ol
  have hs := K.sl
  have hm := K.ml
  have hp := K.pl
  have hc := K.cl
  have hlo : (lowL PL).length = PL.length := by simp [lowL]
  have hsA : SA.length ≤ 1000 := by rw [← K.sa]; have := (spelledAt_len ps FD FD.length).2; (first | lia | omega)
  have hsB : SB.length ≤ 1000 := by rw [← K.sb]; have := (spelledAt_len ps PL PL.length).2; (first | lia | omega)
  have hU : U.length = FD.length := by rw [← K.ur, upL_len]
  refine ((seg1 w a b oc vs ns hi hn).keep _).ret ?_
  refine (((seg2 w a b oc vs ns V' W hi hn K.byte (by simp [bts]; (first | lia | omega)) K.encl K.enc (by (first | lia | omega)) K.vr K.wr).keep _).pre fun h₀ L m n q => ⟨q.1, q.1.1, ?_⟩).ret ?_
  · have := q.2; rwa [K.vals] at this
  refine ((seg3 w a b oc ns.length V' S W FD (by (first | lia | omega)) (by (first | lia | omega)) (fun c h => .inl (K.wa c h)) K.fold (by (first | lia | omega)) K.sm).keep _).ret ?_
  refine ((seg3b w a b oc ns.length V' S W FD R (by (first | lia | omega)) (by (first | lia | omega)) hn K.sr K.swr K.fa (by (first | lia | omega)) K.send K.sdec K.soct).keep _).ret ?_
  refine (((seg4 w a b oc ns.length us V' C ps W FD hj K.psl K.psp K.psr hv K.vr K.cs K.cl).keep _).pre fun h₀ L m n q => ⟨q.1, q.1.2, q.2⟩).ret ?_
  refine ((seg5 w a b oc ns.length C W FD O G R2 hn (by (first | lia | omega)) (by (first | lia | omega)) K.cr K.cwr K.oa (by (first | lia | omega)) K.oend K.odec K.ooct x K.clast (by (first | lia | omega)) K.ofold K.rz K.oenc K.og K.oiff).keep _).ret ?_
  refine ((seg6 w a b oc W FD K.wa (by (first | lia | omega))).keep _).ret ?_
  refine ((seg7 w a b oc v₀ hoc (toldOf W) FD (by simp [toldOf]; (first | lia | omega))).keep _).ret ?_
  rw [K.mask]
  refine ((seg8 w a b MK FD PL GB K.mb K.ml (by (first | lia | omega)) K.hl K.ha K.hb K.hbl K.hp K.hp2).keep _).ret ?_
  refine (((seg9 w a b us ps MK FD PL SA SB hj K.psl K.psp K.psr (by (first | lia | omega)) (by (first | lia | omega)) K.fc K.pc K.sa K.sb hsA hsB KP K.kp K.kf K.kl K.kr (by simp; (first | lia | omega))).keep _).pre fun h₀ L m n q => ⟨q.1, q.1.2, q.2⟩).ret ?_
  refine ((seg9b w a b MK FD PL (by (first | lia | omega)) (by (first | lia | omega)) K.pc).keep _).ret ?_
  refine ((seg10 w a b MK FD PL (lowL PL) MK.length (by (first | lia | omega)) (by (first | lia | omega)) K.f58 K.l58 K.la (by (first | lia | omega)) (by (first | lia | omega)) K.lh K.lv K.lu K.mb (by (first | lia | omega))).keep _).ret ?_
  refine ((seg11 w a b MK FD (by (first | lia | omega)) K.mlf K.mb K.gu K.fa).keep _).ret ?_
  rw [K.ur]
  exact (seg12 w a b vs ns U hi hn (by (first | lia | omega)) K.byte (by (first | lia | omega)) (by rw [List.length_cons]; (first | lia | omega)) K.ua K.uend K.udec).pre fun h₀ L m n q => ⟨q.1.1, q.2⟩
set_option maxHeartbeats 4000000 in
theorem carried_spec (w : World) (a b : Addr) (vs us : List Value) (ns ps V' S C MK : List Int) (W FD O G PL SA SB KP U : List Nat) (R R2 GB : Array UInt8) (x : Int) (hi : IntsAre vs ns) (hj : IntsAre us ps) (K : Facts ns ps V' S C MK W FD O G PL SA SB KP U R R2 GB x) :
    Spec w 4 267 [.ref a, .ref b] [] (fun h => h.IsList a vs.toArray ∧ h.IsList b us.toArray) (fun _ v _ => v = .bool true) := by
  intro dp un fr gd s Q E V ⟨hla, hlb⟩ hd hu ret
  refine' enterC [(Str.ofString "row", .ref a), (Str.ofString "picks", .ref b)] V ?k6 ?k7 (by show dp < recursionLimit; (first | lia | omega)) ?k9 ?kB ?kD ?c2 ?c3 ?c4 ?_
  (case k6 => k_is)
  (case k7 => k_is)
  (case k9 => first | exact BindsTo.of_eq rfl | exact binds_K V.k rfl (by k_is) rfl rfl rfl)
  (case kB => exact rfl)
  (case kD => decide +kernel)
  (case c2 => exact rfl)
  (case c3 => exact rfl)
  (case c4 => exact rfl)
  rw [show bod 38 = ([stm 38 0] ++ ([stm 38 1, stm 38 2, stm 38 3] ++ ([stm 38 4, stm 38 5] ++ ([stm 38 6] ++ ([stm 38 7, lop 38 8] ++ ([stm 38 9, stm 38 10, stm 38 11] ++ ([stm 38 12] ++ ([lop 38 13] ++ ([stm 38 14, stm 38 15, stm 38 16] ++ ([stm 38 17, stm 38 18] ++ ([stm 38 19] ++ ([stm 38 20, stm 38 21, stm 38 22] ++ ([lop 38 23] ++ [stm 38 24]))))))))))))) from rfl]
  rintro L h₁ tk₁ cells X ⟨p, loose, mean, mg, mb, T⟩ F N Y
  k_cells Y
  rename _ = Data.cell _ => hcell
  refine car_all w a b _ _ hcell vs us ns ps V' S C MK W FD O G PL SA SB KP U R R2 GB x hi hj K dp un fr gd s.heap L _ _ _ _ V hd hu F N ⟨⟨hla, hlb⟩, ⟨by with_unfolding_all rfl, by with_unfolding_all rfl, trivial⟩, hla, rfl⟩ fun h' tk' m' F' => ?_
  exact ret _ _ _ F'.keep rfl
end
section -- L1
open PySem PySem.W PyProof.Rows
noncomputable def Fact (ns ps : List Int) : Prop := ∃ V' S C MK W FD O G PL SA SB KP U R R2 GB x, Facts ns ps V' S C MK W FD O G PL SA SB KP U R R2 GB x
theorem carried_eq (w : World) (a b : Addr) (vs us : List Value) (ns ps : List Int) (hi : IntsAre vs ns) (hj : IntsAre us ps) (K : Fact ns ps) :
    Spec w 4 267 [.ref a, .ref b] [] (fun h => h.IsList a vs.toArray ∧ h.IsList b us.toArray) (fun _ v _ => v = .bool true) := by
  obtain ⟨V', S, C, MK, W, FD, O, G, PL, SA, SB, KP, U, R, R2, GB, x, K⟩ := K
  exact carried_spec w a b vs us ns ps V' S C MK W FD O G PL SA SB KP U R R2 GB x hi hj K
noncomputable def picksOf (zs : List Int) : List Int := if zs = [] then [0] else (zs.take 12).map fun n => n.fmod 10530
noncomputable def wholeOf (zs : List Int) : List Int := [103, 63, 128, 51, 245] ++ (zs.take 12).map fun n => n.fmod 256
noncomputable abbrev lawE (L : Addr) : Env := envOf (Str.ofString "law") (sco 39) L 272 (.ref 271)
noncomputable abbrev SegL (w : World) (l : List Stmt) (Pre Post : Heap → Addr → (Str → Option Value) → List (Addr × Obj) → Prop) : Prop :=
  ∀ (dp un : Nat) (fr : Option (List Env)) (gd : Option (List Code)) (h₀ : Heap) (L : Addr) (s : Shared) (m : Str → Option Value) (news : List (Addr × Obj)) (Q : Flow → Shared → Prop),
    Ev w h₀ → dp + 5 < recursionLimit → un + 100 < cLine → Fr h₀ L s.heap m → News h₀ L s.heap news → Pre h₀ L m news →
    (∀ h' tk' m' news', Fr h₀ L h' m' → News h₀ L h' news' → Post h₀ L m' news' → Q .next { s with heap := h', toks := tk' }) →
    wpAny (model PP w) ((AA dp un fr gd).deeper (lawE L)) (execs l (lawE L)) Q (fun _ _ => False) s
theorem slice_to (vs : List Value) (n : Nat) : (slicePick vs.toArray none (some (n : Int)) none).toList = vs.take n := by
  have e : sliceBounds none (some (n : Int)) none vs.toArray.size = (((0 : Nat) : Int), ((min n vs.length : Nat) : Int), 1) := by
    simp only [sliceBounds, Option.getD_none, show (1 : Int) > 0 by decide, if_true, if_neg (show ¬ ((n : Int) < 0) by omega), List.size_toArray]
    congr 1
    congr 1
    omega
  rw [kmk_pick_nat _ e]
  show (vs.drop 0).take (min n vs.length - 0) = vs.take n
  rw [List.drop_zero, Nat.sub_zero]
  by_cases h : n ≤ vs.length
  · rw [Nat.min_eq_left h]
  · rw [List.take_of_length_le (by omega), List.take_of_length_le (by omega)]
theorem slice_at {prog : Program} {w : World} {A : Around} {E : Value → Shared → Prop} {s : Shared} {h₀ h : Heap} {L l : Addr} {news : List (Addr × Obj)} {m : Str → Option Value} {value slice : Expr} {its : Array Value} {lo hi : Option Int} {vl vu : Value} {zs : List Value} {tk : Nat} {Q : Value → Shared → Prop}
    (F : Fr h₀ L h m) (N : News h₀ L h news) (hl : h.IsList l its) (pl : IsPart vl lo) (pu : IsPart vu hi) (e : (slicePick its lo hi none).toList = zs)
    (k : ∀ D h', Fr h₀ L h' m → News h₀ L h' ((D, listOf zs.toArray 0) :: news) → (∀ p ∈ news, @LT.lt Nat _ p.1 D) → Q (.ref D) { s with heap := h', toks := tk })
    (hs : subscripted slice false (.ref l) (.ref h.objs.size) = operate [.ref h.objs.size, .ref l] (getItem (.ref l) (.ref h.objs.size))) (ht : ∀ r, letTemporaryGo value (.ref l) r = pure ()) (hz : its.size ≤ sizeLine) :
    wpAny (model prog w) A (subscriptTail value slice (.ref l) (.ref h.objs.size)) Q E { s with heap := h.push { cls := .type "slice", data := .fields #[vl, vu, .none] }, toks := tk } :=
  kmk_slice_lit (s := { s with heap := h, toks := tk }) F N hl pl pu e k hs ht hz
theorem slice12 (vs : List Value) : (slicePick vs.toArray none (some 12) none).toList = vs.take 12 := slice_to vs 12
set_option maxHeartbeats 4000000 in
theorem law0 (w : World) (a : Addr) (vs : List Value) (zs : List Int) (hi : IntsAre vs zs) (hlen : zs.length ≤ 63) :
    SegL w [stm 39 0] (fun h₀ _ m news => h₀.IsList a vs.toArray ∧ Vals [Str.ofString "script"] [.ref a] m ∧ news = [])
      (fun _ _ m news => ∃ D cs cn, Vals [Str.ofString "picks", Str.ofString "script"] [.ref D, .ref a] m ∧ news = [(D, listOf cs cn)] ∧ IntsAre cs.toList (picksOf zs)) := by
  k_with_none
  k_with "exec" => ((with_reducible show wpAny _ _ (exec (stm _ _) _) _ _ _); k_dflt (conv => arg 3; arg 1; whnf))
  k_with "call type:type" => ((with_reducible show wpAny _ _ (call (Value.type "type") [Value.bytes _ _]) _ _ _); refine type_bytes ?_)
  k_with "getMethod str" => ((with_reducible show wpAny _ _ (getMethod (Value.str _ _) (PySem.Str.ofString "encode") _) _ _ _); refine encode_get ?_)
  k_with "call builtin:str.encode" => (k_dflt (refine encode_call (by assumption) (by assumption) ?_); intro _)
  k_with "getMethod bytes" => (first | refine hex_get ?_ | refine bupper_get ?_)
  k_with "call builtin:bytes.hex" => (k_dflt (refine hex_call (by assumption) ?_); intro _)
  k_with "call builtin:bytes.upper" => (k_dflt (refine bupper_call (by assumption) ?_); intro _)
  k_with "compareOp In int ref" => ((with_reducible show wpAny _ _ (compareOp CmpOp.In (Value.int _ _) (Value.ref 170)) _ _ _); k_dflt (refine in170 (by k_in) ?_))
  k_with "getMethod ref" => ((with_reducible show wpAny _ _ (getMethod (Value.ref 181) _ _) _ _ _); k_dflt (refine meth181 (by k_in) ?_))
  k_with "call builtin:dict.get" => ((with_reducible show wpAny _ _ (call (Value.builtin "dict.get") [Value.ref 181, Value.int _ _]) _ _ _); k_dflt (refine get181 (by k_in) ?_))
  k_with "call builtin:list.append" => (k_dflt (refine' append_K ?k1 ?k2 ?k3 ?_ ?z; (case k1 => k_asm); (case k2 => k_asm); (case k3 => k_upd); (case z => (rw [sizeLine_eq]; (try simp only [Array.size_push, Array.size_empty]); omega))); intro h' F' N'; (try k_sweep))
  k_with "binaryOp LShift int int" => (k_dflt (refine' lshift_int_small ?a ?b ?c ?_; (case a => omega); (case b => omega); (case c => (first | omega | (simp only [bitAnd_m6, bitAnd_m2, bitAnd_m4]; omega)))))
  k_with "subscriptTail" => ((with_reducible show wpAny _ _ (subscriptTail _ _ (Value.bytes _ _) (Value.int _ _)) _ _ _); k_dflt (refine' item_signs ?e ?a ?b ?_; (case e => exact rfl); (case a => (simp only [bitAnd_m6, bitAnd_m2, bitAnd_m4, Int.reduceToNat, Int.reducePow]; omega)); (case b => (simp only [bitAnd_m6, bitAnd_m2, bitAnd_m4, Int.reduceToNat, Int.reducePow]; omega))); intro _)
  k_with "eval ListComp" => (k_dflt (refine' comp_U ?f ?a ?b ?c ?d ?e ?h; (case f => k_asm); (case a => exact rfl); (case b => decide +kernel); (case c => exact rfl); (case d => decide +kernel); (case e => exact rfl)))
  rintro dp un fr gd h₀ L s m news Q V hd hu F N ⟨hla, hv, rfl⟩ ret
  rw [overV hv] at F
  clear hv
  dsimp only [over] at F
  have X := V.k
  obtain ⟨p, loose, mean, mg, mb, T⟩ := V.t
  unfold lawE at *
  have hsc : sco 39 = sco 39 := rfl
  (conv at hsc => rhs; whnf)
  rw [hsc] at *
  clear hsc
  (try dsimp only)
  (try k_fold)
  k_steps
  refine' slice_at F N (hla.at fun o e => F.keep a o e) .none (.int _ _) (slice12 vs) ?_ ?hs ?ht ?hz
  case hs => with_unfolding_all rfl
  case ht => intro _; with_unfolding_all rfl
  case hz => rw [sizeLine_eq]; have := hi.length; simp; omega
  intro D2 h2 F2 N2 l2
  clear F N
  have hi12 := hi.take 12
  have hlen12 : (vs.take 12).length ≤ 12 := by rw [List.length_take]; omega
  k_steps
  refine ⟨_, _, fun i y => ∃ n t, ((zs.take 12).map fun n => n.fmod 10530)[i]? = some n ∧ y = Value.int n t, _, F2, N2, src_list rfl F2 N2 (.inr ⟨0, .head _⟩), by rw [sizeLine_eq, List.size_toArray]; omega, ?_, ?_⟩
  · rintro i v I oI C oC D m₂ h tk zs E' hil hv hC hx F3 N3
    obtain ⟨n, u, rfl, hn⟩ := hi12.at i v (by simpa using hv)
    clear F2 N2 hv
    k_steps
    rename Fr _ _ _ _ => F4
    rename News _ _ _ _ => N4
    exact EltEnd.intro F4 N4 (fun p h => h) ⟨_, _, by rw [List.getElem?_map, hn]; rfl, rfl⟩
  · intro D h tk ys F3 N3 o2 hzl hz
    clear F2 N2
    have hl12 := hi12.length
    have hys : IntsAre ys ((zs.take 12).map fun n => n.fmod 10530) := intsAre_of (by rw [hzl, List.length_map, List.size_toArray, hl12]) hz
    k_steps
    · rename Fr _ _ _ _ => F5
      rename News _ _ _ _ => N5
      have hz0 : zs ≠ [] := fun e => by subst e; simp at *
      exact ret _ _ _ _ F5 (news_sub N5 fun p hp => by rw [List.mem_singleton.mp hp]; exact .head _) ⟨D, ys.toArray, ys.length, ⟨rfl, rfl, trivial⟩, rfl, by unfold picksOf; rw [if_neg hz0]; exact hys⟩
    · rename Fr _ _ _ _ => F5
      rename News _ _ _ _ => N5
      have hz0 : zs = [] := by
        cases zs with
        | nil => rfl
        | cons a r => rename ¬ (0 < _) => hbad; exact absurd (by simp) hbad
      exact ret _ _ _ _ F5 (news_sub N5 fun p hp => by rw [List.mem_singleton.mp hp]; exact .head _) ⟨_, _, _, ⟨rfl, rfl, trivial⟩, rfl, by unfold picksOf; rw [if_pos hz0]; exact .cons _ _ .nil⟩
set_option maxHeartbeats 4000000 in
theorem law1 (w : World) (a : Addr) (vs : List Value) (zs PS : List Int) (hi : IntsAre vs zs) (hlen : zs.length ≤ 63) :
    SegL w [stm 39 1] (fun h₀ _ m news => h₀.IsList a vs.toArray ∧ ∃ D cs cn, Vals [Str.ofString "picks", Str.ofString "script"] [.ref D, .ref a] m ∧ news = [(D, listOf cs cn)] ∧ IntsAre cs.toList PS)
      (fun _ _ m news => ∃ D cs cn D2 ds dn, Vals [Str.ofString "whole", Str.ofString "picks"] [.ref D2, .ref D] m ∧ news = [(D2, listOf ds dn), (D, listOf cs cn)] ∧ IntsAre ds.toList (wholeOf zs) ∧ IntsAre cs.toList PS) := by
  k_with_none
  k_with "exec" => ((with_reducible show wpAny _ _ (exec (stm _ _) _) _ _ _); k_dflt (conv => arg 3; arg 1; whnf))
  k_with "call type:type" => ((with_reducible show wpAny _ _ (call (Value.type "type") [Value.bytes _ _]) _ _ _); refine type_bytes ?_)
  k_with "getMethod str" => ((with_reducible show wpAny _ _ (getMethod (Value.str _ _) (PySem.Str.ofString "encode") _) _ _ _); refine encode_get ?_)
  k_with "call builtin:str.encode" => (k_dflt (refine encode_call (by assumption) (by assumption) ?_); intro _)
  k_with "getMethod bytes" => (first | refine hex_get ?_ | refine bupper_get ?_)
  k_with "call builtin:bytes.hex" => (k_dflt (refine hex_call (by assumption) ?_); intro _)
  k_with "call builtin:bytes.upper" => (k_dflt (refine bupper_call (by assumption) ?_); intro _)
  k_with "compareOp In int ref" => ((with_reducible show wpAny _ _ (compareOp CmpOp.In (Value.int _ _) (Value.ref 170)) _ _ _); k_dflt (refine in170 (by k_in) ?_))
  k_with "getMethod ref" => ((with_reducible show wpAny _ _ (getMethod (Value.ref 181) _ _) _ _ _); k_dflt (refine meth181 (by k_in) ?_))
  k_with "call builtin:dict.get" => ((with_reducible show wpAny _ _ (call (Value.builtin "dict.get") [Value.ref 181, Value.int _ _]) _ _ _); k_dflt (refine get181 (by k_in) ?_))
  k_with "call builtin:list.append" => (k_dflt (refine' append_K ?k1 ?k2 ?k3 ?_ ?z; (case k1 => k_asm); (case k2 => k_asm); (case k3 => k_upd); (case z => (rw [sizeLine_eq]; (try simp only [Array.size_push, Array.size_empty]); omega))); intro h' F' N'; (try k_sweep))
  k_with "binaryOp LShift int int" => (k_dflt (refine' lshift_int_small ?a ?b ?c ?_; (case a => omega); (case b => omega); (case c => (first | omega | (simp only [bitAnd_m6, bitAnd_m2, bitAnd_m4]; omega)))))
  k_with "subscriptTail" => ((with_reducible show wpAny _ _ (subscriptTail _ _ (Value.bytes _ _) (Value.int _ _)) _ _ _); k_dflt (refine' item_signs ?e ?a ?b ?_; (case e => exact rfl); (case a => (simp only [bitAnd_m6, bitAnd_m2, bitAnd_m4, Int.reduceToNat, Int.reducePow]; omega)); (case b => (simp only [bitAnd_m6, bitAnd_m2, bitAnd_m4, Int.reduceToNat, Int.reducePow]; omega))); intro _)
  k_with "eval ListComp" => (k_dflt (refine' comp_U ?f ?a ?b ?c ?d ?e ?h; (case f => k_asm); (case a => exact rfl); (case b => decide +kernel); (case c => exact rfl); (case d => decide +kernel); (case e => exact rfl)))
  rintro dp un fr gd h₀ L s m news Q V hd hu F N ⟨hla, P, ps, pn, hv, rfl, hps⟩ ret
  rw [overV hv] at F
  clear hv
  dsimp only [over] at F
  have X := V.k
  obtain ⟨p, loose, mean, mg, mb, T⟩ := V.t
  unfold lawE at *
  have hsc : sco 39 = sco 39 := rfl
  (conv at hsc => rhs; whnf)
  rw [hsc] at *
  clear hsc
  (try dsimp only)
  (try k_fold)
  k_steps
  rename Fr _ _ _ _ => F1
  rename News _ _ _ _ => N1
  refine' slice_at F1 N1 (hla.at fun o e => F1.keep a o e) .none (.int _ _) (slice12 vs) ?_ ?hs ?ht ?hz
  case hs => with_unfolding_all rfl
  case ht => intro _; with_unfolding_all rfl
  case hz => rw [sizeLine_eq]; have := hi.length; simp; omega
  intro D2 h2 F2 N2 l2
  clear F1 N1
  have hi12 := hi.take 12
  have hlen12 : (vs.take 12).length ≤ 12 := by rw [List.length_take]; omega
  k_steps
  refine ⟨_, _, fun i y => ∃ n t, ((zs.take 12).map fun n => n.fmod 256)[i]? = some n ∧ y = Value.int n t, _, F2, N2, src_list rfl F2 N2 (.inr ⟨0, .head _⟩), by rw [sizeLine_eq, List.size_toArray]; omega, ?_, ?_⟩
  · rintro i v I oI C oC D m₂ h tk zs E' hil hv hC hx F3 N3
    obtain ⟨n, u, rfl, hn⟩ := hi12.at i v (by simpa using hv)
    clear F2 N2 hv
    k_steps
    rename Fr _ _ _ _ => F4
    rename News _ _ _ _ => N4
    exact EltEnd.intro F4 N4 (fun p h => h) ⟨_, _, by rw [List.getElem?_map, hn]; rfl, rfl⟩
  · intro D h tk ys F3 N3 o2 hzl hz
    clear F2 N2
    have hl12 := hi12.length
    have hys : IntsAre ys ((zs.take 12).map fun n => n.fmod 256) := intsAre_of (by rw [hzl, List.length_map, List.size_toArray, hl12]) hz
    k_steps
    rename Fr _ _ _ _ => F5
    rename News _ _ _ _ => N5
    exact ret _ _ _ _ F5 (news_sub N5 (two_in (.head _) (.tail _ (.tail _ (.tail _ (.tail _ (.head _))))))) ⟨_, _, _, _, _, _, ⟨rfl, rfl, trivial⟩, rfl, by assumption, hps⟩
end
section -- L2
open PySem PySem.W PyProof.Rows
theorem slice_int (its : Array Value) {i : Int} (h : 0 ≤ i) : (slicePick its none (some i) none).toList = its.toList.take i.toNat := by
  have := slice_to its.toList i.toNat
  rwa [Array.toArray_toList, Int.toNat_of_nonneg h] at this
noncomputable abbrev RetL (w : World) (l : List Stmt) (Pre : Heap → Addr → (Str → Option Value) → List (Addr × Obj) → Prop) : Prop :=
  ∀ (dp un : Nat) (fr : Option (List Env)) (gd : Option (List Code)) (h₀ : Heap) (L : Addr) (s : Shared) (m : Str → Option Value) (news : List (Addr × Obj)) (Q : Flow → Shared → Prop),
    Ev w h₀ → dp + 5 < recursionLimit → un + 100 < cLine → Fr h₀ L s.heap m → News h₀ L s.heap news → Pre h₀ L m news →
    (∀ h' tk' m', Fr h₀ L h' m' → Q (.ret (.bool true)) { s with heap := h', toks := tk' }) →
    wpAny (model PP w) ((AA dp un fr gd).deeper (lawE L)) (execs l (lawE L)) Q (fun _ _ => False) s
theorem SegL.ret {w : World} {l l' : List Stmt} {A B : Heap → Addr → (Str → Option Value) → List (Addr × Obj) → Prop} (x : SegL w l A B) (P : Heap → Prop) (y : RetL w l' fun h L m n => P h ∧ B h L m n) : RetL w (l ++ l') fun h L m n => P h ∧ A h L m n := by
  intro dp un fr gd h₀ L s m news Q V hd hu F N p ret
  rw [execs_append]
  refine wpAny_bind (x dp un fr gd h₀ L s m news _ V hd hu F N p.2 fun h' tk' m' news' F' N' p' => ?_)
  exact y dp un fr gd h₀ L _ m' news' Q V hd hu F' N' ⟨p.1, p'⟩ ret
set_option maxHeartbeats 4000000 in
theorem law2 (w : World) (WH PS : List Int) (hF : ∀ n, WH.length - 2 ≤ n → n ≤ WH.length → Fact (WH.take n) PS) (hl : 3 ≤ WH.length) (hl2 : WH.length ≤ 17) :
    RetL w [stm 39 2, stm 39 3] (fun _ _ m news => ∃ D cs cn D2 ds dn, Vals [Str.ofString "whole", Str.ofString "picks"] [.ref D2, .ref D] m ∧ news = [(D2, listOf ds dn), (D, listOf cs cn)] ∧ IntsAre ds.toList WH ∧ IntsAre cs.toList PS) := by
  k_with_none
  k_with "exec" => ((with_reducible show wpAny _ _ (exec (stm _ _) _) _ _ _); k_dflt (conv => arg 3; arg 1; whnf))
  k_with "call type:type" => ((with_reducible show wpAny _ _ (call (Value.type "type") [Value.bytes _ _]) _ _ _); refine type_bytes ?_)
  k_with "getMethod str" => ((with_reducible show wpAny _ _ (getMethod (Value.str _ _) (PySem.Str.ofString "encode") _) _ _ _); refine encode_get ?_)
  k_with "call builtin:str.encode" => (k_dflt (refine encode_call (by assumption) (by assumption) ?_); intro _)
  k_with "getMethod bytes" => (first | refine hex_get ?_ | refine bupper_get ?_)
  k_with "call builtin:bytes.hex" => (k_dflt (refine hex_call (by assumption) ?_); intro _)
  k_with "call builtin:bytes.upper" => (k_dflt (refine bupper_call (by assumption) ?_); intro _)
  k_with "compareOp In int ref" => ((with_reducible show wpAny _ _ (compareOp CmpOp.In (Value.int _ _) (Value.ref 170)) _ _ _); k_dflt (refine in170 (by k_in) ?_))
  k_with "getMethod ref" => ((with_reducible show wpAny _ _ (getMethod (Value.ref 181) _ _) _ _ _); k_dflt (refine meth181 (by k_in) ?_))
  k_with "call builtin:dict.get" => ((with_reducible show wpAny _ _ (call (Value.builtin "dict.get") [Value.ref 181, Value.int _ _]) _ _ _); k_dflt (refine get181 (by k_in) ?_))
  k_with "call builtin:list.append" => (k_dflt (refine' append_K ?k1 ?k2 ?k3 ?_ ?z; (case k1 => k_asm); (case k2 => k_asm); (case k3 => k_upd); (case z => (rw [sizeLine_eq]; (try simp only [Array.size_push, Array.size_empty]); omega))); intro h' F' N'; (try k_sweep))
  k_with "binaryOp LShift int int" => (k_dflt (refine' lshift_int_small ?a ?b ?c ?_; (case a => omega); (case b => omega); (case c => (first | omega | (simp only [bitAnd_m6, bitAnd_m2, bitAnd_m4]; omega)))))
  k_with "subscriptTail" => ((with_reducible show wpAny _ _ (subscriptTail _ _ (Value.bytes _ _) (Value.int _ _)) _ _ _); k_dflt (refine' item_signs ?e ?a ?b ?_; (case e => exact rfl); (case a => (simp only [bitAnd_m6, bitAnd_m2, bitAnd_m4, Int.reduceToNat, Int.reducePow]; omega)); (case b => (simp only [bitAnd_m6, bitAnd_m2, bitAnd_m4, Int.reduceToNat, Int.reducePow]; omega))); intro _)
  k_with "subscriptTail" => ((with_reducible show wpAny _ _ (subscriptTail _ _ (Value.ref _) (Value.ref _)) _ _ _); k_dflt (refine' slice_at ?sF ?sN ?sl .none (.int _ _) (slice_int ds ?sp) ?_ ?shs ?sht ?shz; (case sF => k_asm); (case sN => k_asm); (case sl => is_list); (case sp => omega); (case shs => with_unfolding_all rfl); (case sht => intro _; with_unfolding_all rfl); (case shz => rw [sizeLine_eq]; omega)); intro Dz hz Fz Nz lz; (try k_sweep))
  k_with "call ref" => ((with_reducible show wpAny _ _ (call (Value.ref 267) _ _) _ _ _); k_dflt (refine' use_spec (carried_eq _ _ _ _ _ _ _ (hds.take _) hps (hF _ ?cka ?ckb)) ?cV ?cF ?cN ?cP ?cD ?cU ?_; (case cV => assumption); (case cF => k_asm); (case cN => k_asm); (case cP => exact ⟨by is_list, by is_list⟩); (case cka => omega); (case ckb => omega); (case cD => (dsimp only; omega)); (case cU => (dsimp only; omega))); intro v9 h9 tk9 F9 N9 k9 p9; subst p9; (try k_sweep); (try dsimp only))
  rintro dp un fr gd h₀ L s m news Q V hd hu F N ⟨P, ps, pn, D2, ds, dn, hv, rfl, hds, hps⟩ ret
  rw [overV hv] at F
  clear hv
  dsimp only [over] at F
  have X := V.k
  obtain ⟨p, loose, mean, mg, mb, T⟩ := V.t
  unfold lawE at *
  have hsc : sco 39 = sco 39 := rfl
  (conv at hsc => rhs; whnf)
  rw [hsc] at *
  clear hsc
  (try dsimp only)
  (try k_fold)
  have hdl : ds.size = WH.length := by have := hds.length; simpa using this
  k_steps
  rename Fr _ _ _ _ => F5
  exact ret _ _ _ F5
set_option maxHeartbeats 4000000 in
theorem law_spec (w : World) (a : Addr) (vs : List Value) (zs : List Int) (hi : IntsAre vs zs) (hlen : zs.length ≤ 63) (hF : ∀ n, (wholeOf zs).length - 2 ≤ n → n ≤ (wholeOf zs).length → Fact ((wholeOf zs).take n) (picksOf zs)) :
    Spec w 5 272 [.ref a] [] (fun h => h.IsList a vs.toArray) (fun _ v _ => v = .bool true) := by
  intro dp un fr gd s Q E V hla hd hu ret
  have hwl : 3 ≤ (wholeOf zs).length ∧ (wholeOf zs).length ≤ 17 := by unfold wholeOf; simp; omega
  refine' enter [(Str.ofString "script", .ref a)] V ?k6 ?k7 (by show dp < recursionLimit; omega) ?k9 ?kB ?c5 ?c2 ?c3 ?c4 ?_
  (case k6 => k_is)
  (case k7 => k_is)
  (case k9 => first | exact BindsTo.of_eq rfl | exact binds_K V.k rfl (by k_is) rfl rfl rfl)
  (case kB => exact locs rfl)
  (case c5 => decide +kernel)
  (case c2 => exact rfl)
  (case c3 => exact rfl)
  (case c4 => exact rfl)
  rw [show bod 39 = ([stm 39 0] ++ ([stm 39 1] ++ [stm 39 2, stm 39 3])) from rfl]
  rintro L h₁ tk₁ X _ F N
  have all : RetL w ([stm 39 0] ++ ([stm 39 1] ++ [stm 39 2, stm 39 3])) (fun h₀ _ m news => h₀.IsList a vs.toArray ∧ h₀.IsList a vs.toArray ∧ Vals [Str.ofString "script"] [.ref a] m ∧ news = []) :=
    (law0 w a vs zs hi hlen).ret (fun h => h.IsList a vs.toArray) (fun dp un fr gd h₀ L s m news Q V hd hu F N p ret => (law1 w a vs zs (picksOf zs) hi hlen).ret (fun _ => True) (fun dp un fr gd h₀ L s m news Q V hd hu F N p ret => law2 w (wholeOf zs) (picksOf zs) hF hwl.1 hwl.2 dp un fr gd h₀ L s m news Q V hd hu F N p.2 ret) dp un fr gd h₀ L s m news Q V hd hu F N ⟨trivial, p.1, p.2⟩ ret)
  refine all dp un fr gd s.heap L _ _ _ _ V hd hu F N ⟨hla, hla, ⟨by with_unfolding_all rfl, trivial⟩, rfl⟩ fun h' tk' m' F' => ?_
  exact ret _ _ _ F'.keep rfl
end
end
section -- Q1
noncomputable def val (b : Int) (ds : List Int) : Int := ds.foldl (fun z k => z * b + k) 0
theorem val_snoc (b : Int) (ds : List Int) (d : Int) : val b (ds ++ [d]) = val b ds * b + d := by simp [val]
theorem numOf_val (ns : List Int) : numOf ns = val 256 ns := rfl
theorem num64_val (ns : List Int) : num64 ns = val 64 ns := rfl
noncomputable def InB (b : Int) (ds : List Int) : Prop := ∀ d ∈ ds, 0 ≤ d ∧ d < b
theorem InB.snoc {b : Int} {ds : List Int} {d : Int} (h : InB b ds) (h0 : 0 ≤ d) (h1 : d < b) : InB b (ds ++ [d]) := fun x hx => by
  rcases List.mem_append.mp hx with hx | hx
  · exact h x hx
  · rw [List.mem_singleton.mp hx]; exact ⟨h0, h1⟩
theorem snoc_ind {α : Type} {P : List α → Prop} (h0 : P []) (h1 : ∀ l a, P l → P (l ++ [a])) : ∀ l, P l := by
  intro l
  generalize hn : l.length = n
  induction n generalizing l with
  | zero => rw [List.eq_nil_of_length_eq_zero hn]; exact h0
  | succ n ih =>
    rcases List.eq_nil_or_concat l with rfl | ⟨l', a, rfl⟩
    · exact h0
    · rw [List.concat_eq_append]
      refine h1 l' a (ih l' ?_)
      simp at hn; exact hn
theorem digits_lsb (b z : Int) : ∀ n, digits b z (n + 1) = ((digits b (z.fdiv b) n).1, (digits b (z.fdiv b) n).2 ++ [z.fmod b])
  | 0 => rfl
  | n + 1 => by
    have ih := digits_lsb b z n
    rw [digits, ih]
    rfl
theorem fdiv_snoc {b v d : Int} (h0 : 0 ≤ d) (h1 : d < b) : (v * b + d).fdiv b = v ∧ (v * b + d).fmod b = d := by
  have hb : 0 < b := by (first | lia | omega)
  rw [Int.fdiv_eq_ediv_of_nonneg _ (by (first | lia | omega)), Int.fmod_eq_emod_of_nonneg _ (by (first | lia | omega))]
  constructor
  · rw [Int.add_comm, Int.add_mul_ediv_right _ _ (by (first | lia | omega)), Int.ediv_eq_zero_of_lt h0 h1, Int.zero_add]
  · rw [Int.add_comm, Int.add_mul_emod_self_right, Int.emod_eq_of_lt h0 h1]
theorem digits_val {b : Int} : ∀ ds : List Int, InB b ds → (digits b (val b ds) ds.length).2 = ds := by
  refine snoc_ind (fun _ => rfl) fun l a ih h => ?_
  have ha := h a (by simp)
  have hl : InB b l := fun x hx => h x (by simp [hx])
  obtain ⟨e1, e2⟩ := fdiv_snoc (v := val b l) ha.1 ha.2
  rw [val_snoc, List.length_append, List.length_singleton, digits_lsb, e1, e2, ih hl]
theorem val_bound {b : Int} (hb : 0 < b) : ∀ ds : List Int, InB b ds → 0 ≤ val b ds ∧ val b ds < b ^ ds.length := by
  refine snoc_ind (fun _ => ⟨Int.le_refl 0, by show (0 : Int) < b ^ 0; simp⟩) fun l a ih h => ?_
  have ha := h a (by simp)
  obtain ⟨h0, h1⟩ := ih fun x hx => h x (by simp [hx])
  rw [val_snoc, List.length_append, List.length_singleton, Int.pow_succ]
  have := Int.mul_nonneg h0 (Int.le_of_lt hb)
  refine ⟨by (first | lia | omega), ?_⟩
  have h2 : (val b l + 1) * b ≤ b ^ l.length * b := Int.mul_le_mul_of_nonneg_right (by (first | lia | omega)) (by (first | lia | omega))
  rw [Int.add_mul] at h2
  (first | lia | omega)
theorem val_digits {b : Int} (hb : 0 < b) : ∀ (n : Nat) (z : Int), 0 ≤ z → z < b ^ n → val b (digits b z n).2 = z
  | 0, z, h0, h1 => by
    have : z < 1 := by simpa using h1
    have : z = 0 := by (first | lia | omega)
    subst this; rfl
  | n + 1, z, h0, h1 => by
    rw [digits_lsb, val_snoc]
    have e1 : z.fdiv b = z / b := Int.fdiv_eq_ediv_of_nonneg _ (by (first | lia | omega))
    have e2 : z.fmod b = z % b := Int.fmod_eq_emod_of_nonneg _ (by (first | lia | omega))
    rw [e1, e2, val_digits hb n (z / b) (Int.ediv_nonneg h0 (by (first | lia | omega))) ?_]
    · rw [Int.mul_comm]; exact Int.mul_ediv_add_emod z b
    · rw [Int.pow_succ] at h1
      exact Int.ediv_lt_of_lt_mul hb h1
theorem digits_inB {b : Int} (hb : 0 < b) (z : Int) (n : Nat) : InB b (digits b z n).2 := digits_range hb z n
theorem sgn_back0 : ∀ v < 64, b64v (sgn (v : Nat)) = (v : Nat) ∧ sgn (v : Nat) ≠ 61 := by decide +kernel
theorem sgn_back {v : Int} (h0 : 0 ≤ v) (h1 : v < 64) : b64v (sgn v) = v ∧ sgn v ≠ 61 := by
  have := sgn_back0 v.toNat (by (first | lia | omega))
  rwa [Int.toNat_of_nonneg h0] at this
noncomputable def zero : Dec := ⟨0, 0, 0, []⟩
noncomputable def decL (cs : List Int) : Dec := cs.foldl decStep zero
theorem decAt_L (cs : List Int) : decAt cs cs.length = decL cs := by unfold decAt; rw [List.take_length]; rfl
structure DInv (vs : List Int) (z : Dec) : Prop where
  p : z.p = 0
  b : InB 256 z.o
  q : (z.q = 0 ∧ z.l = 0 ∧ val 64 vs = val 256 z.o ∧ 4 * z.o.length = 3 * vs.length) ∨ (z.q = 1 ∧ 0 ≤ z.l ∧ z.l < 64 ∧ val 64 vs = val 256 z.o * 64 + z.l ∧ 4 * z.o.length + 3 = 3 * vs.length) ∨
      (z.q = 2 ∧ 0 ≤ z.l ∧ z.l < 16 ∧ val 64 vs = val 256 z.o * 16 + z.l ∧ 4 * z.o.length + 2 = 3 * vs.length) ∨ (z.q = 3 ∧ 0 ≤ z.l ∧ z.l < 4 ∧ val 64 vs = val 256 z.o * 4 + z.l ∧ 4 * z.o.length + 1 = 3 * vs.length)
theorem decStep_sgn {z : Dec} {v : Int} (h0 : 0 ≤ v) (h1 : v < 64) : decStep z (sgn v) = if z.q = 0 then ⟨1, v, 0, z.o⟩ else if z.q = 1 then ⟨2, v % 16, 0, z.o ++ [z.l * 4 + v / 16]⟩ else if z.q = 2 then ⟨3, v % 4, 0, z.o ++ [z.l * 16 + v / 4]⟩ else ⟨0, 0, 0, z.o ++ [z.l * 64 + v]⟩ := by
  obtain ⟨e1, e2⟩ := sgn_back h0 h1
  unfold decStep
  rw [if_neg e2, e1, if_neg (by (first | lia | omega))]
theorem dec_inv : ∀ vs : List Int, InB 64 vs → DInv vs (decL (vs.map sgn)) := by
  refine snoc_ind (fun _ => ⟨rfl, (fun _ h => nomatch h), .inl ⟨rfl, rfl, rfl, rfl⟩⟩) fun l v ih h => ?_
  obtain ⟨h0, h1⟩ := h v (by simp)
  have ih := ih fun x hx => h x (by simp [hx])
  have e : decL ((l ++ [v]).map sgn) = decStep (decL (l.map sgn)) (sgn v) := by simp [decL]
  rw [e, decStep_sgn h0 h1]
  revert ih
  generalize decL (l.map sgn) = z
  rintro ⟨hp, hb, hq⟩
  rcases hq with ⟨e0, e1, e2, e3⟩ | ⟨e0, e1, e1', e2, e3⟩ | ⟨e0, e1, e1', e2, e3⟩ | ⟨e0, e1, e1', e2, e3⟩
  · rw [if_pos e0]
    exact ⟨rfl, hb, .inr (.inl ⟨rfl, h0, h1, by rw [val_snoc, e2], by dsimp only; simp; (first | lia | omega)⟩)⟩
  · rw [if_neg (by (first | lia | omega)), if_pos e0]
    exact ⟨rfl, hb.snoc (by (first | lia | omega)) (by (first | lia | omega)), .inr (.inr (.inl ⟨rfl, by dsimp only; (first | lia | omega), by dsimp only; (first | lia | omega), by dsimp only; rw [val_snoc, val_snoc, e2]; (first | lia | omega), by dsimp only; simp; (first | lia | omega)⟩))⟩
  · rw [if_neg (by (first | lia | omega)), if_neg (by (first | lia | omega)), if_pos e0]
    exact ⟨rfl, hb.snoc (by (first | lia | omega)) (by (first | lia | omega)), .inr (.inr (.inr ⟨rfl, by dsimp only; (first | lia | omega), by dsimp only; (first | lia | omega), by dsimp only; rw [val_snoc, val_snoc, e2]; (first | lia | omega), by dsimp only; simp; (first | lia | omega)⟩))⟩
  · rw [if_neg (by (first | lia | omega)), if_neg (by (first | lia | omega)), if_neg (by (first | lia | omega))]
    exact ⟨rfl, hb.snoc (by (first | lia | omega)) (by (first | lia | omega)), .inl ⟨rfl, rfl, by dsimp only; rw [val_snoc, val_snoc, e2]; (first | lia | omega), by dsimp only; simp; (first | lia | omega)⟩⟩
noncomputable def padN (n : Nat) : Nat := (3 - n % 3) % 3
theorem padN_eq (n : Nat) : ((-(n : Int)).fmod 3).toNat = padN n := by
  unfold padN
  rw [Int.fmod_eq_emod_of_nonneg _ (by decide)]
  (first | lia | omega)
noncomputable def lenV (n : Nat) : Nat := (4 * n + 2) / 3
theorem lenV_eq (n : Nat) : ((4 * (n : Int) + 2).fdiv 3).toNat = lenV n := by
  unfold lenV
  rw [Int.fdiv_eq_ediv_of_nonneg _ (by decide)]
  (first | lia | omega)
noncomputable def wr (vs : List Int) (n : Nat) : List Int := vs.map sgn ++ List.replicate (padN n) 61
theorem decL_wr (vs : List Int) (n : Nat) : decL (wr vs n) = { decL (vs.map sgn) with p := (decL (vs.map sgn)).p + padN n } := by
  unfold decL wr
  rw [List.foldl_append]
  generalize (vs.map sgn).foldl decStep zero = z
  generalize padN n = k
  induction k generalizing z with
  | zero => simp
  | succ k ih =>
    rw [List.replicate_succ, List.foldl_cons, ih]
    unfold decStep
    rw [if_pos rfl]
    dsimp only
    congr 1
    (first | lia | omega)
theorem dec_wr {vs : List Int} {n : Nat} (h : InB 64 vs) (hl : vs.length = lenV n) : decEnd (wr vs n) ∧ decode (wr vs n) = lawOctets vs n := by
  have D := dec_inv vs h
  have e := decL_wr vs n
  unfold decEnd decode
  rw [decAt_L, e]
  dsimp only
  revert D
  generalize decL (vs.map sgn) = z
  rintro ⟨hp, hb, hq⟩
  unfold lenV at hl
  have key : 4 ^ padN n * 1 = 4 ^ padN n := Nat.mul_one _
  have fin : ∀ k l : Int, z.o.length = n → 0 ≤ l → l < k → 0 < k → (4 : Int) ^ padN n = k → val 64 vs = val 256 z.o * k + l → z.o = lawOctets vs n := by
    intro k l hn hl0 hl1 hk hpow hv
    unfold lawOctets
    rw [padN_eq, num64_val, hv, hpow, (fdiv_snoc hl0 hl1).1, ← hn, digits_val _ hb]
  rcases hq with ⟨e0, e1, e2, e3⟩ | ⟨e0, e1, e1', e2, e3⟩ | ⟨e0, e1, e1', e2, e3⟩ | ⟨e0, e1, e1', e2, e3⟩
  · have : padN n = 0 := by unfold padN; (first | lia | omega)
    exact ⟨.inl e0, fin 1 0 (by (first | lia | omega)) (by decide) (by decide) (by decide) (by rw [this]; rfl) (by (first | lia | omega))⟩
  · exfalso; (first | lia | omega)
  · have : padN n = 2 := by unfold padN; (first | lia | omega)
    exact ⟨.inr ⟨by (first | lia | omega), by (first | lia | omega)⟩, fin 16 z.l (by (first | lia | omega)) e1 e1' (by decide) (by rw [this]; rfl) e2⟩
  · have : padN n = 1 := by unfold padN; (first | lia | omega)
    exact ⟨.inr ⟨by (first | lia | omega), by (first | lia | omega)⟩, fin 4 z.l (by (first | lia | omega)) e1 e1' (by decide) (by rw [this]; rfl) e2⟩
/-- what the reader's state holds behind the sender's -/
structure EInv (ns : List Int) (z : Int × Int × List Int) (E : List Int) : Prop where
  out : z.2.2 = E.map sgn
  rng : InB 64 E
  lc : z.1 = val 256 ns % 65536
  q : (z.2.1 = 0 ∧ val 256 ns = val 64 E ∧ 3 * E.length = 4 * ns.length) ∨ (z.2.1 = 2 ∧ val 256 ns / 4 = val 64 E ∧ 3 * E.length + 1 = 4 * ns.length) ∨ (z.2.1 = 4 ∧ val 256 ns / 16 = val 64 E ∧ 3 * E.length + 2 = 4 * ns.length)
theorem m4 (n : Int) : n % 65536 / 4 % 64 = n / 4 % 64 := by (first | lia | omega)
theorem m16 (n : Int) : n % 65536 / 16 % 64 = n / 16 % 64 := by (first | lia | omega)
theorem m64 (n : Int) : n % 65536 / 64 % 64 = n / 64 % 64 := by (first | lia | omega)
theorem m1 (n : Int) : n % 65536 % 64 = n % 64 := Int.emod_emod_of_dvd n (by decide)
theorem r64 (x : Int) : 0 ≤ x % 64 ∧ x % 64 < 64 := ⟨Int.emod_nonneg _ (by decide), Int.emod_lt_of_pos _ (by decide)⟩
theorem roll (x a : Int) (h : x / 64 = a) : x = a * 64 + x % 64 := by rw [← h, Int.mul_comm]; exact (Int.mul_ediv_add_emod x 64).symm
theorem InB.dig {ds : List Int} (h : InB 64 ds) (x : Int) : InB 64 (ds ++ [x % 64]) := h.snoc (r64 x).1 (r64 x).2
theorem len1 {l : List Int} {x : Int} : (l ++ [x]).length = l.length + 1 := List.length_append ..
theorem map1 {l out : List Int} {x : Int} (h : out = l.map sgn) : out ++ [sgn x] = (l ++ [x]).map sgn := by rw [h, List.map_append]; rfl
theorem map2 {l out : List Int} {x y : Int} (h : out = l.map sgn) : out ++ [sgn x, sgn y] = (l ++ [x] ++ [y]).map sgn := by rw [h, List.map_append, List.map_append, List.append_assoc]; rfl
theorem lc_next {lc V k : Int} (h : lc = V % 65536) : (lc * 256 + k) % 65536 = (V * 256 + k) % 65536 := by (first | lia | omega)
theorem up4 {V v k : Int} (h0 : 0 ≤ k) (h1 : k < 256) (h : V = v) : (V * 256 + k) / 4 / 64 = v := by (first | lia | omega)
theorem up16 {V v k : Int} (h0 : 0 ≤ k) (h1 : k < 256) (h : V / 4 = v) : (V * 256 + k) / 16 / 64 = v := by (first | lia | omega)
theorem up64 {V v k : Int} (h0 : 0 ≤ k) (h1 : k < 256) (h : V / 16 = v) : (V * 256 + k) / 64 / 64 = v := by (first | lia | omega)
theorem n4a {a b : Nat} (h : 3 * a = 4 * b) : 3 * (a + 1) + 1 = 4 * (b + 1) := by (first | lia | omega)
theorem n4b {a b : Nat} (h : 3 * a + 1 = 4 * b) : 3 * (a + 1) + 2 = 4 * (b + 1) := by (first | lia | omega)
theorem n4c {a b : Nat} (h : 3 * a + 2 = 4 * b) : 3 * (a + 1 + 1) = 4 * (b + 1) := by (first | lia | omega)
theorem enc_inv : ∀ ns : List Int, InB 256 ns → ∃ E, EInv ns (ns.foldl encStep (0, 0, [])) E := by
  refine snoc_ind (fun _ => ⟨[], rfl, (fun _ h => nomatch h), rfl, .inl ⟨rfl, rfl, rfl⟩⟩) fun l k ih h => ?_
  obtain ⟨h0, h1⟩ := h k (by simp)
  obtain ⟨E, ho, hr, hlc, hq⟩ := ih fun x hx => h x (by simp [hx])
  clear ih h
  rw [List.foldl_append, List.foldl_cons, List.foldl_nil]
  revert ho hlc hq
  generalize l.foldl encStep (0, 0, []) = z
  obtain ⟨lc, q, out⟩ := z
  intro ho hlc hq
  dsimp only at ho hlc hq
  have hs := val_snoc 256 l k
  generalize val 256 l = V at *
  have hlc2 := lc_next (k := k) hlc
  unfold encStep
  dsimp only
  rw [hlc2]
  have hll : (l ++ [k]).length = l.length + 1 := len1
  rcases hq with ⟨rfl, e2, e3⟩ | ⟨rfl, e2, e3⟩ | ⟨rfl, e2, e3⟩
  · rw [if_pos rfl, m4]
    exact ⟨_, map1 ho, hr.dig _, by rw [hs], .inr (.inl ⟨rfl, by rw [hs, val_snoc]; exact roll _ _ (up4 h0 h1 e2), by rw [hll, len1]; exact n4a e3⟩)⟩
  · rw [if_neg (by decide), if_pos rfl, m16]
    exact ⟨_, map1 ho, hr.dig _, by rw [hs], .inr (.inr ⟨rfl, by rw [hs, val_snoc]; exact roll _ _ (up16 h0 h1 e2), by rw [hll, len1]; exact n4b e3⟩)⟩
  · rw [if_neg (by decide), if_neg (by decide), m64, m1]
    exact ⟨_, map2 ho, (hr.dig _).dig _, by rw [hs], .inl ⟨rfl, by rw [hs, val_snoc, val_snoc, ← roll _ _ (up64 h0 h1 e2)]; exact roll _ _ rfl, by rw [hll, len1, len1]; exact n4c e3⟩⟩
theorem pad0 {a b : Nat} (h : 3 * a = 4 * b) : padN b = 0 ∧ a = lenV b := by unfold padN lenV; (first | lia | omega)
theorem pad2 {a b : Nat} (h : 3 * a + 1 = 4 * b) : padN b = 2 ∧ a + 1 = lenV b := by unfold padN lenV; (first | lia | omega)
theorem pad1 {a b : Nat} (h : 3 * a + 2 = 4 * b) : padN b = 1 ∧ a + 1 = lenV b := by unfold padN lenV; (first | lia | omega)
theorem l4 {lc V : Int} (h : lc = V % 65536) : lc % 4 = V % 4 := by rw [h]; exact Int.emod_emod_of_dvd V (by decide)
theorem l16 {lc V : Int} (h : lc = V % 65536) : lc % 16 = V % 16 := by rw [h]; exact Int.emod_emod_of_dvd V (by decide)
theorem t4 {V v : Int} (h : V / 4 = v) : v * 64 + V % 4 * 16 = V * 16 := by (first | lia | omega)
theorem t16 {V v : Int} (h : V / 16 = v) : v * 64 + V % 16 * 4 = V * 4 := by (first | lia | omega)
theorem b4 (V : Int) : 0 ≤ V % 4 * 16 ∧ V % 4 * 16 < 64 := by (first | lia | omega)
theorem b16 (V : Int) : 0 ≤ V % 16 * 4 ∧ V % 16 * 4 < 64 := by (first | lia | omega)
theorem enc_wr {ns : List Int} (h : InB 256 ns) : encode ns = wr (lawValues ns) ns.length := by
  obtain ⟨E, ho, hr, hlc, hq⟩ := enc_inv ns h
  unfold encode encAt
  rw [List.take_length]
  revert ho hlc hq
  generalize ns.foldl encStep (0, 0, []) = z
  obtain ⟨lc, q, out⟩ := z
  intro ho hlc hq
  dsimp only at ho hlc hq
  have fin : ∀ E' : List Int, InB 64 E' → E'.length = lenV ns.length → val 64 E' = val 256 ns * 4 ^ padN ns.length → E' = lawValues ns := by
    intro E' hE hl hv
    unfold lawValues
    rw [padN_eq, lenV_eq, numOf_val, ← hv, ← hl, digits_val _ hE]
  unfold encEnd
  dsimp only
  rcases hq with ⟨rfl, e2, e3⟩ | ⟨rfl, e2, e3⟩ | ⟨rfl, e2, e3⟩
  · rw [if_neg (by decide), if_neg (by decide)]
    obtain ⟨hp, hn⟩ := pad0 e3
    have := fin E hr hn (by rw [hp, ← e2]; exact (Int.mul_one _).symm)
    unfold wr
    rw [hp, ← this, ho]; simp
  · rw [if_pos rfl, l4 hlc]
    obtain ⟨hp, hn⟩ := pad2 e3
    have := fin _ (hr.snoc (b4 (val 256 ns)).1 (b4 (val 256 ns)).2) (len1.trans hn) (by rw [hp, val_snoc]; exact t4 e2)
    unfold wr
    rw [hp, ← this, ho]; simp [List.replicate]
  · rw [if_neg (by decide), if_pos rfl, l16 hlc]
    obtain ⟨hp, hn⟩ := pad1 e3
    have := fin _ (hr.snoc (b16 (val 256 ns)).1 (b16 (val 256 ns)).2) (len1.trans hn) (by rw [hp, val_snoc]; exact t16 e2)
    unfold wr
    rw [hp, ← this, ho]; simp [List.replicate]
end
section -- Q2
open PySem PySem.W PyProof.Rows
theorem pow_eq0 : ∀ n < 18, (64 : Int) ^ lenV n = 256 ^ n * 4 ^ padN n := by decide +kernel
theorem pow4_pos (k : Nat) : (0 : Int) < 4 ^ k := Int.pow_pos (by decide)
theorem lawValues_len (ns : List Int) : (lawValues ns).length = lenV ns.length := by unfold lawValues; rw [digits_len, lenV_eq]
theorem lawValues_in (ns : List Int) : InB 64 (lawValues ns) := by unfold lawValues; exact digits_inB (by decide) _ _
theorem lawValues_val {ns : List Int} (h : InB 256 ns) (hn : ns.length < 18) : val 64 (lawValues ns) = val 256 ns * 4 ^ padN ns.length := by
  obtain ⟨h0, h1⟩ := val_bound (b := 256) (by decide) ns h
  have hp := pow4_pos (padN ns.length)
  unfold lawValues
  rw [padN_eq, lenV_eq, numOf_val, val_digits (by decide) _ _ (Int.mul_nonneg h0 (Int.le_of_lt hp))]
  rw [pow_eq0 _ hn]
  exact Int.mul_lt_mul_of_pos_right h1 hp
theorem lawOctets_len (vs : List Int) (n : Nat) : (lawOctets vs n).length = n := by unfold lawOctets; rw [digits_len]
theorem lawOctets_in (vs : List Int) (n : Nat) : InB 256 (lawOctets vs n) := by unfold lawOctets; exact digits_inB (by decide) _ _
theorem oct_val {ns : List Int} (h : InB 256 ns) (hn : ns.length < 18) : lawOctets (lawValues ns) ns.length = ns := by
  have hp := pow4_pos (padN ns.length)
  unfold lawOctets
  rw [padN_eq, num64_val, lawValues_val h hn, Int.fdiv_eq_ediv_of_nonneg _ (Int.le_of_lt hp), Int.mul_ediv_cancel _ (by (first | lia | omega)), digits_val ns h]
theorem lawOctets_val {vs : List Int} {n : Nat} (h : InB 64 vs) (hl : vs.length = lenV n) (hn : n < 18) : val 256 (lawOctets vs n) = val 64 vs / 4 ^ padN n := by
  obtain ⟨h0, h1⟩ := val_bound (b := 64) (by decide) vs h
  have hp := pow4_pos (padN n)
  unfold lawOctets
  rw [padN_eq, num64_val, Int.fdiv_eq_ediv_of_nonneg _ (Int.le_of_lt hp), val_digits (by decide) _ _ (Int.ediv_nonneg h0 (Int.le_of_lt hp))]
  rw [hl, pow_eq0 n hn] at h1
  exact Int.ediv_lt_of_lt_mul hp h1
theorem val_oct {vs : List Int} {n : Nat} (h : InB 64 vs) (hl : vs.length = lenV n) (hn : n < 18) : lawValues (lawOctets vs n) = vs ↔ val 64 vs % 4 ^ padN n = 0 := by
  have hp := pow4_pos (padN n)
  have hv := lawValues_val (lawOctets_in vs n) (by rw [lawOctets_len]; exact hn)
  rw [lawOctets_len, lawOctets_val h hl hn] at hv
  have hd := Int.mul_ediv_add_emod (val 64 vs) (4 ^ padN n)
  rw [Int.mul_comm] at hd
  constructor
  · intro e
    rw [e] at hv
    (first | lia | omega)
  · intro e
    have e2 : val 64 (lawValues (lawOctets vs n)) = val 64 vs := by rw [hv]; (first | lia | omega)
    have e3 := digits_val (b := 64) vs h
    have e4 := digits_val (b := 64) _ (lawValues_in (lawOctets vs n))
    rw [e2, lawValues_len, lawOctets_len, ← hl, e3] at e4
    exact e4.symm
theorem val_last {vs : List Int} {x : Int} (h : vs.getLast? = some x) (k : Nat) (hk : k ≤ 2) : val 64 vs % 4 ^ k = x % 4 ^ k := by
  rcases List.eq_nil_or_concat vs with rfl | ⟨l, a, rfl⟩
  · cases h
  · rw [List.concat_eq_append] at h ⊢
    rw [List.getLast?_append] at h
    simp at h
    subst h
    rw [val_snoc]
    have : k = 0 ∨ k = 1 ∨ k = 2 := by (first | lia | omega)
    rcases this with rfl | rfl | rfl <;> simp <;> (first | lia | omega)
theorem sgn_N (v : Int) : sgn v = (sgnN v : Int) := rfl
theorem cInts_written (vs : List Int) (n : Nat) : cInts (written vs n) = wr vs n := by
  unfold cInts written wr
  rw [List.map_append, List.map_map, padN_eq, List.map_replicate]
  rfl
theorem chrs_bts {W : List Nat} (h : ∀ c ∈ W, c < 256) : chrs (bts (cInts W)) = W := by
  unfold chrs bts cInts
  rw [List.map_map, List.map_map]
  have : ∀ c ∈ W, ((fun (x : UInt8) => x.toNat) ∘ (fun n : Int => n.toNat.toUInt8) ∘ fun (c : Nat) => (c : Int)) c = c := fun c hc => by
    have := h c hc
    show ((c : Int).toNat.toUInt8).toNat = c
    rw [Int.toNat_natCast, Nat.toUInt8, UInt8.toNat_ofNat', Nat.mod_eq_of_lt (by (first | lia | omega))]
  exact (List.map_congr_left this).trans (List.map_id _)
/-- the signs of writing -/
noncomputable def alpha : List Nat := signsB.map (·.toNat) ++ [61]
theorem sgnN_mem {v : Int} (h0 : 0 ≤ v) (h1 : v < 64) : sgnN v ∈ alpha := by
  unfold sgnN alpha
  refine List.mem_append_left _ ?_
  rw [List.mem_map]
  refine ⟨signsB.getD v.toNat 0, ?_, rfl⟩
  have hl : v.toNat < signsB.length := by show v.toNat < 64; (first | lia | omega)
  rw [List.getD_eq_getElem?_getD, List.getElem?_eq_getElem hl]
  exact List.getElem_mem hl
theorem written_mem {vs : List Int} {n : Nat} (h : InB 64 vs) : ∀ c ∈ written vs n, c ∈ alpha := fun c hc => by
  unfold written at hc
  rcases List.mem_append.mp hc with hc | hc
  · obtain ⟨v, hv, rfl⟩ := List.mem_map.mp hc
    exact sgnN_mem (h v hv).1 (h v hv).2
  · rw [(List.mem_replicate.mp hc).2]; decide
theorem written_len (vs : List Int) (n : Nat) : (written vs n).length = vs.length + padN n := by unfold written; rw [padN_eq]; simp
theorem alpha_small : ∀ c ∈ alpha, c < 128 ∧ c ≠ 58 := by decide +kernel
theorem sgnN_inj0 : ∀ v < 64, ∀ u < 64, sgnN (v : Nat) = sgnN (u : Nat) → v = u := by decide +kernel
theorem sgnN_inj {v u : Int} (h0 : 0 ≤ v) (h1 : v < 64) (g0 : 0 ≤ u) (g1 : u < 64) (e : sgnN v = sgnN u) : v = u := by
  have := sgnN_inj0 v.toNat (by (first | lia | omega)) u.toNat (by (first | lia | omega)) (by rwa [Int.toNat_of_nonneg h0, Int.toNat_of_nonneg g0])
  (first | lia | omega)
theorem map_inj {f : Int → Nat} {p : Int → Prop} (hf : ∀ a b, p a → p b → f a = f b → a = b) : ∀ (l k : List Int), (∀ a ∈ l, p a) → (∀ a ∈ k, p a) → l.map f = k.map f → l = k
  | [], [], _, _, _ => rfl
  | [], _ :: _, _, _, h => by cases h
  | _ :: _, [], _, _, h => by cases h
  | a :: l, b :: k, h1, h2, h => by
    rw [List.map_cons, List.map_cons] at h
    obtain ⟨e1, e2⟩ := List.cons.inj h
    rw [hf a b (h1 a (.head _)) (h2 b (.head _)) e1, map_inj hf l k (fun x hx => h1 x (.tail _ hx)) (fun x hx => h2 x (.tail _ hx)) e2]
theorem written_inj {vs us : List Int} {n : Nat} (h : InB 64 vs) (g : InB 64 us) (e : written vs n = written us n) : vs = us := by
  unfold written at e
  have e := List.append_cancel_right e
  exact map_inj (p := fun v => 0 ≤ v ∧ v < 64) (fun a b ha hb => sgnN_inj ha.1 ha.2 hb.1 hb.2) _ _ h g e
noncomputable def small (v : Int) : Int := if v < 26 then v + 26 else v
theorem fold_sgn0 : ∀ v < 64, foldC (sgnN (v : Nat)) = [sgnN (small (v : Nat))] := by decide +kernel
theorem fold_sgn {v : Int} (h0 : 0 ≤ v) (h1 : v < 64) : foldC (sgnN v) = [sgnN (small v)] := by
  have := fold_sgn0 v.toNat (by (first | lia | omega))
  rwa [Int.toNat_of_nonneg h0] at this
theorem fold_eq : foldC 61 = [61] := by decide +kernel
theorem fold_written {vs : List Int} (n : Nat) (h : InB 64 vs) : ((written vs n).map foldC).flatten = written (vs.map small) n := by
  unfold written
  rw [List.map_append, List.flatten_append]
  congr 1
  · induction vs with
    | nil => rfl
    | cons v vs ih =>
      rw [List.map_cons, List.map_cons, List.flatten_cons, ih fun x hx => h x (.tail _ hx), fold_sgn (h v (.head _)).1 (h v (.head _)).2]
      rfl
  · generalize ((-(n : Int)).fmod 3).toNat = k
    induction k with
    | zero => rfl
    | succ k ih => rw [List.replicate_succ, List.map_cons, List.flatten_cons, ih, fold_eq]; rfl
theorem small_in {vs : List Int} (h : InB 64 vs) : InB 64 (vs.map small) := fun x hx => by
  obtain ⟨v, hv, rfl⟩ := List.mem_map.mp hx
  have := h v hv
  unfold small
  split <;> (first | lia | omega)
theorem case_range {ps : List Int} {k : Nat} {v : Int} (h0 : 0 ≤ v) (h1 : v < 64) : 0 ≤ caseV ps k v ∧ caseV ps k v < 64 ∧ small (caseV ps k v) = small v := by
  unfold caseV small
  rw [Int.fmod_eq_emod_of_nonneg _ (by decide)]
  split
  · refine ⟨h0, h1, rfl⟩
  · split
    · refine ⟨by (first | lia | omega), by (first | lia | omega), ?_⟩
      split <;> split <;> (first | lia | omega)
    · refine ⟨by (first | lia | omega), by (first | lia | omega), ?_⟩
      split <;> split <;> (first | lia | omega)
noncomputable def casedL (ps V' : List Int) : List Int := V'.mapIdx fun k v => caseV ps k v
theorem cased_at {ps V' : List Int} {k : Nat} {v : Int} (h : V'[k]? = some v) : (casedL ps V')[k]? = some (caseV ps k v) := by
  unfold casedL
  rw [List.getElem?_mapIdx, h]; rfl
theorem cased_len (ps V' : List Int) : (casedL ps V').length = V'.length := by unfold casedL; rw [List.length_mapIdx]
theorem cased_in {ps V' : List Int} (h : InB 64 V') : InB 64 (casedL ps V') := fun x hx => by
  obtain ⟨k, hk⟩ := List.mem_iff_getElem?.mp hx
  have hl : k < V'.length := by
    have := (List.getElem?_eq_some_iff.mp hk).1
    rwa [cased_len] at this
  have e : V'[k]? = some V'[k] := List.getElem?_eq_getElem hl
  rw [cased_at e] at hk
  have := case_range (ps := ps) (k := k) (h _ (List.getElem_mem hl)).1 (h _ (List.getElem_mem hl)).2
  rw [← Option.some.inj hk]
  exact ⟨this.1, this.2.1⟩
theorem cased_small {ps V' : List Int} (h : InB 64 V') : (casedL ps V').map small = V'.map small := by
  refine List.ext_getElem? fun k => ?_
  rw [List.getElem?_map, List.getElem?_map]
  by_cases hl : k < V'.length
  · have e : V'[k]? = some V'[k] := List.getElem?_eq_getElem hl
    rw [cased_at e, e]
    exact congrArg some (case_range (h _ (List.getElem_mem hl)).1 (h _ (List.getElem_mem hl)).2).2.2
  · rw [List.getElem?_eq_none (by rw [cased_len]; (first | lia | omega)), List.getElem?_eq_none (by (first | lia | omega))]
theorem txt_inj {a b : List Nat} (h : txt a = txt b) : a = b := by
  have := congrArg (fun s : Str => s.cps.toList) h
  simpa using this
end
section -- Q3
open PySem PySem.W PyProof.Rows
noncomputable def foldN (c : Nat) : Nat := (foldC c).headD 0
theorem fold_char : ∀ c ∈ alpha, foldC c = [foldN c] ∧ (if foldC c != [c] then foldN c - 32 = c ∧ 32 ≤ foldN c else foldN c = c) := by decide +kernel
theorem fold_map : ∀ {W : List Nat}, (∀ c ∈ W, c ∈ alpha) → (W.map foldC).flatten = W.map foldN
  | [], _ => rfl
  | c :: W, h => by
    rw [List.map_cons, List.flatten_cons, fold_map fun x hx => h x (.tail _ hx), (fold_char c (h c (.head _))).1]; rfl
theorem oct_bit0 : ∀ b0 b1 b2 b3 b4 b5 b6 b7 : Bool, ∀ j < 8, ((octOf [b0, b1, b2, b3, b4, b5, b6, b7] / 2 ^ (7 - j)) % 2 == 1) = [b0, b1, b2, b3, b4, b5, b6, b7].getD j false := by decide +kernel
theorem octOf_eight (bs : List Bool) : octOf bs = octOf [bs.getD 0 false, bs.getD 1 false, bs.getD 2 false, bs.getD 3 false, bs.getD 4 false, bs.getD 5 false, bs.getD 6 false, bs.getD 7 false] := rfl
theorem oct_bit (bs : List Bool) {j : Nat} (hj : j < 8) : ((octOf bs / 2 ^ (7 - j)) % 2 == 1) = bs.getD j false := by
  rw [octOf_eight, oct_bit0 _ _ _ _ _ _ _ _ j hj]
  have : j = 0 ∨ j = 1 ∨ j = 2 ∨ j = 3 ∨ j = 4 ∨ j = 5 ∨ j = 6 ∨ j = 7 := by (first | lia | omega)
  rcases this with rfl | rfl | rfl | rfl | rfl | rfl | rfl | rfl <;> rfl
theorem mask_at (B : List Bool) {i : Nat} (hi : i < B.length) : greatAt (maskOf B) i = B.getD i false := by
  unfold greatAt
  have e : (maskOf B).getD (i / 8) 0 = octOf ((B.drop (8 * (i / 8))).take 8) := by
    unfold maskOf
    rw [List.getD_eq_getElem?_getD, List.getElem?_map, List.getElem?_range (by (first | lia | omega))]; rfl
  rw [e, oct_bit _ (Nat.mod_lt _ (by decide))]
  rw [List.getD_eq_getElem?_getD, List.getD_eq_getElem?_getD, List.getElem?_take, if_pos (Nat.mod_lt _ (by decide)), List.getElem?_drop]
  congr 2
  (first | lia | omega)
theorem mask_len (B : List Bool) : (maskOf B).length = (B.length + 7) / 8 := by unfold maskOf; simp
theorem mask_byte (B : List Bool) : Byte (maskOf B) := fun n hn => by
  unfold maskOf at hn
  obtain ⟨k, _, rfl⟩ := List.mem_map.mp hn
  exact octOf_range _
theorem told_at {W : List Nat} {i : Nat} {c : Nat} (h : W[i]? = some c) : (toldOf W).getD i false = (foldC c != [c]) := by
  unfold toldOf
  rw [List.getD_eq_getElem?_getD, List.getElem?_map, h]; rfl
theorem told_len (W : List Nat) : (toldOf W).length = W.length := by simp [toldOf]
theorem up_char {W : List Nat} (hW : ∀ c ∈ W, c ∈ alpha) {i : Nat} (hi : i < W.length) : (greatAt (maskOf (toldOf W)) i = true → 32 ≤ (W.map foldN).getD i 0) ∧ upAt (maskOf (toldOf W)) (W.map foldN) i = W.getD i 0 := by
  have e : W[i]? = some W[i] := List.getElem?_eq_getElem hi
  have hc := (fold_char _ (hW _ (List.getElem_mem hi))).2
  have eF : (W.map foldN).getD i 0 = foldN W[i] := by rw [List.getD_eq_getElem?_getD, List.getElem?_map, e]; rfl
  have eW : W.getD i 0 = W[i] := by rw [List.getD_eq_getElem?_getD, e]; rfl
  unfold upAt
  rw [mask_at _ (by rw [told_len]; exact hi), told_at e, eF, eW]
  cases hb : foldC W[i] != [W[i]] with
  | true =>
    rw [hb] at hc
    rw [if_pos rfl] at hc
    exact ⟨fun _ => hc.2, by rw [if_pos rfl]; exact hc.1⟩
  | false =>
    rw [hb] at hc
    rw [if_neg (by decide)] at hc
    exact ⟨nofun, by rw [if_neg (by decide)]; exact hc⟩
theorem up_all {W : List Nat} (hW : ∀ c ∈ W, c ∈ alpha) : upL (maskOf (toldOf W)) (W.map foldN) (W.map foldN).length = W := by
  refine List.ext_getElem? fun i => ?_
  unfold upL
  rw [List.getElem?_map, List.length_map]
  by_cases hi : i < W.length
  · rw [List.getElem?_range hi]
    show some (upAt _ _ i) = _
    rw [(up_char hW hi).2, List.getElem?_eq_getElem hi, List.getD_eq_getElem?_getD, List.getElem?_eq_getElem hi]; rfl
  · rw [List.getElem?_eq_none (by simp; (first | lia | omega)), List.getElem?_eq_none (by (first | lia | omega))]; rfl
/-- the colon is passed over -/
theorem decL_colon (cs : List Int) : decL (58 :: cs) = decL cs := rfl
theorem dec_colon (cs : List Int) : decEnd (58 :: cs) = decEnd cs ∧ decode (58 :: cs) = decode cs := by
  have e : decAt (58 :: cs) (58 :: cs).length = decAt cs cs.length := by rw [decAt_L, decAt_L, decL_colon]
  unfold decEnd decode
  rw [e]
  exact ⟨rfl, rfl⟩
/-- the hex signs -/
noncomputable def up8 (k : Nat) : UInt8 := Builtin.Bytes.toUpper k.toUInt8
theorem nib0 : ∀ k < 16, (up8 (Builtin.Bytes.hexDigit k)).toNat = hexU k ∧ Builtin.Bytes.hexDigit k < 128 ∧ (up8 (lowC (hexU k))).toNat = hexU k ∧ hexv (hexU k : Nat) = (k : Nat) := by decide +kernel
theorem nib1 : ∀ k < 16, ((48 ≤ hexU k ∧ hexU k ≤ 57) ∨ (65 ≤ hexU k ∧ hexU k ≤ 70)) ∧ (hexU k ≤ 64 ∨ (65 ≤ hexU k ∧ hexU k ≤ 90) ∨ (97 ≤ hexU k ∧ hexU k ≤ 122)) ∧ lowC (hexU k) < 128 ∧ lowC (hexU k) ≠ 58 := by decide +kernel
noncomputable def Nibs (HL : List Nat) : Prop := ∀ k ∈ HL, k < 16
noncomputable def hexOf (x : UInt8) : List Nat := [Builtin.Bytes.hexDigit (x.toNat / 16), Builtin.Bytes.hexDigit (x.toNat % 16)]
noncomputable def nibs (bs : List UInt8) : List Nat := (bs.map fun x => [x.toNat / 16, x.toNat % 16]).flatten
theorem nibs_ok (bs : List UInt8) : Nibs (nibs bs) := fun k hk => by
  unfold nibs at hk
  obtain ⟨l, hl, hk⟩ := List.mem_flatten.mp hk
  obtain ⟨x, _, rfl⟩ := List.mem_map.mp hl
  have := x.toNat_lt
  rcases List.mem_cons.mp hk with rfl | hk
  · (first | lia | omega)
  · rw [List.mem_singleton.mp hk]; (first | lia | omega)
theorem hexOut_fold : ∀ (bs : List UInt8) (i : Nat) (out : Array Nat), ((bs.zipIdx i).foldl (fun (out : Array Nat) (x : UInt8 × Nat) => (out.push (Builtin.Bytes.hexDigit (x.1.toNat / 16))).push (Builtin.Bytes.hexDigit (x.1.toNat % 16))) out).toList = out.toList ++ (nibs bs).map Builtin.Bytes.hexDigit
  | [], _, out => by show out.toList = out.toList ++ []; simp
  | x :: bs, i, out => by
    rw [List.zipIdx_cons, List.foldl_cons, hexOut_fold bs (i + 1)]
    unfold nibs
    rw [List.map_cons, List.flatten_cons]
    simp
theorem hexOut_list (b : Array UInt8) : (hexOut b).toList = (nibs b.toList).map Builtin.Bytes.hexDigit := by
  unfold hexOut
  rw [hexOut_fold b.toList 0 #[]]; rfl
theorem hexOut_size (b : Array UInt8) : (hexOut b).size = 2 * b.size := by
  rw [← Array.length_toList, hexOut_list, List.length_map]
  unfold nibs
  rw [List.length_flatten, List.map_map, ← Array.length_toList]
  induction b.toList with
  | nil => rfl
  | cons a r ih => rw [List.map_cons, List.sum_cons, ih, List.length_cons]; show 2 + 2 * r.length = _; (first | lia | omega)
theorem hexB_chrs (b : Array UInt8) : chrs (hexB b) = (nibs b.toList).map hexU := by
  unfold chrs hexB
  show (((hexOut b).map (·.toUInt8)).toList.map Builtin.Bytes.toUpper).map _ = _
  rw [Array.toList_map, hexOut_list, List.map_map, List.map_map, List.map_map]
  exact List.map_congr_left fun k hk => (nib0 k (nibs_ok _ k hk)).1
theorem bts_nibs {MK : List Int} (h : Byte MK) : nibs (bts MK).toList = (MK.map fun n => [(n / 16).toNat, (n % 16).toNat]).flatten := by
  unfold nibs bts
  rw [List.map_map]
  congr 1
  refine List.map_congr_left fun n hn => ?_
  obtain ⟨h0, h1⟩ := h n hn
  have e : (n.toNat.toUInt8).toNat = n.toNat := by rw [Nat.toUInt8, UInt8.toNat_ofNat', Nat.mod_eq_of_lt (by (first | lia | omega))]
  show [(n.toNat.toUInt8).toNat / 16, (n.toNat.toUInt8).toNat % 16] = _
  rw [e]
  congr 1
  · (first | lia | omega)
  · congr 1; (first | lia | omega)
theorem hexT_nibs {MK : List Int} (h : Byte MK) : (hexT MK).flatten = (nibs (bts MK).toList).map hexU := by
  rw [bts_nibs h, List.map_flatten, List.map_map]; rfl
theorem nibs_len (bs : List UInt8) : (nibs bs).length = 2 * bs.length := by
  unfold nibs
  rw [List.length_flatten, List.map_map]
  induction bs with
  | nil => rfl
  | cons a r ih => rw [List.map_cons, List.sum_cons, ih, List.length_cons]; show 2 + 2 * r.length = _; (first | lia | omega)
theorem upB_nibs {HL : List Nat} (h : Nibs HL) : (upB (txt (lowL (HL.map hexU)))).toList.map (·.toNat) = HL.map hexU := by
  unfold upB lowL
  show ((((HL.map hexU).map lowC).toArray.map (·.toUInt8)).toList.map Builtin.Bytes.toUpper).map _ = _
  rw [Array.toList_map, List.map_map, List.map_map, List.map_map, List.map_map]
  exact List.map_congr_left fun k hk => (nib0 k (h k hk)).2.2.1
theorem upB_size (HL : List Nat) : (upB (txt (lowL (HL.map hexU)))).size = HL.length := by simp [upB, lowL]
theorem upB_ints {HL : List Nat} (h : Nibs HL) : KBw.bInts (upB (txt (lowL (HL.map hexU)))) = HL.map fun k => ((hexU k : Nat) : Int) := by
  have := congrArg (List.map fun (n : Nat) => (n : Int)) (upB_nibs h)
  rw [List.map_map, List.map_map] at this
  exact this
theorem unhex_nibs : ∀ (bs : List UInt8) (j : Nat), j ≤ bs.length → unhexAt ((nibs bs).map fun k => ((hexU k : Nat) : Int)) j = (bs.take j).map fun x => ((x.toNat : Nat) : Int)
  | _, 0, _ => by rw [List.take_zero]; rfl
  | bs, j + 1, hj => by
    rw [unhexAt, unhex_nibs bs j (by (first | lia | omega))]
    have e : bs[j]? = some bs[j] := List.getElem?_eq_getElem (by (first | lia | omega))
    rw [List.take_add_one, e, Option.toList_some, List.map_append]
    congr 1
    have hx := bs[j].toNat_lt
    have hn : ∀ (l : List UInt8) (i : Nat) (x : UInt8), l[i]? = some x → (nibs l)[2 * i]? = some (x.toNat / 16) ∧ (nibs l)[2 * i + 1]? = some (x.toNat % 16) := by
      intro l
      induction l with
      | nil => intro i x h; cases h
      | cons a r ih =>
        intro i x h
        show (([a.toNat / 16, a.toNat % 16] ++ nibs r)[2 * i]? = _) ∧ ([a.toNat / 16, a.toNat % 16] ++ nibs r)[2 * i + 1]? = _
        cases i with
        | zero => cases h; exact ⟨rfl, rfl⟩
        | succ i =>
          have := ih i x h
          rw [show 2 * (i + 1) = 2 * i + 1 + 1 by (first | lia | omega)]
          exact this
    obtain ⟨e1, e2⟩ := hn bs j bs[j] e
    have g : ∀ i k, (nibs bs)[i]? = some k → k < 16 → hexv (nat0 ((nibs bs).map fun k => ((hexU k : Nat) : Int)) i) = (k : Nat) := by
      intro i k hk h16
      unfold nat0
      rw [List.getD_eq_getElem?_getD, List.getElem?_map, hk]
      exact (nib0 k h16).2.2.2
    rw [g _ _ e1 (by (first | lia | omega)), g _ _ e2 (by (first | lia | omega))]
    show [_] = [((bs[j].toNat : Nat) : Int)]
    congr 1
    (first | lia | omega)
theorem bts_back {MK : List Int} (h : Byte MK) : ((bts MK).toList.map fun x => ((x.toNat : Nat) : Int)) = MK := bInts_bts h
theorem unhex_all {MK : List Int} (h : Byte MK) : unhexAt (KBw.bInts (upB (txt (lowL ((nibs (bts MK).toList).map hexU))))) MK.length = MK := by
  have hl : (bts MK).toList.length = MK.length := by rw [Array.length_toList, bts_size]
  rw [upB_ints (nibs_ok _), unhex_nibs _ _ (by (first | lia | omega)), List.take_of_length_le (by (first | lia | omega)), bts_back h]
theorem hexv_all {HL : List Nat} (h : Nibs HL) {i : Nat} (hi : i < HL.length) : hexv (nat0 (KBw.bInts (upB (txt (lowL (HL.map hexU))))) i) < 16 := by
  rw [upB_ints h]
  unfold nat0
  have e : HL[i]? = some HL[i] := List.getElem?_eq_getElem hi
  have := h _ (List.getElem_mem hi)
  rw [List.getD_eq_getElem?_getD, List.getElem?_map, e]
  show hexv ((hexU HL[i] : Nat) : Int) < 16
  rw [(nib0 _ this).2.2.2]
  (first | lia | omega)
theorem hexc_all {HL : List Nat} (h : Nibs HL) {i : Nat} (hi : i < HL.length) : Hexc (((upB (txt (lowL (HL.map hexU)))).map (·.toNat)).getD i 0) := by
  have e : ((upB (txt (lowL (HL.map hexU)))).map (·.toNat)) = (HL.map hexU).toArray := by
    apply Array.toList_inj.mp
    rw [Array.toList_map, upB_nibs h]
  rw [e]
  have e2 : HL[i]? = some HL[i] := List.getElem?_eq_getElem hi
  have := h _ (List.getElem_mem hi)
  rw [Array.getD_eq_getD_getElem?, List.getElem?_toArray, List.getElem?_map, e2]
  exact (nib1 _ this).1
end
section -- Q4
open PySem PySem.W PyProof.Rows
noncomputable def low (c : Nat) : Nat := if 64 < c then 97 + (c % 32 - 1) else c
noncomputable def marks : List Nat := [43, 47, 48, 49, 50, 51, 52, 53, 54, 55, 56, 57, 58, 61]
noncomputable def Plain (c : Nat) : Prop := c ∈ marks ∨ (65 ≤ c ∧ c ≤ 90) ∨ (97 ≤ c ∧ c ≤ 122)
theorem mark_ok : ∀ c ∈ marks, inB1 (c : Nat) = false ∧ foldC c = [c] ∧ c ≤ 64 := by decide +kernel
theorem letter_ok : ∀ i < 26, inB1 ((97 + i : Nat) : Int) = false ∧ foldC (97 + i) = [97 + i] ∧ inB1 ((65 + i : Nat) : Int) = false ∧ foldC (65 + i) = [97 + i] := by decide +kernel
theorem fancy_ok : ∀ j < 13, ∀ i < 26, inB1 ((fancy j i : Nat) : Int) = false ∧ foldC (fancy j i) = [97 + i] ∧ (b3tab.lookup (fancy j i)).isSome = true := by decide +kernel
theorem spellX_off0 : (∀ n < 16, inB1 ((65024 + n : Nat) : Int) = true) ∧ ∀ n < 11, inB1 ((nothingL.getD n 0 : Nat) : Int) = true := by decide +kernel
theorem spellX_off (p : Nat) : ∀ x ∈ spellX p, inB1 (x : Nat) = true := fun x hx => by
  unfold spellX at hx
  split at hx
  · rw [List.mem_singleton.mp hx]
    split
    · exact spellX_off0.1 _ (by (first | lia | omega))
    · exact spellX_off0.2 _ (by (first | lia | omega))
  · cases hx
theorem spellC_ok {c : Nat} (p : Nat) (h : Plain c) : inB1 ((spellC p c : Nat) : Int) = false ∧ foldC (spellC p c) = [low c] ∧ Folds (spellC p c) := by
  unfold spellC low
  have lt : ∀ i < 26, c % 32 - 1 = i → c > 64 → (inB1 (((if 64 < c then (if p % 3 = 0 then 97 + (c % 32 - 1) else if p % 3 = 1 then 65 + (c % 32 - 1) else fancy (p % 13) (c % 32 - 1)) else c : Nat)) : Int) = false ∧ foldC (if 64 < c then (if p % 3 = 0 then 97 + (c % 32 - 1) else if p % 3 = 1 then 65 + (c % 32 - 1) else fancy (p % 13) (c % 32 - 1)) else c) = [if 64 < c then 97 + (c % 32 - 1) else c] ∧ Folds (if 64 < c then (if p % 3 = 0 then 97 + (c % 32 - 1) else if p % 3 = 1 then 65 + (c % 32 - 1) else fancy (p % 13) (c % 32 - 1)) else c)) := by
    intro i hi e hc
    rw [e, if_pos hc, if_pos hc]
    obtain ⟨a1, a2, a3, a4⟩ := letter_ok i hi
    split
    · exact ⟨a1, a2, .inl (by (first | lia | omega))⟩
    split
    · exact ⟨a3, a4, .inl (by (first | lia | omega))⟩
    · obtain ⟨b1, b2, b3⟩ := fancy_ok (p % 13) (Nat.mod_lt _ (by decide)) i hi
      exact ⟨b1, b2, .inr b3⟩
  rcases h with h | h | h
  · obtain ⟨m1, m2, m3⟩ := mark_ok c h
    rw [if_neg (by (first | lia | omega)), if_neg (by (first | lia | omega))]
    exact ⟨m1, m2, .inl (by (first | lia | omega))⟩
  · exact lt _ (by (first | lia | omega)) rfl (by (first | lia | omega))
  · exact lt _ (by (first | lia | omega)) rfl (by (first | lia | omega))
noncomputable def keep (l : List Nat) : List Nat := l.filter fun c => !inB1 (c : Int)
theorem keep_append (a b : List Nat) : keep (a ++ b) = keep a ++ keep b := List.filter_append ..
structure Kept (l k : List Nat) : Prop where
  fold : (k.map foldC).flatten = l.map low
  ok : ∀ c ∈ k, Folds c
  len : k.length ≤ l.length
theorem spelled_kept {ns : List Int} {l : List Nat} (h : ∀ c ∈ l, Plain c) : ∀ i ≤ l.length, Kept (l.take i) (keep (spelledAt ns l i).flatten)
  | 0, _ => ⟨rfl, (fun _ h => nomatch h), Nat.zero_le _⟩
  | i + 1, hi => by
    obtain ⟨k1, k2, k3⟩ := spelled_kept h i (by (first | lia | omega))
    have e : l[i]? = some l[i] := List.getElem?_eq_getElem (by (first | lia | omega))
    have eD : l.getD i 0 = l[i] := by rw [List.getD_eq_getElem?_getD, e]; rfl
    obtain ⟨c1, c2, c3⟩ := spellC_ok (pickAt ns i) (h _ (List.getElem_mem (by (first | lia | omega) : i < l.length)))
    have hx : keep ((spellX (pickAt ns i)).map fun x => [x]).flatten = [] := by
      unfold keep
      rw [List.filter_eq_nil_iff]
      intro x hx
      obtain ⟨y, hy, hxy⟩ := List.mem_flatten.mp hx
      obtain ⟨z, hz, rfl⟩ := List.mem_map.mp hy
      rw [List.mem_singleton.mp hxy, spellX_off _ z hz]
      decide
    have hk : keep (spelledAt ns l (i + 1)).flatten = keep (spelledAt ns l i).flatten ++ [spellC (pickAt ns i) l[i]] := by
      conv => lhs; unfold spelledAt
      rw [eD, List.flatten_append, List.flatten_cons, keep_append, keep_append, hx, List.append_nil]
      congr 1
      unfold keep
      rw [List.filter_cons, c1]; rfl
    rw [hk]
    refine ⟨?_, ?_, ?_⟩
    · rw [List.map_append, List.flatten_append, k1, List.take_add_one, e, List.map_append]
      congr 1
      show foldC _ ++ [] = _
      rw [c2]; rfl
    · intro c hc
      rcases List.mem_append.mp hc with hc | hc
      · exact k2 c hc
      · rw [List.mem_singleton.mp hc]; exact c3
    · rw [List.length_append, List.length_singleton]
      rw [List.length_take] at k3 ⊢
      (first | lia | omega)
theorem spelled_all {ns : List Int} {l : List Nat} (h : ∀ c ∈ l, Plain c) : Kept l (keep (spelledAt ns l l.length).flatten) := by
  have := spelled_kept (ns := ns) h l.length (Nat.le_refl _)
  rwa [List.take_length] at this
theorem colon_kept : keep [58] = [58] := by decide +kernel
theorem fold58 : foldC 58 = [58] := (mark_ok 58 (by decide)).2.1
theorem alpha_low : ∀ c ∈ alpha, (foldN c ∈ marks ∨ (97 ≤ foldN c ∧ foldN c ≤ 122)) ∧ foldN c ≠ 58 := by decide +kernel
theorem hex_mark : ∀ k < 16, (hexU k ∈ marks ∨ (65 ≤ hexU k ∧ hexU k ≤ 90)) ∧ low (hexU k) = lowC (hexU k) := by decide +kernel
theorem flat_len : ∀ (ps : List Int) (l : List Nat), ∀ i, (spelledAt ps l i).flatten.length ≤ 2 * i := fun ps l i => (spelledAt_len ps l i).2
theorem facts {ns ps : List Int} (hb : Byte ns) (h1 : 1 ≤ ns.length) (h2 : ns.length ≤ 17) (psl : ps.length ≤ 12) (psp : 0 < ps.length) (psr : ∀ n ∈ ps, 0 ≤ n ∧ n < 10530) : Fact ns ps := by
  have hB : InB 256 ns := hb
  have hVi := lawValues_in ns
  have hVl := lawValues_len ns
  generalize hV : lawValues ns = V' at hVi hVl
  have hlv : 2 ≤ lenV ns.length ∧ lenV ns.length + padN ns.length ≤ 24 := by unfold lenV padN; (first | lia | omega)
  have hWm := written_mem (n := ns.length) hVi
  have hWl := written_len V' ns.length
  generalize hW : written V' ns.length = W at hWm hWl
  have hWa : ∀ c ∈ W, c < 128 := fun c hc => (alpha_small c (hWm c hc)).1
  have hwr : wr V' ns.length = cInts W := by rw [← hW, cInts_written]
  have hencI : encode ns = cInts W := by rw [enc_wr hB, hV, hwr]
  have hfold := fold_map hWm
  have hS := small_in hVi
  have hFDw : written (V'.map small) ns.length = W.map foldN := by rw [← fold_written _ hVi, hW, hfold]
  have hFD0 : ∀ c ∈ W.map foldN, (c ∈ marks ∨ (97 ≤ c ∧ c ≤ 122)) ∧ c ≠ 58 := fun c hc => by
    obtain ⟨d, hd, rfl⟩ := List.mem_map.mp hc
    exact alpha_low d (hWm d hd)
  have hFl : (W.map foldN).length = W.length := List.length_map ..
  have hup := fun i (hi : i < (W.map foldN).length) => up_char hWm (hFl ▸ hi)
  have hU := up_all hWm
  have hMb := mask_byte (toldOf W)
  have hMl := mask_len (toldOf W)
  rw [told_len] at hMl
  have hSdec := dec_wr (n := ns.length) hS (by rw [List.length_map, hVl])
  have hCi := cased_in (ps := ps) hVi
  have hCl := cased_len ps V'
  have hCs := cased_small (ps := ps) hVi
  have hCdec := dec_wr (n := ns.length) hCi (by rw [hCl, hVl])
  have hOm := written_mem (n := ns.length) hCi
  have hOl := written_len (casedL ps V') ns.length
  have hOf := fold_written ns.length hCi
  rw [hCs, hFDw] at hOf
  have hVdec := dec_wr (n := ns.length) hVi hVl
  rw [hwr] at hVdec
  have hoct := oct_val hB (by (first | lia | omega))
  rw [hV] at hoct
  have hR2i := lawOctets_in (casedL ps V') ns.length
  have hR2l := lawOctets_len (casedL ps V') ns.length
  have henc2 : encode (KBw.bInts (bts (lawOctets (casedL ps V') ns.length))) = cInts (written (lawValues (lawOctets (casedL ps V') ns.length)) ns.length) := by
    rw [bInts_bts hR2i, enc_wr hR2i, hR2l, cInts_written]
  have hGm := written_mem (n := ns.length) (lawValues_in (lawOctets (casedL ps V') ns.length))
  obtain ⟨x, hx⟩ : ∃ x, (casedL ps V').getLast? = some x := by
    cases hc : (casedL ps V').getLast? with
    | some x => exact ⟨x, rfl⟩
    | none =>
      rw [List.getLast?_eq_none_iff] at hc
      rw [hc] at hCl
      simp at hCl
      (first | lia | omega)
  have hiff := val_oct hCi (by rw [hCl, hVl]) (by (first | lia | omega) : ns.length < 18)
  rw [val_last hx _ (by unfold padN; (first | lia | omega))] at hiff
  generalize hMK : maskOf (toldOf W) = MK at hup hU hMb hMl
  have hHL := nibs_ok (bts MK).toList
  have hHLl : (nibs (bts MK).toList).length = 2 * MK.length := by rw [nibs_len, Array.length_toList, bts_size]
  have hPL := hexB_chrs (bts MK)
  have hPLm : ∀ c ∈ (nibs (bts MK).toList).map hexU, ∃ k < 16, c = hexU k := fun c hc => by
    obtain ⟨k, hk, rfl⟩ := List.mem_map.mp hc
    exact ⟨k, hHL k hk, rfl⟩
  have kA := spelled_all (ns := ps) (l := W.map foldN) fun c hc => (hFD0 c hc).1.elim .inl fun h => .inr (.inr h)
  have kB := spelled_all (ns := ps) (l := (nibs (bts MK).toList).map hexU) fun c hc => by
    obtain ⟨k, hk, rfl⟩ := hPLm c hc
    exact (hex_mark k hk).1.elim .inl fun h => .inr (.inl h)
  have hlowA : (W.map foldN).map low = W.map foldN := by
    have : ∀ c ∈ W.map foldN, low c = id c := fun c hc => by
      unfold low
      rcases (hFD0 c hc).1 with h | h
      · have := (mark_ok c h).2.2
        rw [if_neg (by (first | lia | omega))]; rfl
      · rw [if_pos (by (first | lia | omega))]; show _ = c; (first | lia | omega)
    rw [List.map_congr_left this, List.map_id]
  have hlowB : ((nibs (bts MK).toList).map hexU).map low = lowL ((nibs (bts MK).toList).map hexU) := by
    refine List.map_congr_left fun c hc => ?_
    obtain ⟨k, hk, rfl⟩ := hPLm c hc
    exact (hex_mark k hk).2
  have hLm : ∀ c ∈ lowL ((nibs (bts MK).toList).map hexU), c < 128 ∧ c ≠ 58 := fun c hc => by
    obtain ⟨d, hd, rfl⟩ := List.mem_map.mp hc
    obtain ⟨k, hk, rfl⟩ := hPLm d hd
    exact (nib1 k hk).2.2
  have h1024 : ∀ l : List Nat, l.length ≤ 24 → l.length ≤ 60 := fun l h => by (first | lia | omega)
  refine ⟨V', V'.map small, casedL ps V', MK, W, W.map foldN, written (casedL ps V') ns.length, written (lawValues (lawOctets (casedL ps V') ns.length)) ns.length, (nibs (bts MK).toList).map hexU, (spelledAt ps (W.map foldN) (W.map foldN).length).flatten, (spelledAt ps ((nibs (bts MK).toList).map hexU) ((nibs (bts MK).toList).map hexU).length).flatten, keep ((spelledAt ps (W.map foldN) (W.map foldN).length).flatten ++ [58] ++ (spelledAt ps ((nibs (bts MK).toList).map hexU) ((nibs (bts MK).toList).map hexU).length).flatten), W, bts (lawOctets (V'.map small) ns.length), bts (lawOctets (casedL ps V') ns.length), hexB (bts MK), x, ?_⟩
  exact {
    len := ⟨h1, h2⟩
    byte := hb
    psl := psl
    psp := psp
    psr := psr
    vals := hV
    vlen := by (first | lia | omega)
    vr := hVi
    enc := by rw [bInts_bts hb, hencI]; exact chrs_bts fun c hc => by have := hWa c hc; (first | lia | omega)
    encl := by rw [bInts_bts hb, hencI, bts_size]; unfold cInts; rw [List.length_map]; (first | lia | omega)
    wr := hW
    wl := by (first | lia | omega)
    wa := hWa
    fold := hfold
    fl := by (first | lia | omega)
    fa := fun c hc => by
      rcases (hFD0 c hc).1 with h | h
      · have := (mark_ok c h).2.2; (first | lia | omega)
      · (first | lia | omega)
    fc := fun c hc => by
      rcases (hFD0 c hc).1 with h | h
      · have := (mark_ok c h).2.2; (first | lia | omega)
      · (first | lia | omega)
    f58 := fun h => (hFD0 58 h).2 rfl
    sm := rfl
    sl := by rw [List.length_map]; (first | lia | omega)
    sr := hS
    swr := hFDw
    send := by rw [← hFDw, cInts_written]; exact hSdec.1
    sdec := by rw [← hFDw, cInts_written, hSdec.2]
    soct := rfl
    cs := fun k v h => cased_at h
    cl := hCl
    cr := hCi
    cwr := rfl
    oa := fun c hc => (alpha_small c (hOm c hc)).1
    ol := by (first | lia | omega)
    oend := by rw [cInts_written]; exact hCdec.1
    odec := by rw [cInts_written, hCdec.2]
    ooct := rfl
    clast := hx
    ofold := hOf
    rz := by rw [bts_size, hR2l]; (first | lia | omega)
    oenc := by rw [henc2, bts_size]; unfold cInts; rw [List.length_map, written_len, lawValues_len, hR2l]; (first | lia | omega)
    og := by rw [henc2]; exact chrs_bts fun c hc => by have := (alpha_small c (hGm c hc)).1; (first | lia | omega)
    oiff := by
      rw [padN_eq, Int.fmod_eq_emod_of_nonneg _ (Int.le_of_lt (pow4_pos _))]
      rw [Bool.eq_iff_iff, beq_iff_eq, beq_iff_eq, ← hiff]
      exact ⟨fun e => written_inj (lawValues_in _) hCi (txt_inj e), fun e => by rw [e]⟩
    mask := hMK
    mb := hMb
    ml := by (first | lia | omega)
    mlf := by (first | lia | omega)
    hl := by rw [hexOut_size, bts_size]; (first | lia | omega)
    ha := fun c hc => by
      have : c ∈ (hexOut (bts MK)).toList := by simpa using hc
      rw [hexOut_list] at this
      obtain ⟨k, hk, rfl⟩ := List.mem_map.mp this
      exact (nib0 k (hHL k hk)).2.1
    hb := rfl
    hbl := by
      have := congrArg List.length hPL
      unfold chrs at this
      rw [List.length_map, List.length_map, Array.length_toList] at this
      (first | lia | omega)
    hp := hPL
    hp2 := hexT_nibs hMb
    pl := by rw [List.length_map, hHLl]
    pc := fun c hc => by
      obtain ⟨k, hk, rfl⟩ := hPLm c hc
      exact (nib1 k hk).2.1
    sa := rfl
    sb := rfl
    kp := rfl
    kf := fun c hc => by
      change c ∈ keep _ at hc
      rw [keep_append, keep_append, colon_kept] at hc
      rcases List.mem_append.mp hc with hc | hc
      · rcases List.mem_append.mp hc with hc | hc
        · exact kA.ok c hc
        · rw [List.mem_singleton.mp hc]; exact .inl (by decide)
      · exact kB.ok c hc
    kl := by
      show (keep _).length ≤ 200
      rw [keep_append, keep_append, colon_kept, List.length_append, List.length_append, List.length_singleton]
      have a := kA.len
      have b := kB.len
      have hpl : ((nibs (bts MK).toList).map hexU).length = 2 * MK.length := by rw [List.length_map, hHLl]
      (first | lia | omega)
    kr := by
      show ((keep _).map foldC).flatten = _
      rw [keep_append, keep_append, colon_kept, List.map_append, List.map_append, List.flatten_append, List.flatten_append, kA.fold, kB.fold, hlowA, hlowB]
      show _ ++ (foldC 58 ++ []) ++ _ = _
      rw [fold58]; rfl
    l58 := fun h => (hLm 58 h).2 rfl
    la := fun c hc => (hLm c hc).1
    lh := fun i hi => hexc_all hHL (by rw [upB_size] at hi; exact hi)
    lv := fun i hi => hexv_all hHL (by rw [hHLl]; exact hi)
    lu := by rw [unhex_all hMb]
    gu := fun i hi h => (hup i hi).1 h
    ur := hU
    ua := fun c hc => by
      rcases List.mem_cons.mp hc with rfl | hc
      · decide
      · exact hWa c hc
    uend := by
      show decEnd (58 :: cInts W)
      rw [(dec_colon _).1]; exact hVdec.1
    udec := by
      show bts (decode (58 :: cInts W)) = _
      rw [(dec_colon _).2, hVdec.2, hoct] }
theorem whole_facts (zs : List Int) (n : Nat) (h1 : (wholeOf zs).length - 2 ≤ n) (h2 : n ≤ (wholeOf zs).length) : Fact ((wholeOf zs).take n) (picksOf zs) := by
  have hl : (wholeOf zs).length = 5 + min 12 zs.length := by unfold wholeOf; simp; (first | lia | omega)
  refine facts ?_ (by rw [List.length_take]; (first | lia | omega)) (by rw [List.length_take]; (first | lia | omega)) ?_ ?_ ?_
  · intro x hx
    have hx := List.mem_of_mem_take hx
    unfold wholeOf at hx
    rcases List.mem_append.mp hx with hx | hx
    · have hd : ∀ y ∈ ([103, 63, 128, 51, 245] : List Int), 0 ≤ y ∧ y < 256 := by decide
      exact hd x hx
    · obtain ⟨y, _, rfl⟩ := List.mem_map.mp hx
      rw [Int.fmod_eq_emod_of_nonneg _ (by decide)]
      (first | lia | omega)
  · unfold picksOf; split
    · decide
    · simp; (first | lia | omega)
  · unfold picksOf; split
    · decide
    · rename_i hz
      cases zs with
      | nil => exact absurd rfl hz
      | cons a r => simp
  · intro x hx
    unfold picksOf at hx
    split at hx
    · rw [List.mem_singleton.mp hx]; decide
    · obtain ⟨y, _, rfl⟩ := List.mem_map.mp hx
      rw [Int.fmod_eq_emod_of_nonneg _ (by decide)]
      (first | lia | omega)
end
section -- H1
open PySem PySem.W PyProof.Rows PySem.Calls
noncomputable abbrev RW : OpenLaw := PySem.Challenge.rw_pa0018_01
noncomputable def keepI : List Nat := [0, 1, 3, 4, 5, 7, 8, 9, 10, 11, 12, 15, 17, 18, 19, 20, 24, 28, 30, 32, 33, 34, 35, 36, 37, 38, 39]
noncomputable def looseN : List Str := [Str.ofString "_twin_re_1", Str.ofString "bytes_types", Str.ofString "a2b_base64", Str.ofString "b2a_base64", Str.ofString "_NO_SEP", Str.ofString "b2a_hex", Str.ofString "hexlify", Str.ofString "unhexlify", Str.ofString "b64encode", Str.ofString "b64decode", Str.ofString "b16decode", Str.ofString "b1_set", Str.ofString "b3_exceptions"]
noncomputable def viewQ : Program := { PP with main := { PP.main with body := keepI.filterMap fun i => PP.main.body[i]? } }
noncomputable def addrs : List Addr := [0]
theorem int_of {R : WRecords} {d : WData} (h : WShape.has R d .int = true) : ∃ i, d = .int i := by
  cases d with
  | int i => exact ⟨i, rfl⟩
  | _ => cases h
theorem ints_of {R : WRecords} {cl : Str → Option Addr} {h : Heap} : ∀ {vs : List Value} {xs : List WData} {as : List Addr}, WShape.hasItems R xs .int = true → ReadsAllW R cl h vs xs as → ∃ zs, IntsAre vs zs ∧ zs.length = xs.length
  | _, _, _, _, .nil => ⟨[], .nil, rfl⟩
  | _, _, _, hi, .cons r1 r2 => by
    obtain ⟨h1, h2⟩ := Bool.and_eq_true_iff.mp hi
    obtain ⟨i, rfl⟩ := int_of h1
    obtain ⟨zs, z1, z2⟩ := ints_of h2 r2
    cases r1
    exact ⟨i :: zs, .cons _ _ z1, by simp [z2]⟩
theorem list_of {R : WRecords} {d : WData} (h : WShape.has R d (.list .int) = true) : ∃ xs, d = .list xs ∧ WShape.hasItems R xs .int = true := by
  cases d with
  | list xs => exact ⟨xs, rfl, by simpa [WShape.has, WShape.arms] using h⟩
  | _ => cases h
theorem args_of {args : List WData} (h : WShape.hasAll [] args [.list .int] = true) : ∃ xs, args = [.list xs] ∧ WShape.hasItems [] xs .int = true := by
  obtain ⟨d, r, rfl, h1, h2⟩ := hasAllW_cons h
  obtain rfl := hasAllW_nil h2
  obtain ⟨xs, rfl, h3⟩ := list_of h1
  exact ⟨xs, rfl, h3⟩
theorem pre_len {xs : List WData} (h : RW.pre.holds [] { args := [.list xs] } = true) : xs.length ≤ 63 := by
  by_cases hx : xs.length ≤ 63
  · exact hx
  · exfalso
    have e : WTm.value [] RW.pre { args := [.list xs] } = some (.bool (!decide ((63 : Int) < (xs.length : Int)) && true)) := by
      show (match (match (less? (.int 63) (.int (xs.length : Int))).map WData.bool with | some (.bool b) => some (WData.bool (!b)) | _ => none) with | some (.bool false) => _ | some (.bool true) => _ | _ => _) = _
      have : less? (.int 63) (.int (xs.length : Int)) = some (decide ((63 : Int) < (xs.length : Int))) := rfl
      rw [this]
      cases decide ((63 : Int) < (xs.length : Int)) <;> rfl
    unfold WTm.holds at h
    rw [e, decide_eq_true (by omega)] at h
    cases h
theorem bool_good {c : ClaimW} {cl : Str → Option Addr} {mean : ExcName → Option Value} {args : List WData} {s₁ s' : Shared} (hr : ∀ cls, c.raises args cls = false) (hp : c.post args (.bool true) args = true) (hk : Stays s₁.heap s'.heap) (ho : s'.os = s₁.os) (hg : s'.gens = #[]) :
    GoodWG c cl mean args s₁ (.ok (.ret (.bool true))) s' :=
  GoodW.toG ⟨.inl ⟨_, .bool true, [], rfl, hr, .bool true, hp, fun _ => ⟨List.nodup_nil, fun _ h => nomatch h⟩⟩, hk, ho, hg⟩
theorem caller_AA : callerA = AA (1 + claimMargin) 4 (some []) (some []) := rfl
theorem law_walk {q : Program} {loose : List Str} {XP : (Str → Option Value) → Heap → Prop} {as : List Addr} {e : ∀ P, as = (KK P).map (·.1)} {d : DefRec} {kwd : List (Str × Expr)} (hn : d.name = Str.ofString "law") :
    WalkO q loose XP (kHook KK as e).says RW.row.toRowW d kwd fun f vs => PySem.call f vs := by
  intro w s₀ s₁ mg mb G Y a o pm cd doc dV kV ho hd hcd hD hmg hg args vals as' hpre hlay hrd hwl hlo
  have KX : (KK w.params).In s₁.heap := kIn_of Y
  have V : Ev w s₁.heap := ⟨KX, _, _, _, _, _, G.T⟩
  have hm : mg (Str.ofString "law") = some (.ref 272) := mg_of KX G.T.g (by rfl)
  rw [hn, hm] at hmg
  obtain rfl : (272 : Addr) = a := Value.ref.inj (Option.some.inj hmg)
  obtain ⟨h1, h2⟩ := pre_splitW hpre
  obtain ⟨xs, rfl, hx⟩ := args_of h1
  have hl := pre_len h2
  cases hrd with
  | cons r1 r2 =>
    cases r2
    cases r1 with
    | list g1 g2 g3 g4 =>
      obtain ⟨zs, z1, z2⟩ := ints_of hx g4
      rw [caller_AA]
      refine law_spec w _ _ zs z1 (by omega) (fun n => whole_facts zs n) _ _ _ _ s₁ _ _ V ⟨_, g1, g2, _, by rw [Array.toArray_toList]; exact g3⟩ (by decide) (by decide) fun v h' tk' hk hv => ?_
      subst hv
      exact bool_good (fun _ => rfl) (by first | kernel_rfl | (with_unfolding_all rfl) | decide | simp [OpenLaw.row, OpenRow.toRowW, RowW.claim]) hk rfl hg
end
section -- H2
open PySem PySem.W PyProof.Rows PySem.Calls
theorem and_tt {a b : Bool} (x : a = true) (y : b = true) : (a && b) = true := by rw [x, y]; rfl
set_option maxHeartbeats 4000000 in
theorem row_said : RW.wellSaid = true := by
  rw [Fast.te9446332074065402090]
  unfold Fast.tw9446332074065402090
  repeat' (with_reducible apply and_tt)
  any_goals unfold Fast.tw17960256430627541270
  any_goals (repeat' (with_reducible apply and_tt))
  any_goals unfold Fast.tw2436336058641802641
  any_goals (repeat' (with_reducible apply and_tt))
  any_goals unfold Fast.tw12908688711261696721
  any_goals (repeat' (with_reducible apply and_tt))
  all_goals decide +kernel
theorem row_hw : RW.row.toRowW.promised := ⟨[.list []], by decide +kernel, by decide +kernel⟩
theorem row_ok : (chainsOk viewQ && opensWell RW.row.toRowW.prog && (frees RW.row.toRowW && RW.row.toRowW.within.isEmpty)) = true := by decide +kernel
noncomputable abbrev XtR : Shared → Bool := fun s => recOk (RowW.records RW.row.toRowW) s
theorem law_holds {as : List Addr} {e : ∀ P, as = (KK P).map (·.1)} {N : Nat} (left : LeftO PP viewQ looseN XtR (kHook KK as e).obs (kHook KK as e).val N) : RW.Holds := by
  refine holds_law row_said fun said => ?_
  refine holds_open (q := viewQ) (loose := looseN) (Xt := XtR) (XP := fun _ _ => True) (Yf := (kHook KK as e).obs) (Ya := (kHook KK as e).val) (YP := (kHook KK as e).says) (N := N) left (Hook.of _) (Hook.keeps _) (fun s _ => trivial) (fun _ _ _ _ _ => trivial) (by rfl) (by rfl) (by rfl) (fun s h => recFacts_of h) (by rfl) said row_ok ⟨rfl, rfl, rfl, rfl, rfl, by decide +kernel⟩ row_hw ?_
  exact law_walk rfl
end
section -- HText
open PySem PySem.W
noncomputable def stmtN (i : Nat) : Stmt := PySem.Challenge.pw_pa0018_01.main.body.getD i (.Pass default)
noncomputable abbrev gs0 (P : Params) : Obj := ⟨(.type "dict"), none, .dict #[⟨PyData.keyHash P (Str.ofString "__name__"), (.str (Str.ofString "__name__") 1), (.str (Str.ofString "builtins") 160)⟩, ⟨PyData.keyHash P (Str.ofString "__doc__"), (.str (Str.ofString "__doc__") 2), (.builtin "builtins.__doc__:str#opaque")⟩, ⟨PyData.keyHash P (Str.ofString "__package__"), (.str (Str.ofString "__package__") 3), (.builtin "builtins.__package__:str#opaque")⟩, ⟨PyData.keyHash P (Str.ofString "__loader__"), (.str (Str.ofString "__loader__") 4), (.builtin "builtins.__loader__:shared#opaque")⟩, ⟨PyData.keyHash P (Str.ofString "__spec__"), (.str (Str.ofString "__spec__") 5), (.builtin "builtins.__spec__#opaque")⟩, ⟨PyData.keyHash P (Str.ofString "__build_class__"), (.str (Str.ofString "__build_class__") 6), (.builtin "__build_class__")⟩, ⟨PyData.keyHash P (Str.ofString "__import__"), (.str (Str.ofString "__import__") 7), (.builtin "__import__")⟩, ⟨PyData.keyHash P (Str.ofString "abs"), (.str (Str.ofString "abs") 8), (.builtin "abs")⟩, ⟨PyData.keyHash P (Str.ofString "all"), (.str (Str.ofString "all") 9), (.builtin "all")⟩, ⟨PyData.keyHash P (Str.ofString "any"), (.str (Str.ofString "any") 10), (.builtin "any")⟩, ⟨PyData.keyHash P (Str.ofString "ascii"), (.str (Str.ofString "ascii") 11), (.builtin "ascii")⟩, ⟨PyData.keyHash P (Str.ofString "bin"), (.str (Str.ofString "bin") 12), (.builtin "bin")⟩, ⟨PyData.keyHash P (Str.ofString "breakpoint"), (.str (Str.ofString "breakpoint") 13), (.builtin "breakpoint")⟩, ⟨PyData.keyHash P (Str.ofString "callable"), (.str (Str.ofString "callable") 14), (.builtin "callable")⟩, ⟨PyData.keyHash P (Str.ofString "chr"), (.str (Str.ofString "chr") 15), (.builtin "chr")⟩, ⟨PyData.keyHash P (Str.ofString "compile"), (.str (Str.ofString "compile") 16), (.builtin "compile")⟩, ⟨PyData.keyHash P (Str.ofString "delattr"), (.str (Str.ofString "delattr") 17), (.builtin "delattr")⟩, ⟨PyData.keyHash P (Str.ofString "dir"), (.str (Str.ofString "dir") 18), (.builtin "dir")⟩, ⟨PyData.keyHash P (Str.ofString "divmod"), (.str (Str.ofString "divmod") 19), (.builtin "divmod")⟩, ⟨PyData.keyHash P (Str.ofString "eval"), (.str (Str.ofString "eval") 20), (.builtin "eval")⟩, ⟨PyData.keyHash P (Str.ofString "exec"), (.str (Str.ofString "exec") 21), (.builtin "exec")⟩, ⟨PyData.keyHash P (Str.ofString "format"), (.str (Str.ofString "format") 22), (.builtin "format")⟩, ⟨PyData.keyHash P (Str.ofString "getattr"), (.str (Str.ofString "getattr") 23), (.builtin "getattr")⟩, ⟨PyData.keyHash P (Str.ofString "globals"), (.str (Str.ofString "globals") 24), (.builtin "globals")⟩, ⟨PyData.keyHash P (Str.ofString "hasattr"), (.str (Str.ofString "hasattr") 25), (.builtin "hasattr")⟩, ⟨PyData.keyHash P (Str.ofString "hash"), (.str (Str.ofString "hash") 26), (.builtin "hash")⟩, ⟨PyData.keyHash P (Str.ofString "hex"), (.str (Str.ofString "hex") 27), (.builtin "hex")⟩, ⟨PyData.keyHash P (Str.ofString "id"), (.str (Str.ofString "id") 28), (.builtin "id")⟩, ⟨PyData.keyHash P (Str.ofString "input"), (.str (Str.ofString "input") 29), (.builtin "input")⟩, ⟨PyData.keyHash P (Str.ofString "isinstance"), (.str (Str.ofString "isinstance") 30), (.builtin "isinstance")⟩, ⟨PyData.keyHash P (Str.ofString "issubclass"), (.str (Str.ofString "issubclass") 31), (.builtin "issubclass")⟩, ⟨PyData.keyHash P (Str.ofString "iter"), (.str (Str.ofString "iter") 32), (.builtin "iter")⟩, ⟨PyData.keyHash P (Str.ofString "aiter"), (.str (Str.ofString "aiter") 33), (.builtin "aiter")⟩, ⟨PyData.keyHash P (Str.ofString "len"), (.str (Str.ofString "len") 34), (.builtin "len")⟩, ⟨PyData.keyHash P (Str.ofString "locals"), (.str (Str.ofString "locals") 35), (.builtin "locals")⟩, ⟨PyData.keyHash P (Str.ofString "max"), (.str (Str.ofString "max") 36), (.builtin "max")⟩, ⟨PyData.keyHash P (Str.ofString "min"), (.str (Str.ofString "min") 37), (.builtin "min")⟩, ⟨PyData.keyHash P (Str.ofString "next"), (.str (Str.ofString "next") 38), (.builtin "next")⟩, ⟨PyData.keyHash P (Str.ofString "anext"), (.str (Str.ofString "anext") 39), (.builtin "anext")⟩, ⟨PyData.keyHash P (Str.ofString "oct"), (.str (Str.ofString "oct") 40), (.builtin "oct")⟩, ⟨PyData.keyHash P (Str.ofString "ord"), (.str (Str.ofString "ord") 41), (.builtin "ord")⟩, ⟨PyData.keyHash P (Str.ofString "pow"), (.str (Str.ofString "pow") 42), (.builtin "pow")⟩, ⟨PyData.keyHash P (Str.ofString "print"), (.str (Str.ofString "print") 43), (.builtin "print")⟩, ⟨PyData.keyHash P (Str.ofString "repr"), (.str (Str.ofString "repr") 44), (.builtin "repr")⟩, ⟨PyData.keyHash P (Str.ofString "round"), (.str (Str.ofString "round") 45), (.builtin "round")⟩, ⟨PyData.keyHash P (Str.ofString "setattr"), (.str (Str.ofString "setattr") 46), (.builtin "setattr")⟩, ⟨PyData.keyHash P (Str.ofString "sorted"), (.str (Str.ofString "sorted") 47), (.builtin "sorted")⟩, ⟨PyData.keyHash P (Str.ofString "sum"), (.str (Str.ofString "sum") 48), (.builtin "sum")⟩, ⟨PyData.keyHash P (Str.ofString "vars"), (.str (Str.ofString "vars") 49), (.builtin "vars")⟩, ⟨PyData.keyHash P (Str.ofString "None"), (.str (Str.ofString "None") 50), .none⟩, ⟨PyData.keyHash P (Str.ofString "Ellipsis"), (.str (Str.ofString "Ellipsis") 51), .ellipsis⟩, ⟨PyData.keyHash P (Str.ofString "NotImplemented"), (.str (Str.ofString "NotImplemented") 52), .notImplemented⟩, ⟨PyData.keyHash P (Str.ofString "False"), (.str (Str.ofString "False") 53), (.bool false)⟩, ⟨PyData.keyHash P (Str.ofString "True"), (.str (Str.ofString "True") 54), (.bool true)⟩, ⟨PyData.keyHash P (Str.ofString "bool"), (.str (Str.ofString "bool") 55), (.type "bool")⟩, ⟨PyData.keyHash P (Str.ofString "memoryview"), (.str (Str.ofString "memoryview") 56), (.type "memoryview")⟩, ⟨PyData.keyHash P (Str.ofString "bytearray"), (.str (Str.ofString "bytearray") 57), (.type "bytearray")⟩, ⟨PyData.keyHash P (Str.ofString "bytes"), (.str (Str.ofString "bytes") 58), (.type "bytes")⟩, ⟨PyData.keyHash P (Str.ofString "classmethod"), (.str (Str.ofString "classmethod") 59), (.type "classmethod")⟩, ⟨PyData.keyHash P (Str.ofString "complex"), (.str (Str.ofString "complex") 60), (.type "complex")⟩, ⟨PyData.keyHash P (Str.ofString "dict"), (.str (Str.ofString "dict") 61), (.type "dict")⟩, ⟨PyData.keyHash P (Str.ofString "enumerate"), (.str (Str.ofString "enumerate") 62), (.type "enumerate")⟩, ⟨PyData.keyHash P (Str.ofString "filter"), (.str (Str.ofString "filter") 63), (.type "filter")⟩, ⟨PyData.keyHash P (Str.ofString "float"), (.str (Str.ofString "float") 64), (.type "float")⟩, ⟨PyData.keyHash P (Str.ofString "frozenset"), (.str (Str.ofString "frozenset") 65), (.type "frozenset")⟩, ⟨PyData.keyHash P (Str.ofString "property"), (.str (Str.ofString "property") 66), (.type "property")⟩, ⟨PyData.keyHash P (Str.ofString "int"), (.str (Str.ofString "int") 67), (.type "int")⟩, ⟨PyData.keyHash P (Str.ofString "list"), (.str (Str.ofString "list") 68), (.type "list")⟩, ⟨PyData.keyHash P (Str.ofString "map"), (.str (Str.ofString "map") 69), (.type "map")⟩, ⟨PyData.keyHash P (Str.ofString "object"), (.str (Str.ofString "object") 70), (.type "object")⟩, ⟨PyData.keyHash P (Str.ofString "range"), (.str (Str.ofString "range") 71), (.type "range")⟩, ⟨PyData.keyHash P (Str.ofString "reversed"), (.str (Str.ofString "reversed") 72), (.type "reversed")⟩, ⟨PyData.keyHash P (Str.ofString "set"), (.str (Str.ofString "set") 73), (.type "set")⟩, ⟨PyData.keyHash P (Str.ofString "slice"), (.str (Str.ofString "slice") 74), (.type "slice")⟩, ⟨PyData.keyHash P (Str.ofString "staticmethod"), (.str (Str.ofString "staticmethod") 75), (.type "staticmethod")⟩, ⟨PyData.keyHash P (Str.ofString "str"), (.str (Str.ofString "str") 76), (.type "str")⟩, ⟨PyData.keyHash P (Str.ofString "super"), (.str (Str.ofString "super") 77), (.type "super")⟩, ⟨PyData.keyHash P (Str.ofString "tuple"), (.str (Str.ofString "tuple") 78), (.type "tuple")⟩, ⟨PyData.keyHash P (Str.ofString "type"), (.str (Str.ofString "type") 79), (.type "type")⟩, ⟨PyData.keyHash P (Str.ofString "zip"), (.str (Str.ofString "zip") 80), (.type "zip")⟩, ⟨PyData.keyHash P (Str.ofString "__debug__"), (.str (Str.ofString "__debug__") 81), (.bool true)⟩, ⟨PyData.keyHash P (Str.ofString "BaseException"), (.str (Str.ofString "BaseException") 82), (.type "BaseException")⟩, ⟨PyData.keyHash P (Str.ofString "BaseExceptionGroup"), (.str (Str.ofString "BaseExceptionGroup") 83), (.type "BaseExceptionGroup")⟩, ⟨PyData.keyHash P (Str.ofString "Exception"), (.str (Str.ofString "Exception") 84), (.type "Exception")⟩, ⟨PyData.keyHash P (Str.ofString "GeneratorExit"), (.str (Str.ofString "GeneratorExit") 85), (.type "GeneratorExit")⟩, ⟨PyData.keyHash P (Str.ofString "KeyboardInterrupt"), (.str (Str.ofString "KeyboardInterrupt") 86), (.type "KeyboardInterrupt")⟩, ⟨PyData.keyHash P (Str.ofString "SystemExit"), (.str (Str.ofString "SystemExit") 87), (.type "SystemExit")⟩, ⟨PyData.keyHash P (Str.ofString "ArithmeticError"), (.str (Str.ofString "ArithmeticError") 88), (.type "ArithmeticError")⟩, ⟨PyData.keyHash P (Str.ofString "AssertionError"), (.str (Str.ofString "AssertionError") 89), (.type "AssertionError")⟩, ⟨PyData.keyHash P (Str.ofString "AttributeError"), (.str (Str.ofString "AttributeError") 90), (.type "AttributeError")⟩, ⟨PyData.keyHash P (Str.ofString "BufferError"), (.str (Str.ofString "BufferError") 91), (.type "BufferError")⟩, ⟨PyData.keyHash P (Str.ofString "EOFError"), (.str (Str.ofString "EOFError") 92), (.type "EOFError")⟩, ⟨PyData.keyHash P (Str.ofString "ImportError"), (.str (Str.ofString "ImportError") 93), (.type "ImportError")⟩, ⟨PyData.keyHash P (Str.ofString "LookupError"), (.str (Str.ofString "LookupError") 94), (.type "LookupError")⟩, ⟨PyData.keyHash P (Str.ofString "MemoryError"), (.str (Str.ofString "MemoryError") 95), (.type "MemoryError")⟩, ⟨PyData.keyHash P (Str.ofString "NameError"), (.str (Str.ofString "NameError") 96), (.type "NameError")⟩, ⟨PyData.keyHash P (Str.ofString "OSError"), (.str (Str.ofString "OSError") 97), (.type "OSError")⟩, ⟨PyData.keyHash P (Str.ofString "ReferenceError"), (.str (Str.ofString "ReferenceError") 98), (.type "ReferenceError")⟩, ⟨PyData.keyHash P (Str.ofString "RuntimeError"), (.str (Str.ofString "RuntimeError") 99), (.type "RuntimeError")⟩, ⟨PyData.keyHash P (Str.ofString "StopAsyncIteration"), (.str (Str.ofString "StopAsyncIteration") 100), (.type "StopAsyncIteration")⟩, ⟨PyData.keyHash P (Str.ofString "StopIteration"), (.str (Str.ofString "StopIteration") 101), (.type "StopIteration")⟩, ⟨PyData.keyHash P (Str.ofString "SyntaxError"), (.str (Str.ofString "SyntaxError") 102), (.type "SyntaxError")⟩, ⟨PyData.keyHash P (Str.ofString "SystemError"), (.str (Str.ofString "SystemError") 103), (.type "SystemError")⟩, ⟨PyData.keyHash P (Str.ofString "TypeError"), (.str (Str.ofString "TypeError") 104), (.type "TypeError")⟩, ⟨PyData.keyHash P (Str.ofString "ValueError"), (.str (Str.ofString "ValueError") 105), (.type "ValueError")⟩, ⟨PyData.keyHash P (Str.ofString "Warning"), (.str (Str.ofString "Warning") 106), (.type "Warning")⟩, ⟨PyData.keyHash P (Str.ofString "FloatingPointError"), (.str (Str.ofString "FloatingPointError") 107), (.type "FloatingPointError")⟩, ⟨PyData.keyHash P (Str.ofString "OverflowError"), (.str (Str.ofString "OverflowError") 108), (.type "OverflowError")⟩, ⟨PyData.keyHash P (Str.ofString "ZeroDivisionError"), (.str (Str.ofString "ZeroDivisionError") 109), (.type "ZeroDivisionError")⟩, ⟨PyData.keyHash P (Str.ofString "BytesWarning"), (.str (Str.ofString "BytesWarning") 110), (.type "BytesWarning")⟩, ⟨PyData.keyHash P (Str.ofString "DeprecationWarning"), (.str (Str.ofString "DeprecationWarning") 111), (.type "DeprecationWarning")⟩, ⟨PyData.keyHash P (Str.ofString "EncodingWarning"), (.str (Str.ofString "EncodingWarning") 112), (.type "EncodingWarning")⟩, ⟨PyData.keyHash P (Str.ofString "FutureWarning"), (.str (Str.ofString "FutureWarning") 113), (.type "FutureWarning")⟩, ⟨PyData.keyHash P (Str.ofString "ImportWarning"), (.str (Str.ofString "ImportWarning") 114), (.type "ImportWarning")⟩, ⟨PyData.keyHash P (Str.ofString "PendingDeprecationWarning"), (.str (Str.ofString "PendingDeprecationWarning") 115), (.type "PendingDeprecationWarning")⟩, ⟨PyData.keyHash P (Str.ofString "ResourceWarning"), (.str (Str.ofString "ResourceWarning") 116), (.type "ResourceWarning")⟩, ⟨PyData.keyHash P (Str.ofString "RuntimeWarning"), (.str (Str.ofString "RuntimeWarning") 117), (.type "RuntimeWarning")⟩, ⟨PyData.keyHash P (Str.ofString "SyntaxWarning"), (.str (Str.ofString "SyntaxWarning") 118), (.type "SyntaxWarning")⟩, ⟨PyData.keyHash P (Str.ofString "UnicodeWarning"), (.str (Str.ofString "UnicodeWarning") 119), (.type "UnicodeWarning")⟩, ⟨PyData.keyHash P (Str.ofString "UserWarning"), (.str (Str.ofString "UserWarning") 120), (.type "UserWarning")⟩, ⟨PyData.keyHash P (Str.ofString "BlockingIOError"), (.str (Str.ofString "BlockingIOError") 121), (.type "BlockingIOError")⟩, ⟨PyData.keyHash P (Str.ofString "ChildProcessError"), (.str (Str.ofString "ChildProcessError") 122), (.type "ChildProcessError")⟩, ⟨PyData.keyHash P (Str.ofString "ConnectionError"), (.str (Str.ofString "ConnectionError") 123), (.type "ConnectionError")⟩, ⟨PyData.keyHash P (Str.ofString "FileExistsError"), (.str (Str.ofString "FileExistsError") 124), (.type "FileExistsError")⟩, ⟨PyData.keyHash P (Str.ofString "FileNotFoundError"), (.str (Str.ofString "FileNotFoundError") 125), (.type "FileNotFoundError")⟩, ⟨PyData.keyHash P (Str.ofString "InterruptedError"), (.str (Str.ofString "InterruptedError") 126), (.type "InterruptedError")⟩, ⟨PyData.keyHash P (Str.ofString "IsADirectoryError"), (.str (Str.ofString "IsADirectoryError") 127), (.type "IsADirectoryError")⟩, ⟨PyData.keyHash P (Str.ofString "NotADirectoryError"), (.str (Str.ofString "NotADirectoryError") 128), (.type "NotADirectoryError")⟩, ⟨PyData.keyHash P (Str.ofString "PermissionError"), (.str (Str.ofString "PermissionError") 129), (.type "PermissionError")⟩, ⟨PyData.keyHash P (Str.ofString "ProcessLookupError"), (.str (Str.ofString "ProcessLookupError") 130), (.type "ProcessLookupError")⟩, ⟨PyData.keyHash P (Str.ofString "TimeoutError"), (.str (Str.ofString "TimeoutError") 131), (.type "TimeoutError")⟩, ⟨PyData.keyHash P (Str.ofString "IndentationError"), (.str (Str.ofString "IndentationError") 132), (.type "IndentationError")⟩, ⟨PyData.keyHash P (Str.ofString "_IncompleteInputError"), (.str (Str.ofString "_IncompleteInputError") 133), (.type "_IncompleteInputError")⟩, ⟨PyData.keyHash P (Str.ofString "IndexError"), (.str (Str.ofString "IndexError") 134), (.type "IndexError")⟩, ⟨PyData.keyHash P (Str.ofString "KeyError"), (.str (Str.ofString "KeyError") 135), (.type "KeyError")⟩, ⟨PyData.keyHash P (Str.ofString "ModuleNotFoundError"), (.str (Str.ofString "ModuleNotFoundError") 136), (.type "ModuleNotFoundError")⟩, ⟨PyData.keyHash P (Str.ofString "NotImplementedError"), (.str (Str.ofString "NotImplementedError") 137), (.type "NotImplementedError")⟩, ⟨PyData.keyHash P (Str.ofString "PythonFinalizationError"), (.str (Str.ofString "PythonFinalizationError") 138), (.type "PythonFinalizationError")⟩, ⟨PyData.keyHash P (Str.ofString "RecursionError"), (.str (Str.ofString "RecursionError") 139), (.type "RecursionError")⟩, ⟨PyData.keyHash P (Str.ofString "UnboundLocalError"), (.str (Str.ofString "UnboundLocalError") 140), (.type "UnboundLocalError")⟩, ⟨PyData.keyHash P (Str.ofString "UnicodeError"), (.str (Str.ofString "UnicodeError") 141), (.type "UnicodeError")⟩, ⟨PyData.keyHash P (Str.ofString "BrokenPipeError"), (.str (Str.ofString "BrokenPipeError") 142), (.type "BrokenPipeError")⟩, ⟨PyData.keyHash P (Str.ofString "ConnectionAbortedError"), (.str (Str.ofString "ConnectionAbortedError") 143), (.type "ConnectionAbortedError")⟩, ⟨PyData.keyHash P (Str.ofString "ConnectionRefusedError"), (.str (Str.ofString "ConnectionRefusedError") 144), (.type "ConnectionRefusedError")⟩, ⟨PyData.keyHash P (Str.ofString "ConnectionResetError"), (.str (Str.ofString "ConnectionResetError") 145), (.type "ConnectionResetError")⟩, ⟨PyData.keyHash P (Str.ofString "TabError"), (.str (Str.ofString "TabError") 146), (.type "TabError")⟩, ⟨PyData.keyHash P (Str.ofString "UnicodeDecodeError"), (.str (Str.ofString "UnicodeDecodeError") 147), (.type "UnicodeDecodeError")⟩, ⟨PyData.keyHash P (Str.ofString "UnicodeEncodeError"), (.str (Str.ofString "UnicodeEncodeError") 148), (.type "UnicodeEncodeError")⟩, ⟨PyData.keyHash P (Str.ofString "UnicodeTranslateError"), (.str (Str.ofString "UnicodeTranslateError") 149), (.type "UnicodeTranslateError")⟩, ⟨PyData.keyHash P (Str.ofString "ExceptionGroup"), (.str (Str.ofString "ExceptionGroup") 150), (.type "ExceptionGroup")⟩, ⟨PyData.keyHash P (Str.ofString "EnvironmentError"), (.str (Str.ofString "EnvironmentError") 151), (.type "OSError")⟩, ⟨PyData.keyHash P (Str.ofString "IOError"), (.str (Str.ofString "IOError") 152), (.type "OSError")⟩, ⟨PyData.keyHash P (Str.ofString "open"), (.str (Str.ofString "open") 153), (.builtin "open")⟩, ⟨PyData.keyHash P (Str.ofString "quit"), (.str (Str.ofString "quit") 154), (.builtin "builtins.quit#opaque")⟩, ⟨PyData.keyHash P (Str.ofString "exit"), (.str (Str.ofString "exit") 155), (.builtin "builtins.exit#opaque")⟩, ⟨PyData.keyHash P (Str.ofString "copyright"), (.str (Str.ofString "copyright") 156), (.builtin "builtins.copyright#opaque")⟩, ⟨PyData.keyHash P (Str.ofString "credits"), (.str (Str.ofString "credits") 157), (.builtin "builtins.credits#opaque")⟩, ⟨PyData.keyHash P (Str.ofString "license"), (.str (Str.ofString "license") 158), (.builtin "builtins.license#opaque")⟩, ⟨PyData.keyHash P (Str.ofString "help"), (.str (Str.ofString "help") 159), (.builtin "builtins.help#opaque")⟩] 159, #[]⟩
noncomputable abbrev gs1 (P : Params) : Obj := ⟨(.type "dict"), none, .dict #[⟨PyData.keyHash P (Str.ofString "builtins"), (.str (Str.ofString "builtins") 162), (.ref 4)⟩, ⟨PyData.keyHash P (Str.ofString "__main__"), (.str (Str.ofString "__main__") 163), (.ref 5)⟩, ⟨PyData.keyHash P (Str.ofString "_sre"), (.str (Str.ofString "_sre") 244), (.ref 12)⟩] 3, #[]⟩
noncomputable abbrev gs3 (P : Params) : Obj := ⟨(.type "dict"), none, .dict #[⟨PyData.keyHash P (Str.ofString "__name__"), (.str (Str.ofString "__name__") 165), (.str (Str.ofString "__main__") 164)⟩, ⟨PyData.keyHash P (Str.ofString "__doc__"), (.str (Str.ofString "__doc__") 166), .none⟩, ⟨PyData.keyHash P (Str.ofString "__package__"), (.str (Str.ofString "__package__") 167), .none⟩, ⟨PyData.keyHash P (Str.ofString "__loader__"), (.str (Str.ofString "__loader__") 168), (.builtin "__main__.__loader__#opaque")⟩, ⟨PyData.keyHash P (Str.ofString "__spec__"), (.str (Str.ofString "__spec__") 169), .none⟩, ⟨PyData.keyHash P (Str.ofString "__annotations__"), (.str (Str.ofString "__annotations__") 170), (.ref 6)⟩, ⟨PyData.keyHash P (Str.ofString "__builtins__"), (.str (Str.ofString "__builtins__") 171), (.ref 4)⟩, ⟨PyData.keyHash P (Str.ofString "__file__"), (.str (Str.ofString "__file__") 173), (.str (Str.ofString "/claim/cut.py") 172)⟩, ⟨PyData.keyHash P (Str.ofString "__cached__"), (.str (Str.ofString "__cached__") 174), .none⟩, ⟨PyData.keyHash P (Str.ofString "_sre"), (.str (Str.ofString "_sre") 275), (.ref 12)⟩] 10, #[]⟩
noncomputable abbrev gs4 (_ : Params) : Obj := ⟨(.type "module"), some 0, .plain, #[]⟩
noncomputable abbrev gs5 (_ : Params) : Obj := ⟨(.type "module"), some 3, .plain, #[]⟩
noncomputable abbrev gs6 (_ : Params) : Obj := ⟨(.type "dict"), none, .dict #[] 0, #[]⟩
noncomputable abbrev gs7 (_ : Params) : Obj := ⟨(.type "tuple"), none, .seq #[] 0, #[]⟩
noncomputable abbrev gs8 (_ : Params) : Obj := ⟨.none, none, .fields #[], #[]⟩
noncomputable abbrev gs9 (_ : Params) : Obj := ⟨(.type "code"), none, .fields #[(.str (Str.ofString "<module>") 176), (.str (Str.ofString "<module>") 177), (.str (Str.ofString "/claim/cut.py") 178), (.int 1 0), (.int 0 0), (.int 0 0), (.int 0 0), (.int 0 0), (.ref 7), (.bool false), (.int 175 0), (.ref 8), .none, .none, .none, .none, (.int 179 0), (.int 1 0), (.str (Str.ofString "/claim/cut.py") 180)], #[]⟩
noncomputable abbrev gs10 (_ : Params) : Obj := ⟨(.type "frame"), none, .plain, #[some (.ref 9), some (.ref 3), some (.ref 3), none, some (.str (Str.ofString "__main__") 164), none, some (.ref 0)]⟩
noncomputable abbrev gs11 (P : Params) : Obj := ⟨(.type "dict"), none, .dict #[⟨PyData.keyHash P (Str.ofString "__name__"), (.str (Str.ofString "__name__") 247), (.str (Str.ofString "_sre") 246)⟩, ⟨PyData.keyHash P (Str.ofString "__doc__"), (.str (Str.ofString "__doc__") 248), .none⟩, ⟨PyData.keyHash P (Str.ofString "__package__"), (.str (Str.ofString "__package__") 250), (.str (Str.ofString "") 249)⟩, ⟨PyData.keyHash P (Str.ofString "__loader__"), (.str (Str.ofString "__loader__") 251), (.builtin "off-the-table:_sre.__loader__:shared#opaque")⟩, ⟨PyData.keyHash P (Str.ofString "__spec__"), (.str (Str.ofString "__spec__") 252), (.builtin "off-the-table:_sre.__spec__:shared#opaque")⟩, ⟨PyData.keyHash P (Str.ofString "compile"), (.str (Str.ofString "compile") 253), (.builtin "_sre.compile")⟩, ⟨PyData.keyHash P (Str.ofString "template"), (.str (Str.ofString "template") 254), (.builtin "off-the-table:_sre.template:shared#opaque")⟩, ⟨PyData.keyHash P (Str.ofString "getcodesize"), (.str (Str.ofString "getcodesize") 255), (.builtin "off-the-table:_sre.getcodesize:shared#opaque")⟩, ⟨PyData.keyHash P (Str.ofString "ascii_iscased"), (.str (Str.ofString "ascii_iscased") 256), (.builtin "off-the-table:_sre.ascii_iscased:shared#opaque")⟩, ⟨PyData.keyHash P (Str.ofString "unicode_iscased"), (.str (Str.ofString "unicode_iscased") 257), (.builtin "off-the-table:_sre.unicode_iscased:shared#opaque")⟩, ⟨PyData.keyHash P (Str.ofString "ascii_tolower"), (.str (Str.ofString "ascii_tolower") 258), (.builtin "off-the-table:_sre.ascii_tolower:shared#opaque")⟩, ⟨PyData.keyHash P (Str.ofString "unicode_tolower"), (.str (Str.ofString "unicode_tolower") 259), (.builtin "off-the-table:_sre.unicode_tolower:shared#opaque")⟩, ⟨PyData.keyHash P (Str.ofString "MAGIC"), (.str (Str.ofString "MAGIC") 261), (.int 20230612 260)⟩, ⟨PyData.keyHash P (Str.ofString "CODESIZE"), (.str (Str.ofString "CODESIZE") 263), (.int 4 262)⟩, ⟨PyData.keyHash P (Str.ofString "MAXREPEAT"), (.str (Str.ofString "MAXREPEAT") 265), (.int 4294967295 264)⟩, ⟨PyData.keyHash P (Str.ofString "MAXGROUPS"), (.str (Str.ofString "MAXGROUPS") 267), (.int 1073741823 266)⟩, ⟨PyData.keyHash P (Str.ofString "copyright"), (.str (Str.ofString "copyright") 269), (.str (Str.ofString " SRE 2.2.2 Copyright (c) 1997-2002 by Secret Labs AB ") 268)⟩] 17, #[]⟩
noncomputable abbrev gs12 (_ : Params) : Obj := ⟨(.type "module"), some 11, .plain, #[]⟩
noncomputable abbrev gs13 (P : Params) : Obj := ⟨(.type "dict"), none, .dict #[⟨PyData.keyHash P (Str.ofString "__module__"), (.str (Str.ofString "__module__") 189), (.str (Str.ofString "_frozen_importlib") 186)⟩, ⟨PyData.keyHash P (Str.ofString "__firstlineno__"), (.str (Str.ofString "__firstlineno__") 190), (.int 971 187)⟩, ⟨PyData.keyHash P (Str.ofString "__doc__"), (.str (Str.ofString "__doc__") 191), (.builtin "_frozen_importlib.BuiltinImporter.__doc__:str#opaque")⟩, ⟨PyData.keyHash P (Str.ofString "_ORIGIN"), (.str (Str.ofString "_ORIGIN") 192), (.str (Str.ofString "built-in") 188)⟩, ⟨PyData.keyHash P (Str.ofString "find_spec"), (.str (Str.ofString "find_spec") 193), (.builtin "_frozen_importlib.BuiltinImporter.find_spec#opaque")⟩, ⟨PyData.keyHash P (Str.ofString "create_module"), (.str (Str.ofString "create_module") 194), (.builtin "_frozen_importlib.BuiltinImporter.create_module#opaque")⟩, ⟨PyData.keyHash P (Str.ofString "exec_module"), (.str (Str.ofString "exec_module") 195), (.builtin "_frozen_importlib.BuiltinImporter.exec_module#opaque")⟩, ⟨PyData.keyHash P (Str.ofString "get_code"), (.str (Str.ofString "get_code") 196), (.builtin "_frozen_importlib.BuiltinImporter.get_code#opaque")⟩, ⟨PyData.keyHash P (Str.ofString "get_source"), (.str (Str.ofString "get_source") 197), (.builtin "_frozen_importlib.BuiltinImporter.get_source#opaque")⟩, ⟨PyData.keyHash P (Str.ofString "is_package"), (.str (Str.ofString "is_package") 198), (.builtin "_frozen_importlib.BuiltinImporter.is_package#opaque")⟩, ⟨PyData.keyHash P (Str.ofString "load_module"), (.str (Str.ofString "load_module") 199), (.builtin "_frozen_importlib.BuiltinImporter.load_module#opaque")⟩, ⟨PyData.keyHash P (Str.ofString "__static_attributes__"), (.str (Str.ofString "__static_attributes__") 200), (.ref 15)⟩, ⟨PyData.keyHash P (Str.ofString "__dict__"), (.str (Str.ofString "__dict__") 202), (.ref 16)⟩, ⟨PyData.keyHash P (Str.ofString "__weakref__"), (.str (Str.ofString "__weakref__") 204), (.ref 17)⟩] 14, #[]⟩
noncomputable abbrev gs14 (_ : Params) : Obj := ⟨(.type "type"), none, .cls ⟨(Str.ofString "BuiltinImporter"), [(.type "object")], [(.ref 14), (.type "object")], 13, (Str.ofString "BuiltinImporter"), true, [], [], false, none, false⟩, #[]⟩
noncomputable abbrev gs15 (_ : Params) : Obj := ⟨(.type "tuple"), none, .seq #[] 0, #[]⟩
noncomputable abbrev gs16 (_ : Params) : Obj := ⟨(.type "getset_descriptor"), none, .fields #[(.str (Str.ofString "__dict__") 201), (.ref 14), (.builtin "function.__dict__"), (.builtin "function.__dict__#set")], #[]⟩
noncomputable abbrev gs17 (_ : Params) : Obj := ⟨(.type "getset_descriptor"), none, .fields #[(.str (Str.ofString "__weakref__") 203), (.ref 14), (.builtin "ExceptionGroup.__weakref__"), .none], #[]⟩
noncomputable abbrev gs18 (_ : Params) : Obj := ⟨.none, none, .seq #[(.int 13 0), (.str (Str.mk #[6, 189, 10, 95, 95, 109, 111, 100, 117, 108, 101, 95, 95, 6, 186, 17, 95, 102, 114, 111, 122, 101, 110, 95, 105, 109, 112, 111, 114, 116, 108, 105, 98, 6, 190, 15, 95, 95, 102, 105, 114, 115, 116, 108, 105, 110, 101, 110, 111, 95, 95, 4, 187, 0, 971, 6, 191, 7, 95, 95, 100, 111, 99, 95, 95, 9, 52, 95, 102, 114, 111, 122, 101, 110, 95, 105, 109, 112, 111, 114, 116, 108, 105, 98, 46, 66, 117, 105, 108, 116, 105, 110, 73, 109, 112, 111, 114, 116, 101, 114, 46, 95, 95, 100, 111, 99, 95, 95, 58, 115, 116, 114, 35, 111, 112, 97, 113, 117, 101, 6, 192, 7, 95, 79, 82, 73, 71, 73, 78, 6, 188, 8, 98, 117, 105, 108, 116, 45, 105, 110, 6, 193, 9, 102, 105, 110, 100, 95, 115, 112, 101, 99, 9, 50, 95, 102, 114, 111, 122, 101, 110, 95, 105, 109, 112, 111, 114, 116, 108, 105, 98, 46, 66, 117, 105, 108, 116, 105, 110, 73, 109, 112, 111, 114, 116, 101, 114, 46, 102, 105, 110, 100, 95, 115, 112, 101, 99, 35, 111, 112, 97, 113, 117, 101, 6, 194, 13, 99, 114, 101, 97, 116, 101, 95, 109, 111, 100, 117, 108, 101, 9, 54, 95, 102, 114, 111, 122, 101, 110, 95, 105, 109, 112, 111, 114, 116, 108, 105, 98, 46, 66, 117, 105, 108, 116, 105, 110, 73, 109, 112, 111, 114, 116, 101, 114, 46, 99, 114, 101, 97, 116, 101, 95, 109, 111, 100, 117, 108, 101, 35, 111, 112, 97, 113, 117, 101, 6, 195, 11, 101, 120, 101, 99, 95, 109, 111, 100, 117, 108, 101, 9, 52, 95, 102, 114, 111, 122, 101, 110, 95, 105, 109, 112, 111, 114, 116, 108, 105, 98, 46, 66, 117, 105, 108, 116, 105, 110, 73, 109, 112, 111, 114, 116, 101, 114, 46, 101, 120, 101, 99, 95, 109, 111, 100, 117, 108, 101, 35, 111, 112, 97, 113, 117, 101, 6, 196, 8, 103, 101, 116, 95, 99, 111, 100, 101, 9, 49, 95, 102, 114, 111, 122, 101, 110, 95, 105, 109, 112, 111, 114, 116, 108, 105, 98, 46, 66, 117, 105, 108, 116, 105, 110, 73, 109, 112, 111, 114, 116, 101, 114, 46, 103, 101, 116, 95, 99, 111, 100, 101, 35, 111, 112, 97, 113, 117, 101, 6, 197, 10, 103, 101, 116, 95, 115, 111, 117, 114, 99, 101, 9, 51, 95, 102, 114, 111, 122, 101, 110, 95, 105, 109, 112, 111, 114, 116, 108, 105, 98, 46, 66, 117, 105, 108, 116, 105, 110, 73, 109, 112, 111, 114, 116, 101, 114, 46, 103, 101, 116, 95, 115, 111, 117, 114, 99, 101, 35, 111, 112, 97, 113, 117, 101, 6, 198, 10, 105, 115, 95, 112, 97, 99, 107, 97, 103, 101, 9, 51, 95, 102, 114, 111, 122, 101, 110, 95, 105, 109, 112, 111, 114, 116, 108, 105, 98, 46, 66, 117, 105, 108, 116, 105, 110, 73, 109, 112, 111, 114, 116, 101, 114, 46, 105, 115, 95, 112, 97, 99, 107, 97, 103, 101, 35, 111, 112, 97, 113, 117, 101, 6, 199, 11, 108, 111, 97, 100, 95, 109, 111, 100, 117, 108, 101, 9, 52, 95, 102, 114, 111, 122, 101, 110, 95, 105, 109, 112, 111, 114, 116, 108, 105, 98, 46, 66, 117, 105, 108, 116, 105, 110, 73, 109, 112, 111, 114, 116, 101, 114, 46, 108, 111, 97, 100, 95, 109, 111, 100, 117, 108, 101, 35, 111, 112, 97, 113, 117, 101, 6, 200, 21, 95, 95, 115, 116, 97, 116, 105, 99, 95, 97, 116, 116, 114, 105, 98, 117, 116, 101, 115, 95, 95, 4, 0, 0, 15, 6, 202, 8, 95, 95, 100, 105, 99, 116, 95, 95, 4, 0, 0, 16, 6, 204, 11, 95, 95, 119, 101, 97, 107, 114, 101, 102, 95, 95, 4, 0, 0, 17]) 0), (.bool true), (.bool true), (.str (Str.ofString "") 205), (.int 21 0), (.str (Str.mk #[6, 227, 10, 95, 95, 109, 111, 100, 117, 108, 101, 95, 95, 6, 217, 17, 95, 102, 114, 111, 122, 101, 110, 95, 105, 109, 112, 111, 114, 116, 108, 105, 98, 6, 228, 15, 95, 95, 102, 105, 114, 115, 116, 108, 105, 110, 101, 110, 111, 95, 95, 4, 218, 0, 562, 6, 229, 7, 95, 95, 100, 111, 99, 95, 95, 9, 47, 95, 102, 114, 111, 122, 101, 110, 95, 105, 109, 112, 111, 114, 116, 108, 105, 98, 46, 77, 111, 100, 117, 108, 101, 83, 112, 101, 99, 46, 95, 95, 100, 111, 99, 95, 95, 58, 115, 116, 114, 35, 111, 112, 97, 113, 117, 101, 6, 230, 8, 95, 95, 105, 110, 105, 116, 95, 95, 9, 44, 95, 102, 114, 111, 122, 101, 110, 95, 105, 109, 112, 111, 114, 116, 108, 105, 98, 46, 77, 111, 100, 117, 108, 101, 83, 112, 101, 99, 46, 95, 95, 105, 110, 105, 116, 95, 95, 35, 111, 112, 97, 113, 117, 101, 6, 231, 8, 95, 95, 114, 101, 112, 114, 95, 95, 9, 44, 95, 102, 114, 111, 122, 101, 110, 95, 105, 109, 112, 111, 114, 116, 108, 105, 98, 46, 77, 111, 100, 117, 108, 101, 83, 112, 101, 99, 46, 95, 95, 114, 101, 112, 114, 95, 95, 35, 111, 112, 97, 113, 117, 101, 6, 232, 6, 95, 95, 101, 113, 95, 95, 9, 42, 95, 102, 114, 111, 122, 101, 110, 95, 105, 109, 112, 111, 114, 116, 108, 105, 98, 46, 77, 111, 100, 117, 108, 101, 83, 112, 101, 99, 46, 95, 95, 101, 113, 95, 95, 35, 111, 112, 97, 113, 117, 101, 6, 233, 6, 99, 97, 99, 104, 101, 100, 9, 42, 95, 102, 114, 111, 122, 101, 110, 95, 105, 109, 112, 111, 114, 116, 108, 105, 98, 46, 77, 111, 100, 117, 108, 101, 83, 112, 101, 99, 46, 99, 97, 99, 104, 101, 100, 35, 111, 112, 97, 113, 117, 101, 6, 234, 6, 112, 97, 114, 101, 110, 116, 9, 42, 95, 102, 114, 111, 122, 101, 110, 95, 105, 109, 112, 111, 114, 116, 108, 105, 98, 46, 77, 111, 100, 117, 108, 101, 83, 112, 101, 99, 46, 112, 97, 114, 101, 110, 116, 35, 111, 112, 97, 113, 117, 101, 6, 235, 12, 104, 97, 115, 95, 108, 111, 99, 97, 116, 105, 111, 110, 9, 48, 95, 102, 114, 111, 122, 101, 110, 95, 105, 109, 112, 111, 114, 116, 108, 105, 98, 46, 77, 111, 100, 117, 108, 101, 83, 112, 101, 99, 46, 104, 97, 115, 95, 108, 111, 99, 97, 116, 105, 111, 110, 35, 111, 112, 97, 113, 117, 101, 6, 236, 21, 95, 95, 115, 116, 97, 116, 105, 99, 95, 97, 116, 116, 114, 105, 98, 117, 116, 101, 115, 95, 95, 4, 0, 0, 23, 6, 238, 8, 95, 95, 100, 105, 99, 116, 95, 95, 4, 0, 0, 24, 6, 240, 11, 95, 95, 119, 101, 97, 107, 114, 101, 102, 95, 95, 4, 0, 0, 25, 6, 241, 8, 95, 95, 104, 97, 115, 104, 95, 95, 0]) 0), (.bool true), (.bool true), (.str (Str.ofString "") 242)] 1, #[]⟩
noncomputable abbrev gs19 (_ : Params) : Obj := ⟨(.type "list"), none, .seq #[] 0, #[]⟩
noncomputable abbrev gs20 (P : Params) : Obj := ⟨(.type "dict"), none, .dict #[⟨PyData.keyHash P (Str.ofString "name"), (.str (Str.ofString "name") 208), (.str (Str.ofString "_sre") 207)⟩, ⟨PyData.keyHash P (Str.ofString "loader"), (.str (Str.ofString "loader") 209), (.ref 14)⟩, ⟨PyData.keyHash P (Str.ofString "origin"), (.str (Str.ofString "origin") 210), (.str (Str.ofString "built-in") 184)⟩, ⟨PyData.keyHash P (Str.ofString "loader_state"), (.str (Str.ofString "loader_state") 211), .none⟩, ⟨PyData.keyHash P (Str.ofString "submodule_search_locations"), (.str (Str.ofString "submodule_search_locations") 212), .none⟩, ⟨PyData.keyHash P (Str.ofString "_uninitialized_submodules"), (.str (Str.ofString "_uninitialized_submodules") 213), (.ref 19)⟩, ⟨PyData.keyHash P (Str.ofString "_set_fileattr"), (.str (Str.ofString "_set_fileattr") 214), (.bool false)⟩, ⟨PyData.keyHash P (Str.ofString "_cached"), (.str (Str.ofString "_cached") 215), .none⟩, ⟨PyData.keyHash P (Str.ofString "_initializing"), (.str (Str.ofString "_initializing") 243), (.bool false)⟩] 9, #[]⟩
noncomputable abbrev gs21 (P : Params) : Obj := ⟨(.type "dict"), none, .dict #[⟨PyData.keyHash P (Str.ofString "__module__"), (.str (Str.ofString "__module__") 227), (.str (Str.ofString "_frozen_importlib") 217)⟩, ⟨PyData.keyHash P (Str.ofString "__firstlineno__"), (.str (Str.ofString "__firstlineno__") 228), (.int 562 218)⟩, ⟨PyData.keyHash P (Str.ofString "__doc__"), (.str (Str.ofString "__doc__") 229), (.builtin "_frozen_importlib.ModuleSpec.__doc__:str#opaque")⟩, ⟨PyData.keyHash P (Str.ofString "__init__"), (.str (Str.ofString "__init__") 230), (.builtin "_frozen_importlib.ModuleSpec.__init__#opaque")⟩, ⟨PyData.keyHash P (Str.ofString "__repr__"), (.str (Str.ofString "__repr__") 231), (.builtin "_frozen_importlib.ModuleSpec.__repr__#opaque")⟩, ⟨PyData.keyHash P (Str.ofString "__eq__"), (.str (Str.ofString "__eq__") 232), (.builtin "_frozen_importlib.ModuleSpec.__eq__#opaque")⟩, ⟨PyData.keyHash P (Str.ofString "cached"), (.str (Str.ofString "cached") 233), (.builtin "_frozen_importlib.ModuleSpec.cached#opaque")⟩, ⟨PyData.keyHash P (Str.ofString "parent"), (.str (Str.ofString "parent") 234), (.builtin "_frozen_importlib.ModuleSpec.parent#opaque")⟩, ⟨PyData.keyHash P (Str.ofString "has_location"), (.str (Str.ofString "has_location") 235), (.builtin "_frozen_importlib.ModuleSpec.has_location#opaque")⟩, ⟨PyData.keyHash P (Str.ofString "__static_attributes__"), (.str (Str.ofString "__static_attributes__") 236), (.ref 23)⟩, ⟨PyData.keyHash P (Str.ofString "__dict__"), (.str (Str.ofString "__dict__") 238), (.ref 24)⟩, ⟨PyData.keyHash P (Str.ofString "__weakref__"), (.str (Str.ofString "__weakref__") 240), (.ref 25)⟩, ⟨PyData.keyHash P (Str.ofString "__hash__"), (.str (Str.ofString "__hash__") 241), .none⟩] 13, #[]⟩
noncomputable abbrev gs22 (_ : Params) : Obj := ⟨(.type "type"), none, .cls ⟨(Str.ofString "ModuleSpec"), [(.type "object")], [(.ref 22), (.type "object")], 21, (Str.ofString "ModuleSpec"), true, [], [], false, none, false⟩, #[]⟩
noncomputable abbrev gs23 (_ : Params) : Obj := ⟨(.type "tuple"), none, .seq #[(.str (Str.ofString "_cached") 219), (.str (Str.ofString "_set_fileattr") 220), (.str (Str.ofString "_uninitialized_submodules") 221), (.str (Str.ofString "loader") 222), (.str (Str.ofString "loader_state") 223), (.str (Str.ofString "name") 224), (.str (Str.ofString "origin") 225), (.str (Str.ofString "submodule_search_locations") 226)] 0, #[]⟩
noncomputable abbrev gs24 (_ : Params) : Obj := ⟨(.type "getset_descriptor"), none, .fields #[(.str (Str.ofString "__dict__") 237), (.ref 22), (.builtin "function.__dict__"), (.builtin "function.__dict__#set")], #[]⟩
noncomputable abbrev gs25 (_ : Params) : Obj := ⟨(.type "getset_descriptor"), none, .fields #[(.str (Str.ofString "__weakref__") 239), (.ref 22), (.builtin "ExceptionGroup.__weakref__"), .none], #[]⟩
noncomputable abbrev gs26 (_ : Params) : Obj := ⟨(.ref 22), some 20, .plain, #[]⟩
noncomputable abbrev gs27 (_ : Params) : Obj := ⟨.none, none, .seq #[(.int 11 0), (.str (Str.mk #[6, 247, 8, 95, 95, 110, 97, 109, 101, 95, 95, 6, 246, 4, 95, 115, 114, 101, 6, 248, 7, 95, 95, 100, 111, 99, 95, 95, 0, 6, 250, 11, 95, 95, 112, 97, 99, 107, 97, 103, 101, 95, 95, 6, 249, 0, 6, 251, 10, 95, 95, 108, 111, 97, 100, 101, 114, 95, 95, 4, 0, 0, 14, 6, 252, 8, 95, 95, 115, 112, 101, 99, 95, 95, 4, 0, 0, 26, 6, 253, 7, 99, 111, 109, 112, 105, 108, 101, 9, 12, 95, 115, 114, 101, 46, 99, 111, 109, 112, 105, 108, 101, 6, 254, 8, 116, 101, 109, 112, 108, 97, 116, 101, 9, 13, 95, 115, 114, 101, 46, 116, 101, 109, 112, 108, 97, 116, 101, 6, 255, 11, 103, 101, 116, 99, 111, 100, 101, 115, 105, 122, 101, 9, 16, 95, 115, 114, 101, 46, 103, 101, 116, 99, 111, 100, 101, 115, 105, 122, 101, 6, 256, 13, 97, 115, 99, 105, 105, 95, 105, 115, 99, 97, 115, 101, 100, 9, 18, 95, 115, 114, 101, 46, 97, 115, 99, 105, 105, 95, 105, 115, 99, 97, 115, 101, 100, 6, 257, 15, 117, 110, 105, 99, 111, 100, 101, 95, 105, 115, 99, 97, 115, 101, 100, 9, 20, 95, 115, 114, 101, 46, 117, 110, 105, 99, 111, 100, 101, 95, 105, 115, 99, 97, 115, 101, 100, 6, 258, 13, 97, 115, 99, 105, 105, 95, 116, 111, 108, 111, 119, 101, 114, 9, 18, 95, 115, 114, 101, 46, 97, 115, 99, 105, 105, 95, 116, 111, 108, 111, 119, 101, 114, 6, 259, 15, 117, 110, 105, 99, 111, 100, 101, 95, 116, 111, 108, 111, 119, 101, 114, 9, 20, 95, 115, 114, 101, 46, 117, 110, 105, 99, 111, 100, 101, 95, 116, 111, 108, 111, 119, 101, 114, 6, 261, 5, 77, 65, 71, 73, 67, 4, 260, 0, 20230612, 6, 263, 8, 67, 79, 68, 69, 83, 73, 90, 69, 4, 262, 0, 4, 6, 265, 9, 77, 65, 88, 82, 69, 80, 69, 65, 84, 4, 264, 0, 4294967295, 6, 267, 9, 77, 65, 88, 71, 82, 79, 85, 80, 83, 4, 266, 0, 1073741823, 6, 269, 9, 99, 111, 112, 121, 114, 105, 103, 104, 116, 6, 268, 53, 32, 83, 82, 69, 32, 50, 46, 50, 46, 50, 32, 67, 111, 112, 121, 114, 105, 103, 104, 116, 32, 40, 99, 41, 32, 49, 57, 57, 55, 45, 50, 48, 48, 50, 32, 98, 121, 32, 83, 101, 99, 114, 101, 116, 32, 76, 97, 98, 115, 32, 65, 66, 32]) 0), (.bool true), (.bool false), (.str (Str.ofString "_sre") 271)] 0, #[]⟩
noncomputable def T0 (P : Params) : BT := (.node (gs0 P) (.node (gs1 P) (.node (gs3 P) (.node (gs7 P) (.node (gs15 P) .nil .nil) (.node (gs23 P) .nil .nil)) (.node (gs11 P) (.node (gs19 P) .nil .nil) (.node (gs27 P) .nil .nil))) (.node (gs5 P) (.node (gs9 P) (.node (gs17 P) .nil .nil) (.node (gs25 P) .nil .nil)) (.node (gs13 P) (.node (gs21 P) .nil .nil) .nil))) (.node (ob2 P) (.node (gs4 P) (.node (gs8 P) (.node (gs16 P) .nil .nil) (.node (gs24 P) .nil .nil)) (.node (gs12 P) (.node (gs20 P) .nil .nil) .nil)) (.node (gs6 P) (.node (gs10 P) (.node (gs18 P) .nil .nil) (.node (gs26 P) .nil .nil)) (.node (gs14 P) (.node (gs22 P) .nil .nil) .nil))))
noncomputable abbrev gs11e (P : Params) : Obj := ⟨(.type "dict"), none, .dict #[⟨PyData.keyHash P (Str.ofString "__name__"), (.str (Str.ofString "__name__") 247), (.str (Str.ofString "_sre") 246)⟩, ⟨PyData.keyHash P (Str.ofString "__doc__"), (.str (Str.ofString "__doc__") 248), .none⟩, ⟨PyData.keyHash P (Str.ofString "__package__"), (.str (Str.ofString "__package__") 250), (.str (Str.ofString "") 249)⟩, ⟨PyData.keyHash P (Str.ofString "__loader__"), (.str (Str.ofString "__loader__") 251), (.ref 14)⟩, ⟨PyData.keyHash P (Str.ofString "__spec__"), (.str (Str.ofString "__spec__") 252), (.ref 26)⟩, ⟨PyData.keyHash P (Str.ofString "compile"), (.str (Str.ofString "compile") 253), (.builtin "_sre.compile")⟩, ⟨PyData.keyHash P (Str.ofString "template"), (.str (Str.ofString "template") 254), (.builtin "_sre.template")⟩, ⟨PyData.keyHash P (Str.ofString "getcodesize"), (.str (Str.ofString "getcodesize") 255), (.builtin "_sre.getcodesize")⟩, ⟨PyData.keyHash P (Str.ofString "ascii_iscased"), (.str (Str.ofString "ascii_iscased") 256), (.builtin "_sre.ascii_iscased")⟩, ⟨PyData.keyHash P (Str.ofString "unicode_iscased"), (.str (Str.ofString "unicode_iscased") 257), (.builtin "_sre.unicode_iscased")⟩, ⟨PyData.keyHash P (Str.ofString "ascii_tolower"), (.str (Str.ofString "ascii_tolower") 258), (.builtin "_sre.ascii_tolower")⟩, ⟨PyData.keyHash P (Str.ofString "unicode_tolower"), (.str (Str.ofString "unicode_tolower") 259), (.builtin "_sre.unicode_tolower")⟩, ⟨PyData.keyHash P (Str.ofString "MAGIC"), (.str (Str.ofString "MAGIC") 261), (.int 20230612 260)⟩, ⟨PyData.keyHash P (Str.ofString "CODESIZE"), (.str (Str.ofString "CODESIZE") 263), (.int 4 262)⟩, ⟨PyData.keyHash P (Str.ofString "MAXREPEAT"), (.str (Str.ofString "MAXREPEAT") 265), (.int 4294967295 264)⟩, ⟨PyData.keyHash P (Str.ofString "MAXGROUPS"), (.str (Str.ofString "MAXGROUPS") 267), (.int 1073741823 266)⟩, ⟨PyData.keyHash P (Str.ofString "copyright"), (.str (Str.ofString "copyright") 269), (.str (Str.ofString " SRE 2.2.2 Copyright (c) 1997-2002 by Secret Labs AB ") 268)⟩] 17, #[]⟩
noncomputable def Te (P : Params) : BT := (.node (gs0 P) (.node (gs1 P) (.node (gs3 P) (.node (gs7 P) (.node (gs15 P) .nil .nil) (.node (gs23 P) .nil .nil)) (.node (gs11e P) (.node (gs19 P) .nil .nil) (.node (gs27 P) .nil .nil))) (.node (gs5 P) (.node (gs9 P) (.node (gs17 P) .nil .nil) (.node (gs25 P) .nil .nil)) (.node (gs13 P) (.node (gs21 P) .nil .nil) .nil))) (.node (ob2 P) (.node (gs4 P) (.node (gs8 P) (.node (gs16 P) .nil .nil) (.node (gs24 P) .nil .nil)) (.node (gs12 P) (.node (gs20 P) .nil .nil) .nil)) (.node (gs6 P) (.node (gs10 P) (.node (gs18 P) .nil .nil) (.node (gs26 P) .nil .nil)) (.node (gs14 P) (.node (gs22 P) .nil .nil) .nil))))
noncomputable abbrev gp28 (_ : Params) : Obj := ⟨(.type "tuple"), none, .seq #[] 0, #[]⟩
noncomputable abbrev gp29 (_ : Params) : Obj := ⟨.none, none, .fields #[], #[]⟩
noncomputable abbrev gp30 (_ : Params) : Obj := ⟨(.type "code"), none, .fields #[(.str (Str.ofString "<module>") 277), (.str (Str.ofString "<module>") 278), (.str (Str.ofString "/claim/cut.py") 279), (.int 1 0), (.int 0 0), (.int 0 0), (.int 0 0), (.int 0 0), (.ref 28), (.bool false), (.int 276 0), (.ref 29), .none, .none, .none, .none, (.int 280 0), (.int 1 0), (.str (Str.ofString "/claim/cut.py") 281)], #[]⟩
noncomputable abbrev gp31 (_ : Params) : Obj := ⟨(.type "frame"), none, .plain, #[some (.ref 30), some (.ref 3), some (.ref 3), none, some (.str (Str.ofString "__main__") 164), none, some (.ref 0)]⟩
noncomputable def Tb (P : Params) : BT := (.node (gs0 P) (.node (gs1 P) (.node (gs3 P) (.node (gs7 P) (.node (gs15 P) (.node (gp31 P) .nil .nil) .nil) (.node (gs23 P) .nil .nil)) (.node (gs11 P) (.node (gs19 P) .nil .nil) (.node (gs27 P) .nil .nil))) (.node (gs5 P) (.node (gs9 P) (.node (gs17 P) .nil .nil) (.node (gs25 P) .nil .nil)) (.node (gs13 P) (.node (gs21 P) .nil .nil) (.node (gp29 P) .nil .nil)))) (.node (ob2 P) (.node (gs4 P) (.node (gs8 P) (.node (gs16 P) .nil .nil) (.node (gs24 P) .nil .nil)) (.node (gs12 P) (.node (gs20 P) .nil .nil) (.node (gp28 P) .nil .nil))) (.node (gs6 P) (.node (gs10 P) (.node (gs18 P) .nil .nil) (.node (gs26 P) .nil .nil)) (.node (gs14 P) (.node (gs22 P) .nil .nil) (.node (gp30 P) .nil .nil)))))
noncomputable abbrev gf3 (P : Params) : Obj := ⟨(.type "dict"), none, .dict #[⟨PyData.keyHash P (Str.ofString "__name__"), (.str (Str.ofString "__name__") 165), (.str (Str.ofString "binascii") 329)⟩, ⟨PyData.keyHash P (Str.ofString "__doc__"), (.str (Str.ofString "__doc__") 166), .none⟩, ⟨PyData.keyHash P (Str.ofString "__package__"), (.str (Str.ofString "__package__") 167), .none⟩, ⟨PyData.keyHash P (Str.ofString "__loader__"), (.str (Str.ofString "__loader__") 168), (.builtin "__main__.__loader__#opaque")⟩, ⟨PyData.keyHash P (Str.ofString "__spec__"), (.str (Str.ofString "__spec__") 169), .none⟩, ⟨PyData.keyHash P (Str.ofString "__annotations__"), (.str (Str.ofString "__annotations__") 170), (.ref 6)⟩, ⟨PyData.keyHash P (Str.ofString "__builtins__"), (.str (Str.ofString "__builtins__") 171), (.ref 4)⟩, ⟨PyData.keyHash P (Str.ofString "__file__"), (.str (Str.ofString "__file__") 173), (.str (Str.ofString "/claim/cut.py") 172)⟩, ⟨PyData.keyHash P (Str.ofString "__cached__"), (.str (Str.ofString "__cached__") 174), .none⟩, ⟨PyData.keyHash P (Str.ofString "_sre"), (.str (Str.ofString "_sre") 275), (.ref 12)⟩, ⟨PyData.keyHash P (Str.ofString "_wall"), (.str (Str.ofString "_wall") 288), (.ref 38)⟩, ⟨PyData.keyHash P (Str.ofString "_twin_re_1"), (.str (Str.ofString "_twin_re_1") 320), (.ref 43)⟩, ⟨PyData.keyHash P (Str.ofString "bytes_types"), (.str (Str.ofString "bytes_types") 321), (.ref 44)⟩, ⟨PyData.keyHash P (Str.ofString "_bytes_from_decode_data"), (.str (Str.ofString "_bytes_from_decode_data") 328), (.ref 51)⟩, ⟨PyData.keyHash P (Str.ofString "Error"), (.str (Str.ofString "Error") 348), (.ref 61)⟩] 15, #[]⟩
noncomputable abbrev gf29 (_ : Params) : Obj := ⟨.none, none, .fields #[(.int 2 0), (.int 0 0), (.ref 37), (.int 8 0), (.int 0 0), (.ref 50), (.int 21 0), (.int 0 0), (.ref 57)], #[]⟩
noncomputable abbrev gf33 (_ : Params) : Obj := ⟨.none, none, .fields #[], #[]⟩
noncomputable abbrev gf36 (_ : Params) : Obj := ⟨.none, none, .func { (fnOf (Str.ofString "_wall") (Str.ofString "_wall") (par 1) (bod 1) (sco 1) .none .none .none .none none .none .none) with globals := 0, builtins := 0 }, #[]⟩
noncomputable abbrev gf39 (_ : Params) : Obj := ⟨(.type "list"), none, .seq #[(.int 14 294), (.int 12 295), (.int 4 296), (.int 1 297), (.int 1 298), (.int 21 299), (.int 22 300), (.int 48 301), (.int 57 302), (.int 22 303), (.int 65 304), (.int 70 305), (.int 0 306), (.int 13 307), (.int 9 308), (.int 21 309), (.int 22 310), (.int 48 311), (.int 57 312), (.int 22 313), (.int 65 314), (.int 70 315), (.int 0 316), (.int 1 317)] 0, #[]⟩
noncomputable abbrev gf40 (_ : Params) : Obj := ⟨(.type "dict"), none, .dict #[] 0, #[]⟩
noncomputable abbrev gf41 (_ : Params) : Obj := ⟨(.type "tuple"), none, .seq #[.none] 0, #[]⟩
noncomputable abbrev gf46 (_ : Params) : Obj := ⟨.none, none, .fields #[], #[]⟩
noncomputable abbrev gf49 (_ : Params) : Obj := ⟨.none, none, .func { (fnOf (Str.ofString "_bytes_from_decode_data") (Str.ofString "_bytes_from_decode_data") (par 5) (bod 5) (sco 5) .none .none .none .none none .none .none) with globals := 0, builtins := 0 }, #[]⟩
noncomputable abbrev gf53 (_ : Params) : Obj := ⟨(.type "builtin_function_or_method"), none, .fields #[(.builtin "type.__prepare__"), (.type "type")], #[]⟩
noncomputable abbrev gf54 (P : Params) : Obj := ⟨(.type "dict"), none, .dict #[⟨PyData.keyHash P (Str.ofString "__module__"), (.str (Str.ofString "__module__") 338), (.str (Str.ofString "binascii") 329)⟩, ⟨PyData.keyHash P (Str.ofString "__qualname__"), (.str (Str.ofString "__qualname__") 340), (.str (Str.ofString "Error") 339)⟩, ⟨PyData.keyHash P (Str.ofString "__firstlineno__"), (.str (Str.ofString "__firstlineno__") 342), (.int 21 341)⟩, ⟨PyData.keyHash P (Str.ofString "__static_attributes__"), (.str (Str.ofString "__static_attributes__") 343), (.ref 59)⟩] 4, #[]⟩
noncomputable abbrev gf55 (_ : Params) : Obj := ⟨(.type "tuple"), none, .seq #[] 0, #[]⟩
noncomputable abbrev gf56 (_ : Params) : Obj := ⟨.none, none, .fields #[], #[]⟩
noncomputable abbrev gf57 (_ : Params) : Obj := ⟨(.type "code"), none, .fields #[(.str (Str.ofString "Error") 333), (.str (Str.ofString "Error") 334), (.str (Str.ofString "/claim/cut.py") 335), (.int 21 0), (.int 0 0), (.int 0 0), (.int 0 0), (.int 0 0), (.ref 55), (.bool false), (.int 276 0), (.ref 56), .none, .none, .none, .none, (.int 336 0), (.int 21 0), (.str (Str.ofString "/claim/cut.py") 337)], #[]⟩
noncomputable abbrev gf58 (_ : Params) : Obj := ⟨(.type "frame"), none, .plain, #[some (.ref 57), some (.ref 3), some (.ref 54), none, some (.str (Str.ofString "binascii") 329), none, some (.ref 0)]⟩
noncomputable abbrev gf63 (_ : Params) : Obj := ⟨(.type "super"), none, .fields #[(.ref 61), (.ref 61), (.ref 61)], #[]⟩
noncomputable abbrev gf64 (_ : Params) : Obj := ⟨(.type "builtin_function_or_method"), none, .fields #[(.builtin "object.__init_subclass__"), (.ref 61)], #[]⟩
noncomputable def T7 (P : Params) : BT := (.node (gs0 P) (.node (gs1 P) (.node (gf3 P) (.node (gs7 P) (.node (gs15 P) (.node (gp31 P) (.node (gf63 P) .nil .nil) .nil) (.node (ob47 P) .nil .nil)) (.node (gs23 P) (.node (gf39 P) .nil .nil) (.node (gf55 P) .nil .nil))) (.node (gs11 P) (.node (gs19 P) (.node (ob35 P) .nil .nil) (.node (ob51 P) .nil .nil)) (.node (gs27 P) (.node (ob43 P) .nil .nil) (.node (ob59 P) .nil .nil)))) (.node (gs5 P) (.node (gs9 P) (.node (gs17 P) (.node (gf33 P) .nil .nil) (.node (gf49 P) .nil .nil)) (.node (gs25 P) (.node (gf41 P) .nil .nil) (.node (gf57 P) .nil .nil))) (.node (gs13 P) (.node (gs21 P) (.node (ob37 P) .nil .nil) (.node (gf53 P) .nil .nil)) (.node (gf29 P) (.node (ob45 P) .nil .nil) (.node (ob61 P) .nil .nil))))) (.node (ob2 P) (.node (gs4 P) (.node (gs8 P) (.node (gs16 P) (.node (ob32 P) (.node (gf64 P) .nil .nil) .nil) (.node (ob48 P) .nil .nil)) (.node (gs24 P) (.node (gf40 P) .nil .nil) (.node (gf56 P) .nil .nil))) (.node (gs12 P) (.node (gs20 P) (.node (gf36 P) .nil .nil) (.node (ob52 P) .nil .nil)) (.node (gp28 P) (.node (ob44 P) .nil .nil) (.node (ob60 P) .nil .nil)))) (.node (gs6 P) (.node (gs10 P) (.node (gs18 P) (.node (ob34 P) .nil .nil) (.node (ob50 P) .nil .nil)) (.node (gs26 P) (.node (ob42 P) .nil .nil) (.node (gf58 P) .nil .nil))) (.node (gs14 P) (.node (gs22 P) (.node (ob38 P) .nil .nil) (.node (gf54 P) .nil .nil)) (.node (gp30 P) (.node (gf46 P) .nil .nil) (.node (ob62 P) .nil .nil))))))
noncomputable abbrev gh3 (P : Params) : Obj := ⟨(.type "dict"), none, .dict #[⟨PyData.keyHash P (Str.ofString "__name__"), (.str (Str.ofString "__name__") 165), (.str (Str.ofString "binascii") 329)⟩, ⟨PyData.keyHash P (Str.ofString "__doc__"), (.str (Str.ofString "__doc__") 166), .none⟩, ⟨PyData.keyHash P (Str.ofString "__package__"), (.str (Str.ofString "__package__") 167), .none⟩, ⟨PyData.keyHash P (Str.ofString "__loader__"), (.str (Str.ofString "__loader__") 168), (.builtin "__main__.__loader__#opaque")⟩, ⟨PyData.keyHash P (Str.ofString "__spec__"), (.str (Str.ofString "__spec__") 169), .none⟩, ⟨PyData.keyHash P (Str.ofString "__annotations__"), (.str (Str.ofString "__annotations__") 170), (.ref 6)⟩, ⟨PyData.keyHash P (Str.ofString "__builtins__"), (.str (Str.ofString "__builtins__") 171), (.ref 4)⟩, ⟨PyData.keyHash P (Str.ofString "__file__"), (.str (Str.ofString "__file__") 173), (.str (Str.ofString "/claim/cut.py") 172)⟩, ⟨PyData.keyHash P (Str.ofString "__cached__"), (.str (Str.ofString "__cached__") 174), .none⟩, ⟨PyData.keyHash P (Str.ofString "_sre"), (.str (Str.ofString "_sre") 275), (.ref 12)⟩, ⟨PyData.keyHash P (Str.ofString "_wall"), (.str (Str.ofString "_wall") 288), (.ref 38)⟩, ⟨PyData.keyHash P (Str.ofString "_twin_re_1"), (.str (Str.ofString "_twin_re_1") 320), (.ref 43)⟩, ⟨PyData.keyHash P (Str.ofString "bytes_types"), (.str (Str.ofString "bytes_types") 321), (.ref 44)⟩, ⟨PyData.keyHash P (Str.ofString "_bytes_from_decode_data"), (.str (Str.ofString "_bytes_from_decode_data") 328), (.ref 51)⟩, ⟨PyData.keyHash P (Str.ofString "Error"), (.str (Str.ofString "Error") 348), (.ref 61)⟩, ⟨PyData.keyHash P (Str.ofString "_ascii_buffer"), (.str (Str.ofString "_ascii_buffer") 356), (.ref 71)⟩, ⟨PyData.keyHash P (Str.ofString "_buffer"), (.str (Str.ofString "_buffer") 364), (.ref 78)⟩, ⟨PyData.keyHash P (Str.ofString "_truth"), (.str (Str.ofString "_truth") 372), (.ref 85)⟩, ⟨PyData.keyHash P (Str.ofString "_B64"), (.str (Str.ofString "_B64") 374), (.bytes #[65, 66, 67, 68, 69, 70, 71, 72, 73, 74, 75, 76, 77, 78, 79, 80, 81, 82, 83, 84, 85, 86, 87, 88, 89, 90, 97, 98, 99, 100, 101, 102, 103, 104, 105, 106, 107, 108, 109, 110, 111, 112, 113, 114, 115, 116, 117, 118, 119, 120, 121, 122, 48, 49, 50, 51, 52, 53, 54, 55, 56, 57, 43, 47] 373)⟩, ⟨PyData.keyHash P (Str.ofString "_b64_value"), (.str (Str.ofString "_b64_value") 381), (.ref 92)⟩, ⟨PyData.keyHash P (Str.ofString "a2b_base64"), (.str (Str.ofString "a2b_base64") 397), (.ref 100)⟩, ⟨PyData.keyHash P (Str.ofString "b2a_base64"), (.str (Str.ofString "b2a_base64") 411), (.ref 108)⟩, ⟨PyData.keyHash P (Str.ofString "_NO_SEP"), (.str (Str.ofString "_NO_SEP") 412), (.ref 109)⟩, ⟨PyData.keyHash P (Str.ofString "b2a_hex"), (.str (Str.ofString "b2a_hex") 423), (.ref 117)⟩] 24, #[]⟩
noncomputable abbrev gh29 (_ : Params) : Obj := ⟨.none, none, .fields #[(.int 2 0), (.int 0 0), (.ref 37), (.int 8 0), (.int 0 0), (.ref 50), (.int 21 0), (.int 0 0), (.ref 57), (.int 23 0), (.int 0 0), (.ref 70), (.int 34 0), (.int 0 0), (.ref 77), (.int 41 0), (.int 0 0), (.ref 84), (.int 47 0), (.int 0 0), (.ref 91), (.int 59 0), (.int 0 0), (.ref 99), (.int 113 0), (.int 0 0), (.ref 107), (.int 136 0), (.int 0 0), (.ref 116)], #[]⟩
noncomputable abbrev gh66 (_ : Params) : Obj := ⟨.none, none, .fields #[], #[]⟩
noncomputable abbrev gh69 (_ : Params) : Obj := ⟨.none, none, .func { (fnOf (Str.ofString "_ascii_buffer") (Str.ofString "_ascii_buffer") (par 8) (bod 8) (sco 8) .none .none .none .none none .none .none) with globals := 0, builtins := 0 }, #[]⟩
noncomputable abbrev gh73 (_ : Params) : Obj := ⟨.none, none, .fields #[], #[]⟩
noncomputable abbrev gh76 (_ : Params) : Obj := ⟨.none, none, .func { (fnOf (Str.ofString "_buffer") (Str.ofString "_buffer") (par 9) (bod 9) (sco 9) .none .none .none .none none .none .none) with globals := 0, builtins := 0 }, #[]⟩
noncomputable abbrev gh80 (_ : Params) : Obj := ⟨.none, none, .fields #[], #[]⟩
noncomputable abbrev gh83 (_ : Params) : Obj := ⟨.none, none, .func { (fnOf (Str.ofString "_truth") (Str.ofString "_truth") (par 10) (bod 10) (sco 10) .none .none .none .none none .none .none) with globals := 0, builtins := 0 }, #[]⟩
noncomputable abbrev gh87 (_ : Params) : Obj := ⟨.none, none, .fields #[], #[]⟩
noncomputable abbrev gh90 (_ : Params) : Obj := ⟨.none, none, .func { (fnOf (Str.ofString "_b64_value") (Str.ofString "_b64_value") (par 12) (bod 12) (sco 12) .none .none .none .none none .none .none) with globals := 0, builtins := 0 }, #[]⟩
noncomputable abbrev gh95 (_ : Params) : Obj := ⟨.none, none, .fields #[], #[]⟩
noncomputable abbrev gh98 (_ : Params) : Obj := ⟨.none, none, .func { (fnOf (Str.ofString "a2b_base64") (Str.ofString "a2b_base64") (par 13) (bod 13) (sco 13) .none .none .none .none none .none .none) with globals := 0, builtins := 0 }, #[]⟩
noncomputable abbrev gh103 (_ : Params) : Obj := ⟨.none, none, .fields #[], #[]⟩
noncomputable abbrev gh106 (_ : Params) : Obj := ⟨.none, none, .func { (fnOf (Str.ofString "b2a_base64") (Str.ofString "b2a_base64") (par 14) (bod 14) (sco 14) .none .none .none .none none .none .none) with globals := 0, builtins := 0 }, #[]⟩
noncomputable abbrev gh112 (_ : Params) : Obj := ⟨.none, none, .fields #[], #[]⟩
noncomputable abbrev gh115 (_ : Params) : Obj := ⟨.none, none, .func { (fnOf (Str.ofString "b2a_hex") (Str.ofString "b2a_hex") (par 16) (bod 16) (sco 16) .none .none .none .none none .none .none) with globals := 0, builtins := 0 }, #[]⟩
noncomputable def T16 (P : Params) : BT := (.node (gs0 P) (.node (gs1 P) (.node (gh3 P) (.node (gs7 P) (.node (gs15 P) (.node (gp31 P) (.node (gf63 P) .nil .nil) (.node (gh95 P) .nil .nil)) (.node (ob47 P) (.node (ob79 P) .nil .nil) (.node (ob111 P) .nil .nil))) (.node (gs23 P) (.node (gf39 P) (.node (ob71 P) .nil .nil) (.node (gh103 P) .nil .nil)) (.node (gf55 P) (.node (gh87 P) .nil .nil) .nil))) (.node (gs11 P) (.node (gs19 P) (.node (ob35 P) (.node (ob67 P) .nil .nil) (.node (ob99 P) .nil .nil)) (.node (ob51 P) (.node (gh83 P) .nil .nil) (.node (gh115 P) .nil .nil))) (.node (gs27 P) (.node (ob43 P) (.node (ob75 P) .nil .nil) (.node (ob107 P) .nil .nil)) (.node (ob59 P) (.node (ob91 P) .nil .nil) .nil)))) (.node (gs5 P) (.node (gs9 P) (.node (gs17 P) (.node (gf33 P) (.node (ob65 P) .nil .nil) (.node (ob97 P) .nil .nil)) (.node (gf49 P) (.node (ob81 P) .nil .nil) (.node (ob113 P) .nil .nil))) (.node (gs25 P) (.node (gf41 P) (.node (gh73 P) .nil .nil) (.node (ob105 P) .nil .nil)) (.node (gf57 P) (.node (ob89 P) .nil .nil) .nil))) (.node (gs13 P) (.node (gs21 P) (.node (ob37 P) (.node (gh69 P) .nil .nil) (.node (ob101 P) .nil .nil)) (.node (gf53 P) (.node (ob85 P) .nil .nil) (.node (ob117 P) .nil .nil))) (.node (gh29 P) (.node (ob45 P) (.node (ob77 P) .nil .nil) (.node (ob109 P) .nil .nil)) (.node (ob61 P) (.node (ob93 P) .nil .nil) .nil))))) (.node (ob2 P) (.node (gs4 P) (.node (gs8 P) (.node (gs16 P) (.node (ob32 P) (.node (gf64 P) .nil .nil) (.node (ob96 P) .nil .nil)) (.node (ob48 P) (.node (gh80 P) .nil .nil) (.node (gh112 P) .nil .nil))) (.node (gs24 P) (.node (gf40 P) (.node (ob72 P) .nil .nil) (.node (ob104 P) .nil .nil)) (.node (gf56 P) (.node (ob88 P) .nil .nil) .nil))) (.node (gs12 P) (.node (gs20 P) (.node (gf36 P) (.node (ob68 P) .nil .nil) (.node (ob100 P) .nil .nil)) (.node (ob52 P) (.node (ob84 P) .nil .nil) (.node (ob116 P) .nil .nil))) (.node (gp28 P) (.node (ob44 P) (.node (gh76 P) .nil .nil) (.node (ob108 P) .nil .nil)) (.node (ob60 P) (.node (ob92 P) .nil .nil) .nil)))) (.node (gs6 P) (.node (gs10 P) (.node (gs18 P) (.node (ob34 P) (.node (gh66 P) .nil .nil) (.node (gh98 P) .nil .nil)) (.node (ob50 P) (.node (ob82 P) .nil .nil) (.node (ob114 P) .nil .nil))) (.node (gs26 P) (.node (ob42 P) (.node (ob74 P) .nil .nil) (.node (gh106 P) .nil .nil)) (.node (gf58 P) (.node (gh90 P) .nil .nil) .nil))) (.node (gs14 P) (.node (gs22 P) (.node (ob38 P) (.node (ob70 P) .nil .nil) (.node (ob102 P) .nil .nil)) (.node (gf54 P) (.node (ob86 P) .nil .nil) .nil)) (.node (gp30 P) (.node (gf46 P) (.node (ob78 P) .nil .nil) (.node (ob110 P) .nil .nil)) (.node (ob62 P) (.node (ob94 P) .nil .nil) .nil))))))
noncomputable abbrev gi3 (P : Params) : Obj := ⟨(.type "dict"), none, .dict #[⟨PyData.keyHash P (Str.ofString "__name__"), (.str (Str.ofString "__name__") 165), (.str (Str.ofString "cpy313.stringprep") 481)⟩, ⟨PyData.keyHash P (Str.ofString "__doc__"), (.str (Str.ofString "__doc__") 166), .none⟩, ⟨PyData.keyHash P (Str.ofString "__package__"), (.str (Str.ofString "__package__") 167), .none⟩, ⟨PyData.keyHash P (Str.ofString "__loader__"), (.str (Str.ofString "__loader__") 168), (.builtin "__main__.__loader__#opaque")⟩, ⟨PyData.keyHash P (Str.ofString "__spec__"), (.str (Str.ofString "__spec__") 169), .none⟩, ⟨PyData.keyHash P (Str.ofString "__annotations__"), (.str (Str.ofString "__annotations__") 170), (.ref 6)⟩, ⟨PyData.keyHash P (Str.ofString "__builtins__"), (.str (Str.ofString "__builtins__") 171), (.ref 4)⟩, ⟨PyData.keyHash P (Str.ofString "__file__"), (.str (Str.ofString "__file__") 173), (.str (Str.ofString "/claim/cut.py") 172)⟩, ⟨PyData.keyHash P (Str.ofString "__cached__"), (.str (Str.ofString "__cached__") 174), .none⟩, ⟨PyData.keyHash P (Str.ofString "_sre"), (.str (Str.ofString "_sre") 275), (.ref 12)⟩, ⟨PyData.keyHash P (Str.ofString "_wall"), (.str (Str.ofString "_wall") 288), (.ref 38)⟩, ⟨PyData.keyHash P (Str.ofString "_twin_re_1"), (.str (Str.ofString "_twin_re_1") 320), (.ref 43)⟩, ⟨PyData.keyHash P (Str.ofString "bytes_types"), (.str (Str.ofString "bytes_types") 321), (.ref 44)⟩, ⟨PyData.keyHash P (Str.ofString "_bytes_from_decode_data"), (.str (Str.ofString "_bytes_from_decode_data") 328), (.ref 51)⟩, ⟨PyData.keyHash P (Str.ofString "Error"), (.str (Str.ofString "Error") 348), (.ref 61)⟩, ⟨PyData.keyHash P (Str.ofString "_ascii_buffer"), (.str (Str.ofString "_ascii_buffer") 356), (.ref 71)⟩, ⟨PyData.keyHash P (Str.ofString "_buffer"), (.str (Str.ofString "_buffer") 364), (.ref 78)⟩, ⟨PyData.keyHash P (Str.ofString "_truth"), (.str (Str.ofString "_truth") 372), (.ref 85)⟩, ⟨PyData.keyHash P (Str.ofString "_B64"), (.str (Str.ofString "_B64") 374), (.bytes #[65, 66, 67, 68, 69, 70, 71, 72, 73, 74, 75, 76, 77, 78, 79, 80, 81, 82, 83, 84, 85, 86, 87, 88, 89, 90, 97, 98, 99, 100, 101, 102, 103, 104, 105, 106, 107, 108, 109, 110, 111, 112, 113, 114, 115, 116, 117, 118, 119, 120, 121, 122, 48, 49, 50, 51, 52, 53, 54, 55, 56, 57, 43, 47] 373)⟩, ⟨PyData.keyHash P (Str.ofString "_b64_value"), (.str (Str.ofString "_b64_value") 381), (.ref 92)⟩, ⟨PyData.keyHash P (Str.ofString "a2b_base64"), (.str (Str.ofString "a2b_base64") 397), (.ref 100)⟩, ⟨PyData.keyHash P (Str.ofString "b2a_base64"), (.str (Str.ofString "b2a_base64") 411), (.ref 108)⟩, ⟨PyData.keyHash P (Str.ofString "_NO_SEP"), (.str (Str.ofString "_NO_SEP") 412), (.ref 109)⟩, ⟨PyData.keyHash P (Str.ofString "b2a_hex"), (.str (Str.ofString "b2a_hex") 423), (.ref 117)⟩, ⟨PyData.keyHash P (Str.ofString "hexlify"), (.str (Str.ofString "hexlify") 424), (.ref 117)⟩, ⟨PyData.keyHash P (Str.ofString "_hex_value"), (.str (Str.ofString "_hex_value") 431), (.ref 124)⟩, ⟨PyData.keyHash P (Str.ofString "a2b_hex"), (.str (Str.ofString "a2b_hex") 444), (.ref 131)⟩, ⟨PyData.keyHash P (Str.ofString "unhexlify"), (.str (Str.ofString "unhexlify") 445), (.ref 131)⟩, ⟨PyData.keyHash P (Str.ofString "b64encode"), (.str (Str.ofString "b64encode") 456), (.ref 139)⟩, ⟨PyData.keyHash P (Str.ofString "b64decode"), (.str (Str.ofString "b64decode") 465), (.ref 147)⟩, ⟨PyData.keyHash P (Str.ofString "b16encode"), (.str (Str.ofString "b16encode") 472), (.ref 154)⟩, ⟨PyData.keyHash P (Str.ofString "b16decode"), (.str (Str.ofString "b16decode") 480), (.ref 162)⟩] 32, #[]⟩
noncomputable abbrev gi29 (_ : Params) : Obj := ⟨.none, none, .fields #[(.int 2 0), (.int 0 0), (.ref 37), (.int 8 0), (.int 0 0), (.ref 50), (.int 21 0), (.int 0 0), (.ref 57), (.int 23 0), (.int 0 0), (.ref 70), (.int 34 0), (.int 0 0), (.ref 77), (.int 41 0), (.int 0 0), (.ref 84), (.int 47 0), (.int 0 0), (.ref 91), (.int 59 0), (.int 0 0), (.ref 99), (.int 113 0), (.int 0 0), (.ref 107), (.int 136 0), (.int 0 0), (.ref 116), (.int 153 0), (.int 0 0), (.ref 123), (.int 161 0), (.int 0 0), (.ref 130), (.int 178 0), (.int 0 0), (.ref 138), (.int 184 0), (.int 0 0), (.ref 146), (.int 191 0), (.int 0 0), (.ref 153), (.int 193 0), (.int 0 0), (.ref 161)], #[]⟩
noncomputable abbrev gi119 (_ : Params) : Obj := ⟨.none, none, .fields #[], #[]⟩
noncomputable abbrev gi122 (_ : Params) : Obj := ⟨.none, none, .func { (fnOf (Str.ofString "_hex_value") (Str.ofString "_hex_value") (par 18) (bod 18) (sco 18) .none .none .none .none none .none .none) with globals := 0, builtins := 0 }, #[]⟩
noncomputable abbrev gi126 (_ : Params) : Obj := ⟨.none, none, .fields #[], #[]⟩
noncomputable abbrev gi129 (_ : Params) : Obj := ⟨.none, none, .func { (fnOf (Str.ofString "a2b_hex") (Str.ofString "a2b_hex") (par 19) (bod 19) (sco 19) .none .none .none .none none .none .none) with globals := 0, builtins := 0 }, #[]⟩
noncomputable abbrev gi134 (_ : Params) : Obj := ⟨.none, none, .fields #[], #[]⟩
noncomputable abbrev gi137 (_ : Params) : Obj := ⟨.none, none, .func { (fnOf (Str.ofString "b64encode") (Str.ofString "b64encode") (par 22) (bod 22) (sco 22) .none .none .none .none none .none .none) with globals := 0, builtins := 0 }, #[]⟩
noncomputable abbrev gi142 (_ : Params) : Obj := ⟨.none, none, .fields #[], #[]⟩
noncomputable abbrev gi145 (_ : Params) : Obj := ⟨.none, none, .func { (fnOf (Str.ofString "b64decode") (Str.ofString "b64decode") (par 23) (bod 23) (sco 23) .none .none .none .none none .none .none) with globals := 0, builtins := 0 }, #[]⟩
noncomputable abbrev gi149 (_ : Params) : Obj := ⟨.none, none, .fields #[], #[]⟩
noncomputable abbrev gi152 (_ : Params) : Obj := ⟨.none, none, .func { (fnOf (Str.ofString "b16encode") (Str.ofString "b16encode") (par 24) (bod 24) (sco 24) .none .none .none .none none .none .none) with globals := 0, builtins := 0 }, #[]⟩
noncomputable abbrev gi157 (_ : Params) : Obj := ⟨.none, none, .fields #[], #[]⟩
noncomputable abbrev gi160 (_ : Params) : Obj := ⟨.none, none, .func { (fnOf (Str.ofString "b16decode") (Str.ofString "b16decode") (par 25) (bod 25) (sco 25) .none .none .none .none none .none .none) with globals := 0, builtins := 0 }, #[]⟩
noncomputable def T26 (P : Params) : BT := (.node (gs0 P) (.node (gs1 P) (.node (gi3 P) (.node (gs7 P) (.node (gs15 P) (.node (gp31 P) (.node (gf63 P) (.node (ob127 P) .nil .nil) .nil) (.node (gh95 P) (.node (ob159 P) .nil .nil) .nil)) (.node (ob47 P) (.node (ob79 P) (.node (ob143 P) .nil .nil) .nil) (.node (ob111 P) .nil .nil))) (.node (gs23 P) (.node (gf39 P) (.node (ob71 P) (.node (ob135 P) .nil .nil) .nil) (.node (gh103 P) .nil .nil)) (.node (gf55 P) (.node (gh87 P) (.node (ob151 P) .nil .nil) .nil) (.node (gi119 P) .nil .nil)))) (.node (gs11 P) (.node (gs19 P) (.node (ob35 P) (.node (ob67 P) (.node (ob131 P) .nil .nil) .nil) (.node (ob99 P) .nil .nil)) (.node (ob51 P) (.node (gh83 P) (.node (ob147 P) .nil .nil) .nil) (.node (gh115 P) .nil .nil))) (.node (gs27 P) (.node (ob43 P) (.node (ob75 P) (.node (ob139 P) .nil .nil) .nil) (.node (ob107 P) .nil .nil)) (.node (ob59 P) (.node (ob91 P) (.node (ob155 P) .nil .nil) .nil) (.node (ob123 P) .nil .nil))))) (.node (gs5 P) (.node (gs9 P) (.node (gs17 P) (.node (gf33 P) (.node (ob65 P) (.node (gi129 P) .nil .nil) .nil) (.node (ob97 P) (.node (ob161 P) .nil .nil) .nil)) (.node (gf49 P) (.node (ob81 P) (.node (gi145 P) .nil .nil) .nil) (.node (ob113 P) .nil .nil))) (.node (gs25 P) (.node (gf41 P) (.node (gh73 P) (.node (gi137 P) .nil .nil) .nil) (.node (ob105 P) .nil .nil)) (.node (gf57 P) (.node (ob89 P) (.node (ob153 P) .nil .nil) .nil) (.node (ob121 P) .nil .nil)))) (.node (gs13 P) (.node (gs21 P) (.node (ob37 P) (.node (gh69 P) (.node (ob133 P) .nil .nil) .nil) (.node (ob101 P) .nil .nil)) (.node (gf53 P) (.node (ob85 P) (.node (gi149 P) .nil .nil) .nil) (.node (ob117 P) .nil .nil))) (.node (gi29 P) (.node (ob45 P) (.node (ob77 P) (.node (ob141 P) .nil .nil) .nil) (.node (ob109 P) .nil .nil)) (.node (ob61 P) (.node (ob93 P) (.node (gi157 P) .nil .nil) .nil) (.node (ob125 P) .nil .nil)))))) (.node (ob2 P) (.node (gs4 P) (.node (gs8 P) (.node (gs16 P) (.node (ob32 P) (.node (gf64 P) (.node (ob128 P) .nil .nil) .nil) (.node (ob96 P) (.node (gi160 P) .nil .nil) .nil)) (.node (ob48 P) (.node (gh80 P) (.node (ob144 P) .nil .nil) .nil) (.node (gh112 P) .nil .nil))) (.node (gs24 P) (.node (gf40 P) (.node (ob72 P) (.node (ob136 P) .nil .nil) .nil) (.node (ob104 P) .nil .nil)) (.node (gf56 P) (.node (ob88 P) (.node (gi152 P) .nil .nil) .nil) (.node (ob120 P) .nil .nil)))) (.node (gs12 P) (.node (gs20 P) (.node (gf36 P) (.node (ob68 P) (.node (ob132 P) .nil .nil) .nil) (.node (ob100 P) .nil .nil)) (.node (ob52 P) (.node (ob84 P) (.node (ob148 P) .nil .nil) .nil) (.node (ob116 P) .nil .nil))) (.node (gp28 P) (.node (ob44 P) (.node (gh76 P) (.node (ob140 P) .nil .nil) .nil) (.node (ob108 P) .nil .nil)) (.node (ob60 P) (.node (ob92 P) (.node (ob156 P) .nil .nil) .nil) (.node (ob124 P) .nil .nil))))) (.node (gs6 P) (.node (gs10 P) (.node (gs18 P) (.node (ob34 P) (.node (gh66 P) (.node (ob130 P) .nil .nil) .nil) (.node (gh98 P) (.node (ob162 P) .nil .nil) .nil)) (.node (ob50 P) (.node (ob82 P) (.node (ob146 P) .nil .nil) .nil) (.node (ob114 P) .nil .nil))) (.node (gs26 P) (.node (ob42 P) (.node (ob74 P) (.node (ob138 P) .nil .nil) .nil) (.node (gh106 P) .nil .nil)) (.node (gf58 P) (.node (gh90 P) (.node (ob154 P) .nil .nil) .nil) (.node (gi122 P) .nil .nil)))) (.node (gs14 P) (.node (gs22 P) (.node (ob38 P) (.node (ob70 P) (.node (gi134 P) .nil .nil) .nil) (.node (ob102 P) .nil .nil)) (.node (gf54 P) (.node (ob86 P) (.node (ob150 P) .nil .nil) .nil) (.node (ob118 P) .nil .nil))) (.node (gp30 P) (.node (gf46 P) (.node (ob78 P) (.node (gi142 P) .nil .nil) .nil) (.node (ob110 P) .nil .nil)) (.node (ob62 P) (.node (ob94 P) (.node (ob158 P) .nil .nil) .nil) (.node (gi126 P) .nil .nil)))))))
noncomputable abbrev ga3 (P : Params) : Obj := ⟨(.type "dict"), none, .dict #[⟨PyData.keyHash P (Str.ofString "__name__"), (.str (Str.ofString "__name__") 165), (.str (Str.ofString "cpy313.stringprep") 481)⟩, ⟨PyData.keyHash P (Str.ofString "__doc__"), (.str (Str.ofString "__doc__") 166), .none⟩, ⟨PyData.keyHash P (Str.ofString "__package__"), (.str (Str.ofString "__package__") 167), .none⟩, ⟨PyData.keyHash P (Str.ofString "__loader__"), (.str (Str.ofString "__loader__") 168), (.builtin "__main__.__loader__#opaque")⟩, ⟨PyData.keyHash P (Str.ofString "__spec__"), (.str (Str.ofString "__spec__") 169), .none⟩, ⟨PyData.keyHash P (Str.ofString "__annotations__"), (.str (Str.ofString "__annotations__") 170), (.ref 6)⟩, ⟨PyData.keyHash P (Str.ofString "__builtins__"), (.str (Str.ofString "__builtins__") 171), (.ref 4)⟩, ⟨PyData.keyHash P (Str.ofString "__file__"), (.str (Str.ofString "__file__") 173), (.str (Str.ofString "/claim/cut.py") 172)⟩, ⟨PyData.keyHash P (Str.ofString "__cached__"), (.str (Str.ofString "__cached__") 174), .none⟩, ⟨PyData.keyHash P (Str.ofString "_sre"), (.str (Str.ofString "_sre") 275), (.ref 12)⟩, ⟨PyData.keyHash P (Str.ofString "_wall"), (.str (Str.ofString "_wall") 288), (.ref 38)⟩, ⟨PyData.keyHash P (Str.ofString "_twin_re_1"), (.str (Str.ofString "_twin_re_1") 320), (.ref 43)⟩, ⟨PyData.keyHash P (Str.ofString "bytes_types"), (.str (Str.ofString "bytes_types") 321), (.ref 44)⟩, ⟨PyData.keyHash P (Str.ofString "_bytes_from_decode_data"), (.str (Str.ofString "_bytes_from_decode_data") 328), (.ref 51)⟩, ⟨PyData.keyHash P (Str.ofString "Error"), (.str (Str.ofString "Error") 348), (.ref 61)⟩, ⟨PyData.keyHash P (Str.ofString "_ascii_buffer"), (.str (Str.ofString "_ascii_buffer") 356), (.ref 71)⟩, ⟨PyData.keyHash P (Str.ofString "_buffer"), (.str (Str.ofString "_buffer") 364), (.ref 78)⟩, ⟨PyData.keyHash P (Str.ofString "_truth"), (.str (Str.ofString "_truth") 372), (.ref 85)⟩, ⟨PyData.keyHash P (Str.ofString "_B64"), (.str (Str.ofString "_B64") 374), (.bytes #[65, 66, 67, 68, 69, 70, 71, 72, 73, 74, 75, 76, 77, 78, 79, 80, 81, 82, 83, 84, 85, 86, 87, 88, 89, 90, 97, 98, 99, 100, 101, 102, 103, 104, 105, 106, 107, 108, 109, 110, 111, 112, 113, 114, 115, 116, 117, 118, 119, 120, 121, 122, 48, 49, 50, 51, 52, 53, 54, 55, 56, 57, 43, 47] 373)⟩, ⟨PyData.keyHash P (Str.ofString "_b64_value"), (.str (Str.ofString "_b64_value") 381), (.ref 92)⟩, ⟨PyData.keyHash P (Str.ofString "a2b_base64"), (.str (Str.ofString "a2b_base64") 397), (.ref 100)⟩, ⟨PyData.keyHash P (Str.ofString "b2a_base64"), (.str (Str.ofString "b2a_base64") 411), (.ref 108)⟩, ⟨PyData.keyHash P (Str.ofString "_NO_SEP"), (.str (Str.ofString "_NO_SEP") 412), (.ref 109)⟩, ⟨PyData.keyHash P (Str.ofString "b2a_hex"), (.str (Str.ofString "b2a_hex") 423), (.ref 117)⟩, ⟨PyData.keyHash P (Str.ofString "hexlify"), (.str (Str.ofString "hexlify") 424), (.ref 117)⟩, ⟨PyData.keyHash P (Str.ofString "_hex_value"), (.str (Str.ofString "_hex_value") 431), (.ref 124)⟩, ⟨PyData.keyHash P (Str.ofString "a2b_hex"), (.str (Str.ofString "a2b_hex") 444), (.ref 131)⟩, ⟨PyData.keyHash P (Str.ofString "unhexlify"), (.str (Str.ofString "unhexlify") 445), (.ref 131)⟩, ⟨PyData.keyHash P (Str.ofString "b64encode"), (.str (Str.ofString "b64encode") 456), (.ref 139)⟩, ⟨PyData.keyHash P (Str.ofString "b64decode"), (.str (Str.ofString "b64decode") 465), (.ref 147)⟩, ⟨PyData.keyHash P (Str.ofString "b16encode"), (.str (Str.ofString "b16encode") 472), (.ref 154)⟩, ⟨PyData.keyHash P (Str.ofString "b16decode"), (.str (Str.ofString "b16decode") 480), (.ref 162)⟩, ⟨PyData.keyHash P (Str.ofString "b1_set"), (.str (Str.ofString "b1_set") 542), (.ref 170)⟩] 33, #[]⟩
noncomputable abbrev ga163 (_ : Params) : Obj := ⟨(.type "list"), none, .seq #[(.int 173 483), (.int 847 484), (.int 6150 485), (.int 6155 486), (.int 6156 487), (.int 6157 488), (.int 8203 489), (.int 8204 490), (.int 8205 491), (.int 8288 492), (.int 65279 493)] 0, #[]⟩
noncomputable abbrev ga164 (_ : Params) : Obj := ⟨(.type "range"), none, .fields #[(.int 65024 494), (.int 65040 495), (.int 1 496)], #[]⟩
noncomputable abbrev ga165 (_ : Params) : Obj := ⟨(.type "list"), none, .seq #[(.int 65024 499), (.int 65025 500), (.int 65026 501), (.int 65027 502), (.int 65028 503), (.int 65029 504), (.int 65030 505), (.int 65031 506), (.int 65032 507), (.int 65033 508), (.int 65034 509), (.int 65035 510), (.int 65036 511), (.int 65037 512), (.int 65038 513), (.int 65039 514)] 18, #[]⟩
noncomputable abbrev ga166 (_ : Params) : Obj := ⟨(.type "range_iterator"), none, .fields #[(.int 65040 0), (.int 0 0), (.int 1 0)], #[]⟩
noncomputable abbrev ga167 (_ : Params) : Obj := ⟨(.type "tuple"), none, .seq #[] 0, #[]⟩
noncomputable abbrev ga168 (_ : Params) : Obj := ⟨(.type "StopIteration"), none, .fields #[(.ref 167), .none, .none, .none, (.bool false), .none], #[]⟩
noncomputable abbrev ga169 (_ : Params) : Obj := ⟨(.type "list"), none, .seq #[(.int 173 483), (.int 847 484), (.int 6150 485), (.int 6155 486), (.int 6156 487), (.int 6157 488), (.int 8203 489), (.int 8204 490), (.int 8205 491), (.int 8288 492), (.int 65279 493), (.int 65024 499), (.int 65025 500), (.int 65026 501), (.int 65027 502), (.int 65028 503), (.int 65029 504), (.int 65030 505), (.int 65031 506), (.int 65032 507), (.int 65033 508), (.int 65034 509), (.int 65035 510), (.int 65036 511), (.int 65037 512), (.int 65038 513), (.int 65039 514)] 0, #[]⟩
noncomputable abbrev ga171 (_ : Params) : Obj := ⟨(.type "list_iterator"), none, .fields #[.none, (.int 27 0)], #[]⟩
noncomputable abbrev ga172 (_ : Params) : Obj := ⟨(.type "tuple"), none, .seq #[] 0, #[]⟩
noncomputable abbrev ga173 (_ : Params) : Obj := ⟨(.type "StopIteration"), none, .fields #[(.ref 172), .none, .none, .none, (.bool false), .none], #[]⟩
noncomputable def T27 (P : Params) : BT := (.node (gs0 P) (.node (gs1 P) (.node (ga3 P) (.node (gs7 P) (.node (gs15 P) (.node (gp31 P) (.node (gf63 P) (.node (ob127 P) .nil .nil) .nil) (.node (gh95 P) (.node (ob159 P) .nil .nil) .nil)) (.node (ob47 P) (.node (ob79 P) (.node (ob143 P) .nil .nil) .nil) (.node (ob111 P) .nil .nil))) (.node (gs23 P) (.node (gf39 P) (.node (ob71 P) (.node (ob135 P) .nil .nil) .nil) (.node (gh103 P) (.node (ga167 P) .nil .nil) .nil)) (.node (gf55 P) (.node (gh87 P) (.node (ob151 P) .nil .nil) .nil) (.node (gi119 P) .nil .nil)))) (.node (gs11 P) (.node (gs19 P) (.node (ob35 P) (.node (ob67 P) (.node (ob131 P) .nil .nil) .nil) (.node (ob99 P) (.node (ga163 P) .nil .nil) .nil)) (.node (ob51 P) (.node (gh83 P) (.node (ob147 P) .nil .nil) .nil) (.node (gh115 P) .nil .nil))) (.node (gs27 P) (.node (ob43 P) (.node (ob75 P) (.node (ob139 P) .nil .nil) .nil) (.node (ob107 P) (.node (ga171 P) .nil .nil) .nil)) (.node (ob59 P) (.node (ob91 P) (.node (ob155 P) .nil .nil) .nil) (.node (ob123 P) .nil .nil))))) (.node (gs5 P) (.node (gs9 P) (.node (gs17 P) (.node (gf33 P) (.node (ob65 P) (.node (gi129 P) .nil .nil) .nil) (.node (ob97 P) (.node (ob161 P) .nil .nil) .nil)) (.node (gf49 P) (.node (ob81 P) (.node (gi145 P) .nil .nil) .nil) (.node (ob113 P) .nil .nil))) (.node (gs25 P) (.node (gf41 P) (.node (gh73 P) (.node (gi137 P) .nil .nil) .nil) (.node (ob105 P) (.node (ga169 P) .nil .nil) .nil)) (.node (gf57 P) (.node (ob89 P) (.node (ob153 P) .nil .nil) .nil) (.node (ob121 P) .nil .nil)))) (.node (gs13 P) (.node (gs21 P) (.node (ob37 P) (.node (gh69 P) (.node (ob133 P) .nil .nil) .nil) (.node (ob101 P) (.node (ga165 P) .nil .nil) .nil)) (.node (gf53 P) (.node (ob85 P) (.node (gi149 P) .nil .nil) .nil) (.node (ob117 P) .nil .nil))) (.node (gi29 P) (.node (ob45 P) (.node (ob77 P) (.node (ob141 P) .nil .nil) .nil) (.node (ob109 P) (.node (ga173 P) .nil .nil) .nil)) (.node (ob61 P) (.node (ob93 P) (.node (gi157 P) .nil .nil) .nil) (.node (ob125 P) .nil .nil)))))) (.node (ob2 P) (.node (gs4 P) (.node (gs8 P) (.node (gs16 P) (.node (ob32 P) (.node (gf64 P) (.node (ob128 P) .nil .nil) .nil) (.node (ob96 P) (.node (gi160 P) .nil .nil) .nil)) (.node (ob48 P) (.node (gh80 P) (.node (ob144 P) .nil .nil) .nil) (.node (gh112 P) .nil .nil))) (.node (gs24 P) (.node (gf40 P) (.node (ob72 P) (.node (ob136 P) .nil .nil) .nil) (.node (ob104 P) (.node (ga168 P) .nil .nil) .nil)) (.node (gf56 P) (.node (ob88 P) (.node (gi152 P) .nil .nil) .nil) (.node (ob120 P) .nil .nil)))) (.node (gs12 P) (.node (gs20 P) (.node (gf36 P) (.node (ob68 P) (.node (ob132 P) .nil .nil) .nil) (.node (ob100 P) (.node (ga164 P) .nil .nil) .nil)) (.node (ob52 P) (.node (ob84 P) (.node (ob148 P) .nil .nil) .nil) (.node (ob116 P) .nil .nil))) (.node (gp28 P) (.node (ob44 P) (.node (gh76 P) (.node (ob140 P) .nil .nil) .nil) (.node (ob108 P) (.node (ga172 P) .nil .nil) .nil)) (.node (ob60 P) (.node (ob92 P) (.node (ob156 P) .nil .nil) .nil) (.node (ob124 P) .nil .nil))))) (.node (gs6 P) (.node (gs10 P) (.node (gs18 P) (.node (ob34 P) (.node (gh66 P) (.node (ob130 P) .nil .nil) .nil) (.node (gh98 P) (.node (ob162 P) .nil .nil) .nil)) (.node (ob50 P) (.node (ob82 P) (.node (ob146 P) .nil .nil) .nil) (.node (ob114 P) .nil .nil))) (.node (gs26 P) (.node (ob42 P) (.node (ob74 P) (.node (ob138 P) .nil .nil) .nil) (.node (gh106 P) (.node (ob170 P) .nil .nil) .nil)) (.node (gf58 P) (.node (gh90 P) (.node (ob154 P) .nil .nil) .nil) (.node (gi122 P) .nil .nil)))) (.node (gs14 P) (.node (gs22 P) (.node (ob38 P) (.node (ob70 P) (.node (gi134 P) .nil .nil) .nil) (.node (ob102 P) (.node (ga166 P) .nil .nil) .nil)) (.node (gf54 P) (.node (ob86 P) (.node (ob150 P) .nil .nil) .nil) (.node (ob118 P) .nil .nil))) (.node (gp30 P) (.node (gf46 P) (.node (ob78 P) (.node (gi142 P) .nil .nil) .nil) (.node (ob110 P) .nil .nil)) (.node (ob62 P) (.node (ob94 P) (.node (ob158 P) .nil .nil) .nil) (.node (gi126 P) .nil .nil)))))))
noncomputable abbrev gb3 (P : Params) : Obj := ⟨(.type "dict"), none, .dict #[⟨PyData.keyHash P (Str.ofString "__name__"), (.str (Str.ofString "__name__") 165), (.str (Str.ofString "cpy313.stringprep") 481)⟩, ⟨PyData.keyHash P (Str.ofString "__doc__"), (.str (Str.ofString "__doc__") 166), .none⟩, ⟨PyData.keyHash P (Str.ofString "__package__"), (.str (Str.ofString "__package__") 167), .none⟩, ⟨PyData.keyHash P (Str.ofString "__loader__"), (.str (Str.ofString "__loader__") 168), (.builtin "__main__.__loader__#opaque")⟩, ⟨PyData.keyHash P (Str.ofString "__spec__"), (.str (Str.ofString "__spec__") 169), .none⟩, ⟨PyData.keyHash P (Str.ofString "__annotations__"), (.str (Str.ofString "__annotations__") 170), (.ref 6)⟩, ⟨PyData.keyHash P (Str.ofString "__builtins__"), (.str (Str.ofString "__builtins__") 171), (.ref 4)⟩, ⟨PyData.keyHash P (Str.ofString "__file__"), (.str (Str.ofString "__file__") 173), (.str (Str.ofString "/claim/cut.py") 172)⟩, ⟨PyData.keyHash P (Str.ofString "__cached__"), (.str (Str.ofString "__cached__") 174), .none⟩, ⟨PyData.keyHash P (Str.ofString "_sre"), (.str (Str.ofString "_sre") 275), (.ref 12)⟩, ⟨PyData.keyHash P (Str.ofString "_wall"), (.str (Str.ofString "_wall") 288), (.ref 38)⟩, ⟨PyData.keyHash P (Str.ofString "_twin_re_1"), (.str (Str.ofString "_twin_re_1") 320), (.ref 43)⟩, ⟨PyData.keyHash P (Str.ofString "bytes_types"), (.str (Str.ofString "bytes_types") 321), (.ref 44)⟩, ⟨PyData.keyHash P (Str.ofString "_bytes_from_decode_data"), (.str (Str.ofString "_bytes_from_decode_data") 328), (.ref 51)⟩, ⟨PyData.keyHash P (Str.ofString "Error"), (.str (Str.ofString "Error") 348), (.ref 61)⟩, ⟨PyData.keyHash P (Str.ofString "_ascii_buffer"), (.str (Str.ofString "_ascii_buffer") 356), (.ref 71)⟩, ⟨PyData.keyHash P (Str.ofString "_buffer"), (.str (Str.ofString "_buffer") 364), (.ref 78)⟩, ⟨PyData.keyHash P (Str.ofString "_truth"), (.str (Str.ofString "_truth") 372), (.ref 85)⟩, ⟨PyData.keyHash P (Str.ofString "_B64"), (.str (Str.ofString "_B64") 374), (.bytes #[65, 66, 67, 68, 69, 70, 71, 72, 73, 74, 75, 76, 77, 78, 79, 80, 81, 82, 83, 84, 85, 86, 87, 88, 89, 90, 97, 98, 99, 100, 101, 102, 103, 104, 105, 106, 107, 108, 109, 110, 111, 112, 113, 114, 115, 116, 117, 118, 119, 120, 121, 122, 48, 49, 50, 51, 52, 53, 54, 55, 56, 57, 43, 47] 373)⟩, ⟨PyData.keyHash P (Str.ofString "_b64_value"), (.str (Str.ofString "_b64_value") 381), (.ref 92)⟩, ⟨PyData.keyHash P (Str.ofString "a2b_base64"), (.str (Str.ofString "a2b_base64") 397), (.ref 100)⟩, ⟨PyData.keyHash P (Str.ofString "b2a_base64"), (.str (Str.ofString "b2a_base64") 411), (.ref 108)⟩, ⟨PyData.keyHash P (Str.ofString "_NO_SEP"), (.str (Str.ofString "_NO_SEP") 412), (.ref 109)⟩, ⟨PyData.keyHash P (Str.ofString "b2a_hex"), (.str (Str.ofString "b2a_hex") 423), (.ref 117)⟩, ⟨PyData.keyHash P (Str.ofString "hexlify"), (.str (Str.ofString "hexlify") 424), (.ref 117)⟩, ⟨PyData.keyHash P (Str.ofString "_hex_value"), (.str (Str.ofString "_hex_value") 431), (.ref 124)⟩, ⟨PyData.keyHash P (Str.ofString "a2b_hex"), (.str (Str.ofString "a2b_hex") 444), (.ref 131)⟩, ⟨PyData.keyHash P (Str.ofString "unhexlify"), (.str (Str.ofString "unhexlify") 445), (.ref 131)⟩, ⟨PyData.keyHash P (Str.ofString "b64encode"), (.str (Str.ofString "b64encode") 456), (.ref 139)⟩, ⟨PyData.keyHash P (Str.ofString "b64decode"), (.str (Str.ofString "b64decode") 465), (.ref 147)⟩, ⟨PyData.keyHash P (Str.ofString "b16encode"), (.str (Str.ofString "b16encode") 472), (.ref 154)⟩, ⟨PyData.keyHash P (Str.ofString "b16decode"), (.str (Str.ofString "b16decode") 480), (.ref 162)⟩, ⟨PyData.keyHash P (Str.ofString "b1_set"), (.str (Str.ofString "b1_set") 542), (.ref 170)⟩, ⟨PyData.keyHash P (Str.ofString "in_table_b1"), (.str (Str.ofString "in_table_b1") 549), (.ref 180)⟩] 34, #[]⟩
noncomputable abbrev gb29 (_ : Params) : Obj := ⟨.none, none, .fields #[(.int 2 0), (.int 0 0), (.ref 37), (.int 8 0), (.int 0 0), (.ref 50), (.int 21 0), (.int 0 0), (.ref 57), (.int 23 0), (.int 0 0), (.ref 70), (.int 34 0), (.int 0 0), (.ref 77), (.int 41 0), (.int 0 0), (.ref 84), (.int 47 0), (.int 0 0), (.ref 91), (.int 59 0), (.int 0 0), (.ref 99), (.int 113 0), (.int 0 0), (.ref 107), (.int 136 0), (.int 0 0), (.ref 116), (.int 153 0), (.int 0 0), (.ref 123), (.int 161 0), (.int 0 0), (.ref 130), (.int 178 0), (.int 0 0), (.ref 138), (.int 184 0), (.int 0 0), (.ref 146), (.int 191 0), (.int 0 0), (.ref 153), (.int 193 0), (.int 0 0), (.ref 161), (.int 202 0), (.int 0 0), (.ref 179)], #[]⟩
noncomputable abbrev gb175 (_ : Params) : Obj := ⟨.none, none, .fields #[], #[]⟩
noncomputable abbrev gb178 (_ : Params) : Obj := ⟨.none, none, .func { (fnOf (Str.ofString "in_table_b1") (Str.ofString "in_table_b1") (par 28) (bod 28) (sco 28) .none .none .none .none none .none .none) with globals := 0, builtins := 0 }, #[]⟩
noncomputable def T28 (P : Params) : BT := (.node (gs0 P) (.node (gs1 P) (.node (gb3 P) (.node (gs7 P) (.node (gs15 P) (.node (gp31 P) (.node (gf63 P) (.node (ob127 P) .nil .nil) .nil) (.node (gh95 P) (.node (ob159 P) .nil .nil) .nil)) (.node (ob47 P) (.node (ob79 P) (.node (ob143 P) .nil .nil) .nil) (.node (ob111 P) (.node (gb175 P) .nil .nil) .nil))) (.node (gs23 P) (.node (gf39 P) (.node (ob71 P) (.node (ob135 P) .nil .nil) .nil) (.node (gh103 P) (.node (ga167 P) .nil .nil) .nil)) (.node (gf55 P) (.node (gh87 P) (.node (ob151 P) .nil .nil) .nil) (.node (gi119 P) .nil .nil)))) (.node (gs11 P) (.node (gs19 P) (.node (ob35 P) (.node (ob67 P) (.node (ob131 P) .nil .nil) .nil) (.node (ob99 P) (.node (ga163 P) .nil .nil) .nil)) (.node (ob51 P) (.node (gh83 P) (.node (ob147 P) .nil .nil) .nil) (.node (gh115 P) (.node (ob179 P) .nil .nil) .nil))) (.node (gs27 P) (.node (ob43 P) (.node (ob75 P) (.node (ob139 P) .nil .nil) .nil) (.node (ob107 P) (.node (ga171 P) .nil .nil) .nil)) (.node (ob59 P) (.node (ob91 P) (.node (ob155 P) .nil .nil) .nil) (.node (ob123 P) .nil .nil))))) (.node (gs5 P) (.node (gs9 P) (.node (gs17 P) (.node (gf33 P) (.node (ob65 P) (.node (gi129 P) .nil .nil) .nil) (.node (ob97 P) (.node (ob161 P) .nil .nil) .nil)) (.node (gf49 P) (.node (ob81 P) (.node (gi145 P) .nil .nil) .nil) (.node (ob113 P) (.node (ob177 P) .nil .nil) .nil))) (.node (gs25 P) (.node (gf41 P) (.node (gh73 P) (.node (gi137 P) .nil .nil) .nil) (.node (ob105 P) (.node (ga169 P) .nil .nil) .nil)) (.node (gf57 P) (.node (ob89 P) (.node (ob153 P) .nil .nil) .nil) (.node (ob121 P) .nil .nil)))) (.node (gs13 P) (.node (gs21 P) (.node (ob37 P) (.node (gh69 P) (.node (ob133 P) .nil .nil) .nil) (.node (ob101 P) (.node (ga165 P) .nil .nil) .nil)) (.node (gf53 P) (.node (ob85 P) (.node (gi149 P) .nil .nil) .nil) (.node (ob117 P) .nil .nil))) (.node (gb29 P) (.node (ob45 P) (.node (ob77 P) (.node (ob141 P) .nil .nil) .nil) (.node (ob109 P) (.node (ga173 P) .nil .nil) .nil)) (.node (ob61 P) (.node (ob93 P) (.node (gi157 P) .nil .nil) .nil) (.node (ob125 P) .nil .nil)))))) (.node (ob2 P) (.node (gs4 P) (.node (gs8 P) (.node (gs16 P) (.node (ob32 P) (.node (gf64 P) (.node (ob128 P) .nil .nil) .nil) (.node (ob96 P) (.node (gi160 P) .nil .nil) .nil)) (.node (ob48 P) (.node (gh80 P) (.node (ob144 P) .nil .nil) .nil) (.node (gh112 P) (.node (ob176 P) .nil .nil) .nil))) (.node (gs24 P) (.node (gf40 P) (.node (ob72 P) (.node (ob136 P) .nil .nil) .nil) (.node (ob104 P) (.node (ga168 P) .nil .nil) .nil)) (.node (gf56 P) (.node (ob88 P) (.node (gi152 P) .nil .nil) .nil) (.node (ob120 P) .nil .nil)))) (.node (gs12 P) (.node (gs20 P) (.node (gf36 P) (.node (ob68 P) (.node (ob132 P) .nil .nil) .nil) (.node (ob100 P) (.node (ga164 P) .nil .nil) .nil)) (.node (ob52 P) (.node (ob84 P) (.node (ob148 P) .nil .nil) .nil) (.node (ob116 P) (.node (ob180 P) .nil .nil) .nil))) (.node (gp28 P) (.node (ob44 P) (.node (gh76 P) (.node (ob140 P) .nil .nil) .nil) (.node (ob108 P) (.node (ga172 P) .nil .nil) .nil)) (.node (ob60 P) (.node (ob92 P) (.node (ob156 P) .nil .nil) .nil) (.node (ob124 P) .nil .nil))))) (.node (gs6 P) (.node (gs10 P) (.node (gs18 P) (.node (ob34 P) (.node (gh66 P) (.node (ob130 P) .nil .nil) .nil) (.node (gh98 P) (.node (ob162 P) .nil .nil) .nil)) (.node (ob50 P) (.node (ob82 P) (.node (ob146 P) .nil .nil) .nil) (.node (ob114 P) (.node (gb178 P) .nil .nil) .nil))) (.node (gs26 P) (.node (ob42 P) (.node (ob74 P) (.node (ob138 P) .nil .nil) .nil) (.node (gh106 P) (.node (ob170 P) .nil .nil) .nil)) (.node (gf58 P) (.node (gh90 P) (.node (ob154 P) .nil .nil) .nil) (.node (gi122 P) .nil .nil)))) (.node (gs14 P) (.node (gs22 P) (.node (ob38 P) (.node (ob70 P) (.node (gi134 P) .nil .nil) .nil) (.node (ob102 P) (.node (ga166 P) .nil .nil) .nil)) (.node (gf54 P) (.node (ob86 P) (.node (ob150 P) .nil .nil) .nil) (.node (ob118 P) .nil .nil))) (.node (gp30 P) (.node (gf46 P) (.node (ob78 P) (.node (gi142 P) .nil .nil) .nil) (.node (ob110 P) (.node (ob174 P) .nil .nil) .nil)) (.node (ob62 P) (.node (ob94 P) (.node (ob158 P) .nil .nil) .nil) (.node (gi126 P) .nil .nil)))))))
end
section -- HA
open PySem PySem.W
noncomputable abbrev fpos : Pos := { line := 0, col := 0, endLine := 0, endCol := 0 }
noncomputable abbrev pos0 : Pos := { line := 0, col := 0, endLine := 0, endCol := 0 }
noncomputable abbrev pos7 : Pos := { line := 21, col := 0, endLine := 22, endCol := 8 }
noncomputable abbrev pos16 : Pos := { line := 136, col := 0, endLine := 151, endCol := 55 }
noncomputable abbrev pos26 : Pos := { line := 200, col := 0, endLine := 200, endCol := 8 }
noncomputable abbrev pos27 : Pos := { line := 201, col := 0, endLine := 201, endCol := 6 }
noncomputable abbrev pos28 : Pos := { line := 202, col := 0, endLine := 203, endCol := 30 }
noncomputable abbrev pos29 : Pos := { line := 204, col := 0, endLine := 204, endCol := 13 }
noncomputable abbrev pos39 : Pos := { line := 289, col := 0, endLine := 295, endCol := 15 }
noncomputable def envA : Env := { scope := PP.main.scope, locals := mainNs, globals := mainNs, cells := [], code := .ref 30, frame := some 31 }
noncomputable abbrev shT (T : BT) (n toks : Nat) (os : OsState) : SharedT := ⟨T, n, {}, #[], {}, toks, os⟩
noncomputable abbrev TH (l : List Stmt) (b : List Stmt) (q : Pos) : Thread := piecesOf l envA (.body b envA) q [topFrame fpos]
theorem st28 (p : Program) (b : List Stmt) (w : World) (os : OsState) : segRunT treeTable p w 28 (some (.ref 6)) 1 30 (shT (T27 w.params) 174 543 os) (TH [stmtN 28] b pos27) = some (.next, shT (T28 w.params) 181 550 os, .body b envA, pos28) := by
  rw [Fast.te10110043849684766642, Fast.te14364793385576792824]
  kernel_rfl
end
section -- HA1
open PySem PySem.W
theorem st7 (p : Program) (b : List Stmt) (w : World) (os : OsState) : segRunT treeTable p w 28 (some (.ref 6)) 1 352 (shT (Tb w.params) 32 282 os) (TH [stmtN 1, stmtN 2, stmtN 3, stmtN 4, stmtN 5, stmtN 6, stmtN 7] b pos0) = some (.next, shT (T7 w.params) 65 349 os, .body b envA, pos7) := by
  rw [Fast.te10110043849684766642, Fast.te14364793385576792824]
  kernel_rfl
theorem st16 (p : Program) (b : List Stmt) (w : World) (os : OsState) : segRunT treeTable p w 28 (some (.ref 6)) 1 273 (shT (T7 w.params) 65 349 os) (TH [stmtN 8, stmtN 9, stmtN 10, stmtN 11, stmtN 12, stmtN 13, stmtN 14, stmtN 15, stmtN 16] b pos7) = some (.next, shT (T16 w.params) 118 424 os, .body b envA, pos16) := by
  rw [Fast.te10110043849684766642, Fast.te14364793385576792824]
  kernel_rfl
theorem st26 (p : Program) (b : List Stmt) (w : World) (os : OsState) : segRunT treeTable p w 28 (some (.ref 6)) 1 227 (shT (T16 w.params) 118 424 os) (TH [stmtN 17, stmtN 18, stmtN 19, stmtN 20, stmtN 21, stmtN 22, stmtN 23, stmtN 24, stmtN 25, stmtN 26] b pos16) = some (.next, shT (T26 w.params) 163 483 os, .body b envA, pos26) := by
  rw [Fast.te10110043849684766642, Fast.te14364793385576792824]
  kernel_rfl
end
section -- HA2
open PySem PySem.W
noncomputable abbrev St27 (p : Program) (b : List Stmt) (os : OsState) (w : World) : Prop := segRunT treeTable p w 28 (some (.ref 6)) 1 999 (shT (T26 w.params) 163 483 os) (TH [stmtN 27] b pos26) = some (.next, shT (T27 w.params) 174 543 os, .body b envA, pos27)
theorem st27_ff (p : Program) (b : List Stmt) (os : OsState) (w : World) : St27 p b os ((w.withFollow "special-get-raises" false).withFollow "set-order" false) := by
  unfold St27
  rw [Fast.te10110043849684766642, Fast.te14364793385576792824]
  kernel_rfl
theorem st27_ft (p : Program) (b : List Stmt) (os : OsState) (w : World) : St27 p b os ((w.withFollow "special-get-raises" true).withFollow "set-order" false) := by
  unfold St27
  rw [Fast.te10110043849684766642, Fast.te14364793385576792824]
  kernel_rfl
theorem st27_tf (p : Program) (b : List Stmt) (os : OsState) (w : World) : St27 p b os ((w.withFollow "special-get-raises" false).withFollow "set-order" true) := by
  unfold St27
  rw [Fast.te10110043849684766642, Fast.te14364793385576792824]
  kernel_rfl
theorem st27_tt (p : Program) (b : List Stmt) (os : OsState) (w : World) : St27 p b os ((w.withFollow "special-get-raises" true).withFollow "set-order" true) := by
  unfold St27
  rw [Fast.te10110043849684766642, Fast.te14364793385576792824]
  kernel_rfl
theorem st27 (p : Program) (b : List Stmt) (w : World) (os : OsState) : St27 p b os w :=
  byRow2 "set-order" (P := fun w => St27 p b os w)
    (fun w => byRow2 "special-get-raises" (P := fun w => St27 p b os (w.withFollow "set-order" false)) (fun w => st27_ff p b os w) (fun w => st27_ft p b os w) w)
    (fun w => byRow2 "special-get-raises" (P := fun w => St27 p b os (w.withFollow "set-order" true)) (fun w => st27_tf p b os w) (fun w => st27_tt p b os w) w) w
end
section -- HB
open PySem PySem.W
noncomputable abbrev os0 : OsState := (start (opening PP)).1.os
noncomputable abbrev H0 (P : Params) : Heap := absHeap (T0 P) 28 {}
noncomputable abbrev He (P : Params) : Heap := absHeap (Te P) 28 {}
theorem open_run (w : World) : (impGoT treeTable (opening PP) w 798 ⟨BT.nil, 0, {}, #[], {}, 1, os0⟩ (start (opening PP)).2).map (fun x => (x.1, x.2.atExitBegin)) = some (shT (Te w.params) 28 276 os0, some []) := by
  rw [Fast.te14789777615569096658, Fast.te14364793385576792824]
  kernel_rfl
theorem open_ends (w : World) : importEnds treeTable (opening PP) w 799 (start (opening PP)).1 (start (opening PP)).2 = some ⟨He w.params, #[], {}, 276, os0⟩ := by
  obtain ⟨⟨s, t⟩, h1, h2⟩ := Option.map_eq_some_iff.mp (open_run w)
  obtain ⟨rfl, h3⟩ := Prod.mk.inj h2
  have h4 := impGo_of h1
  refine imp_go (n := 798) (N := 1) (s := (start (opening PP)).1) h4 ?_
  unfold importEnds
  dsimp only at h3
  rw [h3]
  kernel_rfl
theorem open_fence (w : World) : (fun os => (fenceModules? PP ⟨He w.params, #[], {}, 276, os⟩).map (fun s => (s.heap, s.gens, s.drawn, s.toks))) = fun _ => some (H0 w.params, #[], {}, 276) := by
  rw [Fast.te14289696077712309145]
  kernel_rfl
theorem open_all (N : Nat) (hN : Nat.ble 799 N = true) : ∀ w : World, (fencedOpening treeTable PP w N).map (fun s => (s.heap, s.gens, s.drawn, s.toks)) = some (H0 w.params, #[], {}, 276) :=
  open_cut open_ends hN open_fence
end
section -- HC
open PySem PySem.W
noncomputable def dks : List (Option Expr) := match stmtN 29 with | .Assign _ (.Dict ks _ _) _ => ks | _ => []
noncomputable def dvs : List Expr := match stmtN 29 with | .Assign _ (.Dict _ vs _) _ => vs | _ => []
noncomputable def dpos : Pos := match stmtN 29 with | .Assign _ (.Dict _ _ p) _ => p | _ => default
noncomputable def apos : Pos := match stmtN 29 with | .Assign _ _ p => p | _ => default
noncomputable abbrev npos : Pos := { line := 204, col := 0, endLine := 204, endCol := 13 }
noncomputable abbrev nx : Str := Str.ofString "b3_exceptions"
theorem stmt29 : stmtN 29 = .Assign [.Name nx npos] (.Dict dks dvs dpos) apos := by kernel_rfl
noncomputable def dl : Ents := (dks.zip dvs).filterMap entOf
theorem dl_const : constPairs dks dvs = true := by decide +kernel
theorem dl_len : dl.length = 650 := by decide +kernel
noncomputable def asc : List Int → Bool
  | a :: b :: r => decide (a < b) && asc (b :: r)
  | _ => true
theorem asc_pw : ∀ {l : List Int}, asc l = true → l.Pairwise (· < ·)
  | [], _ => .nil
  | [_], _ => List.pairwise_singleton ..
  | a :: b :: r, h => by
    have h' : a < b ∧ asc (b :: r) = true := by simpa [asc] using h
    have ih := asc_pw h'.2
    refine List.pairwise_cons.mpr ⟨fun c hc => ?_, ih⟩
    rcases List.mem_cons.mp hc with rfl | hc
    · exact h'.1
    · exact Int.lt_trans h'.1 ((List.pairwise_cons.mp ih).1 c hc)
theorem dl_new : New [] dl := by
  refine ⟨(fun _ h => nomatch h), ?_⟩
  have h : asc (dl.map fun x => hashInt x.1) = true := by decide +kernel
  exact (asc_pw h).imp fun {a b} (h : a < b) => (Int.ne_of_lt h : a ≠ b)
theorem ents_eq : b3tab.zipIdx.map b3ent = entsOf 38 550 dl := by kernel_rfl
noncomputable def subs29 : List Obj := subsOf 37 601 (dl.drop 17)
theorem subs29_len : subs29.length = 38 := by decide +kernel
noncomputable def insAll : BT → Nat → List Obj → BT
  | t, _, [] => t
  | t, n, o :: l => insAll (t.ins n o) (n + 1) l
noncomputable def insOk : BT → Nat → List Obj → Bool
  | _, _, [] => true
  | t, n, o :: l => ((t.ins n o).get n).isSome && insOk (t.ins n o) (n + 1) l
theorem abs_insAll : ∀ (l : List Obj) (t : BT) (n : Nat), insOk t n l = true → absHeap (insAll t n l) (n + l.length) {} = pushes (absHeap t n {}) l
  | [], _, _, _ => rfl
  | o :: l, t, n, h => by
    have h' : ((t.ins n o).get n).isSome = true ∧ insOk (t.ins n o) (n + 1) l = true := by simpa [insOk] using h
    have ih := abs_insAll l (t.ins n o) (n + 1) h'.2
    rw [absHeap_ins h'.1] at ih
    rw [List.length_cons, show n + (l.length + 1) = n + 1 + l.length by omega]
    exact ih
noncomputable def T29a (P : Params) : BT := insAll (T28 P) 181 (ob181 P :: subs29)
theorem ok29 (P : Params) : insOk (T28 P) 181 (ob181 P :: subs29) = true := by kernel_rfl
theorem heap29 (P : Params) : dheap (absHeap (T28 P) 181 {}) (entsOf 38 550 dl) (subsOf 37 601 (dl.drop 17)) = absHeap (T29a P) 220 {} := by
  have h := abs_insAll (ob181 P :: subs29) (T28 P) 181 (ok29 P)
  rw [List.length_cons, subs29_len] at h
  rw [show (220 : Nat) = 181 + (38 + 1) from rfl]
  unfold T29a
  rw [h]
  have e : (entsOf 38 550 dl).length = 650 := by rw [← ents_eq]; decide +kernel
  unfold dheap
  rw [e, ← ents_eq]
  kernel_rfl
end
section -- HD
open PySem PySem.W
theorem exec_asn (x : Str) (np : Pos) (ks : List (Option Expr)) (vs : List Expr) (dp ap : Pos) (env : Env) :
    exec (.Assign [.Name x np] (.Dict ks vs dp) ap) env = Sem.at ap (fun _ => (eval (.Dict ks vs dp) env).bind fun v => assignStores env v none ((assignEach [.Name x np] env).map (·.2))) := by
  rw [arm_exec_Assign]; rfl
noncomputable abbrev keepG (x : Str) (np : Pos) (env : Env) (v : Value) : Sem Fin := (assignStores env v none ((assignEach [.Name x np] env).map (·.2))).wrap (fun f => match f with | .next => (execs [] env).wrap doneF deadEnd id id | f => doneF f) deadEnd id id
theorem wrapG (x : Str) (np : Pos) (ks : List (Option Expr)) (vs : List Expr) (dp ap : Pos) (env : Env) : (execs [.Assign [.Name x np] (.Dict ks vs dp) ap] env).wrap doneF deadEnd id id = Sem.at ap fun _ => (eval (.Dict ks vs dp) env).wrap (keepG x np env) deadEnd id id := by
  rw [execs_cons_wrap, exec_asn]
  show Sem.at ap (fun _ => ((eval (.Dict ks vs dp) env).bind _).wrap _ _ _ _) = _
  rw [Sem.bind_eq_wrap, Sem.wrap_wrap]
  rfl
noncomputable abbrev keep29 (env : Env) (v : Value) : Sem Fin := keepG nx npos env v
theorem wrap29 (env : Env) : (execs [stmtN 29] env).wrap doneF deadEnd id id = Sem.at apos fun _ => (eval (.Dict dks dvs dpos) env).wrap (keep29 env) deadEnd id id := by
  rw [stmt29]; exact wrapG nx npos dks dvs dpos apos env
theorem abs_sh (T : BT) (n k : Nat) (os : OsState) : (shT T n k os).abs = stt (absHeap T n {}) k #[] {} os := rfl
theorem at_one {tb : String → Option Builtin} {p : Program} {w : World} {n₀ : Nat} {ann : Option Value} (s : Shared) (q p₀ : Pos) (k : Unit → Sem Fin) (c : Code) (f : Frame) : segGo tb p w n₀ ann 1 1 s ⟨.at q k, c, p₀, [f]⟩ = some (s, ⟨k (), c, q, [f]⟩) := rfl
theorem Goes.segT {prog : Program} {w : World} {ok : Addr → Prop} {n₀ : Nat} {ann : Option Value} {gens : Array GenState} {drawn : Drawn} {os : OsState} {α : Type} {x : Sem α} {h h' : Heap} {t t' : Nat} {p p' : Pos} {a : α} {n : Nat} (hok : OkW n₀ ann ok) (r : Goes table ⟨prog, w.params⟩ ok x h t p a h' t' p' n) (K : α → Sem Fin) (H : Value → Sem Fin) (gd : Bool → Bool) (lv : List Value → List Value) (c : Code) (b : Nat) (S : List Frame) (hS : b ≤ S.length) :
    segGo treeTable prog w n₀ ann b n (stt h t gens drawn os) ⟨x.wrap K H gd lv, c, p, S⟩ = some (stt h' t' gens drawn os, ⟨K a, c, p', S⟩) := table_eq_tree ▸ Goes.seg hok r K H gd lv c b S hS
noncomputable abbrev g3c (P : Params) : Obj := ⟨(.type "dict"), none, .dict #[⟨PyData.keyHash P (Str.ofString "__name__"), (.str (Str.ofString "__name__") 165), (.str (Str.ofString "cpy313.stringprep") 481)⟩, ⟨PyData.keyHash P (Str.ofString "__doc__"), (.str (Str.ofString "__doc__") 166), .none⟩, ⟨PyData.keyHash P (Str.ofString "__package__"), (.str (Str.ofString "__package__") 167), .none⟩, ⟨PyData.keyHash P (Str.ofString "__loader__"), (.str (Str.ofString "__loader__") 168), (.builtin "__main__.__loader__#opaque")⟩, ⟨PyData.keyHash P (Str.ofString "__spec__"), (.str (Str.ofString "__spec__") 169), .none⟩, ⟨PyData.keyHash P (Str.ofString "__annotations__"), (.str (Str.ofString "__annotations__") 170), (.ref 6)⟩, ⟨PyData.keyHash P (Str.ofString "__builtins__"), (.str (Str.ofString "__builtins__") 171), (.ref 4)⟩, ⟨PyData.keyHash P (Str.ofString "__file__"), (.str (Str.ofString "__file__") 173), (.str (Str.ofString "/claim/cut.py") 172)⟩, ⟨PyData.keyHash P (Str.ofString "__cached__"), (.str (Str.ofString "__cached__") 174), .none⟩, ⟨PyData.keyHash P (Str.ofString "_sre"), (.str (Str.ofString "_sre") 275), (.ref 12)⟩, ⟨PyData.keyHash P (Str.ofString "_wall"), (.str (Str.ofString "_wall") 288), (.ref 38)⟩, ⟨PyData.keyHash P (Str.ofString "_twin_re_1"), (.str (Str.ofString "_twin_re_1") 320), (.ref 43)⟩, ⟨PyData.keyHash P (Str.ofString "bytes_types"), (.str (Str.ofString "bytes_types") 321), (.ref 44)⟩, ⟨PyData.keyHash P (Str.ofString "_bytes_from_decode_data"), (.str (Str.ofString "_bytes_from_decode_data") 328), (.ref 51)⟩, ⟨PyData.keyHash P (Str.ofString "Error"), (.str (Str.ofString "Error") 348), (.ref 61)⟩, ⟨PyData.keyHash P (Str.ofString "_ascii_buffer"), (.str (Str.ofString "_ascii_buffer") 356), (.ref 71)⟩, ⟨PyData.keyHash P (Str.ofString "_buffer"), (.str (Str.ofString "_buffer") 364), (.ref 78)⟩, ⟨PyData.keyHash P (Str.ofString "_truth"), (.str (Str.ofString "_truth") 372), (.ref 85)⟩, ⟨PyData.keyHash P (Str.ofString "_B64"), (.str (Str.ofString "_B64") 374), (.bytes #[65, 66, 67, 68, 69, 70, 71, 72, 73, 74, 75, 76, 77, 78, 79, 80, 81, 82, 83, 84, 85, 86, 87, 88, 89, 90, 97, 98, 99, 100, 101, 102, 103, 104, 105, 106, 107, 108, 109, 110, 111, 112, 113, 114, 115, 116, 117, 118, 119, 120, 121, 122, 48, 49, 50, 51, 52, 53, 54, 55, 56, 57, 43, 47] 373)⟩, ⟨PyData.keyHash P (Str.ofString "_b64_value"), (.str (Str.ofString "_b64_value") 381), (.ref 92)⟩, ⟨PyData.keyHash P (Str.ofString "a2b_base64"), (.str (Str.ofString "a2b_base64") 397), (.ref 100)⟩, ⟨PyData.keyHash P (Str.ofString "b2a_base64"), (.str (Str.ofString "b2a_base64") 411), (.ref 108)⟩, ⟨PyData.keyHash P (Str.ofString "_NO_SEP"), (.str (Str.ofString "_NO_SEP") 412), (.ref 109)⟩, ⟨PyData.keyHash P (Str.ofString "b2a_hex"), (.str (Str.ofString "b2a_hex") 423), (.ref 117)⟩, ⟨PyData.keyHash P (Str.ofString "hexlify"), (.str (Str.ofString "hexlify") 424), (.ref 117)⟩, ⟨PyData.keyHash P (Str.ofString "_hex_value"), (.str (Str.ofString "_hex_value") 431), (.ref 124)⟩, ⟨PyData.keyHash P (Str.ofString "a2b_hex"), (.str (Str.ofString "a2b_hex") 444), (.ref 131)⟩, ⟨PyData.keyHash P (Str.ofString "unhexlify"), (.str (Str.ofString "unhexlify") 445), (.ref 131)⟩, ⟨PyData.keyHash P (Str.ofString "b64encode"), (.str (Str.ofString "b64encode") 456), (.ref 139)⟩, ⟨PyData.keyHash P (Str.ofString "b64decode"), (.str (Str.ofString "b64decode") 465), (.ref 147)⟩, ⟨PyData.keyHash P (Str.ofString "b16encode"), (.str (Str.ofString "b16encode") 472), (.ref 154)⟩, ⟨PyData.keyHash P (Str.ofString "b16decode"), (.str (Str.ofString "b16decode") 480), (.ref 162)⟩, ⟨PyData.keyHash P (Str.ofString "b1_set"), (.str (Str.ofString "b1_set") 542), (.ref 170)⟩, ⟨PyData.keyHash P (Str.ofString "in_table_b1"), (.str (Str.ofString "in_table_b1") 549), (.ref 180)⟩, ⟨PyData.keyHash P (Str.ofString "b3_exceptions"), (.str (Str.ofString "b3_exceptions") 2500), (.ref 181)⟩] 35, #[]⟩
noncomputable def T29 (P : Params) : BT := (T29a P).set 3 fun _ => g3c P
theorem st29b (p : Program) (b : List Stmt) (w : World) (os : OsState) : segRunT treeTable p w 28 (some (.ref 6)) 1 8 (shT (T29a w.params) 220 2500 os) ⟨keep29 envA (.ref 181), .body b envA, dpos, [topFrame fpos]⟩ = some (.next, shT (T29 w.params) 220 2501 os, .body b envA, pos29) := by
  rw [Fast.te10110043849684766642, Fast.te14364793385576792824]
  kernel_rfl
theorem go29 (p : Program) (w : World) (q : Pos) : Goes table ⟨p, w.params⟩ (fun a => 28 ≤ a) (eval (.Dict dks dvs dpos) envA) (absHeap (T28 w.params) 181 {}) 550 q (.ref 181) (absHeap (T29a w.params) 220 {}) 2500 dpos 12516 := by
  have hz : (absHeap (T28 w.params) 181 {}).objs.size = 181 := absHeap_size _ _ _
  have h := goes_Dict (g := ⟨p, w.params⟩) (ok := fun a => 28 ≤ a) (h := absHeap (T28 w.params) 181 {}) (pos := dpos) (env := envA) dl_const (by rw [hz]; intro a ha; show (28 : Nat) ≤ a; exact Nat.le_trans (by decide) ha) (by rw [hz]; decide) 37 (l := dl) rfl (by rw [dl_len]; decide) (by rw [dl_len]; decide) (by rw [dl_len]; decide) dl_new 550 q
  rw [heap29, hz, dl_len] at h
  exact h
theorem seg29 (p : Program) (b : List Stmt) (w : World) (os : OsState) : segGo treeTable p w 28 (some (.ref 6)) 1 12516 (stt (absHeap (T28 w.params) 181 {}) 550 #[] {} os) ⟨(eval (.Dict dks dvs dpos) envA).wrap (keep29 envA) deadEnd id id, .body b envA, apos, [topFrame fpos]⟩ = some (stt (absHeap (T29a w.params) 220 {}) 2500 #[] {} os, ⟨keep29 envA (.ref 181), .body b envA, dpos, [topFrame fpos]⟩) :=
  Goes.segT (ok := fun a => 28 ≤ a) (fun a ha => by rw [Nat.ble_eq_true_of_le ha]; rfl) (go29 p w apos) (keep29 envA) deadEnd id id (.body b envA) 1 [topFrame fpos] (Nat.le_refl _)
theorem st29 (p : Program) (b : List Stmt) (w : World) (os : OsState) : segRun treeTable p w 28 (some (.ref 6)) 1 (1 + (12516 + 8)) (shT (T28 w.params) 181 550 os).abs (TH [stmtN 29] b pos28) = some (.next, (shT (T29 w.params) 220 2501 os).abs, .body b envA, pos29) := by
  have h0 := segRun_of (st29b p b w os)
  rw [abs_sh (T29a w.params)] at h0
  have h1 := seg_go (seg29 p b w os) h0
  have h2 : TH [stmtN 29] b pos28 = ⟨Sem.at apos fun _ => (eval (.Dict dks dvs dpos) envA).wrap (keep29 envA) deadEnd id id, .body b envA, pos28, [topFrame fpos]⟩ := by
    rw [← wrap29]
  rw [h2, abs_sh (T28 w.params)]
  exact seg_go (at_one (stt (absHeap (T28 w.params) 181 {}) 550 #[] {} os) apos pos28 (fun _ => (eval (.Dict dks dvs dpos) envA).wrap (keep29 envA) deadEnd id id) (.body b envA) (topFrame fpos)) h1
end
section -- HE
open PySem PySem.W
noncomputable abbrev gd29 (_ : Params) : Obj := ⟨.none, none, .fields #[(.int 2 0), (.int 0 0), (.ref 37), (.int 8 0), (.int 0 0), (.ref 50), (.int 21 0), (.int 0 0), (.ref 57), (.int 23 0), (.int 0 0), (.ref 70), (.int 34 0), (.int 0 0), (.ref 77), (.int 41 0), (.int 0 0), (.ref 84), (.int 47 0), (.int 0 0), (.ref 91), (.int 59 0), (.int 0 0), (.ref 99), (.int 113 0), (.int 0 0), (.ref 107), (.int 136 0), (.int 0 0), (.ref 116), (.int 153 0), (.int 0 0), (.ref 123), (.int 161 0), (.int 0 0), (.ref 130), (.int 178 0), (.int 0 0), (.ref 138), (.int 184 0), (.int 0 0), (.ref 146), (.int 191 0), (.int 0 0), (.ref 153), (.int 193 0), (.int 0 0), (.ref 161), (.int 202 0), (.int 0 0), (.ref 179), (.int 205 0), (.int 0 0), (.ref 225), (.int 211 0), (.int 0 0), (.ref 232), (.int 220 0), (.int 0 0), (.ref 239), (.int 229 0), (.int 0 0), (.ref 244), (.int 232 0), (.int 0 0), (.ref 249), (.int 234 0), (.int 0 0), (.ref 254), (.int 236 0), (.int 0 0), (.ref 261), (.int 250 0), (.int 0 0), (.ref 266), (.int 289 0), (.int 0 0), (.ref 271)], #[]⟩
noncomputable abbrev gd221 (_ : Params) : Obj := ⟨.none, none, .fields #[], #[]⟩
noncomputable abbrev gd224 (_ : Params) : Obj := ⟨.none, none, .func { (fnOf (Str.ofString "map_table_b3") (Str.ofString "map_table_b3") (par 30) (bod 30) (sco 30) .none .none .none .none none .none .none) with globals := 0, builtins := 0 }, #[]⟩
noncomputable abbrev gd228 (_ : Params) : Obj := ⟨.none, none, .fields #[], #[]⟩
noncomputable abbrev gd231 (_ : Params) : Obj := ⟨.none, none, .func { (fnOf (Str.ofString "_law_values") (Str.ofString "_law_values") (par 32) (bod 32) (sco 32) .none .none .none .none none .none .none) with globals := 0, builtins := 0 }, #[]⟩
noncomputable abbrev gd235 (_ : Params) : Obj := ⟨.none, none, .fields #[], #[]⟩
noncomputable abbrev gd238 (_ : Params) : Obj := ⟨.none, none, .func { (fnOf (Str.ofString "_law_octets") (Str.ofString "_law_octets") (par 33) (bod 33) (sco 33) .none .none .none .none none .none .none) with globals := 0, builtins := 0 }, #[]⟩
noncomputable abbrev gd242 (_ : Params) : Obj := ⟨.none, none, .fields #[], #[]⟩
noncomputable abbrev gd243 (_ : Params) : Obj := ⟨.none, none, .func { (fnOf (Str.ofString "_law_written") (Str.ofString "_law_written") (par 34) (bod 34) (sco 34) .none .none .none .none none .none .none) with globals := 0, builtins := 0 }, #[]⟩
noncomputable abbrev gd247 (_ : Params) : Obj := ⟨.none, none, .fields #[], #[]⟩
noncomputable abbrev gd248 (_ : Params) : Obj := ⟨.none, none, .func { (fnOf (Str.ofString "_law_signs") (Str.ofString "_law_signs") (par 35) (bod 35) (sco 35) .none .none .none .none none .none .none) with globals := 0, builtins := 0 }, #[]⟩
noncomputable abbrev gd252 (_ : Params) : Obj := ⟨.none, none, .fields #[], #[]⟩
noncomputable abbrev gd253 (_ : Params) : Obj := ⟨.none, none, .func { (fnOf (Str.ofString "_law_folded") (Str.ofString "_law_folded") (par 36) (bod 36) (sco 36) .none .none .none .none none .none .none) with globals := 0, builtins := 0 }, #[]⟩
noncomputable abbrev gd257 (_ : Params) : Obj := ⟨.none, none, .fields #[], #[]⟩
noncomputable abbrev gd260 (_ : Params) : Obj := ⟨.none, none, .func { (fnOf (Str.ofString "_law_spelled") (Str.ofString "_law_spelled") (par 37) (bod 37) (sco 37) .none .none .none .none none .none .none) with globals := 0, builtins := 0 }, #[]⟩
noncomputable abbrev gd264 (_ : Params) : Obj := ⟨.none, none, .fields #[], #[]⟩
noncomputable abbrev gd265 (_ : Params) : Obj := ⟨.none, none, .func { (fnOf (Str.ofString "_law_carried") (Str.ofString "_law_carried") (par 38) (bod 38) (sco 38) .none .none .none .none none .none .none) with globals := 0, builtins := 0 }, #[]⟩
noncomputable abbrev gd269 (_ : Params) : Obj := ⟨.none, none, .fields #[], #[]⟩
noncomputable abbrev gd270 (_ : Params) : Obj := ⟨.none, none, .func { (fnOf (Str.ofString "law") (Str.ofString "law") (par 39) (bod 39) (sco 39) .none .none .none .none none .none .none) with globals := 0, builtins := 0 }, #[]⟩
noncomputable def T39 (P : Params) : BT := ((((((((((((((((((((((((((((((((((((((((((((((((((((((((T29 P).set 3 fun _ => ob3 P).set 29 fun _ => gd29 P).ins 220 (ob220 P)).ins 221 (gd221 P)).ins 222 (ob222 P)).ins 223 (ob223 P)).ins 224 (gd224 P)).ins 225 (ob225 P)).ins 226 (ob226 P)).ins 227 (ob227 P)).ins 228 (gd228 P)).ins 229 (ob229 P)).ins 230 (ob230 P)).ins 231 (gd231 P)).ins 232 (ob232 P)).ins 233 (ob233 P)).ins 234 (ob234 P)).ins 235 (gd235 P)).ins 236 (ob236 P)).ins 237 (ob237 P)).ins 238 (gd238 P)).ins 239 (ob239 P)).ins 240 (ob240 P)).ins 241 (ob241 P)).ins 242 (gd242 P)).ins 243 (gd243 P)).ins 244 (ob244 P)).ins 245 (ob245 P)).ins 246 (ob246 P)).ins 247 (gd247 P)).ins 248 (gd248 P)).ins 249 (ob249 P)).ins 250 (ob250 P)).ins 251 (ob251 P)).ins 252 (gd252 P)).ins 253 (gd253 P)).ins 254 (ob254 P)).ins 255 (ob255 P)).ins 256 (ob256 P)).ins 257 (gd257 P)).ins 258 (ob258 P)).ins 259 (ob259 P)).ins 260 (gd260 P)).ins 261 (ob261 P)).ins 262 (ob262 P)).ins 263 (ob263 P)).ins 264 (gd264 P)).ins 265 (gd265 P)).ins 266 (ob266 P)).ins 267 (ob267 P)).ins 268 (ob268 P)).ins 269 (gd269 P)).ins 270 (gd270 P)).ins 271 (ob271 P)).ins 272 (ob272 P))
noncomputable def rest39 : List Stmt := [stmtN 30, stmtN 31, stmtN 32, stmtN 33, stmtN 34, stmtN 35, stmtN 36, stmtN 37, stmtN 38, stmtN 39]
theorem st39 (p : Program) (b : List Stmt) (w : World) (os : OsState) : segRunT treeTable p w 28 (some (.ref 6)) 1 275 (shT (T29 w.params) 220 2501 os) (TH rest39 b pos29) = some (.next, shT (T39 w.params) 273 2580 os, .body b envA, pos39) := by
  rw [Fast.te10110043849684766642, Fast.te14364793385576792824]
  kernel_rfl
end
section -- HF
open PySem PySem.W
noncomputable abbrev B0 : List Stmt := behindTheImports PP
noncomputable abbrev annA : Option Value := some (.ref 6)
noncomputable abbrev CB : Code := .body B0 envA
noncomputable abbrev H39 (P : Params) : Heap := absHeap (T39 P) 273 {}
theorem run_pre (w : World) (os : OsState) : topGo treeTable PP w 28 annA 12 ⟨H0 w.params, #[], {}, 276, os⟩ (topStub PP) = some ((shT (Tb w.params) 32 282 os).abs, ⟨denote treeTable CB, CB, pos0, [topFrame fpos]⟩) := by
  rw [Fast.te15667345088766844465, Fast.te11892475500146522536, Fast.te14364793385576792824]
  kernel_rfl
theorem run_block (w : World) (os : OsState) : segRun treeTable PP w 28 annA 1 1 (shT (Tb w.params) 32 282 os).abs (blockOf B0 envA CB pos0 [topFrame fpos]) = some (.next, (shT (Tb w.params) 32 282 os).abs, CB, pos0) := by
  kernel_rfl
theorem run_fin (s : Shared) (tb : String → Option Builtin) (w : World) : topRun tb PP w 28 annA 2 s ⟨doneF .next, CB, pos39, [topFrame fpos]⟩ = some s := by
  kernel_rfl
theorem body_eq : B0 = [stmtN 1, stmtN 2, stmtN 3, stmtN 4, stmtN 5, stmtN 6, stmtN 7] ++ ([stmtN 8, stmtN 9, stmtN 10, stmtN 11, stmtN 12, stmtN 13, stmtN 14, stmtN 15, stmtN 16] ++ ([stmtN 17, stmtN 18, stmtN 19, stmtN 20, stmtN 21, stmtN 22, stmtN 23, stmtN 24, stmtN 25, stmtN 26] ++ ([stmtN 27] ++ ([stmtN 28] ++ ([stmtN 29] ++ (rest39 ++ [])))))) := by kernel_rfl
end
section -- HG
open PySem PySem.W
noncomputable abbrev RES (l : List Stmt) (q : Pos) : Thread := restOf l envA CB q [topFrame fpos]
theorem app_T {p : Program} {w : World} {os : OsState} {n N n1 n2 k1 k2 : Nat} {T T' : BT} {r : Shared} {l rest : List Stmt} {q q' : Pos}
    (h : segRun treeTable p w 28 annA 1 n (shT T n1 k1 os).abs (TH l B0 q) = some (.next, (shT T' n2 k2 os).abs, CB, q'))
    (k : topRun treeTable p w 28 annA N (shT T' n2 k2 os).abs (RES rest q') = some r) : topRun treeTable p w 28 annA (n + N) (shT T n1 k1 os).abs (RES (l ++ rest) q) = some r := piece_app h k
theorem run_k39 (w : World) (os : OsState) : topRun treeTable PP w 28 annA 2 (shT (T39 w.params) 273 2580 os).abs (RES [] pos39) = some (shT (T39 w.params) 273 2580 os).abs := piece_nil (run_fin _ _ _)
theorem run_k29 (w : World) (os : OsState) : topRun treeTable PP w 28 annA (275 + 2) (shT (T29 w.params) 220 2501 os).abs (RES (rest39 ++ []) pos29) = some (shT (T39 w.params) 273 2580 os).abs := app_T (segRun_of (st39 PP B0 w os)) (run_k39 w os)
noncomputable abbrev NB : Nat := 1 + (12516 + 8)
theorem run_k28 (w : World) (os : OsState) : topRun treeTable PP w 28 annA (NB + (275 + 2)) (shT (T28 w.params) 181 550 os).abs (RES ([stmtN 29] ++ (rest39 ++ [])) pos28) = some (shT (T39 w.params) 273 2580 os).abs := app_T (st29 PP B0 w os) (run_k29 w os)
theorem run_k27 (w : World) (os : OsState) : topRun treeTable PP w 28 annA (30 + (NB + (275 + 2))) (shT (T27 w.params) 174 543 os).abs (RES ([stmtN 28] ++ ([stmtN 29] ++ (rest39 ++ []))) pos27) = some (shT (T39 w.params) 273 2580 os).abs := app_T (segRun_of (st28 PP B0 w os)) (run_k28 w os)
noncomputable abbrev NC : Nat := 999 + (30 + (NB + (275 + 2)))
theorem run_k26 (w : World) (os : OsState) : topRun treeTable PP w 28 annA NC (shT (T26 w.params) 163 483 os).abs (RES ([stmtN 27] ++ ([stmtN 28] ++ ([stmtN 29] ++ (rest39 ++ [])))) pos26) = some (shT (T39 w.params) 273 2580 os).abs := app_T (segRun_of (st27 PP B0 w os)) (run_k27 w os)
noncomputable abbrev L27 : List Stmt := [stmtN 27] ++ ([stmtN 28] ++ ([stmtN 29] ++ (rest39 ++ [])))
theorem run_k16 (w : World) (os : OsState) : topRun treeTable PP w 28 annA (227 + NC) (shT (T16 w.params) 118 424 os).abs (RES ([stmtN 17, stmtN 18, stmtN 19, stmtN 20, stmtN 21, stmtN 22, stmtN 23, stmtN 24, stmtN 25, stmtN 26] ++ L27) pos16) = some (shT (T39 w.params) 273 2580 os).abs := app_T (segRun_of (st26 PP B0 w os)) (run_k26 w os)
theorem run_k7 (w : World) (os : OsState) : topRun treeTable PP w 28 annA (273 + (227 + NC)) (shT (T7 w.params) 65 349 os).abs (RES ([stmtN 8, stmtN 9, stmtN 10, stmtN 11, stmtN 12, stmtN 13, stmtN 14, stmtN 15, stmtN 16] ++ ([stmtN 17, stmtN 18, stmtN 19, stmtN 20, stmtN 21, stmtN 22, stmtN 23, stmtN 24, stmtN 25, stmtN 26] ++ L27)) pos7) = some (shT (T39 w.params) 273 2580 os).abs := app_T (segRun_of (st16 PP B0 w os)) (run_k16 w os)
noncomputable abbrev ND : Nat := 352 + (273 + (227 + NC))
theorem run_k0' (w : World) (os : OsState) : topRun treeTable PP w 28 annA ND (shT (Tb w.params) 32 282 os).abs (RES ([stmtN 1, stmtN 2, stmtN 3, stmtN 4, stmtN 5, stmtN 6, stmtN 7] ++ ([stmtN 8, stmtN 9, stmtN 10, stmtN 11, stmtN 12, stmtN 13, stmtN 14, stmtN 15, stmtN 16] ++ ([stmtN 17, stmtN 18, stmtN 19, stmtN 20, stmtN 21, stmtN 22, stmtN 23, stmtN 24, stmtN 25, stmtN 26] ++ L27))) pos0) = some (shT (T39 w.params) 273 2580 os).abs := app_T (segRun_of (st7 PP B0 w os)) (run_k7 w os)
theorem via_eq {w : World} {s : Shared} {N : Nat} {l l' : List Stmt} {q : Pos} {r : Option Shared} (e : l = l') (h : topRun treeTable PP w 28 annA N s (RES l' q) = r) : topRun treeTable PP w 28 annA N s (RES l q) = r := by
  subst e; exact h
theorem run_k0 (w : World) (os : OsState) : topRun treeTable PP w 28 annA ND (shT (Tb w.params) 32 282 os).abs (RES B0 pos0) = some (shT (T39 w.params) 273 2580 os).abs :=
  via_eq body_eq (run_k0' w os)
theorem run_all (w : World) (os : OsState) : topRun treeTable PP w 28 annA (12 + (1 + ND)) ⟨H0 w.params, #[], {}, 276, os⟩ (topStub PP) = some ⟨H39 w.params, #[], {}, 2580, os⟩ :=
  have h1 := run_k0 w os
  have h2 := piece_block (run_block w os) h1
  have h3 := go_top (run_pre w os) h2
  h3.trans (congrArg some (abs_sh (T39 w.params) 273 2580 os))
theorem size_ok (w : World) : ((H0 w.params).isNs mainGlobals && (#[] : Array GenState).size == 0, (H0 w.params).objs.size, (H0 w.params).nsMap mainGlobals "__annotations__") = (true, 28, annA) := by
  rw [Fast.te8920871248978507458]
  kernel_rfl
theorem le_all : Nat.ble (12 + (1 + ND)) 20000 = true := by decide
theorem open_N : ∀ w : World, (fencedOpening treeTable PP w 20000).map (fun s => (s.heap, s.gens, s.drawn, s.toks)) = some (H0 w.params, #[], {}, 276) := open_all 20000 rfl
end
section -- HL0
open PySem PySem.W PyProof.Rows
noncomputable abbrev S39 (w : World) (os : OsState) : Shared := ⟨H39 w.params, #[], {}, 2580, os⟩
noncomputable abbrev MM : List Str := importedModules PP.main.body
theorem gens_ok (w : World) (os : OsState) : gensDone (S39 w os) = true := rfl
end
section -- La
open PySem PySem.W PyProof.Rows
theorem statics_ok (w : World) : staticsOk MM (H0 w.params) (H39 w.params) = true := by
  unfold staticsOk MM
  rw [Fast.te5923862056798008813, Fast.te8920871248978507458]
  kernel_rfl
end
section -- Lb
open PySem PySem.W PyProof.Rows
theorem names_ok (w : World) : namesBound PP (H39 w.params) = true := by
  kernel_rfl
theorem laid_ok (w : World) : laidKept (H0 w.params) (H39 w.params) = true := by
  unfold laidKept
  rw [Fast.te8920871248978507458]
  kernel_rfl
end
section -- Lc
open PySem PySem.W PyProof.Rows
theorem blt_ok (w : World) : (H39 w.params).bltView = bltViewBooted := by
  kernel_rfl
end
section -- Ld
open PySem PySem.W PyProof.Rows
theorem seen_ok (w : World) (os : OsState) : seen ((recsOf viewQ).map (·.name)) (ownsOf viewQ) [] { S39 w os with gens := #[] } = expectedOf viewQ := by
  rw [Fast.te5160383126252970620, Fast.te3399658132070893891, Fast.te5991557255702980513]
  kernel_rfl
end
section -- Le
open PySem PySem.W PyProof.Rows
theorem keys_ok (w : World) : (H39 w.params).keysOk (looseW viewQ looseN) ((recsOf viewQ).map (·.name)) ((litsOf viewQ).map (·.1)) ((clssOf viewQ (looseW viewQ looseN)).map (·.name)) = true := by
  rw [Fast.te10880121769531294198, Fast.te821141287760084731, Fast.te3399658132070893891, Fast.te7409074990110511671, Fast.te13664370479719496447]
  kernel_rfl
end
section -- Lf
open PySem PySem.W PyProof.Rows
theorem acc_ok (w : World) : (H39 w.params).accountedOkI MM = true := by
  unfold MM
  rw [Fast.te14722251495701143533, Fast.te5923862056798008813]
  kernel_rfl
theorem ns_ok (w : World) : ((H39 w.params).isNs mainGlobals = true) ∧ (H39 w.params).isNs builtinsNs = true := ⟨by kernel_rfl, by kernel_rfl⟩
end
section -- Lg
open PySem PySem.W PyProof.Rows
theorem tables_ok (w : World) : tablesOk viewQ (H39 w.params) = true := by
  rw [Fast.te10994771534591457954]
  kernel_rfl
end
section -- Lm
open PySem PySem.W PyProof.Rows
theorem xt_ok (w : World) (os : OsState) : XtR (S39 w os) = true := by
  kernel_rfl
end
section -- Ln
open PySem PySem.W PyProof.Rows
theorem tabs_ok (w : World) (os : OsState) : tabsOk viewQ (S39 w os) = true := by
  rw [Fast.te479339242167458305]
  kernel_rfl
end
section -- Lh
open PySem PySem.W PyProof.Rows
theorem pin_ok (w : World) (os : OsState) : pinSeenD viewQ (drecsOf viewQ) (S39 w os) = pinGoodD (drecsOf viewQ) := by
  rw [Fast.te16090120013241838585, Fast.te3247288618530077131]
  kernel_rfl
end
section -- Li
open PySem PySem.W PyProof.Rows
theorem plainE_ok (w : World) (os : OsState) : plainSeenE viewQ (looseW viewQ looseN) (S39 w os) = plainGoodE viewQ (looseW viewQ looseN) := by
  rw [Fast.te2386780881361962483, Fast.te821141287760084731]
  kernel_rfl
theorem plainD_ok (w : World) (os : OsState) : plainSeenD viewQ looseN (S39 w os) = plainGoodD viewQ looseN := by
  rw [Fast.te11698064438423848299]
  kernel_rfl
end
section -- Lj
open PySem PySem.W PyProof.Rows
theorem wide_ok (w : World) (os : OsState) : wideSeen viewQ (S39 w os) = wideGood viewQ := by
  rw [Fast.te7317090234206586261]
  kernel_rfl
theorem cls_ok (w : World) (os : OsState) : clsSeenW viewQ looseN (S39 w os) = clsGoodW viewQ looseN := by
  rw [Fast.te7369524293546568484]
  kernel_rfl
end
section -- Lk
open PySem PySem.W PyProof.Rows
theorem frag_ok (w : World) : ((KK w.params).map (·.1)).map (H39 w.params).get? = (KK w.params).map fun p => some p.2 := by
  kernel_rfl
end
section -- HM
open PySem PySem.W PyProof.Rows
theorem seen_all {q : Program} {loose mods : List Str} {Xt : Shared → Bool} {s : Shared}
    (h1 : seen ((recsOf q).map (·.name)) (ownsOf q) [] { s with gens := #[] } = expectedOf q) (h2 : s.heap.bltView = bltViewBooted)
    (h3 : s.heap.keysOk (looseW q loose) ((recsOf q).map (·.name)) ((litsOf q).map (·.1)) ((clssOf q (looseW q loose)).map (·.name)) = true)
    (h4 : s.heap.accountedOkI mods = true) (h5 : s.heap.isNs mainGlobals = true) (h6 : s.heap.isNs builtinsNs = true) (h7 : tablesOk q s.heap = true) (h8 : Xt s = true) (h9 : (s.gens.size == 0) = true)
    (h10 : tabsOk q s = true) (h11 : pinSeenD q (drecsOf q) s = pinGoodD (drecsOf q)) (h12 : plainSeenE q (looseW q loose) s = plainGoodE q (looseW q loose)) (h13 : plainSeenD q loose s = plainGoodD q loose)
    (h14 : wideSeen q s = wideGood q) (h15 : clsSeenW q loose s = clsGoodW q loose) : openSeen q loose mods Xt true s = openGood q loose := by
  unfold openSeen openGood
  rw [h1, h2, h3, h4, h5, h6, h7, h8, h10, h11, h12, h13, h14, h15, if_pos rfl, h9]
  rfl
theorem looks_all {p q : Program} {loose mods : List Str} {Xt : Shared → Bool} {α : Type} {Yf : Shared → α} {h₀ : Heap} {s : Shared} {y : α}
    (a1 : staticsOk mods h₀ s.heap = true) (a2 : namesBound p s.heap = true) (a3 : gensDone s = true) (a4 : laidKept h₀ s.heap = true) (b : openSeen q loose mods Xt true s = openGood q loose) (c : Yf s = y) :
    ((staticsOk mods h₀ s.heap && namesBound p s.heap && gensDone s && laidKept h₀ s.heap), openSeen q loose mods Xt true s, Yf s) = (true, openGood q loose, y) := by
  rw [a1, a2, a3, a4, b, c]; rfl
noncomputable def asK : List Addr := [2, 3, 32, 34, 35, 37, 38, 42, 43, 44, 45, 47, 48, 50, 51, 52, 59, 60, 61, 62, 65, 67, 68, 70, 71, 72, 74, 75, 77, 78, 79, 81, 82, 84, 85, 86, 88, 89, 91, 92, 93, 94, 96, 97, 99, 100, 101, 102, 104, 105, 107, 108, 109, 110, 111, 113, 114, 116, 117, 118, 120, 121, 123, 124, 125, 127, 128, 130, 131, 132, 133, 135, 136, 138, 139, 140, 141, 143, 144, 146, 147, 148, 150, 151, 153, 154, 155, 156, 158, 159, 161, 162, 170, 174, 176, 177, 179, 180, 181, 220, 222, 223, 225, 226, 227, 229, 230, 232, 233, 234, 236, 237, 239, 240, 241, 244, 245, 246, 249, 250, 251, 254, 255, 256, 258, 259, 261, 262, 263, 266, 267, 268, 271, 272]
theorem asK_eq (P : Params) : asK = (KK P).map (·.1) := rfl
theorem obs_ok (w : World) (os : OsState) : (kHook KK asK asK_eq).obs (S39 w os) = (kHook KK asK asK_eq).val w := by
  show asK.map (H39 w.params).get? = (KK w.params).map fun p => some p.2
  exact (congrArg (fun l => l.map (H39 w.params).get?) (asK_eq w.params)).trans (frag_ok w)
theorem looks_ok (w : World) (os : OsState) :
    ((staticsOk MM (H0 w.params) (H39 w.params) && namesBound PP (H39 w.params) && gensDone (S39 w os) && laidKept (H0 w.params) (H39 w.params)), openSeen viewQ looseN MM XtR true (S39 w os), (kHook KK asK asK_eq).obs (S39 w os)) = (true, openGood viewQ looseN, (kHook KK asK asK_eq).val w) :=
  looks_all (s := S39 w os) (statics_ok w) (names_ok w) (gens_ok w os) (laid_ok w)
    (seen_all (s := S39 w os) (seen_ok w os) (blt_ok w) (keys_ok w) (acc_ok w) (ns_ok w).1 (ns_ok w).2 (tables_ok w) (xt_ok w os) rfl (tabs_ok w os) (pin_ok w os) (plainE_ok w os) (plainD_ok w os) (wide_ok w os) (cls_ok w os)) (obs_ok w os)
theorem left_ok : LeftO PP viewQ looseN XtR (kHook KK asK asK_eq).obs (kHook KK asK asK_eq).val 20000 :=
  LeftO.of_pieces (H₀ := H0) (H₁ := H39) open_N size_ok run_all le_all (fun w => funext fun os => looks_ok w os)
end
end Mine
theorem PySem.Challenge.cw_pa0018_01_holds : PySem.Challenge.rw_pa0018_01.Holds := by
  exact Mine.law_holds Mine.left_ok
