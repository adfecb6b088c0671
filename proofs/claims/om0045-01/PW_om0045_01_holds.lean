import PyProof.Rows.All
import Wide.All
import OpenK.AllK
import Wide.FinOn
import Lean
import PySem.Challenge.RW_om0045_01
open PySem PySem.W PyProof.Rows PySem.Calls
set_option Elab.async false
set_option linter.unusedVariables false
set_option maxRecDepth 100000
set_option genSizeOf false
set_option genInjectivity false
namespace Mine
def en (P : Params) (n : Str) (t : Tok) (v : Value) : DictEntry := ⟨PyData.keyHash P n, .str n t, v⟩
def fnAt (i : Nat) : Stmt := (PySem.Challenge.pw_om0045_01.main.body[i]?).getD (.Pass ⟨0, 0, 0, 0⟩)
def mtAt (i j : Nat) : Stmt := match fnAt i with
  | .ClassDef _ _ _ b _ _ _ _ _ _ _ => (b[j]?).getD (.Pass ⟨0, 0, 0, 0⟩)
  | s => s
def parOf : Stmt → Arguments
  | .FunctionDef _ a _ _ _ _ _ _ _ _ => a
  | _ => ⟨[], [], none, [], [], none, []⟩
def bodyOf : Stmt → List Stmt
  | .FunctionDef _ _ b _ _ _ _ _ _ _ => b
  | _ => []
def scopeOf : Stmt → Scope
  | .FunctionDef _ _ _ _ _ _ s _ _ _ => s
  | _ => PySem.Challenge.pw_om0045_01.main.scope
abbrev fn (s : Stmt) (name qual : Str) (dV kV doc pm : Value) (an : Option Addr) (cdv ct : Value) : FuncData := fnOf name qual (parOf s) (bodyOf s) (scopeOf s) dV kV doc pm an cdv ct
/-- the part of the heap behind the top that the proof looks at -/
noncomputable def Kx (P : Params) : Frag := [
  (2, ⟨.none, none, (.dict #[] 0), #[]⟩),
  (3, ⟨(.type "dict"), none, (.dict #[en P "__name__" 165 (.str "law_om0045_01" 443), en P "__doc__" 166 .none, en P "__package__" 167 .none, en P "__loader__" 168 (.builtin "__main__.__loader__#opaque"), en P "__spec__" 169 .none, en P "__annotations__" 170 (.ref 6), en P "__builtins__" 171 (.ref 4), en P "__file__" 173 (.str "/claim/cut.py" 172), en P "__cached__" 174 .none, en P "_wall" 193 (.ref 21), en P "sep" 195 (.str "/" 194), en P "_kind" 206 (.ref 28), en P "_c_path" 219 (.ref 35), en P "_splitroot" 228 (.ref 42), en P "_normpath" 243 (.ref 49), en P "normpath" 251 (.ref 56), en P "_Ignore" 293 (.ref 79), en P "_buffer" 303 (.ref 90), en P "_truth" 311 (.ref 97), en P "_B64" 313 (.bytes #[65, 66, 67, 68, 69, 70, 71, 72, 73, 74, 75, 76, 77, 78, 79, 80, 81, 82, 83, 84, 85, 86, 87, 88, 89, 90, 97, 98, 99, 100, 101, 102, 103, 104, 105, 106, 107, 108, 109, 110, 111, 112, 113, 114, 115, 116, 117, 118, 119, 120, 121, 122, 48, 49, 50, 51, 52, 53, 54, 55, 56, 57, 43, 47] 312), en P "b2a_base64" 327 (.ref 105), en P "b64encode" 338 (.ref 113), en P "_urlsafe_encode_translation" 343 (.bytes #[0, 1, 2, 3, 4, 5, 6, 7, 8, 9, 10, 11, 12, 13, 14, 15, 16, 17, 18, 19, 20, 21, 22, 23, 24, 25, 26, 27, 28, 29, 30, 31, 32, 33, 34, 35, 36, 37, 38, 39, 40, 41, 42, 45, 44, 45, 46, 95, 48, 49, 50, 51, 52, 53, 54, 55, 56, 57, 58, 59, 60, 61, 62, 63, 64, 65, 66, 67, 68, 69, 70, 71, 72, 73, 74, 75, 76, 77, 78, 79, 80, 81, 82, 83, 84, 85, 86, 87, 88, 89, 90, 91, 92, 93, 94, 95, 96, 97, 98, 99, 100, 101, 102, 103, 104, 105, 106, 107, 108, 109, 110, 111, 112, 113, 114, 115, 116, 117, 118, 119, 120, 121, 122, 123, 124, 125, 126, 127, 128, 129, 130, 131, 132, 133, 134, 135, 136, 137, 138, 139, 140, 141, 142, 143, 144, 145, 146, 147, 148, 149, 150, 151, 152, 153, 154, 155, 156, 157, 158, 159, 160, 161, 162, 163, 164, 165, 166, 167, 168, 169, 170, 171, 172, 173, 174, 175, 176, 177, 178, 179, 180, 181, 182, 183, 184, 185, 186, 187, 188, 189, 190, 191, 192, 193, 194, 195, 196, 197, 198, 199, 200, 201, 202, 203, 204, 205, 206, 207, 208, 209, 210, 211, 212, 213, 214, 215, 216, 217, 218, 219, 220, 221, 222, 223, 224, 225, 226, 227, 228, 229, 230, 231, 232, 233, 234, 235, 236, 237, 238, 239, 240, 241, 242, 243, 244, 245, 246, 247, 248, 249, 250, 251, 252, 253, 254, 255] 342), en P "urlsafe_b64encode" 350 (.ref 120), en P "S_IFMT" 359 (.ref 127), en P "S_IFDIR" 361 (.int 16384 360), en P "S_IFCHR" 363 (.int 8192 362), en P "S_IFBLK" 365 (.int 24576 364), en P "S_IFREG" 367 (.int 32768 366), en P "S_IFIFO" 369 (.int 4096 368), en P "S_IFLNK" 371 (.int 40960 370), en P "S_IFSOCK" 373 (.int 49152 372), en P "S_ISDIR" 380 (.ref 134), en P "S_ISUID" 382 (.int 2048 381), en P "S_ISGID" 384 (.int 1024 383), en P "S_ISVTX" 386 (.int 512 385), en P "S_IRUSR" 388 (.int 256 387), en P "S_IWUSR" 390 (.int 128 389), en P "S_IXUSR" 392 (.int 64 391), en P "S_IRGRP" 394 (.int 32 393), en P "S_IWGRP" 396 (.int 16 395), en P "S_IXGRP" 398 (.int 8 397), en P "S_IROTH" 400 (.int 4 399), en P "S_IWOTH" 402 (.int 2 401), en P "S_IXOTH" 404 (.int 1 403), en P "_filemode_table" 430 (.ref 167), en P "filemode" 442 (.ref 174), en P "_law_octets" 450 (.ref 179), en P "_law_spelled" 456 (.ref 184), en P "_law_mode" 464 (.ref 191), en P "_law_thing" 476 (.ref 198), en P "_law_chain" 485 (.ref 205), en P "_law_opened" 491 (.ref 210), en P "_law_right" 497 (.ref 215), en P "_law_deed" 508 (.ref 222), en P "law" 514 (.ref 227)] 56), #[]⟩),
  (64, ⟨(.type "tuple"), none, (.seq #[.none, .none] 0), #[]⟩),
  (68, ⟨(.type "code"), none, (.fields #[(.str "__init__" 266), (.str "_Ignore.__init__" 267), (.str "/claim/cut.py" 268), (.int 71 0), (.int 3 0), (.int 0 0), (.int 0 0), (.int 3 0), (.ref 65), (.bool true), (.int 181 0), (.ref 66), .none, .none, .none, (.ref 67), (.int 269 0), (.int 71 0), (.str "/claim/cut.py" 270)]), #[]⟩),
  (69, ⟨(.type "function"), none, (.func (fn (mtAt 9 0) "__init__" "_Ignore.__init__" (.ref 64) .none .none (.str "cpy313.trace" 252) none (.ref 68) .none)), #[]⟩),
  (75, ⟨(.type "code"), none, (.fields #[(.str "names" 272), (.str "_Ignore.names" 273), (.str "/claim/cut.py" 274), (.int 76 0), (.int 3 0), (.int 0 0), (.int 0 0), (.int 3 0), (.ref 70), (.bool true), (.int 181 0), (.ref 71), .none, (.ref 72), (.ref 73), (.ref 74), (.int 280 0), (.int 76 0), (.str "/claim/cut.py" 281)]), #[]⟩),
  (76, ⟨(.type "function"), none, (.func (fn (mtAt 9 1) "names" "_Ignore.names" .none .none .none (.str "cpy313.trace" 252) none (.ref 75) .none)), #[]⟩),
  (78, ⟨(.type "dict"), none, (.dict #[en P "__module__" 261 (.str "cpy313.trace" 252), en P "__firstlineno__" 265 (.int 69 264), en P "__init__" 271 (.ref 69), en P "names" 282 (.ref 76), en P "__static_attributes__" 286 (.ref 77), en P "__dict__" 288 (.ref 80), en P "__weakref__" 290 (.ref 81), en P "__doc__" 291 .none] 4), #[]⟩),
  (79, ⟨(.type "type"), none, (.cls { name := "_Ignore", bases := [(.type "object")], mro := [(.ref 79), (.type "object")], ns := 78, qualname := "_Ignore", hasDict := true, slotNames := [], subclasses := [], abstract := false, collection := none, hasDel := false }), #[none, none, some (.str "_Ignore" 254), some (.str "_Ignore" 262), some (.builtin "object.__new__"), some (.bool true)]⟩),
  (89, ⟨(.type "code"), none, (.fields #[(.str "_buffer" 296), (.str "_buffer" 297), (.str "/claim/cut.py" 298), (.int 96 0), (.int 1 0), (.int 0 0), (.int 0 0), (.int 3 0), (.ref 84), (.bool true), (.int 181 0), (.ref 85), .none, (.ref 86), (.ref 87), (.ref 88), (.int 301 0), (.int 96 0), (.str "/claim/cut.py" 302)]), #[]⟩),
  (90, ⟨(.type "function"), none, (.func (fn (fnAt 11) "_buffer" "_buffer" .none .none .none (.str "binascii" 294) none (.ref 89) .none)), #[]⟩),
  (96, ⟨(.type "code"), none, (.fields #[(.str "_truth" 304), (.str "_truth" 305), (.str "/claim/cut.py" 306), (.int 103 0), (.int 1 0), (.int 0 0), (.int 0 0), (.int 3 0), (.ref 91), (.bool true), (.int 181 0), (.ref 92), .none, (.ref 93), (.ref 94), (.ref 95), (.int 309 0), (.int 103 0), (.str "/claim/cut.py" 310)]), #[]⟩),
  (97, ⟨(.type "function"), none, (.func (fn (fnAt 12) "_truth" "_truth" .none .none .none (.str "binascii" 294) none (.ref 96) .none)), #[]⟩),
  (98, ⟨(.type "dict"), none, (.dict #[en P "newline" 314 (.bool true)] 1), #[]⟩),
  (104, ⟨(.type "code"), none, (.fields #[(.str "b2a_base64" 315), (.str "b2a_base64" 316), (.str "/claim/cut.py" 317), (.int 109 0), (.int 1 0), (.int 1 0), (.int 1 0), (.int 3 0), (.ref 99), (.bool true), (.int 181 0), (.ref 100), .none, (.ref 101), (.ref 102), (.ref 103), (.int 325 0), (.int 109 0), (.str "/claim/cut.py" 326)]), #[]⟩),
  (105, ⟨(.type "function"), none, (.func (fn (fnAt 14) "b2a_base64" "b2a_base64" .none (.ref 98) .none (.str "binascii" 294) none (.ref 104) .none)), #[]⟩),
  (106, ⟨(.type "tuple"), none, (.seq #[.none] 0), #[]⟩),
  (112, ⟨(.type "code"), none, (.fields #[(.str "b64encode" 330), (.str "b64encode" 331), (.str "/claim/cut.py" 332), (.int 132 0), (.int 2 0), (.int 0 0), (.int 0 0), (.int 3 0), (.ref 107), (.bool true), (.int 181 0), (.ref 108), .none, (.ref 109), (.ref 110), (.ref 111), (.int 336 0), (.int 132 0), (.str "/claim/cut.py" 337)]), #[]⟩),
  (113, ⟨(.type "function"), none, (.func (fn (fnAt 16) "b64encode" "b64encode" (.ref 106) .none .none (.str "cpy313.base64" 328) none (.ref 112) .none)), #[]⟩),
  (119, ⟨(.type "code"), none, (.fields #[(.str "urlsafe_b64encode" 344), (.str "urlsafe_b64encode" 345), (.str "/claim/cut.py" 346), (.int 139 0), (.int 1 0), (.int 0 0), (.int 0 0), (.int 3 0), (.ref 114), (.bool true), (.int 181 0), (.ref 115), .none, (.ref 116), (.ref 117), (.ref 118), (.int 348 0), (.int 139 0), (.str "/claim/cut.py" 349)]), #[]⟩),
  (120, ⟨(.type "function"), none, (.func (fn (fnAt 18) "urlsafe_b64encode" "urlsafe_b64encode" .none .none .none (.str "cpy313.base64" 328) none (.ref 119) .none)), #[]⟩),
  (126, ⟨(.type "code"), none, (.fields #[(.str "S_IFMT" 353), (.str "S_IFMT" 354), (.str "/claim/cut.py" 355), (.int 142 0), (.int 1 0), (.int 0 0), (.int 0 0), (.int 3 0), (.ref 121), (.bool true), (.int 181 0), (.ref 122), .none, (.ref 123), (.ref 124), (.ref 125), (.int 357 0), (.int 142 0), (.str "/claim/cut.py" 358)]), #[]⟩),
  (127, ⟨(.type "function"), none, (.func (fn (fnAt 20) "S_IFMT" "S_IFMT" .none .none .none (.str "cpy313.stat" 351) none (.ref 126) .none)), #[]⟩),
  (133, ⟨(.type "code"), none, (.fields #[(.str "S_ISDIR" 374), (.str "S_ISDIR" 375), (.str "/claim/cut.py" 376), (.int 151 0), (.int 1 0), (.int 0 0), (.int 0 0), (.int 3 0), (.ref 128), (.bool true), (.int 181 0), (.ref 129), .none, (.ref 130), (.ref 131), (.ref 132), (.int 378 0), (.int 151 0), (.str "/claim/cut.py" 379)]), #[]⟩),
  (134, ⟨(.type "function"), none, (.func (fn (fnAt 28) "S_ISDIR" "S_ISDIR" .none .none .none (.str "cpy313.stat" 351) none (.ref 133) .none)), #[]⟩),
  (135, ⟨(.type "tuple"), none, (.seq #[(.int 40960 370), (.str "l" 405)] 0), #[]⟩),
  (136, ⟨(.type "tuple"), none, (.seq #[(.int 49152 372), (.str "s" 406)] 0), #[]⟩),
  (137, ⟨(.type "tuple"), none, (.seq #[(.int 32768 366), (.str "-" 407)] 0), #[]⟩),
  (138, ⟨(.type "tuple"), none, (.seq #[(.int 24576 364), (.str "b" 408)] 0), #[]⟩),
  (139, ⟨(.type "tuple"), none, (.seq #[(.int 16384 360), (.str "d" 409)] 0), #[]⟩),
  (140, ⟨(.type "tuple"), none, (.seq #[(.int 8192 362), (.str "c" 410)] 0), #[]⟩),
  (141, ⟨(.type "tuple"), none, (.seq #[(.int 4096 368), (.str "p" 411)] 0), #[]⟩),
  (142, ⟨(.type "tuple"), none, (.seq #[(.ref 135), (.ref 136), (.ref 137), (.ref 138), (.ref 139), (.ref 140), (.ref 141)] 0), #[]⟩),
  (143, ⟨(.type "tuple"), none, (.seq #[(.int 256 387), (.str "r" 412)] 0), #[]⟩),
  (144, ⟨(.type "tuple"), none, (.seq #[(.ref 143)] 0), #[]⟩),
  (145, ⟨(.type "tuple"), none, (.seq #[(.int 128 389), (.str "w" 413)] 0), #[]⟩),
  (146, ⟨(.type "tuple"), none, (.seq #[(.ref 145)] 0), #[]⟩),
  (147, ⟨(.type "tuple"), none, (.seq #[(.int 2112 414), (.str "s" 415)] 0), #[]⟩),
  (148, ⟨(.type "tuple"), none, (.seq #[(.int 2048 381), (.str "S" 416)] 0), #[]⟩),
  (149, ⟨(.type "tuple"), none, (.seq #[(.int 64 391), (.str "x" 417)] 0), #[]⟩),
  (150, ⟨(.type "tuple"), none, (.seq #[(.ref 147), (.ref 148), (.ref 149)] 0), #[]⟩),
  (151, ⟨(.type "tuple"), none, (.seq #[(.int 32 393), (.str "r" 418)] 0), #[]⟩),
  (152, ⟨(.type "tuple"), none, (.seq #[(.ref 151)] 0), #[]⟩),
  (153, ⟨(.type "tuple"), none, (.seq #[(.int 16 395), (.str "w" 419)] 0), #[]⟩),
  (154, ⟨(.type "tuple"), none, (.seq #[(.ref 153)] 0), #[]⟩),
  (155, ⟨(.type "tuple"), none, (.seq #[(.int 1032 420), (.str "s" 421)] 0), #[]⟩),
  (156, ⟨(.type "tuple"), none, (.seq #[(.int 1024 383), (.str "S" 422)] 0), #[]⟩),
  (157, ⟨(.type "tuple"), none, (.seq #[(.int 8 397), (.str "x" 423)] 0), #[]⟩),
  (158, ⟨(.type "tuple"), none, (.seq #[(.ref 155), (.ref 156), (.ref 157)] 0), #[]⟩),
  (159, ⟨(.type "tuple"), none, (.seq #[(.int 4 399), (.str "r" 424)] 0), #[]⟩),
  (160, ⟨(.type "tuple"), none, (.seq #[(.ref 159)] 0), #[]⟩),
  (161, ⟨(.type "tuple"), none, (.seq #[(.int 2 401), (.str "w" 425)] 0), #[]⟩),
  (162, ⟨(.type "tuple"), none, (.seq #[(.ref 161)] 0), #[]⟩),
  (163, ⟨(.type "tuple"), none, (.seq #[(.int 513 426), (.str "t" 427)] 0), #[]⟩),
  (164, ⟨(.type "tuple"), none, (.seq #[(.int 512 385), (.str "T" 428)] 0), #[]⟩),
  (165, ⟨(.type "tuple"), none, (.seq #[(.int 1 403), (.str "x" 429)] 0), #[]⟩),
  (166, ⟨(.type "tuple"), none, (.seq #[(.ref 163), (.ref 164), (.ref 165)] 0), #[]⟩),
  (167, ⟨(.type "tuple"), none, (.seq #[(.ref 142), (.ref 144), (.ref 146), (.ref 150), (.ref 152), (.ref 154), (.ref 158), (.ref 160), (.ref 162), (.ref 166)] 0), #[]⟩),
  (173, ⟨(.type "code"), none, (.fields #[(.str "filemode" 431), (.str "filemode" 432), (.str "/claim/cut.py" 433), (.int 166 0), (.int 1 0), (.int 0 0), (.int 0 0), (.int 3 0), (.ref 168), (.bool true), (.int 181 0), (.ref 169), .none, (.ref 170), (.ref 171), (.ref 172), (.int 440 0), (.int 166 0), (.str "/claim/cut.py" 441)]), #[]⟩),
  (174, ⟨(.type "function"), none, (.func (fn (fnAt 42) "filemode" "filemode" .none .none .none (.str "cpy313.stat" 351) none (.ref 173) .none)), #[]⟩),
  (178, ⟨(.type "code"), none, (.fields #[(.str "_law_octets" 445), (.str "_law_octets" 446), (.str "/claim/cut.py" 447), (.int 184 0), (.int 2 0), (.int 0 0), (.int 0 0), (.int 3 0), (.ref 175), (.bool true), (.int 181 0), (.ref 176), .none, .none, .none, (.ref 177), (.int 448 0), (.int 184 0), (.str "/claim/cut.py" 449)]), #[]⟩),
  (179, ⟨(.type "function"), none, (.func (fn (fnAt 44) "_law_octets" "_law_octets" .none .none .none (.str "law_om0045_01" 443) none (.ref 178) .none)), #[]⟩),
  (183, ⟨(.type "code"), none, (.fields #[(.str "_law_spelled" 451), (.str "_law_spelled" 452), (.str "/claim/cut.py" 453), (.int 186 0), (.int 1 0), (.int 0 0), (.int 0 0), (.int 3 0), (.ref 180), (.bool true), (.int 181 0), (.ref 181), .none, .none, .none, (.ref 182), (.int 454 0), (.int 186 0), (.str "/claim/cut.py" 455)]), #[]⟩),
  (184, ⟨(.type "function"), none, (.func (fn (fnAt 45) "_law_spelled" "_law_spelled" .none .none .none (.str "law_om0045_01" 443) none (.ref 183) .none)), #[]⟩),
  (190, ⟨(.type "code"), none, (.fields #[(.str "_law_mode" 457), (.str "_law_mode" 458), (.str "/claim/cut.py" 459), (.int 193 0), (.int 1 0), (.int 0 0), (.int 0 0), (.int 3 0), (.ref 185), (.bool true), (.int 181 0), (.ref 186), .none, (.ref 187), (.ref 188), (.ref 189), (.int 462 0), (.int 193 0), (.str "/claim/cut.py" 463)]), #[]⟩),
  (191, ⟨(.type "function"), none, (.func (fn (fnAt 46) "_law_mode" "_law_mode" .none .none .none (.str "law_om0045_01" 443) none (.ref 190) .none)), #[]⟩),
  (197, ⟨(.type "code"), none, (.fields #[(.str "_law_thing" 465), (.str "_law_thing" 466), (.str "/claim/cut.py" 467), (.int 196 0), (.int 5 0), (.int 0 0), (.int 0 0), (.int 3 0), (.ref 192), (.bool true), (.int 181 0), (.ref 193), .none, (.ref 194), (.ref 195), (.ref 196), (.int 474 0), (.int 196 0), (.str "/claim/cut.py" 475)]), #[]⟩),
  (198, ⟨(.type "function"), none, (.func (fn (fnAt 47) "_law_thing" "_law_thing" .none .none .none (.str "law_om0045_01" 443) none (.ref 197) .none)), #[]⟩),
  (204, ⟨(.type "code"), none, (.fields #[(.str "_law_chain" 477), (.str "_law_chain" 478), (.str "/claim/cut.py" 479), (.int 199 0), (.int 2 0), (.int 0 0), (.int 0 0), (.int 3 0), (.ref 199), (.bool true), (.int 181 0), (.ref 200), .none, (.ref 201), (.ref 202), (.ref 203), (.int 483 0), (.int 199 0), (.str "/claim/cut.py" 484)]), #[]⟩),
  (205, ⟨(.type "function"), none, (.func (fn (fnAt 48) "_law_chain" "_law_chain" .none .none .none (.str "law_om0045_01" 443) none (.ref 204) .none)), #[]⟩),
  (209, ⟨(.type "code"), none, (.fields #[(.str "_law_opened" 486), (.str "_law_opened" 487), (.str "/claim/cut.py" 488), (.int 205 0), (.int 2 0), (.int 0 0), (.int 0 0), (.int 3 0), (.ref 206), (.bool true), (.int 181 0), (.ref 207), .none, .none, .none, (.ref 208), (.int 489 0), (.int 205 0), (.str "/claim/cut.py" 490)]), #[]⟩),
  (210, ⟨(.type "function"), none, (.func (fn (fnAt 49) "_law_opened" "_law_opened" .none .none .none (.str "law_om0045_01" 443) none (.ref 209) .none)), #[]⟩),
  (214, ⟨(.type "code"), none, (.fields #[(.str "_law_right" 492), (.str "_law_right" 493), (.str "/claim/cut.py" 494), (.int 223 0), (.int 4 0), (.int 0 0), (.int 0 0), (.int 3 0), (.ref 211), (.bool true), (.int 181 0), (.ref 212), .none, .none, .none, (.ref 213), (.int 495 0), (.int 223 0), (.str "/claim/cut.py" 496)]), #[]⟩),
  (215, ⟨(.type "function"), none, (.func (fn (fnAt 50) "_law_right" "_law_right" .none .none .none (.str "law_om0045_01" 443) none (.ref 214) .none)), #[]⟩),
  (221, ⟨(.type "code"), none, (.fields #[(.str "_law_deed" 498), (.str "_law_deed" 499), (.str "/claim/cut.py" 500), (.int 235 0), (.int 3 0), (.int 0 0), (.int 0 0), (.int 3 0), (.ref 216), (.bool true), (.int 181 0), (.ref 217), .none, (.ref 218), (.ref 219), (.ref 220), (.int 506 0), (.int 235 0), (.str "/claim/cut.py" 507)]), #[]⟩),
  (222, ⟨(.type "function"), none, (.func (fn (fnAt 51) "_law_deed" "_law_deed" .none .none .none (.str "law_om0045_01" 443) none (.ref 221) .none)), #[]⟩)]
abbrev Pg : Program := PySem.Challenge.rw_om0045_01.row.prog
inductive AV where
  | none
  | bool (b : Bool)
  | int (i : Int)
  | str (x : Str)
  | bytes (b : Array UInt8)
  | ref (a : Addr)
  | raw (v : Value)
def AV.is (a : AV) (v : Value) : Prop := match a with
  | .none => v = .none
  | .bool b => v = .bool b
  | .int i => ∃ t, v = .int i t
  | .str x => ∃ t, v = .str x t
  | .bytes b => ∃ t, v = .bytes b t
  | .ref a => v = .ref a
  | .raw u => v = u
inductive AVs : List AV → List Value → Prop
  | nil : AVs [] []
  | cons {a v xs vs} : AV.is a v → AVs xs vs → AVs (a :: xs) (v :: vs)
theorem AVs.len {xs vs} (h : AVs xs vs) : vs.length = xs.length := by
  induction h with
  | nil => rfl
  | cons _ _ ih => exact congrArg (· + 1) ih
theorem AVs.get {xs vs} (h : AVs xs vs) : ∀ {i : Nat} {a : AV}, xs[i]? = some a → ∃ v, vs[i]? = some v ∧ a.is v := by
  induction h with
  | nil => intro i a e; cases e
  | cons r _ ih =>
    intro i a e
    cases i with
    | zero => cases e; exact ⟨_, rfl, r⟩
    | succ i => exact ih (i := i) e
theorem AVs.append {xs vs ys us} (h : AVs xs vs) (k : AVs ys us) : AVs (xs ++ ys) (vs ++ us) := by
  induction h with
  | nil => exact k
  | cons r _ ih => exact .cons r ih
theorem AVs.set {xs vs} (h : AVs xs vs) {a : AV} {v : Value} (k : a.is v) : ∀ i : Nat, AVs (xs.set i a) (vs.set i v) := by
  induction h with
  | nil => intro i; exact .nil
  | cons r h ih =>
    intro i
    cases i with
    | zero => exact .cons k h
    | succ i => exact .cons r (ih i)
theorem AVs.take {xs vs} (h : AVs xs vs) : ∀ n : Nat, AVs (xs.take n) (vs.take n) := by
  induction h with
  | nil => intro n; rw [List.take_nil, List.take_nil]; exact .nil
  | cons r _ ih =>
    intro n
    cases n with
    | zero => exact .nil
    | succ n => exact .cons r (ih n)
abbrev OP := Obj → Prop
def isList (xs : List AV) : OP := fun o => ∃ vs n, o = { cls := .type "list", data := .seq vs n } ∧ AVs xs vs.toList
def isTup (xs : List AV) : OP := fun o => ∃ vs n, o = { cls := .type "tuple", data := .seq vs n } ∧ AVs xs vs.toList
def cellIs (x : Option AV) (v : Option Value) : Prop := ∀ a, x = some a → ∃ u, v = some u ∧ a.is u
def isCell (x : Option AV) : OP := fun o => ∃ v, o.data = .cell v ∧ cellIs x v
/-- the heap's part of a state: a base that is kept, and the objects that may change -/
structure Hp (hb : Heap) (nw : List (Addr × OP)) (h : Heap) : Prop where
  keep : ∀ b o, hb.get? b = some o → h.get? b = some o
  at' : ∀ p ∈ nw, hb.get? p.1 = none ∧ ∃ o, h.get? p.1 = some o ∧ p.2 o
  nd : (nw.map (·.1)).Nodup
def Bs (hb : Heap) (a : Addr) (P : OP) : Prop := ∃ o, hb.get? a = some o ∧ P o
section
variable {hb : Heap} {nw : List (Addr × OP)} {h h' : Heap}
theorem Hp.bs (H : Hp hb nw h) {a : Addr} {P : OP} (b : Bs hb a P) : Bs h a P := b.elim fun o x => ⟨o, H.keep a o x.1, x.2⟩
theorem Hp.get (H : Hp hb nw h) {i : Nat} {a : Addr} {P : OP} (e : nw[i]? = some (a, P)) : Bs h a P := (H.at' _ (List.mem_of_getElem? e)).2
theorem Hp.lt (H : Hp hb nw h) {p : Addr × OP} (hp : p ∈ nw) : p.1 < h.objs.size := (H.at' p hp).2.elim fun _ x => Heap.lt_size x.1
theorem none_of {a : Addr} (e : ∀ o, h.get? a ≠ some o) : h.get? a = none := by
  cases q : h.get? a with
  | none => rfl
  | some o => exact absurd q (e o)
theorem Hp.fresh (H : Hp hb nw h) : hb.get? h.objs.size = none := none_of fun o q => Nat.lt_irrefl _ (Heap.lt_size (H.keep _ _ q))
theorem Hp.grow (H : Hp hb nw h) (k : ∀ b o, h.get? b = some o → h'.get? b = some o) : Hp hb nw h' :=
  ⟨fun b o e => k b o (H.keep b o e), fun p hp => ⟨(H.at' p hp).1, (H.at' p hp).2.elim fun o x => ⟨o, k _ _ x.1, x.2⟩⟩, H.nd⟩
theorem nodup_snoc {α : Type} {l : List α} {a : α} (h : l.Nodup) (k : ∀ b ∈ l, b ≠ a) : (l ++ [a]).Nodup :=
  List.nodup_append.mpr ⟨h, List.nodup_cons.mpr ⟨List.not_mem_nil, List.nodup_nil⟩, fun b hb c hc => by rw [List.mem_singleton] at hc; rw [hc]; exact k b hb⟩
theorem Hp.push (H : Hp hb nw h) {o : Obj} {P : OP} (hf : o.isFreed = false) (p : P o) : Hp hb (nw ++ [(h.objs.size, P)]) (h.push o) := by
  have G := H.grow (h' := h.push o) (fun b o' e => Heap.get?_push_of_some _ e)
  refine ⟨G.keep, fun q hq => ?_, ?_⟩
  · rcases List.mem_append.mp hq with hq | hq
    · exact G.at' q hq
    · rw [List.mem_singleton] at hq; subst hq
      exact ⟨H.fresh, o, Heap.get?_push_size _ hf, p⟩
  · rw [List.map_append]
    refine nodup_snoc H.nd fun b hb' => ?_
    obtain ⟨q, hq, rfl⟩ := List.mem_map.mp hb'
    exact Nat.ne_of_lt (H.lt hq)
theorem set_self {α : Type} : ∀ {l : List α} {i : Nat} {a : α}, l[i]? = some a → l.set i a = l := PySem.W.X.set_same
theorem map_fst_set {i : Nat} {a : Addr} {P P' : OP} (e : nw[i]? = some (a, P)) : (nw.set i (a, P')).map (·.1) = nw.map (·.1) := by
  rw [List.map_set]
  exact set_self (by rw [List.getElem?_map, e]; rfl)
theorem nodup_idx {α : Type} {l : List α} {i j : Nat} {a : α} (nd : l.Nodup) (hi : l[i]? = some a) (hj : l[j]? = some a) : i = j := by
  obtain ⟨l1, e1⟩ := List.getElem?_eq_some_iff.mp hi
  obtain ⟨l2, e2⟩ := List.getElem?_eq_some_iff.mp hj
  exact (List.getElem_inj nd).mp (e1.trans e2.symm)
/-- all but some addresses stand as they stood -/
def Kp (wr : List Addr) (h h' : Heap) : Prop := ∀ b o, b ∉ wr → h.get? b = some o → h'.get? b = some o
theorem Kp.refl {wr : List Addr} : Kp wr h h := fun _ _ _ e => e
theorem Kp.trans {wr : List Addr} {h₃ : Heap} (x : Kp wr h h') (y : Kp wr h' h₃) : Kp wr h h₃ := fun b o n e => y b o n (x b o n e)
theorem Kp.same {a : Addr} (hs : Heap.SameBut a h h') : Kp [a] h h' := fun b o n e => (hs.2 b fun z => n (by rw [z]; exact .head _)).trans e
theorem Kp.ext {a : Addr} (hs : Heap.ExtBut a h h') : Kp [a] h h' := fun b o n e => hs b o (fun z => n (by rw [z]; exact .head _)) e
/-- something else is changed: addresses that are neither in the base nor in the ledger -/
theorem Hp.off (H : Hp hb nw h) {wr : List Addr} (ha : ∀ a ∈ wr, hb.get? a = none) (hn : ∀ p ∈ nw, p.1 ∉ wr) (hs : Kp wr h h') : Hp hb nw h' :=
  ⟨fun b o eb => hs b o (fun z => nomatch eb.symm.trans (ha b z)) (H.keep b o eb), fun p hp => ⟨(H.at' p hp).1, (H.at' p hp).2.elim fun o x => ⟨o, hs _ _ (hn p hp) x.1, x.2⟩⟩, H.nd⟩
/-- one object of the ledger is changed, all else stands -/
theorem Hp.upd (H : Hp hb nw h) {i : Nat} {a : Addr} {P P' : OP} (e : nw[i]? = some (a, P)) (hs : Heap.SameBut a h h') (p : Bs h' a P') : Hp hb (nw.set i (a, P')) h' := by
  have ha := (H.at' _ (List.mem_of_getElem? e)).1
  refine ⟨fun b o eb => (hs.2 b (fun z => nomatch (z ▸ eb).symm.trans ha)).trans (H.keep b o eb), fun q hq => ?_, by rw [map_fst_set e]; exact H.nd⟩
  obtain ⟨j, hj⟩ := List.getElem?_of_mem hq
  rw [List.getElem?_set] at hj
  split at hj
  · split at hj
    · cases hj; exact ⟨ha, p⟩
    · cases hj
  · rename_i hij
    have z := H.at' q (List.mem_of_getElem? hj)
    refine ⟨z.1, z.2.elim fun o x => ⟨o, (hs.2 _ fun z' => hij (nodup_idx H.nd (a := a) ?_ ?_)).trans x.1, x.2⟩⟩
    · rw [List.getElem?_map, e]; rfl
    · rw [List.getElem?_map, hj]; exact congrArg some z'
theorem Hp.sub (H : Hp hb nw h) {nw' : List (Addr × OP)} (hs : nw'.Sublist nw) : Hp hb nw' h :=
  ⟨H.keep, fun p hp => H.at' p (hs.subset hp), (hs.map _).nodup H.nd⟩
theorem Hp.perm (H : Hp hb nw h) {nw' : List (Addr × OP)} (p : nw'.Perm nw) : Hp hb nw' h :=
  ⟨H.keep, fun q hq => H.at' q (p.mem_iff.mp hq), ((p.map _).nodup_iff).mpr H.nd⟩
/-- all but the ledger's addresses become the base -/
theorem Hp.freeze (H : Hp hb nw h) : Hp (hideAll h (nw.map (·.1))) nw h :=
  ⟨fun b o e => of_hideAll _ e, fun p hp => ⟨hideAll_none _ (List.mem_map_of_mem hp), (H.at' p hp).2⟩, H.nd⟩
theorem Hp.freeze_keep (H : Hp hb nw h) : ∀ b o, hb.get? b = some o → (hideAll h (nw.map (·.1))).get? b = some o := fun b o e =>
  hideAll_get _ (H.keep b o e) fun q => by
    obtain ⟨p, hp, rfl⟩ := List.mem_map.mp q
    exact nomatch e.symm.trans (H.at' p hp).1
end
structure Rm (A : Around) (n : Nat) : Prop where
  handled : A.handled = none
  depth : A.depth + n < recursionLimit
  units : A.units + 20 * n < cLine
theorem Rm.le {A : Around} {n m : Nat} (r : Rm A n) (h : m ≤ n) : Rm A m :=
  ⟨r.1, Nat.lt_of_le_of_lt (Nat.add_le_add_left h _) r.2, Nat.lt_of_le_of_lt (Nat.add_le_add_left (Nat.mul_le_mul_left 20 h) _) r.3⟩
theorem Rm.deeper {A : Around} {n : Nat} (r : Rm A (n + 1)) (env : Env) : Rm (A.deeper env) n :=
  ⟨r.1, by have := r.2; show A.depth + 1 + n < _; rw [Nat.add_assoc, Nat.add_comm 1 n]; exact this, by have := r.3; show A.units + 3 + 20 * n < _; omega⟩
theorem Rm.lim {A : Around} {n : Nat} (r : Rm A n) : A.depth < recursionLimit := Nat.lt_of_le_of_lt (Nat.le_add_right _ _) r.2
theorem Rm.unit {A : Around} {n : Nat} (r : Rm A (n + 1)) : A.units + 20 < cLine := (r.le (Nat.succ_le_succ (Nat.zero_le n))).3
structure Gr (w : World) (hb : Heap) : Prop where
  X : (Kx w.params).In hb
  T : ∃ p loose mg mb, TopRead p loose mg mb hb
theorem Gr.keeps {w : World} {h h' : Heap} (G : Gr w h) (k : ∀ b o, h.get? b = some o → h'.get? b = some o) : Gr w h' := by
  obtain ⟨p, l, mg, mb, T⟩ := G.T
  exact ⟨G.X.keeps k, p, l, mg, mb, T.keeps k⟩
theorem Gr.nolimit {w : World} {h : Heap} (G : Gr w h) : h.NoLimit := by
  obtain ⟨p, l, mg, mb, T⟩ := G.T
  exact T.nolimit
structure Cx where
  w : World
  A : Around
  room : Nat
  hb : Heap
  g : Array GenState
  o : OsState
  env : Env
  vars : List Str
def varsOk (names : List (Str × NameKind)) (vars : List Str) : Bool := vars.all (fun x => names.lookup x == some .local && !(x == ("__debug__" : Str))) && decide vars.Nodup
structure Cx.Ok (c : Cx) : Prop where
  gr : Gr c.w c.hb
  kind : c.env.scope.kind = .function
  glob : c.env.globals = mainGlobals
  blt : c.env.builtins = builtinsNs
  vok : varsOk c.env.scope.names c.vars = true
  off : c.hb.get? c.env.locals = none
  rm : Rm c.A (c.room + 1)
theorem Cx.Ok.nd {c : Cx} (o : c.Ok) : c.vars.Nodup := of_decide_eq_true (Bool.and_eq_true_iff.mp o.vok).2
theorem Cx.Ok.vloc {c : Cx} (o : c.Ok) {i : Nat} {x : Str} (hx : c.vars[i]? = some x) : c.env.kindOf x = some .local ∧ (x == ("__debug__" : Str)) = false := by
  have h := List.all_eq_true.mp (Bool.and_eq_true_iff.mp o.vok).1 x (List.mem_of_getElem? hx)
  obtain ⟨a, b⟩ := Bool.and_eq_true_iff.mp h
  exact ⟨beq_iff_eq.mp a, by rwa [Bool.not_eq_true'] at b⟩
structure AS where
  vs : List (Option AV)
  nw : List (Addr × OP)
def NsIs (vars : List Str) (vs : List (Option AV)) (m : Str → Option Value) : Prop := ∀ (i : Nat) (x : Str) (v : AV), vars[i]? = some x → vs[i]? = some (some v) → ∃ u, m x = some u ∧ v.is u
structure SatH (c : Cx) (st : AS) (h : Heap) (g : Array GenState) (o : OsState) : Prop where
  ok : c.Ok
  hp : Hp c.hb st.nw h
  ns : ∃ m, h.Ns c.env.locals m ∧ NsIs c.vars st.vs m
  away : ∀ p ∈ st.nw, p.1 ≠ c.env.locals
  gens : g = c.g
  os : o = c.o
abbrev Sat (c : Cx) (st : AS) (s : Shared) : Prop := SatH c st s.heap s.gens s.os
abbrev NoE : Value → Shared → Prop := fun _ _ => False
abbrev Cx.M (c : Cx) : Model := model Pg c.w
structure W {α β : Type} (rel : β → α → Prop) (c : Cx) (st : AS) (t : Sem α) (R : β → AS → Prop) : Prop where
  go : ∀ s, Sat c st s → wpAny c.M c.A t (fun v s' => ∃ b st', rel b v ∧ Sat c st' s' ∧ R b st') NoE s
abbrev WV := @W Value AV AV.is
def URel (_ : Unit) (_ : Unit) : Prop := True
abbrev WU := @W Unit Unit URel
abbrev WB := @W Bool Bool (@Eq Bool)
abbrev WL := @W (List Value) (List AV) AVs
inductive AF where
  | next | brk | cont
  | ret (v : AV)
def AF.is (a : AF) (f : Flow) : Prop := match a with
  | .next => f = .next
  | .brk => f = .brk
  | .cont => f = .cont
  | .ret a => ∃ v, f = .ret v ∧ a.is v
abbrev WF := @W Flow AF AF.is
section
variable {α β γ δ : Type} {rel : β → α → Prop} {rel' : δ → γ → Prop} {c : Cx} {st : AS}
theorem W.run {t : Sem α} {R : β → AS → Prop} (h : W rel c st t R) {s : Shared} (hs : Sat c st s) {Q : α → Shared → Prop} (k : ∀ v s' b st', rel b v → Sat c st' s' → R b st' → Q v s') : wpAny c.M c.A t Q NoE s :=
  wpAny_mono (h.go s hs) (fun v s' x => x.elim fun b x => x.elim fun st' x => k v s' b st' x.1 x.2.1 x.2.2) fun _ _ x => x
theorem W.mono {t : Sem α} {R R' : β → AS → Prop} (h : W rel c st t R) (k : ∀ b st', R b st' → R' b st') : W rel c st t R' :=
  ⟨fun s hs => h.run hs fun v s' b st' r q z => ⟨b, st', r, q, k b st' z⟩⟩
theorem W.pure {a : α} {b : β} {R : β → AS → Prop} (r : rel b a) (h : R b st) : W rel c st (pure a) R := ⟨fun _ hs => wpAny_pure ⟨b, st, r, hs, h⟩⟩
theorem W.bind {m : Sem γ} {f : γ → Sem α} {R : β → AS → Prop} (h : W rel' c st m fun d st₁ => ∀ v, rel' d v → W rel c st₁ (f v) R) : W rel c st (m >>= f) R :=
  ⟨fun s hs => wpAny_bind (h.run hs fun v s' d st₁ r q z => (z v r).go s' q)⟩
theorem W.weaken {t : Sem α} {R : β → AS → Prop} {st' : AS} (hw : ∀ s, Sat c st s → Sat c st' s) (h : W rel c st' t R) : W rel c st t R := ⟨fun s hs => h.go s (hw s hs)⟩
end
/-- a pure expression -/
structure Pu (c : Cx) (st : AS) (e : Expr) (v : AV) : Prop where
  go : WV c st (eval e c.env) fun a st' => a = v ∧ st' = st
/-- the value of an operation upon pure values -/
structure Op2 (c : Cx) (f : Value → Value → Sem Value) (a b v : AV) : Prop where
  go : ∀ (st : AS) s va vb, Sat c st s → a.is va → b.is vb → wpAny c.M c.A (f va vb) (fun u s' => v.is u ∧ Sat c st s') NoE s
section
variable {c : Cx} {st : AS}
theorem Pu.run {e : Expr} {v : AV} (h : Pu c st e v) {s : Shared} (hs : Sat c st s) {Q : Value → Shared → Prop} (k : ∀ u s', v.is u → Sat c st s' → Q u s') : wpAny c.M c.A (eval e c.env) Q NoE s :=
  W.run h.go hs fun u s' b st' r q z => k u s' (z.1 ▸ r) (z.2 ▸ q)
theorem Op2.run {f : Value → Value → Sem Value} {a b v : AV} (o : Op2 c f a b v) {s : Shared} (hs : Sat c st s) {va vb : Value} (ra : a.is va) (rb : b.is vb) {Q : Value → Shared → Prop} (k : ∀ u s', v.is u → Sat c st s' → Q u s') : wpAny c.M c.A (f va vb) Q NoE s :=
  wpAny_mono (o.go st s va vb hs ra rb) (fun u s' x => k u s' x.1 x.2) fun _ _ x => x
theorem Pu.wv {e : Expr} {v : AV} {R : AV → AS → Prop} (h : Pu c st e v) (k : R v st) : WV c st (eval e c.env) R := W.mono h.go fun b st' z => z.1 ▸ z.2 ▸ k
theorem pu {e : Expr} {v : AV} (h : ∀ s, Sat c st s → wpAny c.M c.A (eval e c.env) (fun u s' => v.is u ∧ Sat c st s') NoE s) : Pu c st e v :=
  ⟨⟨fun s hs => wpAny_mono (h s hs) (fun u s' x => ⟨v, st, x.1, x.2, rfl, rfl⟩) fun _ _ x => x⟩⟩
theorem Pu.int {i : Int} {k : Nat} {p : Pos} : Pu c st (.Constant (.int i) k p) (.int i) := pu fun s hs => wpAny_Constant_int ⟨⟨_, rfl⟩, hs⟩
theorem Pu.str {x : Str} {k : Nat} {p : Pos} : Pu c st (.Constant (.str x) k p) (.str x) := pu fun s hs => wpAny_Constant_str ⟨⟨_, rfl⟩, hs⟩
theorem Pu.bool {b : Bool} {k : Nat} {p : Pos} : Pu c st (.Constant (.bool b) k p) (.bool b) := pu fun s hs => wpAny_Constant_bool ⟨rfl, hs⟩
theorem Pu.none {k : Nat} {p : Pos} : Pu c st (.Constant .none k p) .none := pu fun s hs => wpAny_Constant_none ⟨rfl, hs⟩
theorem Pu.loc {x : Str} {p : Pos} {v : AV} (i : Nat) (hx : c.vars[i]? = some x) (hv : st.vs[i]? = some (some v)) : Pu c st (.Name x p) v := pu fun s hs => by
  obtain ⟨m, hm, hf⟩ := hs.ns
  obtain ⟨u, e, r⟩ := hf i x v hx hv
  exact wpAny_Name (wpAny_loadName_local hs.ok.kind (hs.ok.vloc hx).1 hm e ⟨r, hs⟩) (hs.ok.vloc hx).2
theorem name_cell {x : Str} {p : Pos} {v : AV} {a : Addr} (hc : c.env.cells.lookup x = some a) (hk : c.env.kindOf x = some .cell) (hd : (x == ("__debug__" : Str)) = false) {s : Shared} (hs : Sat c st s) (b : Bs s.heap a (isCell (some v))) :
    wpAny c.M c.A (eval (.Name x p) c.env) (fun u s' => v.is u ∧ Sat c st s') NoE s := by
  obtain ⟨o, e, u, ed, r⟩ := b
  obtain ⟨z, rfl, rz⟩ := r v rfl
  exact wpAny_Name (wpAny_loadName_cell hs.ok.kind hk hc ⟨o, e, ed⟩ ⟨rz, hs⟩) hd
theorem Pu.cel {x : Str} {p : Pos} {v : AV} {a : Addr} (j : Nat) (hc : c.env.cells.lookup x = some a) (hv : st.nw[j]? = some (a, isCell (some v))) (hk : c.env.kindOf x = some .cell) (hd : (x == ("__debug__" : Str)) = false := by decide) :
    Pu c st (.Name x p) v := pu fun s hs => name_cell hc hk hd hs (hs.hp.get hv)
/-- a name of the frame around a comprehension: its cell is in the base -/
theorem Pu.celB {x : Str} {p : Pos} {v : AV} {a : Addr} (hc : c.env.cells.lookup x = some a) (hv : Bs c.hb a (isCell (some v))) (hk : c.env.kindOf x = some .cell) (hd : (x == ("__debug__" : Str)) = false := by decide) :
    Pu c st (.Name x p) v := pu fun s hs => name_cell hc hk hd hs (hs.hp.bs hv)
theorem Pu.glob {x : Str} {p : Pos} {v : Value} {av : AV} (e : ∀ w : World, nsIn (Kx w.params) mainGlobals x = some (some v)) (hk : c.env.kindOf x = some .globalImplicit) (r : av.is v) (hd : (x == ("__debug__" : Str)) = false := by decide) :
    Pu c st (.Name x p) av := pu fun s hs => by
  obtain ⟨_, _, mg, mb, T⟩ := hs.ok.gr.T
  refine Name_function_global hs.ok.kind hk ?_ hd
  refine loadGlobal_global (mg := mg) ?_ (mg_of hs.ok.gr.X T.g (e c.w)) ⟨r, hs⟩
  rw [hs.ok.glob]; exact T.g.keeps hs.hp.keep
theorem Pu.blt {x : Str} {p : Pos} {v : Value} (e : ∀ w : World, nsIn (Kx w.params) mainGlobals x = some Option.none) (hv : bootBuiltins x = some v) (hn : x ≠ "__name__") (hk : c.env.kindOf x = some .globalImplicit) (hd : (x == ("__debug__" : Str)) = false := by decide) :
    Pu c st (.Name x p) (.raw v) := pu fun s hs => by
  obtain ⟨_, _, mg, mb, T⟩ := hs.ok.gr.T
  refine Name_function_global hs.ok.kind hk ?_ hd
  refine loadGlobal_builtin (mg := mg) (mb := mb) ?_ (mg_none_of hs.ok.gr.X T.g (e c.w)) ?_ ((T.builtins x hn).trans hv) ⟨rfl, hs⟩
  · rw [hs.ok.glob]; exact T.g.keeps hs.hp.keep
  · rw [hs.ok.blt]; exact T.b.keeps hs.hp.keep
theorem Pu.bin {l r : Expr} {op : Operator} {p : Pos} {a b v : AV} (o : Op2 c (binaryOp op) a b v) (hl : Pu c st l a) (hr : Pu c st r b) : Pu c st (.BinOp l op r p) v := pu fun s hs =>
  wpAny_BinOp (hl.run hs fun va s₁ ra h₁ => hr.run h₁ fun vb s₂ rb h₂ => o.go st s₂ va vb h₂ ra rb)
theorem op_int {f : Value → Value → Sem Value} {a b : Int} {v : AV} (h : ∀ (s : Shared) (t u : Tok) (Q : Value → Shared → Prop), (∀ x t' , v.is x → Q x { s with toks := t' }) → wpAny c.M c.A (f (.int a t) (.int b u)) Q NoE s) : Op2 c f (.int a) (.int b) v := by
  refine ⟨?_⟩; rintro st s _ _ hs ⟨t, rfl⟩ ⟨u, rfl⟩; exact h s t u _ fun x t' r => ⟨r, hs⟩
theorem Op2.add {a b : Int} : Op2 c (binaryOp .Add) (.int a) (.int b) (.int (a + b)) := op_int fun s t u Q k => add_int (k _ _ ⟨_, rfl⟩)
theorem Op2.sub {a b : Int} : Op2 c (binaryOp .Sub) (.int a) (.int b) (.int (a - b)) := op_int fun s t u Q k => sub_int' (k _ _ ⟨_, rfl⟩)
theorem Op2.mul {a b : Int} (hm : IntMulOk a b) : Op2 c (binaryOp .Mult) (.int a) (.int b) (.int (a * b)) := op_int fun s t u Q k => mul_int (k _ _ ⟨_, rfl⟩) hm
theorem Op2.fdiv {a b : Int} (hb : b ≠ 0) (hs' : Builtin.divisionGoesByPylong a b = false) : Op2 c (binaryOp .FloorDiv) (.int a) (.int b) (.int (a.fdiv b)) := op_int fun s t u Q k => floordiv_int hb (k _ _ ⟨_, rfl⟩) (.inl hs')
theorem Op2.fmod {a b : Int} (hb : b ≠ 0) : Op2 c (binaryOp .Mod) (.int a) (.int b) (.int (a.fmod b)) := op_int fun s t u Q k => mod_int' hb (k _ _ ⟨_, rfl⟩)
theorem Op2.band {a b : Int} : Op2 c (binaryOp .BitAnd) (.int a) (.int b) (.int (Builtin.bitAnd a b)) := op_int fun s t u Q k => and_int (k _ _ ⟨_, rfl⟩)
theorem Op2.bor {a b : Int} : Op2 c (binaryOp .BitOr) (.int a) (.int b) (.int (Builtin.bitOr a b)) := op_int fun s t u Q k => or_int (k _ _ ⟨_, rfl⟩)
theorem Op2.bxor {a b : Int} : Op2 c (binaryOp .BitXor) (.int a) (.int b) (.int (Builtin.bitXor a b)) := op_int fun s t u Q k => xor_int (k _ _ ⟨_, rfl⟩)
theorem Op2.pow {a n : Int} (hn : 0 ≤ n) (hn2 : n ≤ 1000000) (ha : a.natAbs < 2 ^ 64) : Op2 c (binaryOp .Pow) (.int a) (.int n) (.int (a ^ n.toNat)) := op_int fun s t u Q k => pow_int_small hn hn2 ha (k _ _ ⟨_, rfl⟩)
theorem Op2.shl {a n : Int} (hn : 0 ≤ n) (hn2 : n ≤ 1000000) (ha : a.natAbs < 2 ^ 64) : Op2 c (binaryOp .LShift) (.int a) (.int n) (.int (a * 2 ^ n.toNat)) := op_int fun s t u Q k => lshift_int_small hn hn2 ha (k _ _ ⟨_, rfl⟩)
theorem Op2.shr {a n : Int} (hn : 0 ≤ n) : Op2 c (binaryOp .RShift) (.int a) (.int n) (.int (a.fdiv (2 ^ n.toNat))) := op_int fun s t u Q k => rshift_int hn (k _ _ ⟨_, rfl⟩)
theorem Op2.eqI {a b : Int} : Op2 c (compareOp .Eq) (.int a) (.int b) (.bool (a == b)) := op_int fun s t u Q k => eq_int (k _ s.toks rfl)
theorem Op2.neI {a b : Int} : Op2 c (compareOp .NotEq) (.int a) (.int b) (.bool (a != b)) := op_int fun s t u Q k => ne_int (k _ s.toks rfl)
theorem Op2.ltI {a b : Int} : Op2 c (compareOp .Lt) (.int a) (.int b) (.bool (decide (a < b))) := op_int fun s t u Q k => lt_int (k _ s.toks rfl)
theorem Op2.geI {a b : Int} : Op2 c (compareOp .GtE) (.int a) (.int b) (.bool (decide (b ≤ a))) := op_int fun s t u Q k => ge_int (k _ s.toks rfl)
theorem Op2.cat {x y : Str} (hz : x.length + y.length ≤ sizeLine) : Op2 c (binaryOp .Add) (.str x) (.str y) (.str (x ++ y)) := by
  refine ⟨?_⟩; rintro st s _ _ hs ⟨t, rfl⟩ ⟨u, rfl⟩; exact add_str (fun _ _ => ⟨⟨_, rfl⟩, hs⟩) hz
theorem Op2.rep {x : Str} {n : Int} (h : MulOk x n) : Op2 c (binaryOp .Mult) (.str x) (.int n) (.str (Txt.mul x n)) := by
  refine ⟨?_⟩; rintro st s _ _ hs ⟨t, rfl⟩ ⟨u, rfl⟩; exact SB.mul h (fun _ _ => ⟨⟨_, rfl⟩, hs⟩)
theorem Pu.neg {e : Expr} {p : Pos} {a : Int} (h : Pu c st e (.int a)) : Pu c st (.UnaryOp .USub e p) (.int (-a)) := pu fun s hs =>
  wpAny_UnaryOp (h.run hs fun va s₁ ra h₁ => by obtain ⟨t, rfl⟩ := ra; exact neg_int ⟨⟨_, rfl⟩, h₁⟩)
end
/-- a pure test -/
structure Tt (c : Cx) (st : AS) (e : Expr) (b : Bool) : Prop where
  go : ∀ s, Sat c st s → wpAny c.M c.A (PySem.isTrue e c.env (eval e c.env)) (fun u s' => u = b ∧ Sat c st s') NoE s
/-- the truth of a plain value -/
structure Tv (c : Cx) (v : AV) (b : Bool) : Prop where
  go : ∀ (st : AS) s u, Sat c st s → v.is u → wpAny c.M c.A (truthy u) (fun x s' => x = b ∧ Sat c st s') NoE s
/-- the tests of an and, an or -/
structure Ta (c : Cx) (st : AS) (op : BoolOp) (es : List Expr) (b : Bool) : Prop where
  go : ∀ s, Sat c st s → wpAny c.M c.A (allTrue op es c.env) (fun u s' => u = b ∧ Sat c st s') NoE s
section
variable {c : Cx} {st : AS}
theorem Tt.wb {e : Expr} {b : Bool} {R : Bool → AS → Prop} (h : Tt c st e b) (k : R b st) : WB c st (PySem.isTrue e c.env (eval e c.env)) R :=
  ⟨fun s hs => wpAny_mono (h.go s hs) (fun _ _ x => ⟨b, st, x.1.symm, x.2, k⟩) fun _ _ x => x⟩
theorem Tv.bool {b : Bool} : Tv c (.bool b) b := by
  refine ⟨?_⟩; rintro st s _ hs rfl; exact wpAny_truthy_bool ⟨rfl, hs⟩
theorem Tv.none : Tv c .none false := by
  refine ⟨?_⟩; rintro st s _ hs rfl; exact truthy_none ⟨rfl, hs⟩
theorem Tt.plain {e : Expr} {v : AV} {b : Bool} (h : Pu c st e v) (t : Tv c v b)
    (hq : PySem.isTrue e c.env (eval e c.env) = (do let v ← eval e c.env; standAt e.pos; holding [v] (truthy v)) := by rfl) : Tt c st e b :=
  ⟨fun s hs => isTrue_plain (h.run hs fun u s₁ r h₁ => t.go st s₁ u h₁ r) hq⟩
theorem Tt.cmp {l r : Expr} {op : CmpOp} {p : Pos} {a b : AV} {v : Bool} (o : Op2 c (compareOp op) a b (.bool v)) (hl : Pu c st l a) (hr : Pu c st r b) (hm : behindInMarks op r = false := by rfl) :
    Tt c st (.Compare l [op] [r] p) v :=
  ⟨fun s hs => wpAny_isTrue_Compare1 (hl.run hs fun va s₁ ra h₁ => hr.run h₁ fun vb s₂ rb h₂ => o.run h₂ ra rb fun u s₃ ru h₃ => Tv.bool.go st s₃ u h₃ ru) hm⟩
theorem Tt.not {e : Expr} {p : Pos} {b : Bool} (h : Tt c st e b) : Tt c st (.UnaryOp .Not e p) (!b) :=
  ⟨fun s hs => wpAny_isTrue_Not (wpAny_mono (h.go s hs) (fun u s₁ x => ⟨congrArg _ x.1, x.2⟩) fun _ _ x => x)⟩
theorem Tt.ops {op : BoolOp} {es : List Expr} {p : Pos} {b : Bool} (h : Ta c st op es b) : Tt c st (.BoolOp op es p) b := ⟨fun s hs => wpAny_isTrue_BoolOp (h.go s hs)⟩
theorem Ta.and0 : Ta c st .And [] true := ⟨fun s hs => wpAny_allTrue_And_nil ⟨rfl, hs⟩⟩
theorem Ta.or0 : Ta c st .Or [] false := ⟨fun s hs => wpAny_allTrue_Or_nil ⟨rfl, hs⟩⟩
theorem Ta.andF {e : Expr} {es : List Expr} (h : Tt c st e false) : Ta c st .And (e :: es) false :=
  ⟨fun s hs => wpAny_allTrue_And_cons (wpAny_mono (h.go s hs) (fun u s₁ x => by rw [x.1, if_neg Bool.false_ne_true]; exact ⟨rfl, x.2⟩) fun _ _ x => x)⟩
theorem Ta.andT {e : Expr} {es : List Expr} {b : Bool} (h : Tt c st e true) (k : Ta c st .And es b) : Ta c st .And (e :: es) b :=
  ⟨fun s hs => wpAny_allTrue_And_cons (wpAny_mono (h.go s hs) (fun u s₁ x => by rw [x.1, if_pos rfl]; exact k.go s₁ x.2) fun _ _ x => x)⟩
theorem Ta.orT {e : Expr} {es : List Expr} (h : Tt c st e true) : Ta c st .Or (e :: es) true :=
  ⟨fun s hs => wpAny_allTrue_Or_cons (wpAny_mono (h.go s hs) (fun u s₁ x => by rw [x.1, if_pos rfl]; exact ⟨rfl, x.2⟩) fun _ _ x => x)⟩
theorem Ta.orF {e : Expr} {es : List Expr} {b : Bool} (h : Tt c st e false) (k : Ta c st .Or es b) : Ta c st .Or (e :: es) b :=
  ⟨fun s hs => wpAny_allTrue_Or_cons (wpAny_mono (h.go s hs) (fun u s₁ x => by rw [x.1, if_neg Bool.false_ne_true]; exact k.go s₁ x.2) fun _ _ x => x)⟩
/-- both tests are pure: an and of two -/
theorem Tt.and2 {e f : Expr} {p : Pos} {a b : Bool} (h : Tt c st e a) (k : a = true → Tt c st f b) : Tt c st (.BoolOp .And [e, f] p) (a && b) := by
  cases a with
  | false => exact .ops (.andF h)
  | true =>
    cases b with
    | false => exact .ops (.andT h (.andF (k rfl)))
    | true => exact .ops (.andT h (.andT (k rfl) .and0))
/-- statements -/
theorem WF.nil {R : AF → AS → Prop} (h : R .next st) : WF c st (execs [] c.env) R := ⟨fun s hs => wpAny_execs_nil ⟨.next, st, rfl, hs, h⟩⟩
/-- what lies behind a statement -/
def Then (c : Cx) (rest : List Stmt) (R : AF → AS → Prop) (f : AF) (st' : AS) : Prop := match f with
  | .next => WF c st' (execs rest c.env) R
  | f => R f st'
theorem WF.cons {x : Stmt} {rest : List Stmt} {R : AF → AS → Prop} (h : WF c st (exec x c.env) (Then c rest R)) : WF c st (execs (x :: rest) c.env) R :=
  ⟨fun s hs => wpAny_execs_cons (h.run hs fun fl s' f st' r q z => by
    cases f with
    | next => cases r; exact z.go s' q
    | brk => cases r; exact ⟨.brk, st', rfl, q, z⟩
    | cont => cases r; exact ⟨.cont, st', rfl, q, z⟩
    | ret a => obtain ⟨v, rfl, rv⟩ := r; exact ⟨.ret a, st', ⟨v, rfl, rv⟩, q, z⟩)⟩
def AS.put (st : AS) (i : Nat) (v : AV) : AS := { st with vs := st.vs.set i (some v) }
theorem NsIs.put {vars : List Str} {vs : List (Option AV)} {m : Str → Option Value} (hf : NsIs vars vs m) (nd : vars.Nodup) {i : Nat} {x : Str} {v : AV} {u : Value} (hx : vars[i]? = some x) (r : v.is u) :
    NsIs vars (vs.set i (some v)) (fun y => if y = x then some u else m y) := fun j y w hy hw => by
  rw [List.getElem?_set] at hw
  split at hw
  · subst_vars
    rw [hx] at hy; cases hy
    split at hw
    · cases hw; exact ⟨u, if_pos rfl, r⟩
    · cases hw
  · rename_i hij
    obtain ⟨u', e, r'⟩ := hf j y w hy hw
    exact ⟨u', (if_neg fun (z : y = x) => hij (nodup_idx nd hx (z ▸ hy))).trans e, r'⟩
theorem one_off {hb : Heap} {L : Addr} (h : hb.get? L = Option.none) : ∀ a ∈ [L], hb.get? a = Option.none := fun a ha => by rw [List.mem_singleton] at ha; rw [ha]; exact h
theorem one_away {nw : List (Addr × OP)} {L : Addr} (h : ∀ p ∈ nw, p.1 ≠ L) : ∀ p ∈ nw, p.1 ∉ [L] := fun p hp => by rw [List.mem_singleton]; exact h p hp
theorem WU.store {x : Str} {i : Nat} {v : AV} {u : Value} {R : Unit → AS → Prop} (r : v.is u) (hx : c.vars[i]? = some x) (k : R () (st.put i v)) : WU c st (storeName c.env x u) R := ⟨fun s hs => by
  obtain ⟨m, hm, hf⟩ := hs.ns
  exact wpAny_storeName_local (hs.ok.vloc hx).1 hm (fun h' hn hsb => ⟨(), st.put i v, trivial, ⟨hs.ok, hs.hp.off (one_off hs.ok.off) (one_away hs.away) (Kp.same hsb), ⟨_, hn, hf.put hs.ok.nd hx r⟩, hs.away, hs.gens, hs.os⟩, k⟩) (by rw [hs.ok.kind]; rfl)⟩
def AS.upd (st : AS) (j : Nat) (a : Addr) (P : OP) : AS := { st with nw := st.nw.set j (a, P) }
theorem away_set {nw : List (Addr × OP)} {i : Nat} {a L : Addr} {P P' : OP} (e : nw[i]? = some (a, P)) (h : ∀ p ∈ nw, p.1 ≠ L) : ∀ p ∈ nw.set i (a, P'), p.1 ≠ L := fun q hq => by
  have hq' : q.1 ∈ (nw.set i (a, P')).map (·.1) := List.mem_map_of_mem hq
  rw [map_fst_set e] at hq'
  obtain ⟨q₂, h2, e2⟩ := List.mem_map.mp hq'
  rw [← e2]; exact h q₂ h2
theorem SatH.upd {h h' : Heap} {g : Array GenState} {o : OsState} {i : Nat} {a : Addr} {P P' : OP} (hs : SatH c st h g o) (e : st.nw[i]? = some (a, P)) (hsb : Heap.SameBut a h h') (p : Bs h' a P') : SatH c (st.upd i a P') h' g o := by
  refine ⟨hs.ok, hs.hp.upd e hsb p, ?_, away_set e hs.away, hs.gens, hs.os⟩
  obtain ⟨m, hm', hf⟩ := hs.ns
  exact ⟨m, hm'.sameBut hsb (Ne.symm (hs.away _ (List.mem_of_getElem? e))), hf⟩
theorem WU.storeC {x : Str} {j : Nat} {a : Addr} {v₀ : Option AV} {v : AV} {u : Value} {R : Unit → AS → Prop} (r : v.is u) (hc : c.env.cells.lookup x = some a) (hv : st.nw[j]? = some (a, isCell v₀)) (hk : c.env.kindOf x = some .cell)
    (k : R () (st.upd j a (isCell (some v)))) : WU c st (storeName c.env x u) R := ⟨fun s hs => by
  obtain ⟨o, e, w, ew, _⟩ := hs.hp.get hv
  refine wpAny_storeName_cell hs.ok.kind hk hc ⟨o, e, ew⟩ fun h' hv' hsb => ?_
  obtain ⟨o', ho', hd'⟩ := hv'
  exact ⟨(), _, trivial, hs.upd hv hsb ⟨o', ho', _, hd', fun b eb => by cases eb; exact ⟨u, rfl, r⟩⟩, k⟩⟩
/-- a target: what a store into it needs, and what it makes of the state -/
structure Tg (c : Cx) (t : Expr) (f : AS → AV → AS) (ok : AS → Prop) : Prop where
  go : ∀ (st : AS) (v : AV) (u : Value) (R : Unit → AS → Prop), v.is u → ok st → R () (f st v) → WU c st (assign t c.env u) R
theorem Tg.loc {x : Str} {p : Pos} (i : Nat) (hx : c.vars[i]? = some x) : Tg c (.Name x p) (fun st v => st.put i v) fun _ => True :=
  ⟨fun st v u R r _ k => ⟨fun s hs => wpAny_assign_Name ((WU.store r hx k).go s hs)⟩⟩
theorem Tg.cel {x : Str} {p : Pos} {a : Addr} (j : Nat) (hc : c.env.cells.lookup x = some a) (hk : c.env.kindOf x = some .cell) : Tg c (.Name x p) (fun st v => st.upd j a (isCell (some v))) fun st => ∃ v₀, st.nw[j]? = some (a, isCell v₀) :=
  ⟨fun st v u R r o k => o.elim fun v₀ hv => ⟨fun s hs => wpAny_assign_Name ((WU.storeC r hc hv hk k).go s hs)⟩⟩
theorem WF.asg {x : Str} {p' p : Pos} {e : Expr} {f : AS → AV → AS} {ok : AS → Prop} {R : AF → AS → Prop} (t : Tg c (.Name x p') f ok) (h : WV c st (eval e c.env) fun v st₁ => ok st₁ ∧ R .next (f st₁ v))
    (hsw : swapsWith e (some (.Name x p')) p.line c.env = pure false := by rfl) : WF c st (exec (.Assign [.Name x p'] e p) c.env) R :=
  ⟨fun s hs => wpAny_Assign_stores (h.run hs fun u s₁ v st₁ r q z => by
    refine wpAny_mono ((t.go st₁ v u (fun _ st' => R .next st') r z.1 z.2).go s₁ q) (fun _ s₂ x => x.elim fun _ x => x.elim fun st₂ x => ⟨.next, st₂, rfl, x.2.1, x.2.2⟩) fun _ _ x => x) hsw rfl⟩
theorem WF.ret {e : Expr} {p : Pos} {R : AF → AS → Prop} (h : WV c st (eval e c.env) fun v st₁ => R (.ret v) st₁) : WF c st (exec (.Return (some e) p) c.env) R :=
  ⟨fun s hs => wpAny_Return_some (h.run hs fun u s₁ v st₁ r q z => ⟨.ret v, st₁, ⟨u, rfl, r⟩, q, z⟩)⟩
theorem WF.iff {t : Expr} {body orelse : List Stmt} {p : Pos} {R : AF → AS → Prop} (h : WB c st (PySem.isTrue t c.env (eval t c.env)) fun b st₁ => WF c st₁ (execs (bif b then body else orelse) c.env) R) :
    WF c st (exec (.If t body orelse p) c.env) R :=
  ⟨fun s hs => wpAny_If (h.run hs fun u s₁ b st₁ r q z => by
    subst r
    cases b with
    | true => rw [if_pos rfl]; exact z.go s₁ q
    | false => rw [if_neg Bool.false_ne_true]; exact z.go s₁ q)⟩
theorem WF.ifT {t : Expr} {body orelse : List Stmt} {p : Pos} {R : AF → AS → Prop} (h : Tt c st t true) (z : WF c st (execs body c.env) R) : WF c st (exec (.If t body orelse p) c.env) R := .iff (h.wb z)
theorem WF.ifF {t : Expr} {body orelse : List Stmt} {p : Pos} {R : AF → AS → Prop} (h : Tt c st t false) (z : WF c st (execs orelse c.env) R) : WF c st (exec (.If t body orelse p) c.env) R := .iff (h.wb z)
theorem WF.ifB {t : Expr} {body orelse : List Stmt} {p : Pos} {b : Bool} {R : AF → AS → Prop} (h : Tt c st t b) (z : b = true → WF c st (execs body c.env) R) (z' : b = false → WF c st (execs orelse c.env) R) : WF c st (exec (.If t body orelse p) c.env) R := by
  cases b with
  | true => exact .ifT h (z rfl)
  | false => exact .ifF h (z' rfl)
theorem WF.expr {e : Expr} {p : Pos} {R : AF → AS → Prop} (h : WV c st (eval e c.env) fun v st₁ => R .next st₁) (hi : swapsWith e none p.line c.env = pure false := by rfl) : WF c st (exec (.Expr e p) c.env) R :=
  ⟨fun s hs => wpAny_Expr_any (h.run hs fun u s₁ v st₁ r q z => ⟨.next, st₁, rfl, q, z⟩) (by unfold interactive; rw [hs.ok.kind]; rfl) hi⟩
theorem WF.brk {p : Pos} {R : AF → AS → Prop} (h : R .brk st) : WF c st (exec (.Break p) c.env) R := ⟨fun s hs => wpAny_Break ⟨.brk, st, rfl, hs, h⟩⟩
theorem WV.bin {l r : Expr} {op : Operator} {p : Pos} {R : AV → AS → Prop} (h : WV c st (eval l c.env) fun a st₁ => WV c st₁ (eval r c.env) fun b st₂ => ∀ va vb, a.is va → b.is vb → WV c st₂ (binaryOp op va vb) R) :
    WV c st (eval (.BinOp l op r p) c.env) R :=
  ⟨fun s hs => wpAny_BinOp (h.run hs fun va s₁ a st₁ ra h₁ k => k.run h₁ fun vb s₂ b st₂ rb h₂ k₂ => (k₂ va vb ra rb).go s₂ h₂)⟩
theorem Op2.wv {f : Value → Value → Sem Value} {a b v : AV} {R : AV → AS → Prop} (o : Op2 c f a b v) (k : R v st) (va vb : Value) (ra : a.is va) (rb : b.is vb) : WV c st (f va vb) R :=
  ⟨fun s hs => o.run hs ra rb fun u s' r q => ⟨v, st, r, q, k⟩⟩
end
/-- what a call does, for any state over a base and a ledger -/
structure Sp (w : World) (A : Around) (hb : Heap) (nw : List (Addr × OP)) (t : Sem Value) (R : AV → List (Addr × OP) → Prop) : Prop where
  go : ∀ s, Hp hb nw s.heap → wpAny (model Pg w) A t (fun v s' => ∃ av nw', av.is v ∧ Hp hb nw' s'.heap ∧ s'.gens = s.gens ∧ s'.os = s.os ∧ R av nw') NoE s
theorem Sp.mono {w : World} {A : Around} {hb : Heap} {nw : List (Addr × OP)} {t : Sem Value} {R R' : AV → List (Addr × OP) → Prop} (h : Sp w A hb nw t R) (k : ∀ a n, R a n → R' a n) : Sp w A hb nw t R' :=
  ⟨fun s hs => wpAny_mono (h.go s hs) (fun _ _ x => x.elim fun a x => x.elim fun n x => ⟨a, n, x.1, x.2.1, x.2.2.1, x.2.2.2.1, k a n x.2.2.2.2⟩) fun _ _ x => x⟩
section
variable {c : Cx} {st : AS}
/-- a call: the ledger's part nwM is the callee's to change, the rest is base to it -/
theorem WV.callG {t : Sem Value} {R : AV → AS → Prop} {nwM rest : List (Addr × OP)} (hp : (rest ++ nwM).Perm st.nw)
    (h : ∀ hbC, Gr c.w hbC → (∀ b o, c.hb.get? b = some o → hbC.get? b = some o) → (∀ p ∈ rest, Bs hbC p.1 p.2) → Sp c.w c.A hbC nwM t fun av nw' => R av { st with nw := rest ++ nw' }) : WV c st t R := ⟨fun s hs => by
  have H := hs.hp.perm hp
  have nd := H.nd
  rw [List.map_append] at nd
  obtain ⟨nd1, nd2, nd3⟩ := List.nodup_append.mp nd
  have HM := H.sub (List.sublist_append_right rest nwM)
  have kp := HM.freeze_keep
  have hr : ∀ p ∈ rest, Bs (hideAll s.heap (nwM.map (·.1))) p.1 p.2 := fun p hp' =>
    (H.at' p (List.mem_append_left _ hp')).2.elim fun o x => ⟨o, hideAll_get _ x.1 fun q => nd3 _ (List.mem_map_of_mem hp') _ q rfl, x.2⟩
  obtain ⟨m, hm, hf⟩ := hs.ns
  obtain ⟨oL, es, ep, hL, r1⟩ := hm
  have hLC : (hideAll s.heap (nwM.map (·.1))).get? c.env.locals = some oL := hideAll_get _ hL fun q => by
    obtain ⟨p, hp', e'⟩ := List.mem_map.mp q
    exact hs.away p (hp.mem_iff.mp (List.mem_append_right _ hp')) e'
  refine wpAny_mono ((h _ (hs.ok.gr.keeps kp) kp hr).go s HM.freeze) (fun v s' x => ?_) fun _ _ x => x
  obtain ⟨av, nw', r, H', eg, eo, z⟩ := x
  have ne : ∀ p ∈ nw', ∀ b o, (hideAll s.heap (nwM.map (·.1))).get? b = some o → p.1 ≠ b := fun p hp' b o e e' => nomatch (e'.symm ▸ e).symm.trans (H'.at' p hp').1
  refine ⟨av, { st with nw := rest ++ nw' }, r, ⟨hs.ok, ⟨fun b o e => H'.keep b o (kp b o e), fun p hp' => ?_, ?_⟩, ⟨m, ⟨oL, es, ep, H'.keep _ _ hLC, r1⟩, hf⟩, fun p hp' => ?_, eg.trans hs.gens, eo.trans hs.os⟩, z⟩
  · rcases List.mem_append.mp hp' with q | q
    · exact ⟨(H.at' p (List.mem_append_left _ q)).1, H'.bs (hr p q)⟩
    · exact ⟨none_of fun o e => ne p q _ _ (kp _ _ e) rfl, (H'.at' p q).2⟩
  · show ((rest ++ nw').map (·.1)).Nodup
    rw [List.map_append]
    refine List.nodup_append.mpr ⟨nd1, H'.nd, fun a ha b hb' e => ?_⟩
    obtain ⟨p, hp', rfl⟩ := List.mem_map.mp ha
    obtain ⟨p', hp'', rfl⟩ := List.mem_map.mp hb'
    exact (hr p hp').elim fun o x => ne p' hp'' _ _ x.1 e.symm
  · rcases List.mem_append.mp hp' with q | q
    · exact hs.away p (hp.mem_iff.mp (List.mem_append_left _ q))
    · exact ne p q _ _ hLC⟩
theorem WV.call0 {t : Sem Value} {R : AV → AS → Prop}
    (h : ∀ hbC, Gr c.w hbC → (∀ b o, c.hb.get? b = some o → hbC.get? b = some o) → (∀ p ∈ st.nw, Bs hbC p.1 p.2) → Sp c.w c.A hbC [] t fun av nw' => R av { st with nw := st.nw ++ nw' }) : WV c st t R :=
  WV.callG (nwM := []) (rest := st.nw) (by rw [List.append_nil]) h
end
def AF.val : AF → AV
  | .ret v => v
  | _ => .none
def flv : Flow → Value
  | .ret v => v
  | _ => .none
theorem AF.val_is {f : AF} {fl : Flow} (r : f.is fl) : f.val.is (flv fl) := by
  cases f with
  | next => cases r; exact rfl
  | brk => cases r; exact rfl
  | cont => cases r; exact rfl
  | ret a => obtain ⟨v, rfl, h⟩ := r; exact h
/-- the looks at a def that its call asks: by evaluation -/
def defOk (scope : Scope) (ps vars : List Str) : Bool := !scope.isCoroutine && !scope.isGenerator && scope.kind == .function && varsOk scope.names vars && ps.all fun x => scope.names.lookup x == some .local || scope.names.lookup x == some .cell
theorem defOk.parts {scope : Scope} {ps vars : List Str} (h : defOk scope ps vars = true) : scope.isCoroutine = false ∧ scope.isGenerator = false ∧ scope.kind = .function ∧ varsOk scope.names vars = true ∧ (ps.all fun x => scope.names.lookup x == some .local || scope.names.lookup x == some .cell) = true := by
  unfold defOk at h
  obtain ⟨h, h5⟩ := Bool.and_eq_true_iff.mp h
  obtain ⟨h, h4⟩ := Bool.and_eq_true_iff.mp h
  obtain ⟨h, h3⟩ := Bool.and_eq_true_iff.mp h
  obtain ⟨h1, h2⟩ := Bool.and_eq_true_iff.mp h
  exact ⟨by rwa [Bool.not_eq_true'] at h1, by rwa [Bool.not_eq_true'] at h2, eq_of_beq h3, h4, h5⟩
/-- the same of a code, as a call runs it -/
structure SpC (w : World) (A : Around) (hb : Heap) (nw : List (Addr × OP)) (cd : Code) (R : AV → List (Addr × OP) → Prop) : Prop where
  go : ∀ s, Hp hb nw s.heap → codeAny (model Pg w) A cd (fun r s' => match r with
    | .ok (.ret v) => ∃ av nw', av.is v ∧ Hp hb nw' s'.heap ∧ s'.gens = s.gens ∧ s'.os = s.os ∧ R av nw'
    | .ok _ => False
    | .error e => NoE e s') s
theorem SpC.sp {w : World} {A : Around} {hb : Heap} {nw : List (Addr × OP)} {f : Value} {pos : List Value} {kw : List (Str × Value)} {R : AV → List (Addr × OP) → Prop} (h : SpC w A hb nw (.call f ⟨pos, kw⟩) R) : Sp w A hb nw (call f pos kw) R := ⟨fun s H => wpAny_call (h.go s H)⟩
section
variable {w : World} {A : Around} {hb : Heap} {nw : List (Addr × OP)} {R : AV → List (Addr × OP) → Prop} {n : Nat}
  {name qual : Str} {params : Arguments} {body : List Stmt} {scope : Scope} {dV kV doc pm cdv ct oc : Value} {an od : Option Addr} {osl : Array (Option Value)} {f : Addr} {pos : List Value} {kw : List (Str × Value)} {binds : List (Str × Value)}
/-- the body of a def, entered: its cells are laid into the ledger -/
theorem SpC.enter {vars : List Str} {vs : List (Option AV)} (ent : Addr → List (Addr × OP)) (G : Gr w hb) (r : Rm A (n + 2))
    {ob : Obj} (ho : hb.get? f = some ob) (hod : ob.data = .func (fnOf name qual params body scope dV kV doc pm an cdv ct)) (hcd : hb.CodeRec cdv qual)
    (hbind : ∀ s : Shared, (∀ b o, hb.get? b = some o → s.heap.get? b = some o) → BindsTo s (fnOf name qual params body scope dV kV doc pm an cdv ct) ⟨pos, kw⟩ binds)
    (hok : defOk scope (binds.map (·.1)) vars = true)
    (hv : NsIs vars vs (bindL (fun y => scope.names.lookup y) binds fun _ => none))
    (hent : ∀ L, ((ent L).map (·.1)).Nodup ∧ ∀ p ∈ ent L, ∃ x a, (cellsFrom (L + 1) scope.names []).lookup x = some p.1 ∧ p.2 = isCell a ∧ cellIs a (bindC (fun y => scope.names.lookup y) binds (fun _ => none) x))
    (h : ∀ L g o, WF ⟨w, A.deeper (envOfC qual scope L f cdv), n, hb, g, o, envOfC qual scope L f cdv, vars⟩ ⟨vs, nw ++ ent L⟩ (execs body (envOfC qual scope L f cdv)) fun fl st' => ∃ nw', nw'.Sublist st'.nw ∧ R fl.val nw') :
    SpC w A hb nw (.call (.ref f) ⟨pos, kw⟩) R := ⟨fun s H => by
  obtain ⟨hco, hgen, hk, hvars, hps⟩ := defOk.parts hok
  rw [List.all_map] at hps
  refine codeAny_call_function (fd := fnOf name qual params body scope dV kV doc pm an cdv ct) r.lim (H.keep _ _ ho) hod hco hgen rfl (hcd.keeps H.keep) (hbind s H.keep _ _ _ _ ?_)
  refine wpAny_newFunctionEnv_cells hk (kindsX hps _) fun env' he s' x => ?_
  subst he
  refine ⟨(G.nolimit.keeps H.keep).keeps x.toInCall.keep, codeAny_func ?_⟩
  obtain ⟨h₁, tk, rfl, _⟩ := x.done
  have hk₁ := x.toInCall.keep
  have hns := x.toInCall.ns
  obtain ⟨en, ee⟩ := hent s.heap.objs.size
  have ec : ∀ p ∈ ent s.heap.objs.size, s.heap.objs.size < p.1 ∧ Bs h₁ p.1 p.2 := fun p hp => by
    obtain ⟨n', a, hl, hi, hb'⟩ := ee p hp
    obtain ⟨o, ho', hd'⟩ := x.cell n' p.1 hl
    exact ⟨x.above n' p.1 (mem_of_lookup hl), o, ho', hi ▸ ⟨_, hd', hb'⟩⟩
  have H0 := H.grow hk₁
  have H₁ : Hp hb (nw ++ ent s.heap.objs.size) h₁ := by
    refine ⟨H0.keep, fun p hp => ?_, ?_⟩
    · rcases List.mem_append.mp hp with q | q
      · exact H0.at' p q
      · exact ⟨none_of fun o e => Nat.lt_irrefl _ (Nat.lt_trans (ec p q).1 (Heap.lt_size (H.keep _ _ e))), (ec p q).2⟩
    · rw [List.map_append]
      refine List.nodup_append.mpr ⟨H.nd, en, fun a ha b hb' e => ?_⟩
      obtain ⟨p, hp', rfl⟩ := List.mem_map.mp ha
      obtain ⟨p', hp'', rfl⟩ := List.mem_map.mp hb'
      exact Nat.lt_irrefl _ (Nat.lt_trans (H.lt hp') (e ▸ (ec p' hp'').1))
  refine wpAny_mono ((h s.heap.objs.size s.gens s.os).go _ ⟨⟨G, hk, rfl, rfl, hvars, H.fresh, r.deeper _⟩, H₁, ⟨_, hns, hv⟩, fun p hp => ?_, rfl, rfl⟩) (fun fl s' x => ?_) fun _ _ x => x.elim
  · rcases List.mem_append.mp hp with q | q
    · exact Nat.ne_of_lt (H.lt q)
    · exact Nat.ne_of_gt (ec p q).1
  · obtain ⟨af, st', rf, q, nw', hsub, z⟩ := x
    exact ⟨af.val, nw', AF.val_is rf, q.hp.sub hsub, q.gens, q.os, z⟩⟩
end
section
variable {c : Cx} {st : AS}
/-- arguments, items of a display -/
abbrev WA (c : Cx) (st : AS) (pos : Pos) (es : List Expr) (R : List AV → AS → Prop) : Prop := WL c st (spliced (backTo pos (starEach es c.env))) R
theorem WA.nil {p : Pos} {R : List AV → AS → Prop} (h : R [] st) : WA c st p [] R := ⟨fun s hs => args_nil ⟨[], st, .nil, hs, h⟩⟩
theorem WA.cons {p : Pos} {e : Expr} {es : List Expr} {R : List AV → AS → Prop} (h : WV c st (eval e c.env) fun a st₁ => WA c st₁ p es fun as st₂ => R (a :: as) st₂)
    (he : starEach (e :: es) c.env = (false, eval e c.env) :: starEach es c.env := by rfl) : WA c st p (e :: es) R :=
  ⟨fun s hs => args_cons (h.run hs fun u s₁ a st₁ r q z => z.run q fun us s₂ as st₂ rs q₂ z₂ => ⟨a :: as, st₂, .cons r rs, q₂, z₂⟩) he⟩
/-- calls of a def of the text, of a built-in function, of a built-in class -/
theorem WV.callN {x : Str} {np pos : Pos} {e : Expr} {es : List Expr} {f : Addr} {R : AV → AS → Prop} (hf : Pu c st (.Name x np) (.ref f)) (hk : ∀ w : World, keepIn (Kx w.params) (.ref f) = true)
    (h : WA c st pos (e :: es) fun as st₁ => ∀ vs, AVs as vs → WV c st₁ (call (.ref f) vs) R)
    (he : starEach (e :: es) c.env = (false, eval e c.env) :: starEach es c.env := by rfl) (hp : (backTo pos (starEach es c.env)).any (·.1) = false := by rfl) : WV c st (eval (.Call (.Name x np) (e :: es) [] pos) c.env) R :=
  ⟨fun s hs => wpAny_Call_ofName (hf.run hs fun u s₁ r h₁ => by
    cases r
    exact callWith_K (first := []) hs.ok.gr.X (hk c.w) (h.run h₁ fun us s₂ as st₂ rs q₂ z₂ => ⟨q₂.ok.gr.X.keeps q₂.hp.keep, (z₂ us rs).go s₂ q₂⟩) he hp)⟩
theorem WV.callB {x : Str} {np pos : Pos} {e : Expr} {es : List Expr} {id : String} {R : AV → AS → Prop} (hf : Pu c st (.Name x np) (.raw (.builtin id)))
    (h : WA c st pos (e :: es) fun as st₁ => ∀ vs, AVs as vs → WV c st₁ (call (.builtin id) vs) R)
    (he : starEach (e :: es) c.env = (false, eval e c.env) :: starEach es c.env := by rfl) (hp : (backTo pos (starEach es c.env)).any (·.1) = false := by rfl) : WV c st (eval (.Call (.Name x np) (e :: es) [] pos) c.env) R :=
  ⟨fun s hs => wpAny_Call_ofName (hf.run hs fun u s₁ r h₁ => by
    cases r
    exact callWith_builtin1 (h.run h₁ fun us s₂ as st₂ rs q₂ z₂ => (z₂ us rs).go s₂ q₂) he hp)⟩
theorem WV.callT {x : Str} {np pos : Pos} {e : Expr} {es : List Expr} {T : String} {R : AV → AS → Prop} (hf : Pu c st (.Name x np) (.raw (.type T)))
    (h : WA c st pos (e :: es) fun as st₁ => ∀ vs, AVs as vs → WV c st₁ (call (.type T) vs) R)
    (he : starEach (e :: es) c.env = (false, eval e c.env) :: starEach es c.env := by rfl) (hp : (backTo pos (starEach es c.env)).any (·.1) = false := by rfl) : WV c st (eval (.Call (.Name x np) (e :: es) [] pos) c.env) R :=
  ⟨fun s hs => wpAny_Call_ofName (hf.run hs fun u s₁ r h₁ => by
    cases r
    exact callWith_type1 (h.run h₁ fun us s₂ as st₂ rs q₂ z₂ => (z₂ us rs).go s₂ q₂) he hp)⟩
/-- a method of a built-in class -/
structure Gm (c : Cx) (st : AS) (a : AV) (name : Str) (id : String) : Prop where
  go : ∀ s u (pl : Sem Bool) (Q : Value × List Value → Shared → Prop), Sat c st s → a.is u → Q (.builtin id, [u]) s → wpAny c.M c.A (getMethod u name pl) Q NoE s
theorem WV.meth {o : Expr} {name : Str} {apos pos : Pos} {e : Expr} {es : List Expr} {id : String} {R : AV → AS → Prop} {pl : Sem Bool}
    (h : WV c st (eval o c.env) fun a st₁ => Gm c st₁ a name id ∧ WA c st₁ pos (e :: es) fun as st₂ => ∀ u vs, a.is u → AVs as vs → WV c st₂ (call (.builtin id) (u :: vs)) R)
    (he' : eval (.Call (.Attribute o name apos) (e :: es) [] pos) c.env = (do
      let ov ← eval o c.env
      standAt apos.atName
      let (f, first) ← holding [ov] (getMethod ov name pl)
      callWith pos f first (backTo pos (starEach (e :: es) c.env)) []) := by rfl)
    (he : starEach (e :: es) c.env = (false, eval e c.env) :: starEach es c.env := by rfl) (hp : (backTo pos (starEach es c.env)).any (·.1) = false := by rfl) : WV c st (eval (.Call (.Attribute o name apos) (e :: es) [] pos) c.env) R :=
  ⟨fun s hs => MethodCall_ (h.run hs fun u s₁ a st₁ r h₁ z => z.1.go s₁ u pl _ h₁ r (callWith_method1 (z.2.run h₁ fun us s₂ as st₂ rs q₂ z₂ => (z₂ u us r rs).go s₂ q₂) he hp)) he'⟩
theorem SatH.push {h : Heap} {g : Array GenState} {o : OsState} (hs : SatH c st h g o) {ob : Obj} {P : OP} (hf : ob.isFreed = false) (p : P ob) : SatH c { st with nw := st.nw ++ [(h.objs.size, P)] } (h.push ob) g o := by
  obtain ⟨m, hm, hn⟩ := hs.ns
  refine ⟨hs.ok, hs.hp.push hf p, ⟨m, hm.push _, hn⟩, fun q hq => ?_, hs.gens, hs.os⟩
  rcases List.mem_append.mp hq with hq | hq
  · exact hs.away q hq
  · rw [List.mem_singleton] at hq; subst hq
    exact Nat.ne_of_gt hm.lt
def AS.new (st : AS) (a : Addr) (P : OP) : AS := { st with nw := st.nw ++ [(a, P)] }
theorem WV.newList {as : List AV} {vs : List Value} {R : AV → AS → Prop} (r : AVs as vs) (hz : as.length ≤ sizeLine) (k : ∀ a, R (.ref a) (st.new a (isList as))) : WV c st (newList vs) R :=
  ⟨fun s hs => wpAny_newObj_type ⟨.ref _, _, rfl, hs.push rfl ⟨_, _, rfl, r⟩, k _⟩ (by show vs.toArray.size ≤ sizeLine; rw [List.size_toArray, r.len]; exact hz)⟩
theorem WV.newTup {as : List AV} {vs : List Value} {R : AV → AS → Prop} (r : AVs as vs) (hz : as.length ≤ sizeLine) (k : ∀ a, R (.ref a) (st.new a (isTup as))) : WV c st (newTuple vs) R :=
  ⟨fun s hs => wpAny_newObj_type ⟨.ref _, _, rfl, hs.push rfl ⟨_, _, rfl, r⟩, k _⟩ (by show vs.toArray.size ≤ sizeLine; rw [List.size_toArray, r.len]; exact hz)⟩
theorem small_fits {α : Type} {l : List α} (h : l.length ≤ 1000) : l.length ≤ sizeLine := Nat.le_trans h (by decide)
theorem WV.list {es : List Expr} {p : Pos} {R : AV → AS → Prop} (h : WA c st p es fun as st₁ => as.length ≤ 1000 ∧ ∀ a, R (.ref a) (st₁.new a (isList as))) : WV c st (eval (.List es p) c.env) R :=
  ⟨fun s hs => List_ (h.run hs fun us s₁ as st₁ rs q z => (WV.newList rs (small_fits z.1) z.2).go s₁ q)⟩
theorem WV.tup {es : List Expr} {n : Nat} {p : Pos} {R : AV → AS → Prop} (h : WA c st p es fun as st₁ => as.length ≤ 1000 ∧ ∀ a, R (.ref a) (st₁.new a (isTup as))) : WV c st (eval (.Tuple es n p) c.env) R :=
  ⟨fun s hs => Tuple_ (h.run hs fun us s₁ as st₁ rs q z => (WV.newTup rs (small_fits z.1) z.2).go s₁ q)⟩
/-- a list, as it is read -/
def isListW (xs : List AV) : OP := fun o => ∃ vs n, o.cls = .type "list" ∧ o.data = .seq vs n ∧ AVs xs vs.toList
theorem listW {xs : List AV} {h : Heap} {a : Addr} (b : Bs h a (isList xs)) : Bs h a (isListW xs) := by
  obtain ⟨o, e, vs, n, rfl, r⟩ := b
  exact ⟨_, e, vs, n, rfl, rfl, r⟩
theorem Bs.isL {xs : List AV} {h : Heap} {a : Addr} (b : Bs h a (isListW xs)) : ∃ vs : Array Value, h.IsList a vs ∧ AVs xs vs.toList := by
  obtain ⟨o, e, vs, n, hc, hd, r⟩ := b
  exact ⟨vs, ⟨o, e, hc, n, hd⟩, r⟩
/-- where an object is: in the base or in the ledger -/
def In (c : Cx) (st : AS) (a : Addr) (P : OP) : Prop := ∀ h, Hp c.hb st.nw h → Bs h a P
theorem In.base {a : Addr} {P : OP} (b : Bs c.hb a P) : In c st a P := fun h H => H.bs b
theorem In.led {a : Addr} {P : OP} (i : Nat) (e : st.nw[i]? = some (a, P)) : In c st a P := fun h H => H.get e
theorem In.w {a : Addr} {xs : List AV} (b : In c st a (isList xs)) : In c st a (isListW xs) := fun h H => listW (b h H)
theorem AVs.getA {xs : List AV} {vs : Array Value} (h : AVs xs vs.toList) {i : Nat} {a : AV} (e : xs[i]? = some a) : ∃ v, vs[i]? = some v ∧ a.is v := by
  obtain ⟨v, e', r⟩ := h.get e
  exact ⟨v, by rw [← Array.getElem?_toList]; exact e', r⟩
/-- xs[k] of a list -/
theorem Pu.item {value slice : Expr} {p : Pos} {l : Addr} {xs : List AV} {k : Int} {v : AV} (hv : Pu c st value (.ref l)) (hk : Pu c st slice (.int k)) (b : In c st l (isListW xs)) (h0 : 0 ≤ k) (hfit : k < 2 ^ 63) (hx : xs[k.toNat]? = some v)
    (hs' : ∀ u, subscripted slice false (.ref l) (.int k u) = operate [.ref l, .int k u] (getItem (.ref l) (.int k u)) := by intro u; rfl) : Pu c st (.Subscript value slice p) v := pu fun s hs =>
  Subscript_ (hv.run hs fun ov s₁ ro h₁ => hk.run h₁ fun iv s₂ ri h₂ => by
    cases ro
    obtain ⟨u, rfl⟩ := ri
    obtain ⟨vs, hl, r⟩ := (b _ h₂.hp).isL
    obtain ⟨x, ex, rx⟩ := r.getA hx
    exact tail_any hl.typeIs slot_list_getitem.lookup (wpAny_getItem_list hl h0 hfit ex ⟨rx, h₂⟩) (hs' u))
theorem WV.len {l : Addr} {xs : List AV} {R : AV → AS → Prop} (b : In c st l (isListW xs)) (hz : xs.length ≤ 1000000) (k : R (.int xs.length) st) : WV c st (call (.builtin "len") [.ref l]) R := ⟨fun s hs => by
  obtain ⟨vs, hl, r⟩ := (b _ hs.hp).isL
  have hn : vs.size = xs.length := by rw [← r.len, Array.length_toList]
  refine call_function_entry kind_len plain_len entry_len (args_len1 _) (wpAny_len_body_list hl ?_ ?_)
  · rw [hn]; omega
  · exact ⟨.int vs.size, st, ⟨_, rfl⟩, hs, by rw [hn]; exact k⟩⟩
end
/-- a state that says less -/
structure Wk (st st' : AS) : Prop where
  vs : ∀ (i : Nat) (v : AV), st'.vs[i]? = some (some v) → st.vs[i]? = some (some v)
  nw : st'.nw.Sublist st.nw
theorem Wk.refl {st : AS} : Wk st st := ⟨fun _ _ e => e, .refl _⟩
theorem Wk.sat {c : Cx} {st st' : AS} {h : Heap} {g : Array GenState} {o : OsState} (k : Wk st st') (hs : SatH c st h g o) : SatH c st' h g o :=
  ⟨hs.ok, hs.hp.sub k.nw, hs.ns.elim fun m x => ⟨m, x.1, fun i y v hy hv => x.2 i y v hy (k.vs i v hv)⟩, fun p hp => hs.away p (k.nw.subset hp), hs.gens, hs.os⟩
/-- the end of a loop's turn -/
def LoopR (I : AS → Prop) (R : AF → AS → Prop) (f : AF) (st : AS) : Prop := match f with
  | .next => ∃ st', Wk st st' ∧ I st'
  | .cont => ∃ st', Wk st st' ∧ I st'
  | .brk => R .next st
  | .ret v => R (.ret v) st
section
variable {c : Cx} {st : AS}
theorem no_noted {M : Model} {A : Around} {env : Env} {E : Value → Shared → Prop} : ∀ e s, NoE e s → notedBy M A env E e s := fun _ _ x => x.elim
theorem WF.while {test : Expr} {body orelse : List Stmt} {p : Pos} {R : AF → AS → Prop} (I : Nat → AS → Prop) (n : Nat) (h0 : I n st)
    (turn : ∀ n st', I n st' → WB c st' (PySem.isTrue test c.env (eval test c.env)) fun b st₁ => cond b (WF c st₁ (execs body c.env) (LoopR (fun st₂ => ∃ m, m < n ∧ I m st₂) R)) (WF c st₁ (execs orelse c.env) R)) :
    WF c st (exec (.While test body orelse p) c.env) R := ⟨fun s hs => by
  refine wpAny_While (codeAny_whileLoop (fun n s => ∃ st', I n st' ∧ Sat c st' s) (fun n s x => ?_) n ⟨st, h0, hs⟩)
  obtain ⟨st', hI, hs'⟩ := x
  refine wpAny_mono ((turn n st' hI).run hs' (Q := fun b s₂ => if b = true then _ else _) fun b s₂ b' st₁ r q z => ?_) (fun _ _ x => x) no_noted
  · subst r
    cases b' with
    | true =>
      rw [if_pos rfl]
      refine wpAny_mono (z.run q fun fl s₃ f st₂ rf q₂ z₂ => ?_) (fun _ _ x => x) no_noted
      cases f with
      | next => cases rf; obtain ⟨st₃, k, m, hm, hI'⟩ := z₂; exact ⟨m, hm, st₃, hI', k.sat q₂⟩
      | cont => cases rf; obtain ⟨st₃, k, m, hm, hI'⟩ := z₂; exact ⟨m, hm, st₃, hI', k.sat q₂⟩
      | brk => cases rf; exact ⟨.next, st₂, rfl, q₂, z₂⟩
      | ret a => obtain ⟨v, rfl, rv⟩ := rf; exact ⟨.ret a, st₂, ⟨v, rfl, rv⟩, q₂, z₂⟩
    | false =>
      rw [if_neg Bool.false_ne_true]
      exact wpAny_mono (z.run q fun fl s₃ f st₂ rf q₂ z₂ => ⟨f, st₂, rf, q₂, z₂⟩) (fun _ _ x => x) no_noted⟩
end
/-- an iterator: its state, what it hands out -/
structure It (w : World) (A : Around) (tgt : Expr) (I : Addr) (fp wr : List Addr) (n : Nat) (St : Nat → Heap → Prop) (Val : Nat → Value → Heap → Prop) : Prop where
  sub : ∀ b ∈ wr, b ∈ fp
  dom : ∀ i h, St i h → ∀ b ∈ fp, ∃ o, h.get? b = some o
  frame : ∀ i h h', St i h → (∀ b ∈ fp, ∀ o, h.get? b = some o → h'.get? b = some o) → St i h'
  item : ∀ i (s : Shared) (Q : Option Value → Shared → Prop), i < n → St i s.heap →
    (∀ v h' tk, (∀ (s₁ : Shared) (Q' : Unit → Shared → Prop), s₁.heap = h' → (∀ h'', Val i v h'' → St (i + 1) h'' → Kp wr h' h'' → Q' () { s₁ with heap := h'' }) → wpAny (model Pg w) A (letOwnedTupleGo tgt (.ref I) v) Q' NoE s₁) → Kp wr s.heap h' → Q (some v) { s with heap := h', toks := tk }) → wpAny (model Pg w) A (pyNext (.ref I)) Q NoE s
  done : ∀ (s : Shared) (Q : Option Value → Shared → Prop), St n s.heap → (∀ h' tk, Kp wr s.heap h' → Q none { s with heap := h', toks := tk }) → wpAny (model Pg w) A (pyNext (.ref I)) Q NoE s
  self : ∀ i (s : Shared) (Q : Value → Shared → Prop), St i s.heap → Q (.ref I) s → wpAny (model Pg w) A (pyIter (.ref I)) Q NoE s
/-- the same place over a larger base -/
abbrev Cx.on (c : Cx) (hb : Heap) : Cx := { c with hb := hb }
theorem SatH.off {c : Cx} {st : AS} {h h' : Heap} {g : Array GenState} {o : OsState} (hs : SatH c st h g o) {wr : List Addr} (ha : ∀ a ∈ wr, c.hb.get? a = none) (hn : ∀ p ∈ st.nw, p.1 ∉ wr) (hL : c.env.locals ∉ wr) (k : Kp wr h h') : SatH c st h' g o := by
  obtain ⟨m, ⟨oL, es, ep, e, r⟩, hf⟩ := hs.ns
  exact ⟨hs.ok, hs.hp.off ha hn k, ⟨m, ⟨oL, es, ep, k _ _ hL e, r⟩, hf⟩, hs.away, hs.gens, hs.os⟩
/-- all that is neither in the ledger's part nwM nor the frame's own becomes base -/
theorem SatH.freeze {c : Cx} {vs : List (Option AV)} {rest nwM : List (Addr × OP)} {h : Heap} {g : Array GenState} {o : OsState} (hs : SatH c ⟨vs, rest ++ nwM⟩ h g o) :
    ∃ hb', (∀ b ob, c.hb.get? b = some ob → hb'.get? b = some ob) ∧ (∀ p ∈ rest, Bs hb' p.1 p.2) ∧ (∀ b ob, h.get? b = some ob → b ≠ c.env.locals → (∀ p ∈ nwM, p.1 ≠ b) → hb'.get? b = some ob) ∧
      SatH (c.on hb') ⟨vs, nwM⟩ h g o ∧
      ∀ (st₂ : AS) h₂ g₂ o₂, SatH (c.on hb') st₂ h₂ g₂ o₂ → SatH c ⟨st₂.vs, rest ++ st₂.nw⟩ h₂ g₂ o₂ := by
  have nd := hs.hp.nd
  rw [List.map_append] at nd
  obtain ⟨nd1, nd2, nd3⟩ := List.nodup_append.mp nd
  have key : ∀ b ob, h.get? b = some ob → b ≠ c.env.locals → (∀ p ∈ nwM, p.1 ≠ b) → (hideAll h (c.env.locals :: nwM.map (·.1))).get? b = some ob := fun b ob e n1 n2 => hideAll_get _ e fun q => by
    rcases List.mem_cons.mp q with q | q
    · exact n1 q
    · obtain ⟨p, hp, rfl⟩ := List.mem_map.mp q; exact n2 p hp rfl
  have kp : ∀ b ob, c.hb.get? b = some ob → (hideAll h (c.env.locals :: nwM.map (·.1))).get? b = some ob := fun b ob e => key b ob (hs.hp.keep b ob e) (fun z => nomatch (z ▸ e).symm.trans hs.ok.off)
    fun p hp z => nomatch (z ▸ e).symm.trans (hs.hp.at' p (List.mem_append_right _ hp)).1
  have hr : ∀ p ∈ rest, Bs (hideAll h (c.env.locals :: nwM.map (·.1))) p.1 p.2 := fun p hp => (hs.hp.at' p (List.mem_append_left _ hp)).2.elim fun ob x => ⟨ob, key _ _ x.1 (hs.away p (List.mem_append_left _ hp))
    (fun p' hp' z => nd3 _ (List.mem_map_of_mem hp) _ (List.mem_map_of_mem hp') z.symm), x.2⟩
  refine ⟨_, kp, hr, key, ⟨⟨hs.ok.gr.keeps kp, hs.ok.kind, hs.ok.glob, hs.ok.blt, hs.ok.vok, hideAll_none _ (.head _), hs.ok.rm⟩, ⟨fun b ob e => of_hideAll _ e, fun p hp => ⟨hideAll_none _ (.tail _ (List.mem_map_of_mem hp)), (hs.hp.at' p (List.mem_append_right _ hp)).2⟩, nd2⟩, hs.ns, fun p hp => hs.away p (List.mem_append_right _ hp), hs.gens, hs.os⟩, fun st₂ h₂ g₂ o₂ s₂ => ?_⟩
  have ne : ∀ p ∈ st₂.nw, ∀ b ob, (hideAll h (c.env.locals :: nwM.map (·.1))).get? b = some ob → p.1 ≠ b := fun p hp b ob e z => nomatch (z.symm ▸ e).symm.trans (s₂.hp.at' p hp).1
  refine ⟨hs.ok, ⟨fun b ob e => s₂.hp.keep b ob (kp b ob e), fun p hp => ?_, ?_⟩, s₂.ns, fun p hp => ?_, s₂.gens, s₂.os⟩
  · rcases List.mem_append.mp hp with q | q
    · exact ⟨(hs.hp.at' p (List.mem_append_left _ q)).1, s₂.hp.bs (hr p q)⟩
    · exact ⟨none_of fun ob e => ne p q _ _ (kp _ _ e) rfl, (s₂.hp.at' p q).2⟩
  · show ((rest ++ st₂.nw).map (·.1)).Nodup
    rw [List.map_append]
    refine List.nodup_append.mpr ⟨nd1, s₂.hp.nd, fun a ha b hb' e => ?_⟩
    obtain ⟨p, hp', rfl⟩ := List.mem_map.mp ha
    obtain ⟨p', hp'', rfl⟩ := List.mem_map.mp hb'
    exact (hr p hp').elim fun ob x => ne p' hp'' _ _ x.1 e.symm
  · rcases List.mem_append.mp hp with q | q
    · exact hs.away p (List.mem_append_left _ q)
    · exact s₂.away p q
/-- an iterator that is laid fresh: apart from the base, the frame and the ledger's part -/
structure Apart (c : Cx) (fp wr : List Addr) (rest nw : List (Addr × OP)) : Prop where
  base : ∀ a ∈ wr, c.hb.get? a = none
  rest : ∀ p ∈ rest, p.1 ∉ wr
  nw : ∀ p ∈ nw, p.1 ∉ fp
  loc : c.env.locals ∉ fp
/-- one turn of an iterator, upon which a block follows -/
theorem It.turn {c : Cx} {target : Expr} {vs : List (Option AV)} {rest nwM : List (Addr × OP)} {I : Addr} {fp wr : List Addr} {n : Nat} {St : Nat → Heap → Prop} {Val : Nat → Value → Heap → Prop} (D : It c.w c.A target I fp wr n St Val) (ap : Apart c fp wr rest nwM)
    {s : Shared} (hs : Sat c ⟨vs, rest ++ nwM⟩ s) {k : Nat} (hk : k < n) (hst : St k s.heap) {α : Type} (t : Value → Sem α) (Q : α → Shared → Prop)
    (h : ∀ hb', (∀ b ob, c.hb.get? b = some ob → hb'.get? b = some ob) → (∀ p ∈ rest, Bs hb' p.1 p.2) → ∀ v s₁, Val k v s₁.heap → Sat (c.on hb') ⟨vs, nwM⟩ s₁ →
      (∀ (st₂ : AS) (s₂ : Shared), Sat (c.on hb') st₂ s₂ → Sat c ⟨st₂.vs, rest ++ st₂.nw⟩ s₂ ∧ Apart c fp wr rest st₂.nw ∧ St (k + 1) s₂.heap) → wpAny c.M c.A (t v) Q NoE s₁) :
    wpAny c.M c.A (pyNext (.ref I)) (fun r s₁ => ∃ v, r = some v ∧ wpAny c.M c.A (letOwnedTupleGo target (.ref I) v) (fun _ s₂ => wpAny c.M c.A (t v) Q NoE s₂) NoE s₁) NoE s := by
  have hn : ∀ p ∈ rest ++ nwM, p.1 ∉ wr := fun p hp => (List.mem_append.mp hp).elim (ap.rest p) fun q z => ap.nw p q (D.sub _ z)
  have hL : c.env.locals ∉ wr := fun z => ap.loc (D.sub _ z)
  refine D.item k s _ hk hst fun v h' tk own kp => ⟨v, rfl, own _ _ rfl fun h₁ hv₁ hst₁ kp₁ => ?_⟩
  have hs₁ : SatH c ⟨vs, rest ++ nwM⟩ h₁ s.gens s.os := (hs.off ap.base hn hL kp).off ap.base hn hL kp₁
  obtain ⟨hb', k1, k2, k3, k4, k5⟩ := hs₁.freeze
  refine h hb' k1 k2 v _ hv₁ k4 fun st₂ s₂ q₂ => ⟨k5 st₂ _ _ _ q₂, ⟨ap.base, ap.rest, fun p hp z => ?_, ap.loc⟩, D.frame _ _ _ hst₁ fun b hb o e => q₂.hp.keep b o (k3 b o e (fun z => ap.loc (z ▸ hb)) fun p hp z => ap.nw p hp (z ▸ hb))⟩
  obtain ⟨o, e⟩ := D.dom _ _ hst₁ _ z
  exact nomatch (k3 _ _ e (fun z' => ap.loc (z' ▸ z)) fun p' hp' z' => ap.nw p' hp' (z' ▸ z)).symm.trans (q₂.hp.at' p hp).1
theorem It.last {c : Cx} {target : Expr} {vs : List (Option AV)} {rest nwM : List (Addr × OP)} {I : Addr} {fp wr : List Addr} {n : Nat} {St : Nat → Heap → Prop} {Val : Nat → Value → Heap → Prop} (D : It c.w c.A target I fp wr n St Val) (ap : Apart c fp wr rest nwM)
    {s : Shared} (hs : Sat c ⟨vs, rest ++ nwM⟩ s) (hst : St n s.heap) (Q : Option Value → Shared → Prop) (h : ∀ s₁, Sat c ⟨vs, rest ++ nwM⟩ s₁ → Q none s₁) : wpAny c.M c.A (pyNext (.ref I)) Q NoE s :=
  D.done s _ hst fun h' tk kp => h _ (hs.off ap.base (fun p hp => (List.mem_append.mp hp).elim (ap.rest p) fun q z => ap.nw p q (D.sub _ z)) (fun z => ap.loc (D.sub _ z)) kp)
/-- what a for's turn has to do -/
def ForT (c : Cx) (target : Expr) (body : List Stmt) (rest : List (Addr × OP)) (n : Nat) (Val : Nat → Value → Heap → Prop) (Inv : Nat → AS → Prop) (R : AF → AS → Prop) : Prop :=
  ∀ hb', (∀ b ob, c.hb.get? b = some ob → hb'.get? b = some ob) → (∀ p ∈ rest, Bs hb' p.1 p.2) → ∀ k (st' : AS) v s₁, k < n → Inv k st' → Val k v s₁.heap → Sat (c.on hb') st' s₁ →
    wpAny c.M c.A (assign target c.env v) (fun _ s₂ => ∃ st₁, Sat (c.on hb') st₁ s₂ ∧ WF (c.on hb') st₁ (execs body c.env) (LoopR (Inv (k + 1)) fun f st₂ => R f ⟨st₂.vs, rest ++ st₂.nw⟩)) NoE s₁
theorem for_loop {c : Cx} {target : Expr} {vs : List (Option AV)} {rest nwM : List (Addr × OP)} {I : Addr} {fp wr : List Addr} {n : Nat} {St : Nat → Heap → Prop} {Val : Nat → Value → Heap → Prop} (D : It c.w c.A target I fp wr n St Val) (ap : Apart c fp wr rest nwM)
    {s : Shared} (hs : Sat c ⟨vs, rest ++ nwM⟩ s) (hst : St 0 s.heap) {body orelse : List Stmt} {R : AF → AS → Prop} {E : Value → Shared → Prop} (Inv : Nat → AS → Prop) (h0 : Inv 0 ⟨vs, nwM⟩) (turn : ForT c target body rest n Val Inv R)
    (fin : ∀ st', Inv n st' → WF c ⟨st'.vs, rest ++ st'.nw⟩ (execs orelse c.env) R) :
    codeAny c.M c.A (.forLoop target (.ref I) body orelse c.env) (fun r s' => match r with | .ok f => ∃ af st', AF.is af f ∧ Sat c st' s' ∧ R af st' | .error e => E e s') s := by
  refine codeAny_forLoop_any (fun m s => ∃ k st', m + k = n ∧ Inv k st' ∧ Apart c fp wr rest st'.nw ∧ Sat c ⟨st'.vs, rest ++ st'.nw⟩ s ∧ St k s.heap) (fun m s x => ?_) n ⟨0, _, rfl, h0, ap, hs, hst⟩
  obtain ⟨k, st', hm, hI, ap', hs', hst'⟩ := x
  cases m with
  | zero =>
    obtain rfl : k = n := by rw [← hm, Nat.zero_add]
    exact wpAny_mono (D.last ap' hs' hst' (fun r s₁ => r = none ∧ Sat c ⟨st'.vs, rest ++ st'.nw⟩ s₁) fun s₁ q => ⟨rfl, q⟩) (fun r s₁ x => by
      obtain ⟨rfl, q⟩ := x
      exact wpAny_mono ((fin st' hI).run q fun fl s₃ f st₂ rf q₂ z₂ => ⟨f, st₂, rf, q₂, z₂⟩) (fun _ _ x => x) no_noted) no_noted
  | succ m =>
    have hk : k < n := by omega
    refine wpAny_mono (D.turn ap' hs' hk hst' (fun v => assign target c.env v) (fun _ s₂ => wpAny c.M c.A (execs body c.env) (fun f s₃ => match f with
            | .next | .cont => ∃ m', m' < m + 1 ∧ ∃ k st', m' + k = n ∧ Inv k st' ∧ Apart c fp wr rest st'.nw ∧ Sat c ⟨st'.vs, rest ++ st'.nw⟩ s₃ ∧ St k s₃.heap
            | .brk => ∃ af st', AF.is af .next ∧ Sat c st' s₃ ∧ R af st'
            | .ret v => ∃ af st', AF.is af (.ret v) ∧ Sat c st' s₃ ∧ R af st') NoE s₂) fun hb' k1 k2 v s₁ hv q back => ?_) (fun r s₁ x => ?_) no_noted
    · refine wpAny_mono (turn hb' k1 k2 k st' v s₁ hk hI hv q) (fun _ s₂ x => ?_) fun _ _ x => x
      obtain ⟨st₁, q₁, z⟩ := x
      refine W.run (c := c.on hb') z q₁ fun fl s₃ f st₂ rf q₂ z₂ => ?_
      have fin' : (∃ st', Wk st₂ st' ∧ Inv (k + 1) st') → ∃ m', m' < m + 1 ∧ ∃ k st', m' + k = n ∧ Inv k st' ∧ Apart c fp wr rest st'.nw ∧ Sat c ⟨st'.vs, rest ++ st'.nw⟩ s₃ ∧ St k s₃.heap := fun ⟨st₃, kw, hI'⟩ =>
        have b := back st₃ s₃ (kw.sat q₂)
        ⟨m, Nat.lt_succ_self m, k + 1, st₃, by omega, hI', b.2.1, b.1, b.2.2⟩
      have b := back st₂ s₃ q₂
      cases f with
      | next => cases rf; exact fin' z₂
      | cont => cases rf; exact fin' z₂
      | brk => cases rf; exact ⟨.next, _, rfl, b.1, z₂⟩
      | ret a => obtain ⟨u, rfl, rv⟩ := rf; exact ⟨.ret a, _, ⟨u, rfl, rv⟩, b.1, z₂⟩
    · obtain ⟨v, rfl, z⟩ := x
      exact wpAny_mono z (fun _ s₂ z => wpAny_mono z (fun _ s₃ z => wpAny_mono z (fun _ _ z => z) no_noted) no_noted) no_noted
theorem own_off {w : World} {A : Around} {target : Expr} {I : Addr} {v : Value} {s : Shared} {Q : Unit → Shared → Prop} {T : String} {vs : Array Value} {o : Obj} (e : s.heap.get? I = some o) (hc : o.cls = .type T) (hd : o.data = .fields vs)
    (hn : (["enumerate", "zip", "dict_itemiterator", "dict_reverseitemiterator", "odict_iterator", "itertools.zip_longest", "itertools.pairwise"] : List String).contains T = false) (h : Q () s) :
    wpAny (model Pg w) A (letOwnedTupleGo target (.ref I) v) Q NoE s := by
  have fin : ∀ {P : Bool} {x : Sem Unit}, wpAny (model Pg w) A (if ((["enumerate", "zip", "dict_itemiterator", "dict_reverseitemiterator", "odict_iterator", "itertools.zip_longest", "itertools.pairwise"] : List String).contains T && P) = true then x else pure ()) Q NoE s := by
    intro P x
    rw [hn, Bool.false_and, if_neg Bool.false_ne_true]
    exact wpAny_pure h
  have one : ∀ {a : Addr} {x : List Expr} {k : Nat} {p : Pos}, wpAny (model Pg w) A (letOwnedTupleGo (.Tuple x k p) (.ref I) (.ref a)) Q NoE s := fun {a x k p} => wpAny_bind (wpAny_load e (by rw [hc, hd]; exact fin))
  cases target <;> first | exact wpAny_pure h | (cases v <;> first | exact wpAny_pure h | exact one (x := []) (k := 0) (p := default))
theorem It.of {w : World} {A : Around} {target : Expr} {I : Addr} {fp wr : List Addr} {n : Nat} {P : Nat → Value → Prop} {St : Nat → Heap → Prop} (D : Walks Pg w A I fp wr n P St) (dom : ∀ i h, St i h → ∀ b ∈ fp, ∃ o, h.get? b = some o) {T : String}
    (kd : ∀ i h, St i h → ∃ o vs, h.get? I = some o ∧ o.cls = .type T ∧ o.data = .fields vs)
    (hn : (["enumerate", "zip", "dict_itemiterator", "dict_reverseitemiterator", "odict_iterator", "itertools.zip_longest", "itertools.pairwise"] : List String).contains T = false) {Val : Nat → Value → Heap → Prop} (hv : ∀ i v h, P i v → Val i v h) : It w A target I fp wr n St Val where
  sub := D.sub
  dom := dom
  frame := D.frame
  item := fun i s Q hi hst k => D.item i s Q NoE hi hst fun v h' tk p s' kp => k v h' tk (fun s₁ Q' e k' => by
    subst e
    exact (kd _ _ s').elim fun o x => x.elim fun vs x => own_off x.1 x.2.1 x.2.2 hn (k' s₁.heap (hv i v _ p) s' Kp.refl)) kp
  done := fun s Q hst k => D.done s Q NoE hst k
  self := fun i s Q hst k => D.self i s Q NoE hst k
/-- an iterator that lies ready -/
inductive Ready (c : Cx) (target : Expr) (R : (n : Nat) → (Nat → Value → Heap → Prop) → List (Option AV) → List (Addr × OP) → List (Addr × OP) → Prop) (v : Value) (s : Shared) : Prop
  | mk (I : Addr) (fp wr : List Addr) (n : Nat) (St : Nat → Heap → Prop) (Val : Nat → Value → Heap → Prop) (vs : List (Option AV)) (rest nwM : List (Addr × OP)) : v = .ref I → It c.w c.A target I fp wr n St Val → Apart c fp wr rest nwM → Sat c ⟨vs, rest ++ nwM⟩ s → St 0 s.heap → R n Val vs rest nwM → Ready c target R v s
/-- what an iterable gives its loop -/
structure Src (c : Cx) (st : AS) (target iter : Expr) (R : (n : Nat) → (Nat → Value → Heap → Prop) → List (Option AV) → List (Addr × OP) → List (Addr × OP) → Prop) : Prop where
  go : ∀ s, Sat c st s → wpAny c.M c.A (eval iter c.env) (fun x s₁ => wpAny c.M c.A (pyIter x) (Ready c target R) NoE s₁) NoE s
section
variable {c : Cx} {st : AS}
theorem WF.for {target iter : Expr} {body orelse : List Stmt} {p : Pos} {R : AF → AS → Prop}
    (h : Src c st target iter fun n Val vs rest nwM => ∃ Inv, Inv 0 ⟨vs, nwM⟩ ∧ ForT c target body rest n Val Inv R ∧ ∀ st', Inv n st' → WF c ⟨st'.vs, rest ++ st'.nw⟩ (execs orelse c.env) R)
    (hs : ∀ x, foldedSetIterable iter c.env x = pure x := by intro _; rfl) : WF c st (exec (.For target iter body orelse p) c.env) R :=
  ⟨fun s hs' => wpAny_For (wpAny_mono (h.go s hs') (fun x s₁ y => wpAny_mono y (fun v s₂ y => by
    cases y with
    | mk I fp wr n St Val vs rest nwM e D ap q hst z =>
      subst e
      obtain ⟨Inv, h0, turn, fin⟩ := z
      exact for_loop D ap q hst Inv h0 turn fin) fun _ _ x => x) fun _ _ x => x) hs⟩
/-- where a loop's list is: in the base or in what is frozen -/
def InR (c : Cx) (rest : List (Addr × OP)) (l : Addr) (P : OP) : Prop := Bs c.hb l P ∨ ∃ P', (l, P') ∈ rest ∧ ∀ o, P' o → P o
theorem InR.at {rest nwM : List (Addr × OP)} {l : Addr} {P : OP} (i : InR c rest l P) {vs : List (Option AV)} {h : Heap} {g : Array GenState} {o : OsState} (hs : SatH c ⟨vs, rest ++ nwM⟩ h g o) :
    Bs h l P ∧ l ≠ c.env.locals ∧ ∀ p ∈ nwM, p.1 ≠ l := by
  rcases i with b | ⟨P', hm, k⟩
  · exact ⟨hs.hp.bs b, (fun z => b.elim fun o x => nomatch (z ▸ x.1).symm.trans hs.ok.off), fun p hp z => b.elim fun o x => nomatch (z ▸ x.1).symm.trans (hs.hp.at' p (List.mem_append_right _ hp)).1⟩
  · have nd := hs.hp.nd
    rw [List.map_append] at nd
    exact ⟨(hs.hp.at' _ (List.mem_append_left _ hm)).2.elim fun o x => ⟨o, x.1, k o x.2⟩, hs.away _ (List.mem_append_left _ hm),
      fun p hp z => (List.nodup_append.mp nd).2.2 _ (List.mem_map_of_mem hm) _ (List.mem_map_of_mem hp) z.symm⟩
theorem SatH.perm {nw' : List (Addr × OP)} {h : Heap} {g : Array GenState} {o : OsState} (hs : SatH c st h g o) (p : nw'.Perm st.nw) : SatH c ⟨st.vs, nw'⟩ h g o :=
  ⟨hs.ok, hs.hp.perm p, hs.ns, fun q hq => hs.away q (p.mem_iff.mp hq), hs.gens, hs.os⟩
theorem SatH.grow {h h' : Heap} {g : Array GenState} {o : OsState} (hs : SatH c st h g o) (k : ∀ b ob, h.get? b = some ob → h'.get? b = some ob) : SatH c st h' g o :=
  ⟨hs.ok, hs.hp.grow k, hs.ns.elim fun m x => ⟨m, x.1.keeps k, x.2⟩, hs.away, hs.gens, hs.os⟩
theorem apart_new {vs : List (Option AV)} {rest nwM : List (Addr × OP)} {h : Heap} {g : Array GenState} {o : OsState} (hs : SatH c ⟨vs, rest ++ nwM⟩ h g o) : Apart c [h.objs.size] [h.objs.size] rest nwM := by
  have lt : ∀ p ∈ rest ++ nwM, p.1 ∉ [h.objs.size] := fun p hp z => Nat.ne_of_lt (hs.hp.lt hp) (List.mem_singleton.mp z)
  obtain ⟨m, hm, hf⟩ := hs.ns
  exact ⟨one_off hs.hp.fresh, fun p hp => lt p (List.mem_append_left _ hp), fun p hp => lt p (List.mem_append_right _ hp), fun z => Nat.ne_of_lt hm.lt (List.mem_singleton.mp z)⟩
theorem Apart.more {rest nwM : List (Addr × OP)} {I l : Addr} (a : Apart c [I] [I] rest nwM) (h1 : l ≠ c.env.locals) (h2 : ∀ p ∈ nwM, p.1 ≠ l) : Apart c [I, l] [I] rest nwM :=
  ⟨a.base, a.rest, fun p hp z => (List.mem_cons.mp z).elim (fun e => a.nw p hp (by rw [e]; exact .head _)) fun e => h2 p hp (List.mem_singleton.mp e), fun z => (List.mem_cons.mp z).elim (fun e => a.loc (by rw [e]; exact .head _)) fun e => h1 (List.mem_singleton.mp e).symm⟩
abbrev ItemV (xs : List AV) (k : Nat) (v : Value) (_ : Heap) : Prop := ∃ a, xs[k]? = some a ∧ a.is v
theorem itemV {xs : List AV} {vs : Array Value} (r : AVs xs vs.toList) {i : Nat} {v : Value} (e : vs[i]? = some v) : ∃ a, xs[i]? = some a ∧ a.is v := by
  have hl : i < vs.size := (Array.getElem?_eq_some_iff.mp e).1
  have : i < xs.length := by rw [← r.len, Array.length_toList]; exact hl
  obtain ⟨u, eu, ru⟩ := r.getA (List.getElem?_eq_getElem this)
  rw [e] at eu; cases eu
  exact ⟨_, List.getElem?_eq_getElem this, ru⟩
theorem AVs.size {xs : List AV} {vs : Array Value} (r : AVs xs vs.toList) : vs.size = xs.length := by rw [← r.len, Array.length_toList]
theorem Src.list {target iter : Expr} {R : (n : Nat) → (Nat → Value → Heap → Prop) → List (Option AV) → List (Addr × OP) → List (Addr × OP) → Prop}
    (h : WV c st (eval iter c.env) fun a st₁ => ∃ l xs rest nwM, a = .ref l ∧ (rest ++ nwM).Perm st₁.nw ∧ InR c rest l (isListW xs) ∧ R xs.length (ItemV xs) st₁.vs rest nwM) : Src c st target iter R := ⟨fun s hs =>
  h.run hs fun u s₁ a st₁ r q z => by
    obtain ⟨l, xs, rest, nwM, rfl, pm, hl, hR⟩ := z
    cases r
    have q' := q.perm pm
    obtain ⟨b, n1, n2⟩ := hl.at q'
    obtain ⟨vs, il, rv⟩ := b.isL
    have hlt : l ≠ s₁.heap.objs.size := il.elim fun o x => Nat.ne_of_lt (Heap.lt_size x.1)
    refine wpAny_pyIter_list il ⟨s₁.heap.objs.size, [s₁.heap.objs.size, l], [s₁.heap.objs.size], xs.length, fun i h => h.IsListIter s₁.heap.objs.size l i ∧ h.IsList l vs, ItemV xs, st₁.vs, rest, nwM, rfl, ?_, (apart_new q').more n1 n2, q'.grow fun b ob e => Heap.get?_push_of_some _ e, ⟨⟨_, Heap.get?_push_size _ rfl, rfl, rfl⟩, il.push _⟩, hR⟩
    rw [← rv.size]
    refine It.of (T := "list_iterator") (Walks.list q.ok.rm.handled _ l hlt vs) (fun i h x b hb => ?_) (fun i h x => ?_) (by decide) fun i v h e => itemV rv e
    · rcases List.mem_cons.mp hb with rfl | hb
      · exact x.1.elim fun o y => ⟨o, y.1⟩
      · rw [List.mem_singleton] at hb; subst hb; exact x.2.elim fun o y => ⟨o, y.1⟩
    · exact x.1.elim fun o y => ⟨o, _, y.1, y.2.1, y.2.2⟩⟩
def isTupW (xs : List AV) : OP := fun o => ∃ vs n, o.cls = .type "tuple" ∧ o.data = .seq vs n ∧ AVs xs vs.toList
theorem Bs.isT {xs : List AV} {h : Heap} {a : Addr} (b : Bs h a (isTupW xs)) : ∃ vs : Array Value, h.IsTuple a vs ∧ AVs xs vs.toList := by
  obtain ⟨o, e, vs, n, hc, hd, r⟩ := b
  exact ⟨vs, ⟨o, e, hc, n, hd⟩, r⟩
theorem tupW {xs : List AV} : ∀ o, isTup xs o → isTupW xs o := by
  rintro o ⟨vs, n, rfl, r⟩
  exact ⟨vs, n, rfl, rfl, r⟩
theorem listWo {xs : List AV} : ∀ o, isList xs o → isListW xs o := by
  rintro o ⟨vs, n, rfl, r⟩
  exact ⟨vs, n, rfl, rfl, r⟩
theorem Src.tup {target iter : Expr} {R : (n : Nat) → (Nat → Value → Heap → Prop) → List (Option AV) → List (Addr × OP) → List (Addr × OP) → Prop}
    (h : WV c st (eval iter c.env) fun a st₁ => ∃ l xs rest nwM, a = .ref l ∧ (rest ++ nwM).Perm st₁.nw ∧ InR c rest l (isTupW xs) ∧ R xs.length (ItemV xs) st₁.vs rest nwM) : Src c st target iter R := ⟨fun s hs =>
  h.run hs fun u s₁ a st₁ r q z => by
    obtain ⟨l, xs, rest, nwM, rfl, pm, hl, hR⟩ := z
    cases r
    have q' := q.perm pm
    obtain ⟨b, n1, n2⟩ := hl.at q'
    obtain ⟨vs, il, rv⟩ := b.isT
    have hlt : l ≠ s₁.heap.objs.size := il.elim fun o x => Nat.ne_of_lt (Heap.lt_size x.1)
    refine wpAny_pyIter_tuple il ⟨s₁.heap.objs.size, [s₁.heap.objs.size, l], [s₁.heap.objs.size], xs.length, fun i h => h.IsTupleIter s₁.heap.objs.size l i ∧ h.IsTuple l vs, ItemV xs, st₁.vs, rest, nwM, rfl, ?_, (apart_new q').more n1 n2, q'.grow fun b ob e => Heap.get?_push_of_some _ e, ⟨⟨_, Heap.get?_push_size _ rfl, rfl, rfl⟩, il.push _⟩, hR⟩
    rw [← rv.size]
    refine It.of (T := "tuple_iterator") (Walks.tuple q.ok.rm.handled _ l hlt vs) (fun i h x b hb => ?_) (fun i h x => ?_) (by decide) fun i v h e => itemV rv e
    · rcases List.mem_cons.mp hb with rfl | hb
      · exact x.1.elim fun o y => ⟨o, y.1⟩
      · rw [List.mem_singleton] at hb; subst hb; exact x.2.elim fun o y => ⟨o, y.1⟩
    · exact x.1.elim fun o y => ⟨o, _, y.1, y.2.1, y.2.2⟩⟩
/-- range(n), n written or known -/
theorem Src.range {target : Expr} {x : Str} {np p : Pos} {e : Expr} {n : Nat} {rest nwM : List (Addr × OP)} {R : (n : Nat) → (Nat → Value → Heap → Prop) → List (Option AV) → List (Addr × OP) → List (Addr × OP) → Prop}
    (hf : Pu c st (.Name x np) (.raw (.type "range"))) (he : Pu c st e (.int n)) (hn : n < 1000) (pm : (rest ++ nwM).Perm st.nw) (hR : R n (fun k v _ => (AV.int k).is v) st.vs rest nwM)
    (h1 : starEach [e] c.env = (false, eval e c.env) :: starEach [] c.env := by rfl) : Src c st target (.Call (.Name x np) [e] [] p) R := ⟨fun s hs =>
  wpAny_Call_ofName (hf.run hs fun u s₁ r q => by
    cases r
    refine callWith_type1 (args_cons (he.run q fun u s₂ r q => ?_) h1) h1 rfl
    obtain ⟨t, rfl⟩ := r
    refine args_nil (call_range_1 ?_)
    have q' := (q.grow (h' := s₂.heap.push { cls := .type "range", data := .fields #[.int 0 s₂.toks, .int n t, .int 1 (s₂.toks + 1)] }) fun b ob e => Heap.get?_push_of_some _ e).perm pm
    have e0 : Builtin.Range.rangeSize 0 n 1 = n := by rw [rangeSize_one]; split <;> omega
    refine wpAny_pyIter_range (IsRange.new _ _ _ _ _ _ _) (small_one (by omega) (by omega) (by omega) (by omega)) ⟨_, _, _, n, fun i h => IsRangeIter h (s₂.heap.push { cls := .type "range", data := .fields #[.int 0 s₂.toks, .int n t, .int 1 (s₂.toks + 1)] }).objs.size (0 + (i : Nat) * 1) ((n : Int) - (i : Nat)) 1, _, st.vs, rest, nwM, rfl, ?_, apart_new q', q'.grow fun b ob e => Heap.get?_push_of_some _ e, ?_, hR⟩
    · refine It.of (T := "range_iterator") (Walks.range q.ok.rm.handled _ 0 1 n) (fun i h x b hb => ?_) (fun i h x => ⟨_, _, x, rfl, rfl⟩) (by decide) fun i v h e => ?_
      · rw [List.mem_singleton] at hb; subst hb; exact ⟨_, x⟩
      · obtain ⟨t, rfl⟩ := e
        exact ⟨t, by rw [Int.zero_add, Int.mul_one]⟩
    · show IsRangeIter _ _ (0 + ((0 : Nat) : Int) * 1) ((n : Int) - ((0 : Nat) : Int)) 1
      rw [e0]
      have : (0 + ((0 : Nat) : Int) * 1) = 0 := by omega
      rw [this, Int.natCast_zero, Int.sub_zero]
      exact Heap.get?_push_size _ rfl)⟩
theorem Src.bytes {target iter : Expr} {b : Array UInt8} {rest nwM : List (Addr × OP)} {R : (n : Nat) → (Nat → Value → Heap → Prop) → List (Option AV) → List (Addr × OP) → List (Addr × OP) → Prop}
    (h : Pu c st iter (.bytes b)) (pm : (rest ++ nwM).Perm st.nw) (hR : R b.size (fun k v _ => ∃ x, b[k]? = some x ∧ (AV.int (x.toNat : Int)).is v) st.vs rest nwM) : Src c st target iter R := ⟨fun s hs =>
  h.run hs fun u s₁ r q => by
    obtain ⟨t, rfl⟩ := r
    have q' := q.perm pm
    refine KBw.pyIter_bytes ⟨_, _, _, _, fun i h => KBw.IsBytesIter h s₁.heap.objs.size b t i, _, st.vs, rest, nwM, rfl, ?_, apart_new q', q'.grow fun b ob e => Heap.get?_push_of_some _ e, ⟨_, Heap.get?_push_size _ rfl, rfl, rfl⟩, hR⟩
    refine It.of (T := "bytes_iterator") (KBw.walks q.ok.rm.handled _ b t) (fun i h x a ha => ?_) (fun i h x => x.elim fun o y => ⟨o, _, y.1, y.2.1, y.2.2⟩) (by decide) fun i v h e => ?_
    · rw [List.mem_singleton] at ha; subst ha; exact x.elim fun o y => ⟨o, y.1⟩
    · obtain ⟨x, u, hx, rfl⟩ := e
      exact ⟨x, hx, u, rfl⟩⟩
/-- a turn upon one name -/
theorem ForT.one {target : Expr} {body : List Stmt} {rest : List (Addr × OP)} {n : Nat} {Val : Nat → Value → Heap → Prop} {Inv : Nat → AS → Prop} {R : AF → AS → Prop} {f : AS → AV → AS} {ok : AS → Prop} (t : ∀ hb', Tg (c.on hb') target f ok)
    (A : Nat → AV → Prop) (hA : ∀ k v h, Val k v h → ∃ a, A k a ∧ a.is v)
    (h : ∀ hb', (∀ b ob, c.hb.get? b = some ob → hb'.get? b = some ob) → (∀ p ∈ rest, Bs hb' p.1 p.2) → ∀ k (st' : AS) a, k < n → Inv k st' → A k a → ok st' ∧ WF (c.on hb') (f st' a) (execs body c.env) (LoopR (Inv (k + 1)) fun f st₂ => R f ⟨st₂.vs, rest ++ st₂.nw⟩)) :
    ForT c target body rest n Val Inv R := fun hb' k1 k2 k st' v s₁ hk hI hV q => by
  obtain ⟨a, ha, r⟩ := hA k v _ hV
  obtain ⟨ho, z⟩ := h hb' k1 k2 k st' a hk hI ha
  exact W.run (c := c.on hb') ((t hb').go st' a v (fun _ st₁ => st₁ = f st' a) r ho rfl) q fun _ s₂ _ st₁ _ q₁ e => ⟨st₁, q₁, e ▸ z⟩
end
section
variable {c : Cx} {st : AS}
theorem Bs.exact {xs : List AV} {h : Heap} {a : Addr} (b : Bs h a (isList xs)) : ∃ vs n, h.get? a = some { cls := .type "list", data := .seq vs n } ∧ AVs xs vs.toList := by
  obtain ⟨o, e, vs, n, rfl, r⟩ := b
  exact ⟨vs, n, e, r⟩
theorem AVs.cat {xs ys : List AV} {vs us : Array Value} (r : AVs xs vs.toList) (q : AVs ys us.toList) : AVs (xs ++ ys) (vs ++ us).toList := by rw [Array.toList_append]; exact r.append q
/-- a list and a list -/
theorem WV.cat {l b : Addr} {xs ys : List AV} {R : AV → AS → Prop} (hl : In c st l (isList xs)) (hb : In c st b (isList ys)) (hz : xs.length + ys.length ≤ 1000) (k : ∀ a, R (.ref a) (st.new a (isList (xs ++ ys)))) : WV c st (binaryOp .Add (.ref l) (.ref b)) R := ⟨fun s hs => by
  obtain ⟨vs, n, e, r⟩ := (hl _ hs.hp).exact
  obtain ⟨us, n', e', r'⟩ := (hb _ hs.hp).exact
  refine concat_meets ⟨_, e, rfl⟩ ⟨_, e', rfl⟩ noFill_list_add seq_list_add PySem.F.slot_list_add PySem.F.entry_list_add (PySem.F.args_list_add_2 _ _) (AutoSeq1.list___add___list_list_0 l vs n b us n' ?_) ⟨e, e', ?_⟩
  · rw [r.size, r'.size]; exact Nat.le_trans hz (by decide)
  · exact ⟨.ref _, st.new _ (isList (xs ++ ys)), rfl, hs.push rfl ⟨_, _, rfl, r.cat r'⟩, k _⟩⟩
end
theorem bindL_not {kf : Str → Option NameKind} {x : Str} : ∀ (b : List (Str × Value)) (m : Str → Option Value), x ∉ b.map (·.1) → bindL kf b m x = m x
  | [], _, _ => rfl
  | (n, v) :: r, m, h => by
    rw [bindL, bindL_not r _ fun q => h (.tail _ q)]
    have hx : x ≠ n := fun z => h (by rw [z]; exact .head _)
    split
    · exact if_neg hx
    · rfl
theorem bindL_mem {kf : Str → Option NameKind} {x : Str} {u : Value} (hk : kf x = some .local) : ∀ (b : List (Str × Value)) (m : Str → Option Value), (b.map (·.1)).Nodup → (x, u) ∈ b → bindL kf b m x = some u
  | (n, v) :: r, m, nd, h => by
    rw [List.map_cons, List.nodup_cons] at nd
    rw [bindL]
    rcases List.mem_cons.mp h with e | e
    · cases e
      rw [bindL_not r _ nd.1, if_pos hk, if_pos rfl]
    · exact bindL_mem hk r _ nd.2 e
theorem bindC_not {kf : Str → Option NameKind} {x : Str} : ∀ (b : List (Str × Value)) (m : Str → Option Value), x ∉ b.map (·.1) → bindC kf b m x = m x
  | [], _, _ => rfl
  | (n, v) :: r, m, h => by
    rw [bindC, bindC_not r _ fun q => h (.tail _ q)]
    have hx : x ≠ n := fun z => h (by rw [z]; exact .head _)
    split
    · rfl
    · exact if_neg hx
theorem bindC_mem {kf : Str → Option NameKind} {x : Str} {u : Value} (hk : kf x ≠ some .local) : ∀ (b : List (Str × Value)) (m : Str → Option Value), (b.map (·.1)).Nodup → (x, u) ∈ b → bindC kf b m x = some u
  | (n, v) :: r, m, nd, h => by
    rw [List.map_cons, List.nodup_cons] at nd
    rw [bindC]
    rcases List.mem_cons.mp h with e | e
    · cases e
      rw [bindC_not r _ nd.1, if_neg hk, if_pos rfl]
    · exact bindC_mem hk r _ nd.2 e
def argOf (ps : List Str) (avs : List AV) (x : Str) : Option AV := (ps.idxOf? x).bind fun j => avs[j]?
theorem argOf_mem {ps : List Str} {avs : List AV} {pos : List Value} {x : Str} {v : AV} (ha : AVs avs pos) (e : argOf ps avs x = some v) : ∃ u, (x, u) ∈ ps.zip pos ∧ v.is u := by
  unfold argOf at e
  obtain ⟨j, hj, ej⟩ := Option.bind_eq_some_iff.mp e
  obtain ⟨u, eu, r⟩ := ha.get ej
  obtain ⟨hl, hx, _⟩ := List.findIdx?_eq_some_iff_getElem.mp hj
  refine ⟨u, List.mem_of_getElem? (i := j) ?_, r⟩
  rw [List.getElem?_zip_eq_some]
  exact ⟨by rw [List.getElem?_eq_getElem hl]; exact congrArg some (eq_of_beq hx), eu⟩
def defChk (scope : Scope) (ps vars : List Str) (n : Nat) : Bool := defOk scope ps vars && decide ps.Nodup && ps.length == n && decide ((cellsFrom 0 scope.names []).map (·.1)).Nodup && ((cellsFrom 0 scope.names []).map (·.1)).all fun x => scope.names.lookup x == some .cell
section
variable {w : World} {A : Around} {hb : Heap} {nw : List (Addr × OP)} {R : AV → List (Addr × OP) → Prop} {n : Nat}
  {name qual : Str} {params : Arguments} {body : List Stmt} {scope : Scope} {dV kV doc pm cdv ct oc : Value} {an od : Option Addr} {osl : Array (Option Value)} {f : Addr} {pos : List Value} {kw : List (Str × Value)}
/-- the cells' names and addresses -/
theorem cells_nd {names : List (Str × NameKind)} {L : Nat} : ∀ {acc : List (Str × Addr)}, (acc.map (·.2)).Nodup → (∀ p ∈ acc, p.2 < L) → ((cellsFrom L names acc).map (·.2)).Nodup := by
  induction names generalizing L with
  | nil => intro acc h _; exact h
  | cons q r ih =>
    intro acc h k
    rw [cellsFrom]
    split
    · refine ih ?_ ?_
      · rw [List.map_cons, List.nodup_cons]
        refine ⟨fun hm => ?_, h⟩
        obtain ⟨p, hp, e⟩ := List.mem_map.mp hm
        have := k p hp
        rw [e] at this
        exact Nat.lt_irrefl _ this
      · intro p hp
        rcases List.mem_cons.mp hp with rfl | hp
        · exact Nat.lt_succ_self _
        · exact Nat.lt_succ_of_lt (k p hp)
    · exact ih h k
def entOf (scope : Scope) (ps : List Str) (avs : List AV) (L : Addr) : List (Addr × OP) := (cellsFrom (L + 1) scope.names []).map fun p => (p.2, isCell (argOf ps avs p.1))
/-- a def is entered by its arguments -/
theorem SpC.defB {ps vars : List Str} {avs : List AV} {pos' : List Value} (vs : List (Option AV)) (ent : Addr → List (Addr × OP)) (G : Gr w hb) (r : Rm A (n + 2))
    {ob : Obj} (ho : hb.get? f = some ob) (hod : ob.data = .func (fnOf name qual params body scope dV kV doc pm an cdv ct)) (hcd : hb.CodeRec cdv qual)
    (hbind : ∀ s : Shared, (∀ b o, hb.get? b = some o → s.heap.get? b = some o) → BindsTo s (fnOf name qual params body scope dV kV doc pm an cdv ct) ⟨pos, kw⟩ (ps.zip pos'))
    (ha : AVs avs pos') (hok : defChk scope ps vars avs.length = true) (hvs : vs = vars.map (argOf ps avs)) (hent : ∀ L, ent L = entOf scope ps avs L)
    (h : ∀ L g o, WF ⟨w, A.deeper (envOfC qual scope L f cdv), n, hb, g, o, envOfC qual scope L f cdv, vars⟩ ⟨vs, nw ++ ent L⟩ (execs body (envOfC qual scope L f cdv)) fun fl st' => ∃ nw', nw'.Sublist st'.nw ∧ R fl.val nw') :
    SpC w A hb nw (.call (.ref f) ⟨pos, kw⟩) R := by
  obtain ⟨hok, h5⟩ := Bool.and_eq_true_iff.mp hok
  obtain ⟨hok, h4⟩ := Bool.and_eq_true_iff.mp hok
  obtain ⟨hok, h3⟩ := Bool.and_eq_true_iff.mp hok
  obtain ⟨h1, h2⟩ := Bool.and_eq_true_iff.mp hok
  have hlen : ps.length = pos'.length := by rw [eq_of_beq h3, ha.len]
  have hmap : (ps.zip pos').map (·.1) = ps := by
    rw [← List.unzip_fst, List.unzip_zip hlen]
  have nd : ((ps.zip pos').map (·.1)).Nodup := by rw [hmap]; exact of_decide_eq_true h2
  have hvl := (defOk.parts h1).2.2.2.1
  refine SpC.enter ent G r ho hod hcd hbind (by rw [hmap]; exact h1) ?_ (fun L => ?_) h
  · intro i x v hx hv
    subst hvs
    rw [List.getElem?_map, hx] at hv
    obtain ⟨u, hm, rv⟩ := argOf_mem (x := x) ha (Option.some.inj hv)
    have hl := List.all_eq_true.mp (Bool.and_eq_true_iff.mp hvl).1 x (List.mem_of_getElem? hx)
    exact ⟨u, bindL_mem (eq_of_beq (Bool.and_eq_true_iff.mp hl).1) _ _ nd hm, rv⟩
  · rw [hent]
    refine ⟨?_, fun p hp => ?_⟩
    · unfold entOf
      rw [List.map_map]
      exact cells_nd (acc := []) List.nodup_nil fun p hp => nomatch hp
    · obtain ⟨q, hq, rfl⟩ := List.mem_map.mp hp
      have hcn : (cellsFrom 0 scope.names []).map (·.1) = (cellsFrom (L + 1) scope.names []).map (·.1) := cellsFrom_names scope.names 0 (L + 1) [] [] rfl
      rw [hcn] at h4 h5
      have hnd : ((cellsFrom (L + 1) scope.names []).map (·.1)).Nodup := of_decide_eq_true h4
      refine ⟨q.1, _, lookup_of_mem_nodup hnd hq, rfl, fun a e => ?_⟩
      obtain ⟨u, hm, rv⟩ := argOf_mem (x := q.1) ha e
      refine ⟨u, bindC_mem (fun z => ?_) _ _ nd hm, rv⟩
      exact nomatch z.symm.trans (eq_of_beq (List.all_eq_true.mp h5 q.1 (List.mem_map_of_mem hq)))
theorem SpC.def {ps vars : List Str} {avs : List AV} {pos' : List Value} (vs : List (Option AV)) (ent : Addr → List (Addr × OP)) (G : Gr w hb) (r : Rm A (n + 2))
    (ho : (Kx w.params).lookup f = some ⟨oc, od, .func (fnOf name qual params body scope dV kV doc pm an cdv ct), osl⟩) (hcd : codeIn (Kx w.params) cdv qual = true)
    (hbind : ∀ s : Shared, (∀ b o, hb.get? b = some o → s.heap.get? b = some o) → BindsTo s (fnOf name qual params body scope dV kV doc pm an cdv ct) ⟨pos, kw⟩ (ps.zip pos'))
    (ha : AVs avs pos') (hok : defChk scope ps vars avs.length = true) (hvs : vs = vars.map (argOf ps avs)) (hent : ∀ L, ent L = entOf scope ps avs L)
    (h : ∀ L g o, WF ⟨w, A.deeper (envOfC qual scope L f cdv), n, hb, g, o, envOfC qual scope L f cdv, vars⟩ ⟨vs, nw ++ ent L⟩ (execs body (envOfC qual scope L f cdv)) fun fl st' => ∃ nw', nw'.Sublist st'.nw ∧ R fl.val nw') :
    SpC w A hb nw (.call (.ref f) ⟨pos, kw⟩) R := SpC.defB vs ent G r (G.X _ _ ho) rfl (codeRec_of G.X hcd) hbind ha hok hvs hent h
theorem Sp.def {ps vars : List Str} {avs : List AV} {pos' : List Value} (vs : List (Option AV)) (ent : Addr → List (Addr × OP)) (G : Gr w hb) (r : Rm A (n + 2))
    (ho : (Kx w.params).lookup f = some ⟨oc, od, .func (fnOf name qual params body scope dV kV doc pm an cdv ct), osl⟩) (hcd : codeIn (Kx w.params) cdv qual = true)
    (hbind : ∀ s : Shared, (∀ b o, hb.get? b = some o → s.heap.get? b = some o) → BindsTo s (fnOf name qual params body scope dV kV doc pm an cdv ct) ⟨pos, kw⟩ (ps.zip pos'))
    (ha : AVs avs pos') (hok : defChk scope ps vars avs.length = true) (hvs : vs = vars.map (argOf ps avs)) (hent : ∀ L, ent L = entOf scope ps avs L)
    (h : ∀ L g o, WF ⟨w, A.deeper (envOfC qual scope L f cdv), n, hb, g, o, envOfC qual scope L f cdv, vars⟩ ⟨vs, nw ++ ent L⟩ (execs body (envOfC qual scope L f cdv)) fun fl st' => ∃ nw', nw'.Sublist st'.nw ∧ R fl.val nw') :
    Sp w A hb nw (call (.ref f) pos kw) R := (SpC.def vs ent G r ho hcd hbind ha hok hvs hent h).sp
end
/-- back from a larger base to the frame -/
theorem SatH.back {c : Cx} {vs : List (Option AV)} {rest : List (Addr × OP)} {h : Heap} {g : Array GenState} {o : OsState} (hs : SatH c ⟨vs, rest⟩ h g o) {hb0 : Heap} (k1 : ∀ b ob, c.hb.get? b = some ob → hb0.get? b = some ob) (k2 : ∀ p ∈ rest, Bs hb0 p.1 p.2)
    (k3 : ∀ ob, h.get? c.env.locals = some ob → hb0.get? c.env.locals = some ob) {nw' : List (Addr × OP)} {h' : Heap} (H : Hp hb0 nw' h') : SatH c ⟨vs, rest ++ nw'⟩ h' g o := by
  have ne : ∀ p ∈ nw', ∀ b ob, hb0.get? b = some ob → p.1 ≠ b := fun p hp b ob e z => nomatch (z.symm ▸ e).symm.trans (H.at' p hp).1
  obtain ⟨m, ⟨oL, es, ep, hL, r⟩, hf⟩ := hs.ns
  refine ⟨hs.ok, ⟨fun b ob e => H.keep b ob (k1 b ob e), fun p hp => ?_, ?_⟩, ⟨m, ⟨oL, es, ep, H.keep _ _ (k3 _ hL), r⟩, hf⟩, fun p hp => ?_, hs.gens, hs.os⟩
  · rcases List.mem_append.mp hp with q | q
    · exact ⟨(hs.hp.at' p q).1, H.bs (k2 p q)⟩
    · exact ⟨none_of fun ob e => ne p q _ _ (k1 _ _ e) rfl, (H.at' p q).2⟩
  · show ((rest ++ nw').map (·.1)).Nodup
    rw [List.map_append]
    refine List.nodup_append.mpr ⟨hs.hp.nd, H.nd, fun a ha b hb' e => ?_⟩
    obtain ⟨p, hp', rfl⟩ := List.mem_map.mp ha
    obtain ⟨p', hp'', rfl⟩ := List.mem_map.mp hb'
    exact (k2 p hp').elim fun ob x => ne p' hp'' _ _ x.1 e.symm
  · rcases List.mem_append.mp hp with q | q
    · exact hs.away p q
    · exact ne p q _ _ (k3 _ hL)
/-- the place inside a comprehension -/
abbrev Cx.comp (c : Cx) (scope : Scope) (cl : List (Str × Addr)) (vars : List Str) (hb : Heap) (C : Addr) : Cx := { c with hb := hb, env := compEnvC scope cl C c.env, vars := vars }
abbrev tests (ifs : List Expr) (env : Env) : Sem Bool := forIn ifs true fun c r => if r = true then do let ok ← PySem.isTrue c env (eval c env); pure (ForInStep.yield ok) else pure (ForInStep.yield r)
theorem WB.ifs0 {c : Cx} {st : AS} {R : Bool → AS → Prop} (h : R true st) : WB c st (tests [] c.env) R := ⟨fun s hs => wpAny_pure ⟨true, st, rfl, hs, h⟩⟩
theorem WB.ifs1 {c : Cx} {st : AS} {t : Expr} {R : Bool → AS → Prop} (h : WB c st (PySem.isTrue t c.env (eval t c.env)) R) : WB c st (tests [t] c.env) R := ⟨fun s hs => by
  unfold tests
  rw [List.forIn_cons, if_pos rfl]
  exact wpAny_bind (wpAny_bind (h.run hs fun v s' b st' r q z => wpAny_pure (wpAny_pure ⟨b, st', r, q, z⟩)))⟩
/-- a turn's end in a comprehension: the list so far, what else was made -/
def CompR (D : Addr) (Inv : List AV → List (Addr × OP) → Prop) (ys : List AV) (st : AS) : Prop := ∃ ex, ((D, isList ys) :: ex).Sublist st.nw ∧ Inv ys ex
/-- what a turn of a comprehension has to do -/
def CompT (c : Cx) (scope : Scope) (cl : List (Str × Addr)) (vars : List Str) (target : Expr) (ifs : List Expr) (elt : Expr) (rest : List (Addr × OP)) (n : Nat) (Val : Nat → Value → Heap → Prop) (Inv : Nat → List AV → List (Addr × OP) → Prop) : Prop :=
  ∀ hb C, (∀ b ob, c.hb.get? b = some ob → hb.get? b = some ob) → (∀ p ∈ rest, Bs hb p.1 p.2) → ∀ k D ys ex v s₁, k < n → Inv k ys ex → Val k v s₁.heap → Sat (c.comp scope cl vars hb C) ⟨[], (D, isList ys) :: ex⟩ s₁ →
    wpAny c.M c.A (assign target (compEnvC scope cl C c.env) v) (fun _ s₂ => ∃ st₁, Sat (c.comp scope cl vars hb C) st₁ s₂ ∧ WB (c.comp scope cl vars hb C) st₁ (tests ifs (compEnvC scope cl C c.env)) fun ok st₂ =>
      cond ok (WV (c.comp scope cl vars hb C) st₂ (eval elt (compEnvC scope cl C c.env)) fun y st₃ => ∃ ex', ((D, isList ys) :: ex').Sublist st₃.nw ∧ Inv (k + 1) (ys ++ [y]) ex') (∃ ex', ((D, isList ys) :: ex').Sublist st₂.nw ∧ Inv (k + 1) ys ex')) NoE s₁
theorem AVs.push {xs : List AV} {vs : Array Value} (r : AVs xs vs.toList) {a : AV} {v : Value} (ra : a.is v) : AVs (xs ++ [a]) (vs.push v).toList := by rw [Array.toList_push]; exact r.append (.cons ra .nil)
/-- xs.append(x) -/
theorem append_at {c : Cx} {st : AS} {s : Shared} (hs : Sat c st s) {i : Nat} {D : Addr} {ys : List AV} {y : AV} {u : Value} (e : st.nw[i]? = some (D, isList ys)) (r : y.is u) (hz : ys.length ≤ 1000) {Q : Value → Shared → Prop} (k : ∀ s', Sat c (st.upd i D (isList (ys ++ [y]))) s' → Q .none s') :
    wpAny c.M c.A (call (.builtin "list.append") [.ref D, u]) Q NoE s := by
  obtain ⟨vs, n, eo, rv⟩ := (hs.hp.get e).exact
  refine call_meets slot_list_append ⟨_, eo, rfl⟩ entry_list_append (args_list_append _ _) (list_append D vs n u (by rw [rv.size]; exact Nat.le_trans hz (by decide))) ⟨eo, k _ (hs.upd e (Heap.SameBut.update ..) ⟨_, Heap.get?_update_self _ eo rfl, ?_⟩)⟩
  exact ⟨_, _, rfl, rv.push r⟩
theorem comp_loop {c : Cx} {scope : Scope} {cl : List (Str × Addr)} {vars : List Str} {hb0 : Heap} {C D I : Addr} {fp wr : List Addr} {n : Nat} {St : Nat → Heap → Prop} {Val : Nat → Value → Heap → Prop} {target : Expr} (DI : It c.w c.A target I fp wr n St Val) {elt iter : Expr} {ifs : List Expr} {pos : Pos} {rest : List (Addr × OP)}
    (Inv : Nat → List AV → List (Addr × OP) → Prop) (hz : ∀ k ys ex, Inv k ys ex → ys.length ≤ 1000) (turn : CompT c scope cl vars target ifs elt rest n Val Inv) (k1 : ∀ b ob, c.hb.get? b = some ob → hb0.get? b = some ob) (k2 : ∀ p ∈ rest, Bs hb0 p.1 p.2)
    {s : Shared} (hs : Sat (c.comp scope cl vars hb0 C) ⟨[], (D, isList []) :: []⟩ s) (ap : Apart (c.comp scope cl vars hb0 C) fp wr [] ((D, isList []) :: [])) (hst : St 0 s.heap) (h0 : Inv 0 [] [])
    {R : Result → Shared → Prop} (fin : ∀ ys ex s', Inv n ys ex → Sat (c.comp scope cl vars hb0 C) ⟨[], (D, isList ys) :: ex⟩ s' → R (.ok .next) s') :
    codeAny c.M c.A (.compLoop (.ListComp elt [⟨target, iter, ifs, 0⟩] scope pos) 0 (.ref I) (.ref D) (compEnvC scope cl C c.env)) R s := by
  refine codeAny_loop rfl (fun m s => ∃ k ys ex, m + k = n ∧ Inv k ys ex ∧ Apart (c.comp scope cl vars hb0 C) fp wr [] ((D, isList ys) :: ex) ∧ Sat (c.comp scope cl vars hb0 C) ⟨[], (D, isList ys) :: ex⟩ s ∧ St k s.heap) (fun m s x => ?_) n ⟨0, [], [], rfl, h0, ap, hs, hst⟩
  obtain ⟨k, ys, ex, hm, hI, ap', hs', hst'⟩ := x
  show wpAny _ _ ((compTurn (.ListComp elt [⟨target, iter, ifs, 0⟩] scope pos) 0 (.ref I) (.ref D) (compEnvC scope cl C c.env)).onRaise (fun x => do noteFrame x (compEnvC scope cl C c.env); theTreesLotGoes x)) _ _ s
  refine wpAny_noted ?_
  rw [compTurn_list]
  refine wpAny_bind (wpAny_standAt (wpAny_bind ?_))
  cases m with
  | zero =>
    obtain rfl : k = n := by rw [← hm, Nat.zero_add]
    refine wpAny_mono (It.last (c := c.comp scope cl vars hb0 C) DI ap' hs' hst' (fun r s₁ => r = none ∧ Sat (c.comp scope cl vars hb0 C) ⟨[], (D, isList ys) :: ex⟩ s₁) fun s₁ q => ⟨rfl, q⟩) (fun r s₁ x => ?_) no_noted
    obtain ⟨rfl, q⟩ := x
    exact wpAny_pure (fin ys ex s₁ hI q)
  | succ m =>
    have hk : k < n := by omega
    refine wpAny_mono (It.turn (c := c.comp scope cl vars hb0 C) DI ap' hs' hk hst' (fun v => assign target (compEnvC scope cl C c.env) v) (fun _ s₂ => wpAny c.M c.A (tests ifs (compEnvC scope cl C c.env)) (fun ok s₃ => cond ok (wpAny c.M c.A (eval elt (compEnvC scope cl C c.env)) (fun u s₄ => wpAny c.M c.A (call (.builtin "list.append") [.ref D, u]) (fun _ s₅ => ∃ m', m' < m + 1 ∧ ∃ k ys ex, m' + k = n ∧ Inv k ys ex ∧ Apart (c.comp scope cl vars hb0 C) fp wr [] ((D, isList ys) :: ex) ∧ Sat (c.comp scope cl vars hb0 C) ⟨[], (D, isList ys) :: ex⟩ s₅ ∧ St k s₅.heap) NoE s₄) NoE s₃)
        (∃ m', m' < m + 1 ∧ ∃ k ys ex, m' + k = n ∧ Inv k ys ex ∧ Apart (c.comp scope cl vars hb0 C) fp wr [] ((D, isList ys) :: ex) ∧ Sat (c.comp scope cl vars hb0 C) ⟨[], (D, isList ys) :: ex⟩ s₃ ∧ St k s₃.heap)) NoE s₂) fun hb' k3 _ v s₁ hv q back => ?_) (fun r s₁ x => ?_) no_noted
    · have bs : ∀ p ∈ rest, Bs hb' p.1 p.2 := fun p hp => (k2 p hp).elim fun ob x => ⟨ob, k3 _ _ x.1, x.2⟩
      have fin' : ∀ ys' ex' (s₃ : Shared), Inv (k + 1) ys' ex' → Sat (c.comp scope cl vars hb' C) ⟨[], (D, isList ys') :: ex'⟩ s₃ → ∃ m', m' < m + 1 ∧ ∃ k ys ex, m' + k = n ∧ Inv k ys ex ∧ Apart (c.comp scope cl vars hb0 C) fp wr [] ((D, isList ys) :: ex) ∧ Sat (c.comp scope cl vars hb0 C) ⟨[], (D, isList ys) :: ex⟩ s₃ ∧ St k s₃.heap := fun ys' ex' s₃ hI' q' =>
        have b := back _ s₃ q'
        ⟨m, Nat.lt_succ_self m, k + 1, ys', ex', by omega, hI', b.2.1, b.1, b.2.2⟩
      refine wpAny_mono (turn hb' C (fun b ob e => k3 b ob (k1 b ob e)) bs k D ys ex v s₁ hk hI hv q) (fun _ s₂ x => ?_) fun _ _ x => x
      obtain ⟨st₁, q₁, z⟩ := x
      refine W.run (c := c.comp scope cl vars hb' C) z q₁ fun ok s₃ ok' st₂ r q₂ z₂ => ?_
      subst r
      cases ok' with
      | true =>
        refine W.run (c := c.comp scope cl vars hb' C) z₂ q₂ fun u s₄ y st₃ ry q₃ z₃ => ?_
        obtain ⟨ex', hsub, hI'⟩ := z₃
        have q₄ : SatH (c.comp scope cl vars hb' C) ⟨[], (D, isList ys) :: ex'⟩ s₄.heap s₄.gens s₄.os := Wk.sat ⟨(fun i v e => nomatch e), hsub⟩ q₃
        exact append_at (c := c.comp scope cl vars hb' C) q₄ (i := 0) rfl ry (hz k ys ex hI) fun s' q' => fin' _ _ s' hI' q'
      | false =>
        obtain ⟨ex', hsub, hI'⟩ := z₂
        exact fin' ys ex' s₃ hI' (Wk.sat ⟨(fun i v e => nomatch e), hsub⟩ q₂)
    · obtain ⟨v, rfl, z⟩ := x
      refine wpAny_bind (wpAny_mono z (fun _ s₂ z => wpAny_bind (wpAny_mono z (fun _ s₃ z => wpAny_bind (wpAny_mono z (fun ok s₄ z => ?_) no_noted)) no_noted)) no_noted)
      cases ok with
      | false => exact wpAny_pure ⟨rfl, z⟩
      | true => exact wpAny_bind (wpAny_bind (wpAny_mono z (fun x s₅ z => wpAny_bind (wpAny_mono z (fun _ s₆ z => wpAny_pure (wpAny_pure ⟨rfl, z⟩)) no_noted)) no_noted))
def compChk (scope : Scope) (env : Env) (vars : List Str) : Bool := scope.kind == .function && varsOk (relabel scope env).names vars && (scope.names.all fun x => !(x.2 == .cell)) && scope.names.all fun x => !(x.2 == .local) || scope.names.lookup x.1 == some .local
theorem compChk.parts {scope : Scope} {env : Env} {vars : List Str} (h : compChk scope env vars = true) : scope.kind = .function ∧ varsOk (relabel scope env).names vars = true ∧ (∀ x ∈ scope.names, x.2 ≠ .cell) ∧ ∀ x ∈ scope.names, x.2 = .local → scope.names.lookup x.1 = some .local := by
  obtain ⟨h, h4⟩ := Bool.and_eq_true_iff.mp h
  obtain ⟨h, h3⟩ := Bool.and_eq_true_iff.mp h
  obtain ⟨h1, h2⟩ := Bool.and_eq_true_iff.mp h
  refine ⟨eq_of_beq h1, h2, fun x hx z => ?_, fun x hx z => ?_⟩
  · have := List.all_eq_true.mp h3 x hx
    rw [z] at this; cases this
  · have := List.all_eq_true.mp h4 x hx
    rw [z] at this; exact eq_of_beq this
/-- an address that nothing knows -/
structure Stray (c : Cx) (nw : List (Addr × OP)) (C : Addr) (h : Heap) : Prop where
  ns : ∃ m, h.Ns C m
  base : c.hb.get? C = none
  loc : c.env.locals ≠ C
  nw : ∀ p ∈ nw, p.1 ≠ C
theorem Stray.off {c : Cx} {st : AS} {C : Addr} {h h' : Heap} {g : Array GenState} {o : OsState} (a : Stray c st.nw C h) (hs : SatH c st h g o) (k : Heap.SameBut C h h') : SatH c st h' g o :=
  hs.off (wr := [C]) (one_off a.base) (one_away a.nw) (fun z => a.loc (List.mem_singleton.mp z)) (Kp.same k)
theorem comp_core {c : Cx} {scope : Scope} {cl : List (Str × Addr)} {vars : List Str} {I : Addr} {fp wr : List Addr} {n : Nat} {St : Nat → Heap → Prop} {Val : Nat → Value → Heap → Prop} {target : Expr} (DI : It c.w c.A target I fp wr n St Val) {elt iter : Expr} {ifs : List Expr} {pos : Pos} {rest : List (Addr × OP)} {vs : List (Option AV)}
    (chk : compChk scope c.env vars = true) (Inv : Nat → List AV → List (Addr × OP) → Prop) (hz : ∀ k ys ex, Inv k ys ex → ys.length ≤ 1000) (turn : CompT c scope cl vars target ifs elt rest n Val Inv) (h0 : Inv 0 [] [])
    {s : Shared} (hs : Sat c ⟨vs, rest⟩ s) (ap : Apart c fp wr rest []) (hst : St 0 s.heap) {RR : Value → Addr → Result → Shared → Prop}
    (fin : ∀ D C ys ex s', Inv n ys ex → Sat c ⟨vs, rest ++ ((D, isList ys) :: ex)⟩ s' → Stray c (rest ++ ((D, isList ys) :: ex)) C s'.heap → RR (.ref D) C (.ok .next) s') :
    wpAny c.M c.A (newList []) (fun acc s₃ => wpAny c.M c.A (newFunctionEnv scope c.env.globals cl [] c.env.qual none .none (some c.env)) (fun cenv s₄ =>
      codeAny c.M c.A (.compStart (.ListComp elt [⟨target, iter, ifs, 0⟩] scope pos) 0 (.ref I) acc { cenv with scope := relabel scope c.env }) (RR acc cenv.locals) s₄) NoE s₃) NoE s := by
  obtain ⟨hk, hv, hcell, _⟩ := compChk.parts chk
  refine wpAny_newObj_type (wpAny_newFunctionEnv hcell (fun y hy => nomatch hy) (fun h₁ hns₁ hsb₁ => ?_) hk)
  generalize hH2 : s.heap.push { cls := .type "list", dict := none, data := .seq ([] : List Value).toArray } = H2 at hns₁ hsb₁ ⊢
  have hC : H2.objs.size = s.heap.objs.size + 1 := by rw [← hH2, Heap.size_push]
  have ltC : ∀ b, b ≤ s.heap.objs.size → b ≠ H2.objs.size := fun b hb => by rw [hC]; exact Nat.ne_of_lt (Nat.lt_succ_of_le hb)
  have old : ∀ b o, s.heap.get? b = some o → h₁.get? b = some o := fun b o e => hsb₁.extBut b o (ltC b (Nat.le_of_lt (Heap.lt_size e))) (Heap.get?_push_of_some _ (hH2 ▸ Heap.get?_push_of_some _ e))
  have hacc : h₁.get? s.heap.objs.size = some { cls := .type "list", dict := none, data := .seq ([] : List Value).toArray } := hsb₁.extBut _ _ (ltC _ (Nat.le_refl _)) (Heap.get?_push_of_some _ (hH2 ▸ Heap.get?_push_size _ rfl))
  have fresh : ∀ a, s.heap.objs.size ≤ a → s.heap.get? a = none := fun a ha => none_of fun o e => Nat.not_lt.mpr ha (Heap.lt_size e)
  have hst₁ : St 0 h₁ := DI.frame _ _ _ hst fun b _ o e => old b o e
  have up : ∀ b o, s.heap.get? b = some o → b ∉ wr → (hideAll s.heap wr).get? b = some o := fun b o e n => hideAll_get _ e n
  have k1 : ∀ b ob, c.hb.get? b = some ob → (hideAll s.heap wr).get? b = some ob := fun b ob e => up b ob (hs.hp.keep b ob e) fun z => nomatch e.symm.trans (ap.base b z)
  have k2 : ∀ p ∈ rest, Bs (hideAll s.heap wr) p.1 p.2 := fun p hp => (hs.hp.at' p hp).2.elim fun ob x => ⟨ob, up _ _ x.1 (ap.rest p hp), x.2⟩
  have k3 : ∀ ob, s.heap.get? c.env.locals = some ob → (hideAll s.heap wr).get? c.env.locals = some ob := fun ob e => up _ _ e fun z => ap.loc (DI.sub _ z)
  have none' : ∀ a, s.heap.objs.size ≤ a → (hideAll s.heap wr).get? a = none := fun a ha => none_of fun o e => nomatch (of_hideAll _ e).symm.trans (fresh a ha)
  have inF : ∀ a, s.heap.objs.size ≤ a → a ∉ fp := fun a ha z => by
    obtain ⟨o, e⟩ := DI.dom _ _ hst _ z
    exact nomatch e.symm.trans (fresh a ha)
  have hs₁ : SatH (c.comp scope cl vars (hideAll s.heap wr) H2.objs.size) ⟨[], (s.heap.objs.size, isList []) :: []⟩ h₁ s.gens s.os :=
    ⟨⟨hs.ok.gr.keeps k1, hk, hs.ok.glob, hs.ok.blt, hv, none' _ (by rw [hC]; exact Nat.le_succ _), hs.ok.rm⟩,
      ⟨fun b o e => old b o (of_hideAll _ e), fun p hp => by rw [List.mem_singleton] at hp; subst hp; exact ⟨none' _ (Nat.le_refl _), _, hacc, _, _, rfl, .nil⟩, List.nodup_cons.mpr ⟨List.not_mem_nil, List.nodup_nil⟩⟩,
      ⟨_, hns₁, fun i x v hx hv => nomatch hv⟩, fun p hp => by rw [List.mem_singleton] at hp; subst hp; exact ltC _ (Nat.le_refl _), hs.gens, hs.os⟩
  have loop : ∀ s₃ : Shared, s₃.heap = h₁ → s₃.gens = s.gens → s₃.os = s.os → codeAny c.M c.A (.compLoop (.ListComp elt [⟨target, iter, ifs, 0⟩] scope pos) 0 (.ref I) (.ref s.heap.objs.size) (compEnvC scope cl H2.objs.size c.env)) (RR (.ref s.heap.objs.size) H2.objs.size) s₃ := fun s₃ e1 e2 e3 => by
    obtain ⟨h3, g3, d3, t3, o3⟩ := s₃
    dsimp only at e1 e2 e3
    subst e1 e2 e3
    refine comp_loop DI Inv hz turn k1 k2 hs₁ ⟨fun a ha => hideAll_none _ ha, (fun p hp => nomatch hp), fun p hp => by rw [List.mem_singleton] at hp; subst hp; exact inF _ (Nat.le_refl _), inF _ (by rw [hC]; exact Nat.le_succ _)⟩ hst₁ h0 fun ys ex s' hI q => ?_
    refine fin _ _ ys ex s' hI ?_ ⟨q.ns.elim fun m x => ⟨m, x.1⟩, (none_of fun o e => nomatch (k1 _ _ e).symm.trans (none' _ (by rw [hC]; exact Nat.le_succ _))), ltC _ ?_, fun p hp => ?_⟩
    · have eg : s'.gens = s.gens := q.gens.trans hs.gens.symm
      have eo : s'.os = s.os := q.os.trans hs.os.symm
      show SatH _ _ _ _ _
      rw [eg, eo]
      exact hs.back k1 k2 k3 q.hp
    · obtain ⟨m, hm, _⟩ := hs.ns
      exact Nat.le_of_lt hm.lt
    · rcases List.mem_append.mp hp with q' | q'
      · exact ltC _ (Nat.le_of_lt (hs.hp.lt q'))
      · exact q.away p q'
  have lp := loop { s with heap := h₁, toks := s.toks + ([] : List (Str × Value)).length } rfl rfl rfl
  exact codeAny_compStart_list lp (wpAny_mono (DI.self 0 _ _ hst₁ lp) (fun _ _ x => x) no_noted)
section
variable {c : Cx} {st : AS}
/-- what a comprehension's iterable must bring -/
def CompK (c : Cx) (scope : Scope) (cl : List (Str × Addr)) (vars : List Str) (target : Expr) (ifs : List Expr) (elt : Expr) (K : Addr → List AV → List (Addr × OP) → List (Option AV) → List (Addr × OP) → Prop) : (n : Nat) → (Nat → Value → Heap → Prop) → List (Option AV) → List (Addr × OP) → List (Addr × OP) → Prop :=
  fun n Val vs rest nwM => nwM = [] ∧ ∃ Inv : Nat → List AV → List (Addr × OP) → Prop, (∀ k ys ex, Inv k ys ex → ys.length ≤ 1000) ∧ CompT c scope cl vars target ifs elt rest n Val Inv ∧ Inv 0 [] [] ∧ ∀ D ys ex, Inv n ys ex → K D ys ex vs rest
theorem WV.comp {elt target iter : Expr} {ifs : List Expr} {scope : Scope} {pos : Pos} {R : AV → AS → Prop} {cl : List (Str × Addr)} {vars : List Str} (hcl : closureFor scope c.env = pure cl) (chk : compChk scope c.env vars = true)
    (h : Src c st target iter (CompK c scope cl vars target ifs elt fun D ys ex vs rest => R (.ref D) ⟨vs, rest ++ ((D, isList ys) :: ex)⟩)) (hf : ∀ x, foldedSetIterable iter c.env x = pure x := by intro _; rfl) :
    WV c st (eval (.ListComp elt [⟨target, iter, ifs, 0⟩] scope pos) c.env) R := ⟨fun s hs => by
  obtain ⟨hk, hv, hcell, hnames⟩ := compChk.parts chk
  rw [eval_ListComp]
  refine wpAny_comprehension_free (use := none) rfl hf hcl hk hnames (wpAny_mono (h.go s hs) (fun x s₁ y => wpAny_mono y (fun v s₂ y => ?_) fun _ _ x => x) fun _ _ x => x)
  cases y with
  | mk I fp wr n St Val vs rest nwM e D ap q hst z =>
    obtain ⟨rfl, Inv, hz, turn, h0, fin⟩ := z
    subst e
    rw [List.append_nil] at q
    refine comp_core (RR := fun acc C => compPost c.M c.A NoE none (fun v s' => ∃ b st', b.is v ∧ Sat c st' s' ∧ R b st') acc C) D chk Inv hz turn h0 q ap hst fun D' C ys ex s' hI q' sy => ?_
    exact sy.ns.elim fun m hm => ⟨m, hm, fun h' hsb => ⟨.ref D', _, rfl, sy.off q' hsb, fin D' ys ex hI⟩⟩⟩
end
/-- stores into names, in order -/
structure Tgs (c : Cx) (es : List Expr) (as : List AV) (st st' : AS) : Prop where
  go : ∀ vs, AVs as vs → WU c st (assignInOrder ((assignEach es c.env).map (·.2)) vs) fun _ st₁ => st₁ = st'
  len : (assignEach es c.env).length = as.length
  star : (assignEach es c.env).findIdx? (·.1) = none
section
variable {c : Cx} {st : AS}
theorem Tgs.nil : Tgs c [] [] st st := ⟨fun vs r => by cases r; exact ⟨fun s hs => wpAny_pure ⟨(), st, trivial, hs, rfl⟩⟩, rfl, rfl⟩
theorem Tgs.cons {x : Str} {p : Pos} {es : List Expr} {a : AV} {as : List AV} {f : AS → AV → AS} {ok : AS → Prop} {st' : AS} (t : Tg c (.Name x p) f ok) (h : ok st) (k : Tgs c es as (f st a) st') : Tgs c (.Name x p :: es) (a :: as) st st' :=
  ⟨fun vs r => by
    cases r with
    | cons ra r =>
      refine ⟨fun s hs => ?_⟩
      show wpAny _ _ (do holding _ (assign (.Name x p) c.env _); assignInOrder ((assignEach es c.env).map (·.2)) _) _ _ s
      exact wpAny_bind (wpAny_holding (W.run (t.go st a _ (fun _ st₁ => st₁ = f st a) ra h rfl) hs fun _ s₁ _ st₁ _ q e => by subst e; exact (k.go _ r).go s₁ q)),
   congrArg (· + 1) k.len, by
    show List.findIdx? _ ((false, assign (.Name x p) c.env) :: assignEach es c.env) = none
    rw [List.findIdx?_cons, k.star]; rfl⟩
theorem SatH.ext {h h' : Heap} {g : Array GenState} {o : OsState} (hs : SatH c st h g o) (k : Heap.ExtBut h.objs.size h h') : SatH c st h' g o := hs.grow fun b ob e => k b ob (Nat.ne_of_lt (Heap.lt_size e)) e
theorem Tgs.tup {es : List Expr} {as : List AV} {st' : AS} (t : Tgs c es as st st') {n : Nat} {p : Pos} {s : Shared} (hs : Sat c st s) {l : Addr} {items : Array Value} (ht : s.heap.IsTuple l items) (r : AVs as items.toList) :
    wpAny c.M c.A (assign (.Tuple es n p) c.env (.ref l)) (fun _ s₁ => Sat c st' s₁) NoE s :=
  wpAny_assign_Tuple hs.ok.rm.handled ht (t.len.trans r.size.symm) t.star fun h' ke => (t.go _ r).run (s := { s with heap := h' }) (hs.ext ke) fun _ s₁ _ st₁ _ q e => by subst e; exact q
theorem draw_list {w : World} {A : Around} {I l : Addr} {items : Array Value} (D : Walks Pg w A I [I, l] [I] items.size (fun i v => items[i]? = some v) (fun i h => h.IsListIter I l i ∧ h.IsList l items)) : ∀ (n i : Nat) (s : Shared) (Q : List Value → Shared → Prop), i + n = items.size → (s.heap.IsListIter I l i ∧ s.heap.IsList l items) →
    (∀ h' tk, (h'.IsListIter I l items.size ∧ h'.IsList l items) → Kp [I] s.heap h' → Q (items.toList.drop i) { s with heap := h', toks := tk }) → wpAny (model Pg w) A (draw (.ref I) n) Q NoE s
  | 0, i, s, Q, e, st, k => by
    show wpAny _ _ (pure []) Q NoE s
    rw [Nat.add_zero] at e; subst e
    have := k s.heap s.toks st Kp.refl
    rw [List.drop_of_length_le (Nat.le_of_eq Array.length_toList)] at this
    exact wpAny_pure this
  | n + 1, i, s, Q, e, st, k => by
    show wpAny _ _ (pyNext (.ref I) >>= _) Q NoE s
    refine wpAny_bind (D.item i s _ _ (by omega) st fun v h₁ tk hv st₁ k₁ => wpAny_bind (wpAny_holding (draw_list D n (i + 1) _ _ (by omega) st₁ fun h₂ tk₂ st₂ k₂ => wpAny_pure ?_)))
    have := k h₂ tk₂ st₂ (Kp.trans k₁ k₂)
    obtain ⟨hl, ev⟩ := Array.getElem?_eq_some_iff.mp hv
    rw [List.drop_eq_getElem_cons (by rw [Array.length_toList]; exact hl), Array.getElem_toList, ev] at this
    exact this
theorem Tgs.list {es : List Expr} {as : List AV} {st' : AS} (t : Tgs c es as st st') {n : Nat} {p : Pos} {s : Shared} (hs : Sat c st s) {l : Addr} (b : Bs s.heap l (isListW as)) :
    wpAny c.M c.A (assign (.Tuple es n p) c.env (.ref l)) (fun _ s₁ => Sat c st' s₁) NoE s := by
  obtain ⟨items, ht, r⟩ := b.isL
  have hlt : l ≠ s.heap.objs.size := ht.elim fun o x => Nat.ne_of_lt (Heap.lt_size x.1)
  have D := Walks.list (prog := Pg) (w := c.w) hs.ok.rm.handled s.heap.objs.size l hlt items
  rw [arm_assign_Tuple]
  refine wpAny_bind (wpAny_standAt ?_)
  unfold unpack
  rw [t.len.trans r.size.symm, t.star]
  refine wpAny_bind (wpAny_holding ?_)
  unfold unpackItems notIterableAtAll
  refine wpAny_bind (wpAny_bind (wpAny_specialOf ht.typeIs slot_list_iter.lookup (wpAny_pure ?_)))
  rw [if_neg Bool.false_ne_true]
  refine wpAny_bind (wpAny_holding (wpAny_pyIter_list ht ?_))
  refine wpAny_bind (wpAny_holding (draw_list D items.size 0 _ _ (Nat.zero_add _) ⟨⟨_, Heap.get?_push_size _ rfl, rfl, rfl⟩, ht.push _⟩ fun h₁ tk st₁ k₁ => ?_))
  rw [List.drop_zero, if_neg (by rw [Array.length_toList]; exact Nat.lt_irrefl _)]
  refine wpAny_bind (wpAny_holding (D.done _ _ _ st₁ fun h₂ tk₂ k₂ => ?_))
  rw [if_neg (by exact Bool.false_ne_true)]
  refine wpAny_pure ((t.go _ r).run (s := { s with heap := h₂, toks := tk₂ }) (hs.grow fun b ob e => ?_) fun _ s₁ _ st₁ _ q e => by subst e; exact q)
  have ne : b ∉ [s.heap.objs.size] := fun z => Nat.ne_of_lt (Heap.lt_size e) (List.mem_singleton.mp z)
  exact k₂ b ob ne (k₁ b ob ne (Heap.get?_push_of_some _ e))
/-- a, b = ... -/
theorem WF.asgT {es : List Expr} {n : Nat} {p' p : Pos} {e : Expr} {R : AF → AS → Prop} (h : WV c st (eval e c.env) fun v st₁ => ∃ l as st₂, v = .ref l ∧ (In c st₁ l (isTupW as) ∨ In c st₁ l (isListW as)) ∧ Tgs c es as st₁ st₂ ∧ R .next st₂)
    (hsw : swapsWithSole [.Tuple es n p'] e p.line c.env = pure false := by rfl) (hw : swappedStores [.Tuple es n p'] e c.env = pure none := by rfl) : WF c st (exec (.Assign [.Tuple es n p'] e p) c.env) R :=
  ⟨fun s hs => Assign_Tuple (h.run hs fun u s₁ v st₁ r q z => by
    obtain ⟨l, as, st₂, rfl, b, t, k⟩ := z
    cases r
    rcases b with b | b
    · obtain ⟨items, ht, r⟩ := (b _ q.hp).isT
      exact wpAny_mono (t.tup q ht r) (fun _ s₂ q₂ => ⟨.next, st₂, rfl, q₂, k⟩) fun _ _ x => x
    · exact wpAny_mono (t.list q (b _ q.hp)) (fun _ s₂ q₂ => ⟨.next, st₂, rfl, q₂, k⟩) fun _ _ x => x) hsw hw⟩
/-- two locals at once: the stores go backwards -/
theorem WF.asgS {x y : Str} {i j : Nat} {es : List Expr} {n : Nat} {p' p : Pos} {e : Expr} {R : AF → AS → Prop} (hx : c.vars[i]? = some x) (hy : c.vars[j]? = some y) (h : WV c st (eval e c.env) fun v st₁ => ∃ l a b, v = .ref l ∧ In c st₁ l (isTupW [a, b]) ∧ R .next ((st₁.put j b).put i a))
    (hsw : swapsWithSole [.Tuple es n p'] e p.line c.env = pure false := by rfl) (hw : swappedStores [.Tuple es n p'] e c.env = pure (some [x, y]) := by rfl) : WF c st (exec (.Assign [.Tuple es n p'] e p) c.env) R :=
  ⟨fun s hs => Assign_Tuple_swapped (names := [x, y]) (h.run hs fun u s₁ v st₁ r q z => by
    obtain ⟨l, a, b, rfl, hb, k⟩ := z
    cases r
    obtain ⟨items, ht, r⟩ := (hb _ q.hp).isT
    have sz : items.size = 2 := r.size
    have := wpAny_unpackItems_tuple (prog := Pg) (w := c.w) (E := NoE) q.ok.rm.handled ht (Q := fun its s₂ => wpAny c.M c.A (assignInOrder ([x, y].reverse.map fun n => bindName c.env n) its.reverse) (fun _ s' => ∃ b' st', b'.is Flow.next ∧ Sat c st' s' ∧ R b' st') NoE s₂) fun h' ke => ?_
    · rw [sz] at this; exact this
    have q' : Sat c st₁ { s₁ with heap := h' } := q.ext ke
    revert r
    generalize items.toList = its
    intro r
    cases r with | cons ra r => cases r with | cons rb r => cases r with | nil =>
      refine wpAny_bind (wpAny_holding (wpAny_bindName (W.run (WU.store rb hy (R := fun _ st' => st' = st₁.put j b) rfl) q' fun _ s₂ _ st₂ _ q₂ e => ?_)))
      subst e
      refine wpAny_bind (wpAny_holding (wpAny_bindName (W.run (WU.store ra hx (R := fun _ st' => st' = (st₁.put j b).put i a) rfl) q₂ fun _ s₃ _ st₃ _ q₃ e => ?_)))
      subst e
      exact wpAny_pure ⟨.next, _, rfl, q₃, k⟩) hsw hw⟩
/-- tuples that an iterator hands out -/
abbrev TupV (P : Nat → List AV → Prop) (k : Nat) (v : Value) (h : Heap) : Prop := ∃ T vals as, v = .ref T ∧ h.IsTuple T vals ∧ AVs as vals.toList ∧ P k as
theorem It.ofT {w : World} {A : Around} {elts : List Expr} {k : Nat} {pos : Pos} {I : Addr} {fp wr : List Addr} {n : Nat} {Pt : Nat → Array Value → Prop} {St : Nat → Heap → Prop} {Mid : Nat → Addr → Heap → Prop} (D : WalksT Pg w A I fp wr n Pt St Mid) (dom : ∀ i h, St i h → ∀ b ∈ fp, ∃ o, h.get? b = some o)
    {P : Nat → List AV → Prop} (hv : ∀ i vals, Pt i vals → ∃ as, AVs as vals.toList ∧ P i as) : It w A (.Tuple elts k pos) I fp wr n St (TupV P) where
  sub := D.sub
  dom := dom
  frame := D.frame
  item := fun i s Q hi hst K => D.item i s Q NoE hi hst fun T vals h' tk p _ ht m kp => K (.ref T) h' tk (fun s₁ Q' e k' => by
    subst e
    refine D.go elts k pos i T s₁ Q' NoE m fun h'' st' kp' => ?_
    obtain ⟨as, ra, pa⟩ := hv i vals p
    exact k' h'' ⟨T, vals, as, rfl, ht.elim fun o x => ⟨o, kp' T o (D.apart i T _ m) x.1, x.2⟩, ra, pa⟩ st' kp') kp
  done := fun s Q hst k => D.done s Q NoE hst k
  self := fun i s Q hst k => D.self i s Q NoE hst k
/-- a turn upon a tuple -/
theorem ForT.tup {elts : List Expr} {kt : Nat} {pt : Pos} {body : List Stmt} {rest : List (Addr × OP)} {n : Nat} {Val : Nat → Value → Heap → Prop} {Inv : Nat → AS → Prop} {R : AF → AS → Prop} {P : Nat → List AV → Prop} (hA : ∀ k v h, (∀ p ∈ rest, Bs h p.1 p.2) → (∀ b ob, c.hb.get? b = some ob → h.get? b = some ob) → Val k v h → TupV P k v h)
    (h : ∀ hb', (∀ b ob, c.hb.get? b = some ob → hb'.get? b = some ob) → (∀ p ∈ rest, Bs hb' p.1 p.2) → ∀ k (st' : AS) as, k < n → Inv k st' → P k as → ∃ st₁, Tgs (c.on hb') elts as st' st₁ ∧ WF (c.on hb') st₁ (execs body c.env) (LoopR (Inv (k + 1)) fun f st₂ => R f ⟨st₂.vs, rest ++ st₂.nw⟩)) :
    ForT c (.Tuple elts kt pt) body rest n Val Inv R := fun hb' k1 k2 k st' v s₁ hk hI hV q => by
  obtain ⟨T, vals, as, rfl, ht, ra, pa⟩ := hA k v _ (fun p hp => q.hp.bs (k2 p hp)) (fun b ob e => q.hp.keep b ob (k1 b ob e)) hV
  obtain ⟨st₁, t, z⟩ := h hb' k1 k2 k st' as hk hI pa
  exact wpAny_mono (t.tup (c := c.on hb') q ht ra) (fun _ s₂ q₂ => ⟨st₁, q₂, z⟩) fun _ _ x => x
end
open AutoSeq1 (wpAny_loadPart')
section
variable {w : World} {A : Around} {E : Value → Shared → Prop} {s : Shared}
theorem next_tup_item {it l : Addr} {i : Nat} {items} {x : Value} {Q : Value → Shared → Prop} (hit : s.heap.IsTupleIter it l i) (hl : s.heap.IsTuple l items) (hx : items[i]? = some x)
    (hQ : ∀ h', h'.IsTupleIter it l (i + 1) → Heap.SameBut it s.heap h' → Q x { s with heap := h' }) : wpAny (model Pg w) A (Builtin.SmallTypes.nextOf (.ref it)) Q E s := by
  obtain ⟨o, ho, hc, hd⟩ := id hit
  obtain ⟨ol, hol, _, nl, hdl⟩ := hl
  unfold Builtin.SmallTypes.nextOf
  refine wpAny_bind (wpAny_callSpecial?_slot (name := Str.ofString "__next__") hit.typeIs F.slot_tuple_iterator_next
    (wpAny_call_entry F.slot_tuple_iterator_next hit.typeIs F.entry_tuple_iterator_next ?_ (F.args_tuple_iterator_next_1 _)))
  show wpAny _ _ (field (.ref it) 0 >>= _) _ _ s
  refine wpAny_bind (wpAny_field ho hd (x := .ref l) rfl ?_)
  show wpAny _ _ (if (Value.ref l == Value.none) = true then _ else _) _ _ s
  rw [if_neg (show ¬ ((Value.ref l == Value.none) = true) from Bool.false_ne_true)]
  show wpAny _ _ (field (.ref it) 1 >>= _) _ _ s
  refine wpAny_bind (wpAny_field ho hd (x := .int i 0) rfl ?_)
  show wpAny _ _ (seqItems? (.ref l) >>= _) _ _ s
  refine wpAny_bind (wpAny_seqItems hol hdl ?_)
  simp only [Int.toNat_natCast, hx]
  refine wpAny_bind (wpAny_setField ho hd (by exact Nat.le_of_ble_eq_true rfl) (wpAny_pure ⟨x, rfl, wpAny_pure (hQ _ ?_ (Heap.SameBut.update ..))⟩))
  exact ⟨_, Heap.get?_update_self _ ho (Obj.isFreed_of_fields (Obj.data_mapFields hd _)), (Obj.cls_mapFields ..).trans hc, by
    rw [Obj.data_mapFields hd]; rfl⟩
theorem next_tup_end {it l : Addr} {i : Nat} {items} {Q : Value → Shared → Prop} (hh : A.handled = none) (hit : s.heap.IsTupleIter it l i) (hl : s.heap.IsTuple l items) (hx : items[i]? = none)
    (hE : ∀ h' e, Heap.ExtBut it s.heap h' → (∃ o, h'.get? e = some o ∧ o.cls = .type "StopIteration") → E (.ref e) { s with heap := h' }) : wpAny (model Pg w) A (Builtin.SmallTypes.nextOf (.ref it)) Q E s := by
  obtain ⟨o, ho, hc, hd⟩ := id hit
  obtain ⟨ol, hol, _, nl, hdl⟩ := hl
  unfold Builtin.SmallTypes.nextOf
  refine wpAny_bind (wpAny_callSpecial?_slot (name := Str.ofString "__next__") hit.typeIs F.slot_tuple_iterator_next
    (wpAny_call_entry F.slot_tuple_iterator_next hit.typeIs F.entry_tuple_iterator_next ?_ (F.args_tuple_iterator_next_1 _)))
  show wpAny _ _ (field (.ref it) 0 >>= _) _ _ s
  refine wpAny_bind (wpAny_field ho hd (x := .ref l) rfl ?_)
  show wpAny _ _ (if (Value.ref l == Value.none) = true then _ else _) _ _ s
  rw [if_neg (show ¬ ((Value.ref l == Value.none) = true) from Bool.false_ne_true)]
  show wpAny _ _ (field (.ref it) 1 >>= _) _ _ s
  refine wpAny_bind (wpAny_field ho hd (x := .int i 0) rfl ?_)
  show wpAny _ _ (seqItems? (.ref l) >>= _) _ _ s
  refine wpAny_bind (wpAny_seqItems hol hdl ?_)
  simp only [Int.toNat_natCast, hx]
  refine wpAny_bind (wpAny_rule (wpAny_bind (wpAny_setField ho hd (by exact Nat.le_of_ble_eq_true rfl) ?_)))
  show wpAny _ _ (newExc (.type "StopIteration") [] >>= _) _ _ _
  refine wpAny_bind ?_
  simp only [newExc, newTuple]
  refine wpAny_bind (wpAny_newObj_type ?_ (by size_fits))
  refine wpAny_bind (m := firstArgMember _ _) (wpAny_of_eq (a := Value.none) (by first | rfl | (simp only [firstArgMember]; rfl)) ?_)
  refine wpAny_newObj_type ?_ (by size_fits)
  simp only [raiseNew]
  refine wpAny_bind (wpAny_handled ?_)
  rw [show A.in1.handled = none from hh]
  refine wpAny_bind (wpAny_pure (wpAny_throw ?_))
  exact hE _ _ (((Heap.SameBut.update ..).extBut.push _).push _) ⟨_, Heap.get?_push_size _ rfl, rfl⟩
end
theorem draws_tup {w : World} {A : Around} (hh : A.handled = none) (it l : Addr) (hne : l ≠ it) (items : Array Value) :
    Draws Pg w A it [it, l] items.size (fun i v => items[i]? = some v) (fun i h => h.IsTupleIter it l i ∧ h.IsTuple l items) where
  live := fun _ _ st => st.1.elim fun o x => ⟨o, x.1⟩
  frame := fun _ _ _ st hk => ⟨st.1.elim fun o x => ⟨o, hk it (.head _) o x.1, x.2⟩, st.2.elim fun o x => ⟨o, hk l (.tail _ (.head _)) o x.1, x.2⟩⟩
  item := fun i s Q E hi st hQ => next_tup_item st.1 st.2 (Array.getElem?_eq_getElem hi) fun h' hit' hs' => hQ _ h' s.toks (Array.getElem?_eq_getElem hi) ⟨hit', st.2.extBut hs'.extBut hne⟩ hs'
  done := fun s Q E st hE => next_tup_end hh st.1 st.2 (Array.getElem?_eq_none (Nat.le_refl _)) hE
theorem draws_str {w : World} {A : Around} (hh : A.handled = none) (it : Addr) (x : Str) (t : Tok) :
    Draws Pg w A it [it] x.cps.size (fun i v => ∃ c u, x.cps[i]? = some c ∧ v = .str ⟨#[c]⟩ u) (fun i h => h.IsStrIter it (strIterType x) x t i) := by
  unfold strIterType
  split
  · exact Draws.strAscii hh it x t
  · exact Draws.strWide hh it x t
theorem meets_enumT (l : Addr) (items : Array Value) :
    Meets (Builtin.«enumerate.__new__» ⟨[.type "enumerate", .ref l], []⟩) (fun _ R s => s.heap.IsTuple l items ∧
      R (.ok (.ret (.ref (s.heap.push { cls := .type "tuple_iterator", data := .fields #[.ref l, .int 0 0] }).objs.size)))
        { s with heap := (s.heap.push { cls := .type "tuple_iterator", data := .fields #[.ref l, .int 0 0] }).push { cls := .type "enumerate", data := .fields #[.none, .bool false, .ref s.heap.objs.size, rawInt 0, .none, .none] } }) :=
  .of_wp fun prog w A R s h => by
    obtain ⟨hp, g, d, tk, os⟩ := s; obtain ⟨hL, h⟩ := h
    obtain ⟨⟨c, dct, dt, sl⟩, hl, hc, n, hd⟩ := id hL
    replace hc : c = .type "tuple" := hc
    replace hd : dt = .seq items n := hd
    subst hc hd
    have hsub := sub_enumerate
    replace hL : Heap.IsTuple (Shared.heap ⟨hp, g, d, tk, os⟩) l items := hL
    have fin : ∀ (b : Bool), b = b := fun _ => rfl
    wp_walk using wpAny_loadPart' hl
    refine wpAny_stack_any fun st => wpAny_pure ?_
    split
    · rename_i c _ _ _ _ _
      cases (c == Value.type "enumerate")
      · wp_walk using wpAny_loadPart' hl, wpAny_pyIter_tuple hL
        exact ⟨_, rfl, h⟩
      · wp_walk using wpAny_loadPart' hl, wpAny_pyIter_tuple hL
        exact ⟨_, rfl, h⟩
    · wp_walk using wpAny_loadPart' hl, wpAny_pyIter_tuple hL
      exact ⟨_, rfl, h⟩
theorem call_enumT {w : World} {A : Around} {s : Shared} {l : Addr} {items : Array Value} {Q : Value → Shared → Prop} (hL : s.heap.IsTuple l items)
    (h : ∀ h', IsEnum h' (s.heap.objs.size + 1) s.heap.objs.size 0 .none → h'.IsTupleIter s.heap.objs.size l 0 → (∀ b o, s.heap.get? b = some o → h'.get? b = some o) → Q (.ref (s.heap.objs.size + 1)) { s with heap := h' }) :
    wpAny (model Pg w) A (call (.type "enumerate") [.ref l]) Q NoE s := by
  refine callType_new F.called_enumerate (by decide) (F.typeCall_enumerate_1 _) (F.newCall_enumerate_1 _) (fun obj => F.args_object_init_2 obj _) F.entry_enumerate_new (meets_enumT l items) ⟨hL, ?_⟩
  have hz : (s.heap.push { cls := .type "tuple_iterator", data := .fields #[.ref l, .int 0 0] }).objs.size = s.heap.objs.size + 1 := Heap.size_push ..
  have he := Heap.get?_push_size (s.heap.push { cls := .type "tuple_iterator", data := .fields #[.ref l, .int 0 0] }) (o := { cls := .type "enumerate", data := .fields #[.none, .bool false, .ref s.heap.objs.size, rawInt 0, .none, .none] }) rfl
  show _ ∧ _
  rw [hz] at he ⊢
  exact ⟨⟨_, he, rfl⟩, h _ he ⟨_, Heap.get?_push_of_some _ (Heap.get?_push_size _ rfl), rfl, rfl⟩ fun b o x => Heap.get?_push_of_some _ (Heap.get?_push_of_some _ x)⟩
theorem ne_add {N a b : Nat} (h : a ≠ b) : N + a ≠ N + b := fun e => h (Nat.add_left_cancel e)
section
variable {c : Cx} {st : AS}
theorem apart_news {vs : List (Option AV)} {rest nwM : List (Addr × OP)} {h : Heap} {g : Array GenState} {o : OsState} (hs : SatH c ⟨vs, rest ++ nwM⟩ h g o) {fp wr : List Addr} (hw : ∀ a ∈ wr, h.objs.size ≤ a) (hf : ∀ a ∈ fp, h.objs.size ≤ a ∨ (a ≠ c.env.locals ∧ ∀ p ∈ nwM, p.1 ≠ a)) : Apart c fp wr rest nwM := by
  have lt : ∀ p ∈ rest ++ nwM, ∀ a, h.objs.size ≤ a → p.1 ≠ a := fun p hp a ha z => Nat.not_le.mpr (hs.hp.lt hp) (z ▸ ha)
  refine ⟨fun a ha => none_of fun ob e => Nat.not_le.mpr (Heap.lt_size (hs.hp.keep _ _ e)) (hw a ha), fun p hp z => lt p (List.mem_append_left _ hp) _ (hw _ z) rfl, fun p hp z => ?_, fun z => ?_⟩
  · rcases hf _ z with q | q
    · exact lt p (List.mem_append_right _ hp) _ q rfl
    · exact q.2 p hp rfl
  · rcases hf _ z with q | q
    · obtain ⟨m, hm, _⟩ := hs.ns
      exact Nat.not_le.mpr hm.lt q
    · exact q.1 rfl
/-- enumerate(t), t a tuple of the base -/
theorem Src.enum {elts : List Expr} {kt : Nat} {pt : Pos} {x : Str} {np p : Pos} {e : Expr} {l : Addr} {xs : List AV} {rest nwM : List (Addr × OP)} {R : (n : Nat) → (Nat → Value → Heap → Prop) → List (Option AV) → List (Addr × OP) → List (Addr × OP) → Prop}
    (hf : Pu c st (.Name x np) (.raw (.type "enumerate"))) (he : Pu c st e (.ref l)) (b : Bs c.hb l (isTupW xs)) (pm : (rest ++ nwM).Perm st.nw) (hR : R xs.length (TupV fun k as => ∃ a, xs[k]? = some a ∧ as = [.int k, a]) st.vs rest nwM)
    (h1 : starEach [e] c.env = (false, eval e c.env) :: starEach [] c.env := by rfl) : Src c st (.Tuple elts kt pt) (.Call (.Name x np) [e] [] p) R := ⟨fun s hs =>
  wpAny_Call_ofName (hf.run hs fun u s₁ r q => by
    cases r
    refine callWith_type1 (args_cons (he.run q fun u s₂ r q => ?_) h1) h1 rfl
    cases r
    have q' := q.perm pm
    obtain ⟨vs, il, rv⟩ := (q.hp.bs b).isT
    have hlt : l < s₂.heap.objs.size := il.elim fun o x => Heap.lt_size x.1
    obtain ⟨_, n1, n2⟩ := InR.at (c := c) (.inl b) q'
    refine args_nil (call_enumT il fun h' k1 k2 k3 => ?_)
    have D := WalksT.enumerateD (A := c.A) (draws_tup (w := c.w) (A := c.A.in1) q.ok.rm.handled s₂.heap.objs.size l (Nat.ne_of_lt hlt) vs) (s₂.heap.objs.size + 1) (Nat.ne_of_gt (Nat.lt_succ_self _))
      (fun z => (List.mem_cons.mp z).elim (Nat.ne_of_gt (Nat.lt_succ_self _)) fun z => Nat.ne_of_gt (Nat.lt_succ_of_lt hlt) (List.mem_singleton.mp z)) (.head _)
    have hst : (∃ old, IsEnum h' (s₂.heap.objs.size + 1) s₂.heap.objs.size ((0 : Nat) : Int) old) ∧ h'.IsTupleIter s₂.heap.objs.size l 0 ∧ h'.IsTuple l vs := ⟨⟨_, k1⟩, k2, il.elim fun o x => ⟨o, k3 _ _ x.1, x.2⟩⟩
    rw [← rv.size] at hR
    refine D.self 0 { s₂ with heap := h' } _ _ hst ⟨_, _, _, vs.size, _, _, st.vs, rest, nwM, rfl, It.ofT D (fun i h x b hb => ?_) fun i vals x => ?_, apart_news q' (fun a ha => ?_) fun a ha => ?_, q'.grow k3, hst, hR⟩
    · obtain ⟨⟨old, x1⟩, x2, x3⟩ := x
      rcases List.mem_cons.mp hb with rfl | hb
      · exact ⟨_, x1⟩
      · rcases List.mem_cons.mp hb with rfl | hb
        · exact x2.elim fun o y => ⟨o, y.1⟩
        · rw [List.mem_singleton] at hb; subst hb; exact x3.elim fun o y => ⟨o, y.1⟩
    · obtain ⟨t, y, hy, rfl⟩ := x
      obtain ⟨a, ea, ra⟩ := itemV rv hy
      exact ⟨[.int i, a], .cons ⟨t, rfl⟩ (.cons ra .nil), a, ea, rfl⟩
    · rcases List.mem_cons.mp ha with rfl | ha
      · exact Nat.le_succ _
      · rw [List.mem_singleton] at ha; subst ha; exact Nat.le_refl _
    · rcases List.mem_cons.mp ha with rfl | ha
      · exact .inl (Nat.le_succ _)
      · rcases List.mem_cons.mp ha with rfl | ha
        · exact .inl (Nat.le_refl _)
        · rw [List.mem_singleton] at ha; subst ha; exact .inr ⟨n1, n2⟩)⟩
end
/-- zip over two strings of one length: i1 = N, i2 = N + 1, TI = N + 2, TO = N + 3, z = N + 4 -/
structure ZSt (N : Nat) (x y : Str) (t u : Tok) (f : Value) (i : Nat) (h : Heap) : Prop where
  z : IsZip h (N + 4) (N + 2) (N + 3) f
  ti : IsPair h (N + 2) (.ref (N + 0)) (.ref (N + 1))
  to : ∃ a b, IsPair h (N + 3) a b
  i1 : h.IsStrIter (N + 0) (strIterType x) x t i
  i2 : h.IsStrIter (N + 1) (strIterType y) y u i
abbrev zwr (N : Nat) : List Addr := [N + 4, N + 3, N + 0, N + 1]
abbrev zfp (N : Nat) : List Addr := [N + 4, N + 2, N + 3, N + 0, N + 1]
theorem zsub {N b : Nat} (h : b ∈ zwr N) : b ∈ zfp N := by
  rcases List.mem_cons.mp h with rfl | h
  · exact .head _
  rcases List.mem_cons.mp h with rfl | h
  · exact .tail _ (.tail _ (.head _))
  rcases List.mem_cons.mp h with rfl | h
  · exact .tail _ (.tail _ (.tail _ (.head _)))
  · rw [List.mem_singleton] at h; subst h; exact .tail _ (.tail _ (.tail _ (.tail _ (.head _))))
theorem ZSt.frame {N : Nat} {x y : Str} {t u : Tok} {f : Value} {i : Nat} {h h' : Heap} (s : ZSt N x y t u f i h) (k : ∀ b ∈ zfp N, ∀ o, h.get? b = some o → h'.get? b = some o) : ZSt N x y t u f i h' :=
  ⟨k _ (.head _) _ s.z, k _ (.tail _ (.head _)) _ s.ti, s.to.elim fun a q => q.elim fun b q => ⟨a, b, k _ (.tail _ (.tail _ (.head _))) _ q⟩, s.i1.elim fun o q => ⟨o, k _ (.tail _ (.tail _ (.tail _ (.head _)))) _ q.1, q.2⟩, s.i2.elim fun o q => ⟨o, k _ (.tail _ (.tail _ (.tail _ (.tail _ (.head _))))) _ q.1, q.2⟩⟩
section
variable {w : World} {A : Around} {E : Value → Shared → Prop} {s : Shared} {N : Nat} {x y : Str} {t u : Tok} {i : Nat}
theorem iter_at {h h' : Heap} {a b : Addr} {T : String} (it : h.IsStrIter a T x t i) (hs : Heap.SameBut b h h') (n : a ≠ b) : h'.IsStrIter a T x t i := it.elim fun o q => ⟨o, hs.extBut _ _ n q.1, q.2⟩
theorem zip_item {Q : Value → Shared → Prop} (hh : A.handled = none) (st : ZSt N x y t u .none i s.heap) (hx : i < x.cps.size) (hy : i < y.cps.size)
    (hQ : ∀ h' tk c1 c2 t1 t2, x.cps[i]? = some c1 → y.cps[i]? = some c2 → ZSt N x y t u (rawInt s.heap.objs.size) (i + 1) h' → IsPair h' s.heap.objs.size (.str ⟨#[c1]⟩ t1) (.str ⟨#[c2]⟩ t2) → Kp (zwr N) s.heap h' → Q (.ref s.heap.objs.size) { s with heap := h', toks := tk }) :
    wpAny (model Pg w) A (Builtin.«zip.__next__» ⟨[.ref (N + 4)], []⟩) (fun fin s' => ∃ v, fin = .done (.ret v) ∧ Q v s') E s := by
  obtain ⟨hz, hTI, ⟨a, b, hTO⟩, h1, h2⟩ := st
  show wpAny _ _ (field (.ref (N + 4)) 2 >>= _) _ _ _
  refine wpAny_bind (wpAny_field hz rfl (x := .bool false) rfl ?_)
  show wpAny _ _ (field (.ref (N + 4)) 3 >>= _) _ _ _
  refine wpAny_bind (wpAny_field hz rfl (x := .ref (N + 2)) rfl ?_)
  refine wpAny_bind (wpAny_seqItems hTI rfl ?_)
  show wpAny _ _ (Builtin.SmallTypes.ownedTupleIsFree (.ref (N + 4)) >>= _) _ _ _
  refine wpAny_bind ?_
  unfold Builtin.SmallTypes.ownedTupleIsFree
  refine wpAny_bind (wpAny_field hz rfl (x := .none) rfl (wpAny_pure ?_))
  rw [if_pos rfl]
  refine wpAny_bind (wpAny_rule ?_)
  refine wpAny_bind (wpAny_field hz rfl (x := .ref (N + 3)) rfl ?_)
  refine wpAny_bind (wpAny_setField_rec hz (by exact Nat.le_of_ble_eq_true rfl) fun h₁ hz₁ hs₁ => ?_)
  replace hz₁ : IsZip h₁ (N + 4) (N + 2) (N + 3) .ellipsis := hz₁
  refine wpAny_bind ?_
  simp only [List.zipIdx_cons, List.zipIdx_nil, List.forIn_cons, List.forIn_nil]
  refine wpAny_bind (wpAny_bind (wpAny_onRaise ?_))
  show wpAny _ _ (Builtin.SmallTypes.nextOf (.ref (N + 0)) >>= _) _ _ _
  refine wpAny_bind ((draws_str hh (N + 0) x t).item i _ _ _ hx (iter_at h1 hs₁ (ne_add (by decide))) fun v1 h₂ tk₂ p1 h1₂ hs₂ => wpAny_pure ?_)
  have hTO₂ : IsPair h₂ (N + 3) a b := hs₂.extBut _ _ (ne_add (by decide)) (hs₁.extBut _ _ (ne_add (by decide)) hTO)
  refine wpAny_bind (wpAny_seqItems hTO₂ rfl ?_)
  refine wpAny_bind (wpAny_updateSeq_pair hTO₂ fun h₃ hTO₃ hs₃ => ?_)
  replace hTO₃ : IsPair h₃ (N + 3) v1 b := hTO₃
  refine wpAny_bind (wpAny_letGo (wpAny_pure ?_))
  refine wpAny_bind (wpAny_bind (wpAny_onRaise ?_))
  show wpAny _ _ (Builtin.SmallTypes.nextOf (.ref (N + 1)) >>= _) _ _ _
  refine wpAny_bind ((draws_str hh (N + 1) y u).item i _ _ _ hy (iter_at (iter_at (iter_at h2 hs₁ (ne_add (by decide))) hs₂ (ne_add (by decide))) hs₃ (ne_add (by decide))) fun v2 h₄ tk₄ p2 h2₄ hs₄ => wpAny_pure ?_)
  have hTO₄ : IsPair h₄ (N + 3) v1 b := hs₄.extBut _ _ (ne_add (by decide)) hTO₃
  refine wpAny_bind (wpAny_seqItems hTO₄ rfl ?_)
  refine wpAny_bind (wpAny_updateSeq_pair hTO₄ fun h₅ hTO₅ hs₅ => ?_)
  replace hTO₅ : IsPair h₅ (N + 3) v1 v2 := hTO₅
  refine wpAny_bind (wpAny_letGo (wpAny_pure (wpAny_pure ?_)))
  refine wpAny_bind (wpAny_seqItems hTO₅ rfl ?_)
  refine wpAny_bind (wpAny_newTuple ?_)
  have hsz : h₅.objs.size = s.heap.objs.size := by rw [hs₅.1, hs₄.1, hs₃.1, hs₂.1, hs₁.1]
  have hz₅ : IsZip h₅ (N + 4) (N + 2) (N + 3) .ellipsis := hs₅.extBut _ _ (ne_add (by decide)) (hs₄.extBut _ _ (ne_add (by decide)) (hs₃.extBut _ _ (ne_add (by decide)) (hs₂.extBut _ _ (ne_add (by decide)) hz₁)))
  have hk₅ : Kp (zwr N) s.heap h₅ := fun c o n e => hs₅.extBut _ _ (fun z => n (by rw [z]; exact .tail _ (.head _))) (hs₄.extBut _ _ (fun z => n (by rw [z]; exact .tail _ (.tail _ (.tail _ (.head _))))) (hs₃.extBut _ _ (fun z => n (by rw [z]; exact .tail _ (.head _))) (hs₂.extBut _ _ (fun z => n (by rw [z]; exact .tail _ (.tail _ (.head _)))) (hs₁.extBut _ _ (fun z => n (by rw [z]; exact .head _)) e))))
  have h1₅ := iter_at (iter_at (iter_at h1₂ hs₃ (ne_add (by decide))) hs₄ (ne_add (by decide))) hs₅ (ne_add (by decide))
  have h2₅ := iter_at h2₄ hs₅ (ne_add (by decide))
  have hzlt : N + 4 < h₅.objs.size := Heap.lt_size hz₅
  show wpAny _ _ (Builtin.SmallTypes.ownedTupleHandOut (.ref (N + 4)) (.ref h₅.objs.size) >>= _) _ _ _
  refine wpAny_bind ?_
  unfold Builtin.SmallTypes.ownedTupleHandOut
  have hz₆ : IsZip (h₅.push { cls := .type "tuple", data := .seq #[v1, v2] }) (N + 4) (N + 2) (N + 3) .ellipsis := Heap.get?_push_of_some _ hz₅
  refine wpAny_bind (wpAny_setField_rec hz₆ (by exact Nat.le_of_ble_eq_true rfl) fun h₇ hz₇ hs₇ => ?_)
  replace hz₇ : IsZip h₇ (N + 4) (N + 2) (N + 3) (rawInt h₅.objs.size) := hz₇
  refine wpAny_setField_rec hz₇ (by exact Nat.le_of_ble_eq_true rfl) fun h₈ hz₈ hs₈ => ?_
  replace hz₈ : IsZip h₈ (N + 4) (N + 2) (N + 3) (rawInt h₅.objs.size) := hz₈
  have up : ∀ c o, c ≠ N + 4 → h₅.get? c = some o → h₈.get? c = some o := fun c o c1 e => hs₈.extBut _ _ c1 (hs₇.extBut _ _ c1 (Heap.get?_push_of_some _ e))
  have hT₈ : IsPair h₈ h₅.objs.size v1 v2 := hs₈.extBut _ _ (Nat.ne_of_gt hzlt) (hs₇.extBut _ _ (Nat.ne_of_gt hzlt) (Heap.get?_push_size _ rfl))
  rw [hsz] at hz₈ hT₈
  refine wpAny_pure ⟨_, rfl, ?_⟩
  show Q (.ref h₅.objs.size) _
  rw [hsz]
  obtain ⟨c1, t1, e1, rfl⟩ := p1
  obtain ⟨c2, t2, e2, rfl⟩ := p2
  exact hQ h₈ tk₄ c1 c2 t1 t2 e1 e2 ⟨hz₈, up _ _ (ne_add (by decide)) (hs₅.extBut _ _ (ne_add (by decide)) (hs₄.extBut _ _ (ne_add (by decide)) (hs₃.extBut _ _ (ne_add (by decide)) (hs₂.extBut _ _ (ne_add (by decide)) (hs₁.extBut _ _ (ne_add (by decide)) hTI))))), ⟨_, _, up _ _ (ne_add (by decide)) hTO₅⟩,
    h1₅.elim fun o q => ⟨o, up _ _ (ne_add (by decide)) q.1, q.2⟩, h2₅.elim fun o q => ⟨o, up _ _ (ne_add (by decide)) q.1, q.2⟩⟩ hT₈ fun c o n e => up c o (fun z => n (by rw [z]; exact .head _)) (hk₅ c o n e)
theorem zip_end {Q : Fin → Shared → Prop} (hh : A.handled = none) (st : ZSt N x y t u .none x.cps.size s.heap)
    (hE : ∀ h' e, Kp (zwr N) s.heap h' → (∃ o, h'.get? e = some o ∧ o.cls = .type "StopIteration") → E (.ref e) { s with heap := h' }) :
    wpAny (model Pg w) A (Builtin.«zip.__next__» ⟨[.ref (N + 4)], []⟩) Q E s := by
  obtain ⟨hz, hTI, ⟨a, b, hTO⟩, h1, h2⟩ := st
  show wpAny _ _ (field (.ref (N + 4)) 2 >>= _) _ _ _
  refine wpAny_bind (wpAny_field hz rfl (x := .bool false) rfl ?_)
  show wpAny _ _ (field (.ref (N + 4)) 3 >>= _) _ _ _
  refine wpAny_bind (wpAny_field hz rfl (x := .ref (N + 2)) rfl ?_)
  refine wpAny_bind (wpAny_seqItems hTI rfl ?_)
  show wpAny _ _ (Builtin.SmallTypes.ownedTupleIsFree (.ref (N + 4)) >>= _) _ _ _
  refine wpAny_bind ?_
  unfold Builtin.SmallTypes.ownedTupleIsFree
  refine wpAny_bind (wpAny_field hz rfl (x := .none) rfl (wpAny_pure ?_))
  rw [if_pos rfl]
  refine wpAny_bind (wpAny_rule ?_)
  refine wpAny_bind (wpAny_field hz rfl (x := .ref (N + 3)) rfl ?_)
  refine wpAny_bind (wpAny_setField_rec hz (by exact Nat.le_of_ble_eq_true rfl) fun h₁ hz₁ hs₁ => ?_)
  replace hz₁ : IsZip h₁ (N + 4) (N + 2) (N + 3) .ellipsis := hz₁
  refine wpAny_bind ?_
  simp only [List.zipIdx_cons, List.zipIdx_nil, List.forIn_cons, List.forIn_nil]
  refine wpAny_bind (wpAny_bind (wpAny_onRaise ?_))
  show wpAny _ _ (Builtin.SmallTypes.nextOf (.ref (N + 0)) >>= _) _ _ _
  refine wpAny_bind ((draws_str hh (N + 0) x t).done _ _ _ (iter_at h1 hs₁ (ne_add (by decide))) fun h₂ e hs₂ he => ?_)
  obtain ⟨oe, hoe, hce⟩ := he
  have hz₂ : IsZip h₂ (N + 4) (N + 2) (N + 3) .ellipsis := hs₂ _ _ (ne_add (by decide)) hz₁
  have hez : e ≠ N + 4 := fun z => by subst z; rw [hz₂] at hoe; cases hoe; exact absurd (show Value.type "zip" = .type "StopIteration" from hce) (by decide)
  exact wpAny_setField_rec hz₂ (by exact Nat.le_of_ble_eq_true rfl) fun h₃ _ hs₃ => hE h₃ e (fun c o n q => hs₃.extBut _ _ (fun z => n (by rw [z]; exact .head _)) (hs₂ _ _ (fun z => n (by rw [z]; exact .tail _ (.tail _ (.head _)))) (hs₁.extBut _ _ (fun z => n (by rw [z]; exact .head _)) q))) ⟨oe, hs₃.extBut _ _ hez hoe, hce⟩
end
theorem zip_walks {w : World} {A : Around} (hh : A.handled = none) (N : Nat) (x y : Str) (t u : Tok) (hxy : x.cps.size = y.cps.size) : WalksT Pg w A (N + 4) (zfp N) (zwr N) x.cps.size
    (fun i vals => ∃ c1 c2 t1 t2, x.cps[i]? = some c1 ∧ y.cps[i]? = some c2 ∧ vals = #[.str ⟨#[c1]⟩ t1, .str ⟨#[c2]⟩ t2]) (ZSt N x y t u .none) (fun i T h => ZSt N x y t u (rawInt T) (i + 1) h ∧ T ∉ zfp N) where
  sub := fun b hb => zsub hb
  frame := fun i h h' s k => s.frame k
  item := fun i s Q E hi hst hQ => by
    have hT : s.TypeIs (.ref (N + 4)) "zip" := ⟨_, hst.z, rfl⟩
    unfold pyNext
    refine wpAny_bind (wpAny_attempt (wpAny_callSpecial?_slot (name := Str.ofString "__next__") hT F.slot_zip_next (wpAny_call_entry F.slot_zip_next hT F.entry_zip_next
      (zip_item hh hst hi (hxy ▸ hi) fun h' tk c1 c2 t1 t2 e1 e2 st' hp kp => wpAny_pure (hQ s.heap.objs.size _ h' tk ⟨c1, c2, t1, t2, e1, e2, rfl⟩ (Nat.le_refl _) ⟨_, hp, rfl, _, rfl⟩ ⟨st', fun z => ?_⟩ kp)) (F.args_zip_next_1 _))))
    have lt : ∀ b ∈ zfp N, ∃ o, s.heap.get? b = some o := fun b hb => by
      rcases List.mem_cons.mp hb with rfl | hb
      · exact ⟨_, hst.z⟩
      rcases List.mem_cons.mp hb with rfl | hb
      · exact ⟨_, hst.ti⟩
      rcases List.mem_cons.mp hb with rfl | hb
      · exact hst.to.elim fun a q => q.elim fun b q => ⟨_, q⟩
      rcases List.mem_cons.mp hb with rfl | hb
      · exact hst.i1.elim fun o q => ⟨o, q.1⟩
      · rw [List.mem_singleton] at hb; subst hb; exact hst.i2.elim fun o q => ⟨o, q.1⟩
    exact (lt _ z).elim fun o e => Nat.lt_irrefl _ (Heap.lt_size e)
  go := fun elts k pos i T s Q E hm hQ => wpAny_letOwnedTupleGo_zip hm.1.z fun h' hz' hs' =>
    hQ h' ⟨hz', hs'.extBut _ _ (ne_add (by decide)) hm.1.ti, hm.1.to.elim fun a q => q.elim fun b q => ⟨a, b, hs'.extBut _ _ (ne_add (by decide)) q⟩, iter_at hm.1.i1 hs' (ne_add (by decide)), iter_at hm.1.i2 hs' (ne_add (by decide))⟩ fun c o n e => hs'.extBut _ _ (fun z => n (by rw [z]; exact .head _)) e
  apart := fun i T h hm z => hm.2 (zsub z)
  done := fun s Q E hst hQ => by
    have hT : s.TypeIs (.ref (N + 4)) "zip" := ⟨_, hst.z, rfl⟩
    unfold pyNext
    refine wpAny_bind (wpAny_attempt (wpAny_callSpecial?_slot (name := Str.ofString "__next__") hT F.slot_zip_next (wpAny_call_entry F.slot_zip_next hT F.entry_zip_next (zip_end hh hst fun h' e hk he => ?_) (F.args_zip_next_1 _))))
    obtain ⟨o, ho, hc⟩ := he
    exact wpAny_bind (wpAny_isInstance (T := "StopIteration") (b := true) ⟨o, ho, hc⟩ isSubtype_stop (wpAny_pure (hQ _ _ hk)))
  self := fun i s Q E hst hQ => wpAny_pyIter_zip hst.z hQ
abbrev zsIt (x : Str) (t : Tok) : Obj := { cls := .type (strIterType x), data := .fields #[.str x t, .int 0 0] }
abbrev zsH2 (h : Heap) (x y : Str) (t u : Tok) : Heap := (h.push (zsIt x t)).push (zsIt y u)
abbrev zsH4 (h : Heap) (x y : Str) (t u : Tok) : Heap := ((zsH2 h x y t u).push { cls := .type "tuple", data := .seq #[.ref h.objs.size, .ref (h.push (zsIt x t)).objs.size] }).push { cls := .type "tuple", data := .seq #[.none, .none] }
abbrev zsH5 (h : Heap) (x y : Str) (t u : Tok) : Heap := (zsH4 h x y t u).push { cls := .type "zip", data := .fields #[.none, .bool false, .bool false, .ref (zsH2 h x y t u).objs.size, .ref ((zsH2 h x y t u).push { cls := .type "tuple", data := .seq #[.ref h.objs.size, .ref (h.push (zsIt x t)).objs.size] }).objs.size] }
set_option maxHeartbeats 2000000 in
theorem meets_zipS (x y : Str) (t u : Tok) :
    Meets (Builtin.«zip.__new__» ⟨[.type "zip", .str x t, .str y u], []⟩) (fun _ R s => R (.ok (.ret (.ref (zsH4 s.heap x y t u).objs.size))) { s with heap := zsH5 s.heap x y t u }) :=
  .of_wp fun prog w A R s h => by
    obtain ⟨hp, g, d, tk, os⟩ := s
    have hsub := sub_zip
    wp_walk using wpAny_pyIter_strU
    exact ⟨_, rfl, h⟩
theorem call_zipS {w : World} {A : Around} {s : Shared} {x y : Str} {t u : Tok} {Q : Value → Shared → Prop}
    (h : ∀ h', ZSt s.heap.objs.size x y t u .none 0 h' → (∀ b o, s.heap.get? b = some o → h'.get? b = some o) → Q (.ref (s.heap.objs.size + 4)) { s with heap := h' }) :
    wpAny (model Pg w) A (call (.type "zip") [.str x t, .str y u]) Q NoE s := by
  refine callType_new F.called_zip (by decide) (F.typeCall_zip_2 _ _) (F.newCall_zip_2 _ _) (fun obj => F.args_object_init_3 obj _ _) F.entry_zip_new (meets_zipS x y t u) ?_
  have p : ∀ (g : Heap) (o : Obj), (g.push o).objs.size = g.objs.size + 1 := fun g o => Heap.size_push ..
  have g5 : (zsH5 s.heap x y t u).get? (zsH4 s.heap x y t u).objs.size = some _ := Heap.get?_push_size _ rfl
  have g4 : (zsH5 s.heap x y t u).get? ((zsH2 s.heap x y t u).push { cls := .type "tuple", data := .seq #[.ref s.heap.objs.size, .ref (s.heap.push (zsIt x t)).objs.size] }).objs.size = some _ := Heap.get?_push_of_some _ (Heap.get?_push_size _ rfl)
  have g3 : (zsH5 s.heap x y t u).get? (zsH2 s.heap x y t u).objs.size = some _ := Heap.get?_push_of_some _ (Heap.get?_push_of_some _ (Heap.get?_push_size _ rfl))
  have g2 : (zsH5 s.heap x y t u).get? (s.heap.push (zsIt x t)).objs.size = some (zsIt y u) := Heap.get?_push_of_some _ (Heap.get?_push_of_some _ (Heap.get?_push_of_some _ (Heap.get?_push_size _ rfl)))
  have g1 : (zsH5 s.heap x y t u).get? s.heap.objs.size = some (zsIt x t) := Heap.get?_push_of_some _ (Heap.get?_push_of_some _ (Heap.get?_push_of_some _ (Heap.get?_push_of_some _ (Heap.get?_push_size _ rfl))))
  have z1 := p s.heap (zsIt x t)
  have z2 : (zsH2 s.heap x y t u).objs.size = s.heap.objs.size + 2 := by rw [p, z1]
  have z3 : ((zsH2 s.heap x y t u).push { cls := .type "tuple", data := .seq #[.ref s.heap.objs.size, .ref (s.heap.push (zsIt x t)).objs.size] }).objs.size = s.heap.objs.size + 3 := by rw [p, z2]
  have z4 : (zsH4 s.heap x y t u).objs.size = s.heap.objs.size + 4 := by rw [p, z3]
  show _ ∧ _
  rw [z2, z3, z4] at g5
  rw [z1, z2] at g3
  rw [z3] at g4
  rw [z1] at g2
  rw [z4]
  exact ⟨⟨_, g5, rfl⟩, h _ ⟨g5, g3, ⟨_, _, g4⟩, ⟨_, g1, rfl, rfl⟩, ⟨_, g2, rfl, rfl⟩⟩ fun c o q => Heap.get?_push_of_some _ (Heap.get?_push_of_some _ (Heap.get?_push_of_some _ (Heap.get?_push_of_some _ (Heap.get?_push_of_some _ q))))⟩
section
variable {c : Cx} {st : AS}
def chr (x : Str) (k : Nat) : Str := ⟨#[(x.cps[k]?).getD 0]⟩
/-- zip(x, y) of two strings -/
theorem Src.zip {elts : List Expr} {kt : Nat} {pt : Pos} {f : Str} {np p : Pos} {e1 e2 : Expr} {x y : Str} {rest nwM : List (Addr × OP)} {R : (n : Nat) → (Nat → Value → Heap → Prop) → List (Option AV) → List (Addr × OP) → List (Addr × OP) → Prop}
    (hf : Pu c st (.Name f np) (.raw (.type "zip"))) (h1 : Pu c st e1 (.str x)) (h2 : Pu c st e2 (.str y)) (hxy : x.cps.size = y.cps.size) (pm : (rest ++ nwM).Perm st.nw) (hR : R x.cps.size (TupV fun k as => as = [.str (chr x k), .str (chr y k)]) st.vs rest nwM)
    (s1 : starEach [e1, e2] c.env = (false, eval e1 c.env) :: starEach [e2] c.env := by rfl) (s2 : starEach [e2] c.env = (false, eval e2 c.env) :: starEach [] c.env := by rfl) (hp : (backTo p (starEach [e2] c.env)).any (·.1) = false := by rfl) : Src c st (.Tuple elts kt pt) (.Call (.Name f np) [e1, e2] [] p) R := ⟨fun s hs =>
  wpAny_Call_ofName (hf.run hs fun u s₁ r q => by
    cases r
    refine callWith_type1 (args_cons (h1.run q fun u s₂ r q => args_cons (h2.run q fun u' s₃ r' q => ?_) s2) s1) s1 hp
    obtain ⟨t, rfl⟩ := r
    obtain ⟨u, rfl⟩ := r'
    have q' := q.perm pm
    refine args_nil (call_zipS fun h' hst k3 => ?_)
    have D := zip_walks (w := c.w) (A := c.A) q.ok.rm.handled s₃.heap.objs.size x y t u hxy
    have ge : ∀ a ∈ zfp s₃.heap.objs.size, s₃.heap.objs.size ≤ a := fun a ha => by
      rcases List.mem_cons.mp ha with rfl | ha
      · exact Nat.le_add_right _ _
      rcases List.mem_cons.mp ha with rfl | ha
      · exact Nat.le_add_right _ _
      rcases List.mem_cons.mp ha with rfl | ha
      · exact Nat.le_add_right _ _
      rcases List.mem_cons.mp ha with rfl | ha
      · exact Nat.le_add_right _ _
      · rw [List.mem_singleton] at ha; subst ha; exact Nat.le_add_right _ _
    refine D.self 0 { s₃ with heap := h' } _ _ hst ⟨_, _, _, x.cps.size, _, _, st.vs, rest, nwM, rfl, It.ofT D (fun i h st b hb => ?_) fun i vals z => ?_, apart_news q' (fun a ha => ge a (zsub ha)) fun a ha => .inl (ge a ha), q'.grow k3, hst, hR⟩
    · rcases List.mem_cons.mp hb with rfl | hb
      · exact ⟨_, st.z⟩
      rcases List.mem_cons.mp hb with rfl | hb
      · exact ⟨_, st.ti⟩
      rcases List.mem_cons.mp hb with rfl | hb
      · exact st.to.elim fun a q => q.elim fun b q => ⟨_, q⟩
      rcases List.mem_cons.mp hb with rfl | hb
      · exact st.i1.elim fun o q => ⟨o, q.1⟩
      · rw [List.mem_singleton] at hb; subst hb; exact st.i2.elim fun o q => ⟨o, q.1⟩
    · obtain ⟨c1, c2, t1, t2, e1, e2, rfl⟩ := z
      unfold chr
      exact ⟨[.str _, .str _], .cons ⟨t1, by rw [e1]; rfl⟩ (.cons ⟨t2, by rw [e2]; rfl⟩ .nil), rfl⟩)⟩
end
theorem AVs.inv1 {a : AV} {vs : List Value} (h : AVs [a] vs) : ∃ u, vs = [u] ∧ a.is u := by
  cases h with | cons h1 h => cases h with | nil => exact ⟨_, rfl, h1⟩
theorem AVs.inv2 {a b : AV} {vs : List Value} (h : AVs [a, b] vs) : ∃ u v, vs = [u, v] ∧ a.is u ∧ b.is v := by
  cases h with | cons h1 h => obtain ⟨v, rfl, h2⟩ := h.inv1; exact ⟨_, v, rfl, h1, h2⟩
theorem getI (l : List Int) {k : Int} (h0 : 0 ≤ k) (h : k < l.length) : (l.map AV.int)[k.toNat]? = some (.int (l.getD k.toNat 0)) := by
  have hl : k.toNat < l.length := by omega
  rw [List.getElem?_map, List.getElem?_eq_getElem hl, List.getD_eq_getElem?_getD, List.getElem?_eq_getElem hl]; rfl
section
variable {c : Cx} {st : AS}
/-- a list's item, the list made here -/
theorem WV.item {value slice : Expr} {p : Pos} {R : AV → AS → Prop} (h : WV c st (eval value c.env) fun a st₁ => ∃ l xs k v, a = .ref l ∧ Pu c st₁ slice (.int k) ∧ In c st₁ l (isListW xs) ∧ 0 ≤ k ∧ k < 2 ^ 63 ∧ xs[k.toNat]? = some v ∧ R v st₁)
    (hs' : ∀ l u k, subscripted slice false (.ref l) (.int k u) = operate [.ref l, .int k u] (getItem (.ref l) (.int k u)) := by intro _ _ _; rfl) : WV c st (eval (.Subscript value slice p) c.env) R := ⟨fun s hs =>
  Subscript_ (h.run hs fun ov s₁ a st₁ ro h₁ z => by
    obtain ⟨l, xs, k, v, rfl, hk, b, h0, hfit, hx, hR⟩ := z
    cases ro
    refine hk.run h₁ fun iv s₂ ri h₂ => ?_
    obtain ⟨u, rfl⟩ := ri
    obtain ⟨vs, hl, r⟩ := (b _ h₂.hp).isL
    obtain ⟨x, ex, rx⟩ := r.getA hx
    exact tail_any hl.typeIs slot_list_getitem.lookup (wpAny_getItem_list hl h0 hfit ex ⟨v, st₁, rx, h₂, hR⟩) (hs' l u k))⟩
theorem Op2.fdivS {a : Int} (b : Int) (hb : b ≠ 0 := by decide) (hs : b.natAbs < 1073741824 := by decide) : Op2 c (binaryOp .FloorDiv) (.int a) (.int b) (.int (a.fdiv b)) := .fdiv hb (PyProof.noPylong_small hs)
theorem Op2.mulL {a b : Int} (h : Builtin.Int.intBits a ≤ 64) : Op2 c (binaryOp .Mult) (.int a) (.int b) (.int (a * b)) := .mul (.of_left h)
theorem Op2.mulR {a b : Int} (h : Builtin.Int.intBits b ≤ 64) : Op2 c (binaryOp .Mult) (.int a) (.int b) (.int (a * b)) := .mul (.of_right h)
noncomputable def litsOf : List Expr → Option (List AV)
  | [] => some []
  | .Constant (.int i) _ _ :: r => (litsOf r).map (.int i :: ·)
  | _ => none
/-- items that are numbers, written out -/
theorem WA.lits {p : Pos} {R : List AV → AS → Prop} : ∀ {es : List Expr} {as : List AV}, litsOf es = some as → R as st → WA c st p es R
  | [], as, h, k => by cases h; exact WA.nil k
  | .Constant (.int i) _ _ :: es, as, h, k => by
    rw [litsOf] at h
    obtain ⟨bs, hb, rfl⟩ := Option.map_eq_some_iff.mp h
    exact WA.cons (Pu.wv .int (WA.lits hb k))
/-- an operator: the left side may make something -/
theorem WV.binL {l r : Expr} {op : Operator} {p : Pos} {R : AV → AS → Prop} (h : WV c st (eval l c.env) fun a st₁ => ∃ b v, Pu c st₁ r b ∧ Op2 c (binaryOp op) a b v ∧ R v st₁) : WV c st (eval (.BinOp l op r p) c.env) R :=
  .bin (h.mono fun a st₁ z => z.elim fun b z => z.elim fun v z => z.1.wv fun va vb ra rb => z.2.1.wv z.2.2 va vb ra rb)
end
theorem perm0 {α : Type} {l : List α} : (l ++ []).Perm l := by rw [List.append_nil]
/-- the list so far in a comprehension -/
def compI (p : Nat → Bool) (f : Nat → AV) (k : Nat) (ys : List AV) (ex : List (Addr × OP)) : Prop := k ≤ 1000 ∧ ys = ((List.range k).filter p).map f ∧ ex = []
theorem compI.len {p : Nat → Bool} {f : Nat → AV} {k : Nat} {ys : List AV} {ex : List (Addr × OP)} (h : compI p f k ys ex) : ys.length ≤ 1000 := by
  rw [h.2.1, List.length_map]
  exact Nat.le_trans (List.length_filter_le _ _) (by rw [List.length_range]; exact h.1)
theorem compI.yes {p : Nat → Bool} {f : Nat → AV} {k : Nat} {ys : List AV} {ex : List (Addr × OP)} (h : compI p f k ys ex) (hk : k + 1 ≤ 1000) (e : p k = true) : compI p f (k + 1) (ys ++ [f k]) [] := by
  refine ⟨hk, ?_, rfl⟩
  rw [List.range_succ, List.filter_append, List.map_append, h.2.1, List.filter_cons_of_pos e]; rfl
theorem compI.no {p : Nat → Bool} {f : Nat → AV} {k : Nat} {ys : List AV} {ex : List (Addr × OP)} (h : compI p f k ys ex) (hk : k + 1 ≤ 1000) (e : p k = false) : compI p f (k + 1) ys [] := by
  refine ⟨hk, ?_, rfl⟩
  rw [List.range_succ, List.filter_append, List.map_append, h.2.1, List.filter_cons_of_neg (by rw [e]; exact Bool.false_ne_true)]
  exact (List.append_nil _).symm
section
variable {c : Cx} {st : AS}
theorem SatH.nones {nw : List (Addr × OP)} {h : Heap} {g : Array GenState} {o : OsState} (hs : SatH c ⟨[], nw⟩ h g o) (n : Nat) : SatH c ⟨List.replicate n none, nw⟩ h g o :=
  ⟨hs.ok, hs.hp, hs.ns.elim fun m x => ⟨m, x.1, fun i y v _ hv => by rw [List.getElem?_replicate] at hv; split at hv <;> cases hv⟩, hs.away, hs.gens, hs.os⟩
/-- what a turn of a comprehension has to show -/
def TurnK (c : Cx) (elt : Expr) (ifs : List Expr) (env : Env) (vs : List (Option AV)) (b : Bool) (y : AV) (D : Addr) (ys : List AV) : Prop :=
  WB c ⟨vs, [(D, isList ys)]⟩ (tests ifs env) fun ok st₂ => ok = b ∧ cond ok (WV c st₂ (eval elt env) fun y' st₃ => y' = y ∧ [(D, isList ys)].Sublist st₃.nw) ([(D, isList ys)].Sublist st₂.nw)
theorem CompT.of {scope : Scope} {cl : List (Str × Addr)} {vars : List Str} {target : Expr} {ifs : List Expr} {elt : Expr} {rest : List (Addr × OP)} {n : Nat} {Val : Nat → Value → Heap → Prop} {p : Nat → Bool} {f : Nat → AV} (hn : n ≤ 1000) (vs : Nat → List (Option AV))
    (ht : ∀ hb C k D ys v s₁, k < n → Val k v s₁.heap → Sat (c.comp scope cl vars hb C) ⟨[], [(D, isList ys)]⟩ s₁ → wpAny c.M c.A (assign target (compEnvC scope cl C c.env) v) (fun _ s₂ => Sat (c.comp scope cl vars hb C) ⟨vs k, [(D, isList ys)]⟩ s₂) NoE s₁)
    (h : ∀ hb C, (∀ b ob, c.hb.get? b = some ob → hb.get? b = some ob) → (∀ p ∈ rest, Bs hb p.1 p.2) → ∀ k D ys, k < n → TurnK (c.comp scope cl vars hb C) elt ifs (compEnvC scope cl C c.env) (vs k) (p k) (f k) D ys) :
    CompT c scope cl vars target ifs elt rest n Val (compI p f) := fun hb C k1 k2 k D ys ex v s₁ hk hI hV q => by
  obtain ⟨hk', ey, rfl⟩ := id hI
  refine wpAny_mono (ht hb C k D ys v s₁ hk hV q) (fun _ s₂ q₂ => ⟨_, q₂, (h hb C k1 k2 k D ys hk).mono fun ok st₂ z => ?_⟩) fun _ _ x => x
  obtain ⟨eo, z⟩ := z
  cases ok with
  | true => exact W.mono z fun y st₃ z => ⟨[], z.2, by rw [z.1]; exact hI.yes (Nat.le_trans hk hn) eo.symm⟩
  | false => exact ⟨[], z, hI.no (Nat.le_trans hk hn) eo.symm⟩
/-- a comprehension upon one name -/
theorem CompK.one {scope : Scope} {cl : List (Str × Addr)} {x : Str} {px : Pos} {ifs : List Expr} {elt : Expr} {n : Nat} {Val : Nat → Value → Heap → Prop} {vs : List (Option AV)} {rest : List (Addr × OP)} {K : Addr → List AV → List (Addr × OP) → List (Option AV) → List (Addr × OP) → Prop}
    (a : Nat → AV) (p : Nat → Bool) (f : Nat → AV) (hn : n ≤ 1000) (hA : ∀ k v h, k < n → Val k v h → (a k).is v)
    (h : ∀ hb C, (∀ b ob, c.hb.get? b = some ob → hb.get? b = some ob) → (∀ p ∈ rest, Bs hb p.1 p.2) → ∀ k D ys, k < n → TurnK (c.comp scope cl [x] hb C) elt ifs (compEnvC scope cl C c.env) [some (a k)] (p k) (f k) D ys)
    (hK : ∀ D, K D (((List.range n).filter p).map f) [] vs rest) : CompK c scope cl [x] (.Name x px) ifs elt K n Val vs rest [] :=
  ⟨rfl, compI p f, fun k ys ex hI => hI.len, CompT.of hn (fun k => [some (a k)]) (fun hb C k D ys v s₁ hk hV q =>
    W.run (c := c.comp scope cl [x] hb C) ((Tg.loc (c := c.comp scope cl [x] hb C) (x := x) (p := px) 0 rfl).go ⟨[none], [(D, isList ys)]⟩ (a k) v (fun _ st₁ => st₁ = ⟨[some (a k)], [(D, isList ys)]⟩) (hA k v _ hk hV) trivial rfl) (q.nones 1) fun _ s₂ _ st₁ _ q₁ e => by subst e; exact q₁) h, ⟨Nat.zero_le _, rfl, rfl⟩, fun D ys ex hI => by obtain ⟨_, rfl, rfl⟩ := hI; exact hK D⟩
/-- a comprehension upon two names -/
theorem CompK.two {scope : Scope} {cl : List (Str × Addr)} {x y : Str} {px py pt : Pos} {kt : Nat} {ifs : List Expr} {elt : Expr} {n : Nat} {P : Nat → List AV → Prop} {vs : List (Option AV)} {rest : List (Addr × OP)} {K : Addr → List AV → List (Addr × OP) → List (Option AV) → List (Addr × OP) → Prop}
    (a b : Nat → AV) (p : Nat → Bool) (f : Nat → AV) (hn : n ≤ 1000) (hA : ∀ k as, k < n → P k as → as = [a k, b k])
    (h : ∀ hb C, (∀ b ob, c.hb.get? b = some ob → hb.get? b = some ob) → (∀ p ∈ rest, Bs hb p.1 p.2) → ∀ k D ys, k < n → TurnK (c.comp scope cl [x, y] hb C) elt ifs (compEnvC scope cl C c.env) [some (a k), some (b k)] (p k) (f k) D ys)
    (hK : ∀ D, K D (((List.range n).filter p).map f) [] vs rest) : CompK c scope cl [x, y] (.Tuple [.Name x px, .Name y py] kt pt) ifs elt K n (TupV P) vs rest [] :=
  ⟨rfl, compI p f, fun k ys ex hI => hI.len, CompT.of hn (fun k => [some (a k), some (b k)]) (fun hb C k D ys v s₁ hk hV q => by
    obtain ⟨T, vals, as, rfl, ht, ra, pa⟩ := hV
    cases hA k as hk pa
    exact Tgs.tup (c := c.comp scope cl [x, y] hb C) (Tgs.cons (Tg.loc 0 rfl) trivial (Tgs.cons (Tg.loc 1 rfl) trivial Tgs.nil)) (q.nones 2) ht ra) h, ⟨Nat.zero_le _, rfl, rfl⟩, fun D ys ex hI => by obtain ⟨_, rfl, rfl⟩ := hI; exact hK D⟩
def isNsO : OP := fun o => ∃ es ep, o.data = .dict es ep ∧ StrKeys es
/-- x = [comprehension] -/
theorem WF.asgC {x : Str} {p' p pos : Pos} {i : Nat} {elt target iter : Expr} {ifs : List Expr} {scope : Scope} {R : AF → AS → Prop} {cl : List (Str × Addr)} {vars : List Str} (hx : c.vars[i]? = some x) (hcl : closureFor scope c.env = pure cl) (chk : compChk scope c.env vars = true)
    (h : Src c st target iter (CompK c scope cl vars target ifs elt fun D ys ex vs rest => R .next ((AS.mk vs (rest ++ ((D, isList ys) :: ex))).put i (.ref D))))
    (hsw : swapsWith (.ListComp elt [⟨target, iter, ifs, 0⟩] scope pos) (some (.Name x p')) p.line c.env = pure true := by rfl) (hf : ∀ x, foldedSetIterable iter c.env x = pure x := by intro _; rfl) :
    WF c st (exec (.Assign [.Name x p'] (.ListComp elt [⟨target, iter, ifs, 0⟩] scope pos) p) c.env) R := ⟨fun s hs => by
  obtain ⟨hk, hv, hcell, hnames⟩ := compChk.parts chk
  rw [exec_Assign_Name_used _ _ _ _ hsw]
  refine wpAny_bind (wpAny_standAt (wpAny_bind ?_))
  show wpAny _ _ (do let _ ← comprehension (.ListComp elt [⟨target, iter, ifs, 0⟩] scope pos) scope c.env _ (newList []) false (eval iter c.env) (some (assign (.Name x p') c.env))) _ _ s
  refine wpAny_bind (wpAny_mono (wpAny_comprehension_free (use := some (assign (.Name x p') c.env)) (Q := fun _ s' => ∃ b st', AF.is b .next ∧ Sat c st' s' ∧ R b st') rfl hf hcl hk hnames (wpAny_mono (h.go s hs) (fun x s₁ y => wpAny_mono y (fun v s₂ y => ?_) fun _ _ x => x) fun _ _ x => x)) (fun _ s' hq => wpAny_pure (wpAny_pure hq)) fun _ _ e => e)
  cases y with
  | mk I fp wr n St Val vs rest nwM e D ap q hst z =>
    obtain ⟨rfl, Inv, hz, turn, h0, fin⟩ := z
    subst e
    rw [List.append_nil] at q
    refine comp_core (RR := fun acc C => compPost c.M c.A NoE (some (assign (.Name _ p') c.env)) (fun _ s' => ∃ b st', AF.is b .next ∧ Sat c st' s' ∧ R b st') acc C) D chk Inv hz turn h0 q ap hst fun D' C ys ex s' hI q' sy => ?_
    show wpAny c.M c.A (assign (.Name _ p') c.env (.ref D')) (fun _ s'' => ∃ m, s''.heap.Ns C m ∧ ∀ h', Heap.SameBut C s''.heap h' → ∃ b st', AF.is b .next ∧ SatH c st' h' s''.gens s''.os ∧ R b st') NoE s'
    obtain ⟨m, oC, es, ep, eC, hd, hsk, _⟩ := sy.ns
    have qC : Sat c ⟨vs, (rest ++ ((D', isList ys) :: ex)) ++ [(C, isNsO)]⟩ s' := by
      refine ⟨q'.ok, ⟨q'.hp.keep, fun p hp => ?_, ?_⟩, q'.ns, fun p hp => ?_, q'.gens, q'.os⟩
      · rcases List.mem_append.mp hp with hp | hp
        · exact q'.hp.at' p hp
        · rw [List.mem_singleton] at hp; subst hp; exact ⟨sy.base, oC, eC, es, ep, hd, hsk⟩
      · rw [List.map_append]
        refine nodup_snoc q'.hp.nd fun b hb => ?_
        obtain ⟨p, hp, rfl⟩ := List.mem_map.mp hb
        exact sy.nw p hp
      · rcases List.mem_append.mp hp with hp | hp
        · exact q'.away p hp
        · rw [List.mem_singleton] at hp; subst hp; exact Ne.symm sy.loc
    refine W.run ((Tg.loc (c := c) (p := p') i hx).go _ (.ref D') _ (fun _ st₁ => st₁ = (AS.mk vs ((rest ++ ((D', isList ys) :: ex)) ++ [(C, isNsO)])).put i (.ref D')) rfl trivial rfl) qC fun _ s₂ _ st₁ _ q₁ e => ?_
    subst e
    obtain ⟨hb, o, eo, es', ep', hd', hsk'⟩ := q₁.hp.at' (C, isNsO) (List.mem_append_right _ (.head _))
    refine ⟨_, ⟨o, es', ep', eo, hd', hsk', fun _ => rfl⟩, fun h' hsb => ⟨.next, _, rfl, ?_, fin D' ys ex hI⟩⟩
    have q₂ : Sat c ((AS.mk vs (rest ++ ((D', isList ys) :: ex))).put i (.ref D')) s₂ := ⟨q₁.ok, q₁.hp.sub (List.sublist_append_left _ _), q₁.ns, fun p hp => q₁.away p (List.mem_append_left _ hp), q₁.gens, q₁.os⟩
    exact q₂.off (wr := [C]) (one_off hb) (one_away sy.nw) (fun z => sy.loc (List.mem_singleton.mp z)) (Kp.same hsb)⟩
end
theorem AVs.strs {ys : List Str} {vs : List Value} (h : AVs (ys.map AV.str) vs) : StrsAre vs ys := by
  induction ys generalizing vs with
  | nil => cases h; exact .nil
  | cons y ys ih => cases h with | cons h1 h => obtain ⟨t, rfl⟩ := h1; exact .cons y t (ih h)
theorem Wk.nil {nw nw' : List (Addr × OP)} (h : nw'.Sublist nw) : Wk ⟨[], nw⟩ ⟨[], nw'⟩ := ⟨fun _ _ e => e, h⟩
theorem Wk.keep {a : Option AV} {vs vs' : List (Option AV)} {nw nw' : List (Addr × OP)} (h : Wk ⟨vs, nw⟩ ⟨vs', nw'⟩) : Wk ⟨a :: vs, nw⟩ ⟨a :: vs', nw'⟩ := ⟨fun i v e => by cases i with | zero => exact e | succ i => exact h.vs i v e, h.nw⟩
theorem Wk.drop {a : Option AV} {vs vs' : List (Option AV)} {nw nw' : List (Addr × OP)} (h : Wk ⟨vs, nw⟩ ⟨vs', nw'⟩) : Wk ⟨a :: vs, nw⟩ ⟨none :: vs', nw'⟩ := ⟨fun i v e => by cases i with | zero => cases e | succ i => exact h.vs i v e, h.nw⟩
section
variable {c : Cx} {st : AS}
theorem chr_at {x : Str} {k : Int} (h0 : 0 ≤ k) (h : k < x.cps.size) : (seqIndex? k x.length).bind (x.cps[·]?) = some ((x.cps[k.toNat]?).getD 0) := by
  unfold seqIndex?
  have hl : k.toNat < x.cps.size := by omega
  show (if (decide (0 ≤ (if k < 0 then k + (x.length : Int) else k)) && decide ((if k < 0 then k + (x.length : Int) else k) < x.length)) = true then some (if k < 0 then k + (x.length : Int) else k).toNat else none).bind _ = _
  rw [if_neg (show ¬ k < 0 from Int.not_lt.mpr h0), if_pos (Bool.and_eq_true_iff.mpr ⟨decide_eq_true h0, decide_eq_true (show k < (x.length : Int) from h)⟩)]
  show x.cps[k.toNat]? = _
  rw [Array.getElem?_eq_getElem hl]; rfl
/-- x[k] of a string -/
theorem Pu.sidx {value slice : Expr} {p : Pos} {x : Str} {k : Int} (hv : Pu c st value (.str x)) (hk : Pu c st slice (.int k)) (h0 : 0 ≤ k) (h : k < x.cps.size) (hf : k < 2 ^ 63)
    (hs' : ∀ t u, subscripted slice false (.str x t) (.int k u) = operate [.str x t, .int k u] (getItem (.str x t) (.int k u)) := by intro _ _; rfl) : Pu c st (.Subscript value slice p) (.str (chr x k.toNat)) := pu fun s hs =>
  Subscript_ (hv.run hs fun ov s₁ ro h₁ => hk.run h₁ fun iv s₂ ri h₂ => by
    obtain ⟨t, rfl⟩ := ro
    obtain ⟨u, rfl⟩ := ri
    exact tail_any (typeIs_str _ _ _) F.slot_str_getitem.lookup (PyProof.Rows.getItem_str (by rw [decide_eq_false (by omega), decide_eq_false (by omega)]; rfl) (chr_at h0 h) ⟨⟨_, rfl⟩, h₂⟩) (hs' t u))
theorem Gm.str {x : Str} {name : Str} {id : String} (slot : Slot "str" name id) (ty : typeOf (.builtin id) = pure (.type "method_descriptor")) : Gm c st (.str x) name id := ⟨fun s u pl Q hs r k => by
  obtain ⟨t, rfl⟩ := r
  exact getMethod_builtin (typeIs_str _ _ _) F.plainAttrs_str slot ty (fun _ e => nomatch e) k⟩
theorem Gm.bytes {x : Array UInt8} {name : Str} {id : String} (slot : Slot "bytes" name id) (ty : typeOf (.builtin id) = pure (.type "method_descriptor")) : Gm c st (.bytes x) name id := ⟨fun s u pl Q hs r k => by
  obtain ⟨t, rfl⟩ := r
  exact getMethod_builtin (typeIs_bytes _ _ _) FB.plainAttrs_bytes slot ty (fun _ e => nomatch e) k⟩
theorem Gm.list {l : Addr} {xs : List AV} {name : Str} {id : String} (b : In c st l (isList xs)) (slot : Slot "list" name id) (ty : typeOf (.builtin id) = pure (.type "method_descriptor")) : Gm c st (.ref l) name id := ⟨fun s u pl Q hs r k => by
  cases r
  obtain ⟨vs, n, e, _⟩ := (b _ hs.hp).exact
  exact getMethod_builtin ⟨_, e, rfl⟩ F.plainAttrs_list slot ty (fun a q => by cases q; exact ⟨_, e, rfl⟩) k⟩
theorem WV.join {l : Addr} {sep : Str} {t : Tok} {ys : List Str} {R : AV → AS → Prop} (b : In c st l (isListW (ys.map AV.str))) (hz : (ys.map (·.length)).sum + ys.length * sep.length ≤ 16777216) (k : R (.str (Str.join sep ys)) st) : WV c st (call (.builtin "str.join") [.str sep t, .ref l]) R := ⟨fun s hs => by
  obtain ⟨vs, hl, r⟩ := (b _ hs.hp).isL
  refine join_list hl r.strs hz fun t' k' => ⟨.str (Str.join sep ys), st, ⟨t', ?_⟩, hs, k⟩
  rw [eq_of_beq (join_plain_closes sep ys)]⟩
theorem Pu.lenB {x : Str} {np p : Pos} {e : Expr} {b : Array UInt8} (hf : Pu c st (.Name x np) (.raw (.builtin "len"))) (he : Pu c st e (.bytes b)) (hz : b.size ≤ 1099511627776)
    (h1 : starEach [e] c.env = (false, eval e c.env) :: starEach [] c.env := by rfl) : Pu c st (.Call (.Name x np) [e] [] p) (.int b.size) :=
  ⟨WV.callB hf (WA.cons (he.wv (WA.nil fun vs r => by
    obtain ⟨u, rfl, ⟨t, rfl⟩⟩ := r.inv1
    exact ⟨fun s hs => KBw.len_K rfl (by rw [KBw.ints_length]; exact hz) ⟨.int b.size, st, ⟨_, by rw [KBw.ints_length]⟩, hs, rfl, rfl⟩⟩)) h1) h1⟩
theorem Pu.lenL {x : Str} {np p : Pos} {e : Expr} {l : Addr} {xs : List AV} (hf : Pu c st (.Name x np) (.raw (.builtin "len"))) (he : Pu c st e (.ref l)) (b : In c st l (isListW xs)) (hz : xs.length ≤ 1000000)
    (h1 : starEach [e] c.env = (false, eval e c.env) :: starEach [] c.env := by rfl) : Pu c st (.Call (.Name x np) [e] [] p) (.int xs.length) :=
  ⟨WV.callB hf (WA.cons (he.wv (WA.nil fun vs r => by
    obtain ⟨u, rfl, rfl⟩ := r.inv1
    exact WV.len b hz ⟨rfl, rfl⟩)) h1) h1⟩
theorem Op2.inS {x y : Str} : Op2 c (compareOp .In) (.str y) (.str x) (.bool (Txt.contains x y)) := by
  refine ⟨?_⟩; rintro st s _ _ hs ⟨t, rfl⟩ ⟨u, rfl⟩; exact SB.contains ⟨rfl, hs⟩
theorem Op2.neS {x y : Str} : Op2 c (compareOp .NotEq) (.str x) (.str y) (.bool (x != y)) := by
  refine ⟨?_⟩; rintro st s _ _ hs ⟨t, rfl⟩ ⟨u, rfl⟩; exact ne_str ⟨rfl, hs⟩
end
section
variable {c : Cx} {st : AS}
/-- type(x) of a plain value -/
theorem Pu.type {x : Str} {np p : Pos} {e : Expr} {v : AV} {T : String} (hf : Pu c st (.Name x np) (.raw (.type "type"))) (he : Pu c st e v) (hT : ∀ (s : Shared) u, v.is u → s.TypeIs u T) (hn : (Value.type T == Value.type "builtin_function_or_method") = false)
    (h1 : starEach [e] c.env = (false, eval e c.env) :: starEach [] c.env := by rfl) : Pu c st (.Call (.Name x np) [e] [] p) (.raw (.type T)) :=
  ⟨WV.callT hf (WA.cons (he.wv (WA.nil fun vs r => by
    obtain ⟨u, rfl, ru⟩ := r.inv1
    exact ⟨fun s hs => call_type_of (hT s u ru) hn ⟨.raw (.type T), st, rfl, hs, rfl, rfl⟩⟩)) h1) h1⟩
theorem Op2.isT {X Y : String} {b : Bool} (h : (Value.type X == Value.type Y) = b) : Op2 c (compareOp .Is) (.raw (.type X)) (.raw (.type Y)) (.bool b) := by
  refine ⟨?_⟩; rintro st s _ _ hs rfl rfl; subst h; exact wpAny_is_plain rfl ⟨rfl, hs⟩
theorem Op2.isBN {b : Bool} : Op2 c (compareOp .Is) (.bool b) .none (.bool false) := by
  refine ⟨?_⟩; rintro st s _ _ hs rfl rfl; exact wpAny_is_plain rfl ⟨rfl, hs⟩
theorem Op2.isSN {x : Str} : Op2 c (compareOp .Is) (.str x) .none (.bool false) := by
  refine ⟨?_⟩; rintro st s _ _ hs ⟨t, rfl⟩ rfl; exact wpAny_is_plain rfl ⟨rfl, hs⟩
theorem Op2.isnNN : Op2 c (compareOp .IsNot) .none .none (.bool false) := by
  refine ⟨?_⟩; rintro st s _ _ hs rfl rfl; exact wpAny_isNot_plain rfl ⟨rfl, hs⟩
theorem WV.ifx {t body orelse : Expr} {p : Pos} {R : AV → AS → Prop} (h : WB c st (PySem.isTrue t c.env (eval t c.env)) fun b st₁ => WV c st₁ (eval (bif b then body else orelse) c.env) R) : WV c st (eval (.IfExp t body orelse p) c.env) R :=
  ⟨fun s hs => IfExp_ (h.run hs fun u s₁ b st₁ r q z => by
    subst r
    cases b with
    | true => rw [if_pos rfl]; exact z.go s₁ q
    | false => rw [if_neg Bool.false_ne_true]; exact z.go s₁ q)⟩
/-- b[k] of bytes -/
theorem Pu.bidx {value slice : Expr} {p : Pos} {b : Array UInt8} {ks : List Int} {k : Int} (hv : Pu c st value (.bytes b)) (hk : Pu c st slice (.int k)) (hb : KBw.bInts b = ks) (hz : ks.length ≤ 1000) (h0 : 0 ≤ k) (h : k < (ks.length : Int))
    (hs' : ∀ t u, subscripted slice false (.bytes b t) (.int k u) = operate [.bytes b t, .int k u] (getItem (.bytes b t) (.int k u)) := by intro _ _; rfl) (ht : ∀ t r, letTemporaryGo value (.bytes b t) r = pure () := by intro _ _; rfl) : Pu c st (.Subscript value slice p) (.int (ks.getD k.toNat 0)) := pu fun s hs =>
  Subscript_ (hv.run hs fun ov s₁ ro h₁ => hk.run h₁ fun iv s₂ ri h₂ => by
    obtain ⟨t, rfl⟩ := ro
    obtain ⟨u, rfl⟩ := ri
    exact KBw.item_K hb (Nat.le_trans hz (by decide)) h0 h (fun t' k' _ _ => ⟨⟨t', rfl⟩, h₂⟩) (hs' t u) (ht t))
/-- xs.append(x), a statement -/
theorem WF.append {o e : Expr} {apos p pos : Pos} {j : Nat} {D : Addr} {ys : List AV} {y : AV} {R : AF → AS → Prop} {pl : Sem Bool} (ho : Pu c st o (.ref D)) (hD : st.nw[j]? = some (D, isList ys)) (he : Pu c st e y) (hz : ys.length ≤ 1000) (k : R .next (st.upd j D (isList (ys ++ [y]))))
    (he' : eval (.Call (.Attribute o (Str.ofString "append") apos) [e] [] pos) c.env = (do
      let ov ← eval o c.env
      standAt apos.atName
      let (f, first) ← holding [ov] (getMethod ov (Str.ofString "append") pl)
      callWith pos f first (backTo pos (starEach [e] c.env)) []) := by rfl)
    (hi : swapsWith (.Call (.Attribute o (Str.ofString "append") apos) [e] [] pos) none p.line c.env = pure false := by rfl) (h1 : starEach [e] c.env = (false, eval e c.env) :: starEach [] c.env := by rfl) : WF c st (exec (.Expr (.Call (.Attribute o (Str.ofString "append") apos) [e] [] pos) p) c.env) R :=
  .expr (.meth (id := "list.append") (ho.wv ⟨.list (In.led j hD) slot_list_append F.type_list_append, WA.cons (he.wv (WA.nil fun u vs ru rv => by
    cases ru
    obtain ⟨v, rfl, r⟩ := rv.inv1
    exact ⟨fun s hs => append_at hs hD r hz fun s' q => ⟨.none, _, rfl, q, k⟩⟩)) h1⟩) he' h1 rfl) hi
/-- f(x, k=y) -/
theorem WV.callKw {x kn : Str} {np pos kp : Pos} {e kv : Expr} {f : Addr} {fo : Obj} {fd : FuncData} {R : AV → AS → Prop} (hf : Pu c st (.Name x np) (.ref f)) (hk : ∀ w : World, (Kx w.params).lookup f = some fo) (hd : fo.data = .func fd)
    (h : WV c st (eval e c.env) fun a st₁ => WV c st₁ (eval kv c.env) fun b st₂ => ∀ u v, a.is u → b.is v → WV c st₂ (call (.ref f) [u] [(kn, v)]) R)
    (he : starEach [e] c.env = (false, eval e c.env) :: starEach [] c.env := by rfl) : WV c st (eval (.Call (.Name x np) [e] [⟨some kn, kv, kp⟩] pos) c.env) R :=
  ⟨fun s hs => wpAny_Call_Name_kw (hf.run hs fun u s₁ r h₁ => by
    cases r
    refine callWith_function_kw (o := fo) (fd := fd) (evalArgs_kw2 rfl (args_cons (h.run h₁ fun u s₂ a st₂ ru q z => args_nil (kwAll_cons (z.run q fun v s₃ b st₃ rv q₃ z₃ => kwAll_nil ⟨⟨(q₃.ok.gr.X.keeps q₃.hp.keep) _ _ (hk c.w), hd⟩, ?_⟩))) he) he)
    exact (z₃ u v ru rv).go s₃ q₃)⟩
end
open Builtin
theorem slot_translate : Slot "bytes" "translate" "bytes.translate" :=
  .of (owner := "bytes") (n := "translate") (by rw [typeLookup_type, builtinLookup_eq_fast]; kernel_rfl) (by decide +kernel) (by decide +kernel) (by decide +kernel)
    (by first | exact .inl (by decide +kernel) | exact .inr (by decide +kernel)) (by rw [isSubtype_type]; kernel_rfl)
theorem type_translate : typeOf (.builtin "bytes.translate") = pure (.type "method_descriptor") := by show builtinType _ = _; rw [builtinType_eq_fast]; kernel_rfl
theorem entry_translate : entryFor table "bytes.translate" = some Builtin.«bytes.translate» := entryFor_of_tree (by kernel_rfl)
theorem args_translate (a b : Value) : argsOk "bytes.translate" ⟨[a, b], []⟩ := by
  unfold argsOk; rw [signature?_of (id := "bytes.translate") (n := ['e', 't', 'a', 'l', 's', 'n', 'a', 'r', 't']) (o := ['s', 'e', 't', 'y', 'b']) (by kernel_rfl) FB.owner_bytes]; kernel_rfl
theorem args_decode2 (a b : Value) : argsOk "bytes.decode" ⟨[a, b], []⟩ := by
  unfold argsOk; rw [signature?_of (id := "bytes.decode") (n := ['e', 'd', 'o', 'c', 'e', 'd']) (o := ['s', 'e', 't', 'y', 'b']) (by kernel_rfl) FB.owner_bytes]; kernel_rfl
def transA (tab b : Array UInt8) : Array UInt8 := b.map fun c => tab.getD c.toNat c
theorem meets_translate (b tab : Array UInt8) (t u : Tok) (h : tab.size = 256) (hz : b.size ≤ sizeLine) :
    Meets («bytes.translate» ⟨[.bytes b t, .bytes tab u], []⟩) (fun _ R s => ∀ t' k, R (.ok (.ret (.bytes (transA tab b) t'))) { s with toks := k }) :=
  .of_wp fun prog w A R s hR => by
    show wpAny _ _ (Bytes.bytesLike _ (.bytes tab u) >>= fun t' => _) _ _ s
    refine wpAny_bind (wpAny_of_eq KBd.like_eq ?_)
    show wpAny _ _ (if (tab.size != 256) = true then _ else _) _ _ s
    rw [if_neg (by rw [h]; decide)]
    refine wpAny_bind (wpAny_pure (wpAny_bind (wpAny_pure ?_)))
    show wpAny _ _ (Bytes.payload (.bytes b t) >>= fun b_1 => _) _ _ s
    refine wpAny_bind (wpAny_bind (wpAny_pure (wpAny_pure ?_)))
    have ef : (b.filter fun x => !(#[] : Array UInt8).contains x) = b := Array.filter_eq_self.mpr fun a _ => by rw [Array.contains_empty]; rfl
    show wpAny _ _ (if (Array.map (fun c => tab.getD c.toNat c) (b.filter fun x => !(#[] : Array UInt8).contains x) == b) = true then _ else (do ret (← Bytes.Kind.new .bytes (Array.map (fun c => tab.getD c.toNat c) (b.filter fun x => !(#[] : Array UInt8).contains x))))) _ _ s
    rw [ef]
    split
    · rename_i hq
      refine wpAny_bind (wpAny_rule (wpAny_bind ?_))
      have e2 : transA tab b = b := eq_of_beq hq
      rw [e2] at hR
      refine wpAny_bind (wpAny_typeOf (typeIs_bytes _ _ _) ?_)
      exact wpAny_pure (wpAny_pure ⟨_, rfl, hR t _⟩)
    · exact wpAny_bind (wpAny_mkBytes (wpAny_pure ⟨_, rfl, hR _ _⟩) (by rw [Array.size_map]; exact hz))
section
variable {c : Cx} {st : AS}
theorem WV.translate {b tab : Array UInt8} {t u : Tok} {R : AV → AS → Prop} (h : tab.size = 256) (hz : b.size ≤ 1000) (k : R (.bytes (transA tab b)) st) : WV c st (call (.builtin "bytes.translate") [.bytes b t, .bytes tab u]) R := ⟨fun s hs =>
  call_meets slot_translate (typeIs_bytes _ _ _) entry_translate (args_translate _ _) (meets_translate b tab t u h (Nat.le_trans hz (by decide))) fun t' k' => ⟨.bytes _, st, ⟨t', rfl⟩, hs, k⟩⟩
end
open Builtin
def asciiS (b : Array UInt8) : Str := ⟨b.map fun c => c.toNat⟩
def outK (b : Array UInt8) (k : Nat) : Array Nat := ((b.toList.take k).map fun c => c.toNat).toArray
theorem outK_snoc {b : Array UInt8} {k : Nat} (h : k < b.size) : outK b k ++ [(b.getD k 0).toNat].toArray = outK b (k + 1) := by
  unfold outK
  have e : b.toList[k]? = some (b.getD k 0) := by
    rw [Array.getElem?_toList, Array.getElem?_eq_getElem h, Array.getD_eq_getD_getElem?, Array.getElem?_eq_getElem h]; rfl
  rw [List.append_toArray, List.take_add_one, e, List.map_append]; rfl
theorem outK_all (b : Array UInt8) : outK b b.size = b.map fun c => c.toNat := by
  unfold outK
  rw [List.take_of_length_le (Nat.le_of_eq Array.length_toList)]
  exact Array.toList_inj.mp (by rw [Array.toList_map])
theorem ascii_loop {b : Array UInt8} {σ : Type} {st : σ} (f : Nat → Nat × Array Nat × σ → Sem (ForInStep (Nat × Array Nat × σ))) (hf : ∀ x k, k < b.size → f x (k, outK b k, st) = pure (.yield (k + 1, outK b (k + 1), st))) :
    ∀ (l : List Nat) (k : Nat), k + l.length = b.size → (forIn l (k, outK b k, st) f : Sem _) = pure (b.size, outK b b.size, st)
  | [], k, h => by
    rw [List.length_nil, Nat.add_zero] at h; subst h
    rw [List.forIn_nil]
  | x :: l, k, h => by
    rw [List.length_cons] at h
    rw [List.forIn_cons, hf x k (by omega)]
    exact ascii_loop f hf l (k + 1) (by omega)
theorem ascii_run (id : String) (b : Array UInt8) (hb : ∀ k, k < b.size → (b.getD k 0).toNat < 128) (hz : b.size ≤ 1000) : _codecs.runDecoder id _codecs.asciiDecoder none true b 0 [] = pure (b.map fun c => c.toNat, b.size) := by
  unfold _codecs.runDecoder
  dsimp only
  rw [Std.Legacy.Range.forIn_eq_forIn_range']
  have h0 : outK b 0 = #[] := rfl
  rw [← h0, ascii_loop (b := b) _ (fun x k hk => ?_) _ 0 ?_, outK_all]
  · rfl
  · rw [List.length_range']
    show 0 + (b.size - 0 + 1 - 1) / 1 = b.size
    rw [Nat.div_one]; omega
  · have hs : ¬ (outK b k).size > sizeLine := by
      unfold outK
      rw [List.size_toArray, List.length_map, List.length_take]
      exact Nat.not_lt.mpr (Nat.le_trans (Nat.min_le_left _ _) (Nat.le_trans (Nat.le_trans (Nat.le_of_lt hk) hz) (by decide)))
    dsimp only
    rw [if_neg hs, if_neg (Nat.not_le.mpr hk)]
    have hfind : _codecs.asciiDecoder.find true b k = .char (b.getD k 0).toNat (k + 1) := if_pos (hb k hk)
    rw [hfind]
    show pure (ForInStep.yield (k + 1, outK b k ++ [(b.getD k 0).toNat].toArray, _)) = _
    rw [outK_snoc hk]
theorem road_ascii {id : String} {b : Array UInt8} : _codecs.decodeRoad id b (PySem.Str.ofString "ascii") none [] = (_codecs.runDecoder id _codecs.asciiDecoder none true b 0 [] >>= fun r => mkStr ⟨r.1⟩) := by kernel_rfl
section
variable {b : Array UInt8} {t : Tok} {x : PySem.Str} {n : Nat}
theorem meets_text {t1 t2 : Tok} {d : PySem.Str} (hd : ∀ id, _codecs.runDecoder id _codecs.asciiDecoder none true b 0 [] = pure (x.cps, n)) :
    Meets («_codecs.decode.text» ⟨[.bytes b t, .str (PySem.Str.ofString "ascii") t1, .none, .str d t2], []⟩) (fun _ R s => x.length ≤ sizeLine ∧ R (.ok (.ret (.str x s.toks))) { s with toks := s.toks + 1 }) := by
  refine .of_wp fun prog w A R s hS => ?_
  obtain ⟨hsz, h⟩ := hS
  show wpAny _ _ (Bytes.bytesLike _ (.bytes b t) >>= fun r => _) _ _ s
  refine wpAny_bind (wpAny_of_eq KBd.like_eq ?_)
  refine wpAny_bind (wpAny_of_eq KBd.held_eq ?_)
  show wpAny _ _ (_codecs.decodeRoad _ b (PySem.Str.ofString "ascii") none [] >>= fun v => _) _ _ s
  rw [road_ascii, hd]
  refine wpAny_bind (wpAny_bind (wpAny_pure ?_))
  exact wpAny_mkStr (wpAny_pure ⟨_, rfl, h⟩) hsz
theorem entry_ascii {c : UInt8} {cs : List UInt8} {te : Tok} : «bytes.decode» ⟨[.bytes (c :: cs).toArray t, .str (PySem.Str.ofString "ascii") te], []⟩ = (mkStr (PySem.Str.ofString "utf-8") >>= fun _ => mkStr (PySem.Str.ofString "ascii") >>= fun e => mkStr (PySem.Str.ofString "bytes.decode") >>= fun d =>
    call (.builtin "_codecs.decode.text") [.bytes (c :: cs).toArray t, e, .none, d] >>= fun v => ret v) := by kernel_rfl
theorem meets_decode {c : UInt8} {cs : List UInt8} {te : Tok} (hd : ∀ id, _codecs.runDecoder id _codecs.asciiDecoder none true (c :: cs).toArray 0 [] = pure (x.cps, n)) :
    Meets («bytes.decode» ⟨[.bytes (c :: cs).toArray t, .str (PySem.Str.ofString "ascii") te], []⟩) (fun _ R s => x.length ≤ sizeLine ∧ ∀ t' k, R (.ok (.ret (.str x t'))) { s with toks := k }) := by
  refine .of_wp fun prog w A R s hS => ?_
  obtain ⟨hsz, h⟩ := hS
  rw [entry_ascii]
  refine wpAny_bind (wpAny_mkStr ?_ (by decide))
  refine wpAny_bind (wpAny_mkStr ?_ (by decide))
  refine wpAny_bind (wpAny_mkStr ?_ (by decide))
  exact wpAny_bind (call_function_meets KBd.kind_text KBd.plain_text KBd.entry_text (KBd.args_text _ _ _ _) (meets_text hd) ⟨hsz, wpAny_pure ⟨_, rfl, h _ _⟩⟩)
end
section
variable {c : Cx} {st : AS}
theorem WV.decode {b : Array UInt8} {t u : Tok} {R : AV → AS → Prop} (hb : ∀ k, k < b.size → (b.getD k 0).toNat < 128) (h0 : 0 < b.size) (hz : b.size ≤ 1000) (k : R (.str (asciiS b)) st) : WV c st (call (.builtin "bytes.decode") [.bytes b t, .str (PySem.Str.ofString "ascii") u]) R := ⟨fun s hs => by
  have hr := fun id => ascii_run id b hb hz
  obtain ⟨l⟩ := b
  cases l with
  | nil => exact absurd h0 (Nat.lt_irrefl _)
  | cons x l =>
    exact call_meets FB.slot_bytes_decode (typeIs_bytes _ _ _) FB.entry_bytes_decode (args_decode2 _ _) (meets_decode (x := asciiS (x :: l).toArray) hr) ⟨by show (Array.map _ _).size ≤ _; rw [Array.size_map]; exact Nat.le_trans hz (by decide), fun t' k' => ⟨.str _, st, ⟨t', rfl⟩, hs, k⟩⟩⟩
end
/-- the entries of an object's own names -/
inductive Ents : List (Str × AV) → List DictEntry → Prop
  | nil : Ents [] []
  | cons {x : Str} {a : AV} {v : Value} {h : Int} {t : Tok} {l es} : a.is v → Ents l es → Ents ((x, a) :: l) (⟨h, .str x t, v⟩ :: es)
def isAttrs (l : List (Str × AV)) : OP := fun o => ∃ es n, o = dictOf es n ∧ Ents l es
def isInst (dx : Addr) : OP := fun o => o = instObj 79 dx
theorem Ents.get {l es} (h : Ents l es) {x : Str} {a : AV} (e : l.lookup x = some a) : ∃ v, getL x es = some (some v) ∧ a.is v := by
  induction h with
  | nil => cases e
  | @cons y b v hh t l es r _ ih =>
    rw [List.lookup_cons] at e
    unfold getL
    rw [List.find?_cons]
    by_cases hxy : x = y
    · subst hxy
      rw [beq_self_eq_true] at e
      cases e
      rw [show (Value.str x t).isStr x = true from beq_self_eq_true x]
      exact ⟨v, rfl, r⟩
    · rw [beq_eq_false_iff_ne.mpr hxy] at e
      obtain ⟨u, eu, ru⟩ := ih e
      have hne : (Value.str y t).isStr x = false := beq_eq_false_iff_ne.mpr fun z => hxy z.symm
      rw [hne]
      unfold getL at eu
      refine ⟨u, ?_, ru⟩
      dsimp only
      split at eu
      · rename_i en he; rw [he]; exact eu
      · split at eu <;> cases eu
theorem Ents.none {l es} (h : Ents l es) {x : Str} (e : l.lookup x = Option.none) : getL x es = some Option.none ∧ (∀ hh k v, putL x hh k v es = es ++ [⟨hh, k, v⟩]) ∧ (∀ n, putN x es n = n + 1) := by
  induction h with
  | nil => exact ⟨rfl, fun _ _ _ => rfl, fun _ => rfl⟩
  | @cons y b v hh t l es r _ ih =>
    rw [List.lookup_cons] at e
    by_cases hxy : x = y
    · subst hxy; rw [beq_self_eq_true] at e; cases e
    · rw [beq_eq_false_iff_ne.mpr hxy] at e
      obtain ⟨i1, i2, i3⟩ := ih e
      have hne : (Value.str y t).isStr x = false := beq_eq_false_iff_ne.mpr fun z => hxy z.symm
      refine ⟨?_, fun h' k v' => ?_, fun n => ?_⟩
      · unfold getL at i1 ⊢
        rw [List.find?_cons, hne]
        dsimp only
        split at i1
        · cases i1
        · rename_i hf
          rw [hf]
          split at i1
          · cases i1
          · rename_i hr
            rw [List.any_cons, show (DictEntry.mk hh (Value.str y t) v).refKey = false from rfl, Bool.false_or, if_neg hr]
      · show (if (Value.str y t).isStr x = true then _ else _ :: putL x h' k v' es) = _
        rw [hne, if_neg Bool.false_ne_true, i2]; rfl
      · unfold putN at i3 ⊢
        rw [List.any_cons, hne, Bool.false_or]; exact i3 n
theorem Ents.snoc {l es} (h : Ents l es) {x : Str} {a : AV} {v : Value} {hh : Int} {t : Tok} (r : a.is v) : Ents (l ++ [(x, a)]) (es ++ [⟨hh, .str x t, v⟩]) := by
  induction h with
  | nil => exact .cons r .nil
  | cons r' _ ih => exact .cons r' ih
theorem Ents.len {l es} (h : Ents l es) : es.length = l.length := by
  induction h with
  | nil => rfl
  | cons _ _ ih => exact congrArg (· + 1) ih
section
variable {c : Cx} {st : AS}
theorem instAt {x dx : Addr} {l : List (Str × AV)} (hx : In c st x (isInst dx)) (hd : In c st dx (isAttrs l)) {h : Heap} (H : Hp c.hb st.nw h) : ∃ es n, Ents l es ∧ h.get? dx = some (dictOf es n) ∧ InstAt h x (instObj 79 dx) 79 (some (dictOf es n)) := by
  obtain ⟨o, e, rfl⟩ := hx h H
  obtain ⟨o', e', es, n, rfl, r⟩ := hd h H
  exact ⟨es, n, r, e', e, rfl, rfl, e'⟩
/-- x.name, x an object of the class -/
theorem Pu.attr {y name : Str} {p p' : Pos} {x dx : Addr} {l : List (Str × AV)} {a : AV} (ho : Pu c st (.Name y p) (.ref x)) (hx : In c st x (isInst dx)) (hd : In c st dx (isAttrs l)) (he : l.lookup name = some a)
    (hga : ∀ w : World, findIn (Kx w.params) (.ref 79) "__getattribute__" = some (some (.builtin "object.__getattribute__"))) (hh : ∀ w : World, hasDictIn (Kx w.params) 79 = true) (hf : ∀ w : World, findIn (Kx w.params) (.ref 79) name = some Option.none) (hv : ∀ v, a.is v → handedIn v = true) :
    Pu c st (.Attribute (.Name y p) name p') a := pu fun s hs => by
  rw [arm_eval_Attribute]
  refine wpAny_bind (ho.run hs fun u s₁ r q => ?_)
  cases r
  refine wpAny_bind (wpAny_standAt (wpAny_bind (wpAny_holding ?_)))
  obtain ⟨es, n, re, e', I⟩ := instAt hx hd q.hp
  obtain ⟨v, ev, rv⟩ := re.get he
  exact get_value (q.ok.gr.X.keeps q.hp.keep) I (hga c.w) (findObj_own (hh c.w) (hf c.w) rfl ev) (hv v rv) (wpAny_bind (wpAny_pure (wpAny_pure ⟨rv, q⟩)))
/-- x.name = v, a name that is new to x -/
theorem WU.setAttr {name : Str} {x dx : Addr} {j : Nat} {l : List (Str × AV)} {a : AV} {u : Value} {R : Unit → AS → Prop} (hx : In c st x (isInst dx)) (hd : st.nw[j]? = some (dx, isAttrs l)) (he : l.lookup name = Option.none) (hz : l.length ≤ 100) (r : a.is u)
    (hs' : ∀ w : World, findIn (Kx w.params) (.ref 79) "__setattr__" = some (some (.builtin "object.__setattr__"))) (hp : ∀ w : World, plainOver (Kx w.params) 79 = true) (ht : ∀ w : World, takerIn (Kx w.params) 79 name = some Option.none) (hh : ∀ w : World, hasDictIn (Kx w.params) 79 = true)
    (k : R () (st.upd j dx (isAttrs (l ++ [(name, a)])))) : WU c st (setAttr (.ref x) name u) R := ⟨fun s hs => by
  have X := hs.ok.gr.X.keeps hs.hp.keep
  obtain ⟨es, n, re, D, I⟩ := instAt hx (In.led j hd) hs.hp
  obtain ⟨g1, g2, g3⟩ := re.none he
  obtain ⟨cd, hc, hd'⟩ := any_some (hh c.w)
  refine set_plain X I (hs' c.w) (osa_open (s := { s with toks := s.toks + 1 }) X I (hp c.w) (ht c.w) fun b => ?_)
  have hx' := I.at_
  refine wpAny_bind (wpAny_pure (wpAny_bind (wpAny_bind (wpAny_loadPart hx' (wpAny_bind (Looks.here (s := { s with toks := s.toks + 1 }) (looks_clsIn X hc) ?_))))))
  rw [hd']
  refine wpAny_pure (a := some dx) (wpAny_bind (wpAny_pure (wpAny_bind ?_)))
  unfold nsSet
  refine wpAny_bind (wpAny_bind (wpAny_askSetting (wpAny_pure (wpAny_bind (wpAny_mkText (wpAny_bind (wpAny_loadPart D ?_)))))))
  dsimp only
  have c0 : (!es.toArray.any (·.key.isStr name) && es.toArray.any (·.refKey)) = false := by
    rw [← Array.any_toList, ← Array.any_toList]
    show (!es.any (·.key.isStr name) && es.any (·.refKey)) = false
    unfold getL at g1
    split at g1
    · cases g1
    · split at g1
      · cases g1
      · rename_i z; rw [Bool.not_eq_true] at z; rw [z, Bool.and_false]
  rw [aRefKeyMayBeTheName_at, c0]
  refine wpAny_updatePart D ?_
  have D' : ((s.heap.update dx (Obj.putName name (PyData.keyHash c.w.params name) (.str name (s.toks + 1)) u)).get? dx) = some (dictOf (es ++ [⟨PyData.keyHash c.w.params name, .str name (s.toks + 1), u⟩]) (n + 1)) := by
    rw [Heap.get?_update_self _ D (by rw [putName_dict]; rfl), putName_dict, g2, g3]
  refine wpAny_bind (wpAny_lookBehind D' (pastItsLine_dict (by rw [List.size_toArray, List.length_append, re.len, sizeLine_eq]; show l.length + 1 ≤ _; omega)) ?_)
  exact wpAny_pure ⟨(), _, trivial, SatH.upd hs hd (Heap.SameBut.update ..) ⟨_, D', _, _, rfl, re.snoc r⟩, k⟩⟩
theorem WF.asgA {o e : Expr} {name : Str} {p' p : Pos} {R : AF → AS → Prop} (h : WV c st (eval e c.env) fun v st₁ => ∃ x, Pu c st₁ o (.ref x) ∧ ∀ u, v.is u → WU c st₁ (setAttr (.ref x) name u) fun _ st₂ => R .next st₂)
    (hs : swapsWith e (some (.Attribute o name p')) p.line c.env = pure false := by rfl) : WF c st (exec (.Assign [.Attribute o name p'] e p) c.env) R :=
  ⟨fun s hs' => plainObj_wpAny_Assign_Attribute (h.run hs' fun u s₁ v st₁ r q z => by
    obtain ⟨x, ho, z⟩ := z
    refine ho.run q fun ov s₂ ro q₂ => ?_
    cases ro
    exact W.run (z u r) q₂ fun _ s₃ _ st₂ _ q₃ k => ⟨.next, st₂, rfl, q₃, k⟩) hs⟩
end
section
variable {c : Cx} {st : AS}
/-- xs.extend(ys) -/
theorem WV.extend {j : Nat} {l b : Addr} {xs ys : List AV} {R : AV → AS → Prop} (hl : st.nw[j]? = some (l, isList xs)) (hb : In c st b (isList ys)) (hz : xs.length + ys.length ≤ 1000) (k : R .none (st.upd j l (isList (xs ++ ys)))) : WV c st (call (.builtin "list.extend") [.ref l, .ref b]) R := ⟨fun s hs => by
  obtain ⟨vs, n, e, r⟩ := (hs.hp.get hl).exact
  obtain ⟨us, n', e', r'⟩ := (hb _ hs.hp).exact
  have hz' : vs.size + us.size ≤ sizeLine := by rw [r.size, r'.size]; exact Nat.le_trans hz (by decide)
  have ht : ¬ (!vs.isEmpty && Builtin.List.listTooLong (vs.size + us.size)) = true := by
    rw [show Builtin.List.listTooLong (vs.size + us.size) = false from ?_, Bool.and_false]; exact Bool.false_ne_true
    unfold Builtin.List.listTooLong
    exact decide_eq_false (Nat.not_lt.mpr (Nat.le_trans hz' (by decide)))
  refine call_meets F.slot_list_extend ⟨_, e, rfl⟩ F.entry_list_extend (F.args_list_extend_2 _ _) (AutoSeq1.list_extend_list_list_0 l vs n b us n' ht (Nat.le_trans (Nat.le_add_right _ _) hz') (Nat.le_succ_of_le hz')) ⟨e, e', ⟨.none, _, rfl, hs.upd hl (Heap.SameBut.update ..) ⟨_, Heap.get?_update_self _ e rfl, _, _, rfl, r.cat r'⟩, k⟩⟩⟩
theorem WV.clear {j : Nat} {l : Addr} {xs : List AV} {R : AV → AS → Prop} (hl : st.nw[j]? = some (l, isList xs)) (hz : xs.length ≤ 1000) (k : R .none (st.upd j l (isList []))) : WV c st (call (.builtin "list.clear") [.ref l]) R := ⟨fun s hs => by
  obtain ⟨vs, n, e, r⟩ := (hs.hp.get hl).exact
  exact call_meets F.slot_list_clear ⟨_, e, rfl⟩ F.entry_list_clear (F.args_list_clear_1 _) (AutoSeq1.list_clear_list_0 l vs n (by rw [r.size]; exact small_fits hz)) ⟨e, ⟨.none, _, rfl, hs.upd hl (Heap.SameBut.update ..) ⟨_, Heap.get?_update_self _ e rfl, _, _, rfl, .nil⟩, k⟩⟩⟩
/-- xs[i] = v -/
theorem WU.setItem {j : Nat} {l : Addr} {xs : List AV} {i : Int} {t : Tok} {a : AV} {u : Value} {R : Unit → AS → Prop} (hl : st.nw[j]? = some (l, isListW xs)) (h0 : 0 ≤ i) (h1 : i < xs.length) (hz : xs.length ≤ 1000) (r : a.is u) (k : R () (st.upd j l (isListW (xs.set i.toNat a)))) : WU c st (setItem (.ref l) (.int i t) u) R := ⟨fun s hs => by
  obtain ⟨vs, il, rv⟩ := (hs.hp.get hl).isL
  refine wpAny_setItem_list il h0 (by omega) (by rw [rv.size]; exact h1) fun h' il' hsb => ?_
  obtain ⟨o, eo, hc, n, hd⟩ := il'
  exact ⟨(), _, trivial, hs.upd hl hsb ⟨o, eo, _, n, hc, hd, by rw [Array.toList_setIfInBounds]; exact rv.set r _⟩, k⟩⟩
theorem Tv.list {l : Addr} {xs : List AV} {s : Shared} (hs : Sat c st s) (b : In c st l (isListW xs)) (hz : xs.length ≤ 1000) {Q : Bool → Shared → Prop} (k : ∀ s', Sat c st s' → Q (!xs.isEmpty) s') : wpAny c.M c.A (truthy (.ref l)) Q NoE s := by
  obtain ⟨vs, il, rv⟩ := (b _ hs.hp).isL
  refine wpAny_truthy_list il (by rw [rv.size]; omega) ?_
  have e : vs.isEmpty = xs.isEmpty := by
    have := rv.size
    cases xs with
    | nil => exact Array.isEmpty_iff_size_eq_zero.mpr this
    | cons a l => exact Bool.eq_false_iff.mpr fun z => by rw [Array.isEmpty_iff_size_eq_zero.mp z] at this; cases this
  rw [e]; exact k _ hs
theorem Tt.list {e : Expr} {l : Addr} {xs : List AV} (h : Pu c st e (.ref l)) (b : In c st l (isListW xs)) (hz : xs.length ≤ 1000)
    (hq : PySem.isTrue e c.env (eval e c.env) = (do let v ← eval e c.env; standAt e.pos; holding [v] (truthy v)) := by rfl) : Tt c st e (!xs.isEmpty) :=
  ⟨fun s hs => isTrue_plain (h.run hs fun u s₁ r h₁ => by cases r; exact Tv.list h₁ b hz fun s' q => ⟨rfl, q⟩) hq⟩
theorem AVs.anyStr {ys : List Str} {y : Str} {vs : List Value} (h : AVs (ys.map AV.str) vs) : (vs.any fun v => v.isStr y) = ys.any (· == y) := by
  induction ys generalizing vs with
  | nil => cases h; rfl
  | cons z ys ih => cases h with | cons h1 h => obtain ⟨t, rfl⟩ := h1; rw [List.any_cons, List.any_cons, ih h]; rfl
/-- y in [strings] -/
theorem Tt.inL {e1 e2 : Expr} {p : Pos} {y : Str} {l : Addr} {ys : List Str} (h1 : Pu c st e1 (.str y)) (h2 : Pu c st e2 (.ref l)) (b : In c st l (isListW (ys.map AV.str))) (hm : behindInMarks .In e2 = false := by rfl) : Tt c st (.Compare e1 [.In] [e2] p) (ys.any (· == y)) :=
  ⟨fun s hs => wpAny_isTrue_Compare1 (h1.run hs fun va s₁ ra q₁ => h2.run q₁ fun vb s₂ rb q₂ => by
    obtain ⟨t, rfl⟩ := ra
    cases rb
    obtain ⟨vs, il, rv⟩ := (b _ q₂.hp).isL
    refine SeqAt.in_listAt (fun v => v.isStr y) il (fun v hv => ?_) ?_
    · obtain ⟨i, hi⟩ := Array.getElem?_of_mem hv
      obtain ⟨a, ea, ra⟩ := itemV rv hi
      rw [List.getElem?_map] at ea
      obtain ⟨z, _, rfl⟩ := Option.map_eq_some_iff.mp ea
      obtain ⟨u, rfl⟩ := ra
      exact SeqAt.EqAt.str_str z u y t
    · rw [← Array.any_toList, rv.anyStr]
      exact Tv.bool.go st s₂ _ q₂ rfl) hm⟩
/-- str(i) -/
theorem Pu.strI {x : Str} {np p : Pos} {e : Expr} {i : Int} (hf : Pu c st (.Name x np) (.raw (.type "str"))) (he : Pu c st e (.int i)) (hi : i.natAbs.log2 < 1920)
    (h1 : starEach [e] c.env = (false, eval e c.env) :: starEach [] c.env := by rfl) : Pu c st (.Call (.Name x np) [e] [] p) (.str (Str.ofString (toString i))) :=
  ⟨WV.callT hf (WA.cons (he.wv (WA.nil fun vs r => by
    obtain ⟨u, rfl, ⟨t, rfl⟩⟩ := r.inv1
    exact ⟨fun s hs => P.str_of_int hi ⟨.str _, st, ⟨_, rfl⟩, hs, rfl, rfl⟩⟩)) h1) h1⟩
end
section
variable {c : Cx} {st : AS}
/-- x[i:j] of a string -/
theorem Pu.sslice {value lo hi : Expr} {p pos : Pos} {x : Str} {i j : Int} (hv : Pu c st value (.str x)) (h1 : Pu c st lo (.int i)) (h2 : Pu c st hi (.int j)) (hz : x.length ≤ 1000) (ht : ∀ o r, letTemporaryGo value o r = pure () := by intro _ _; rfl) :
    Pu c st (.Subscript value (.Slice (some lo) (some hi) Option.none p) pos) (.str (Txt.slice x (some i) (some j))) := pu fun s hs =>
  wpAny_Subscript_str_slice (hv.run hs fun o s₁ ro q₁ => h1.run q₁ fun vl s₂ rl q₂ => h2.run q₂ fun vu s₃ ru q₃ => by
    obtain ⟨t, rfl⟩ := ro
    obtain ⟨tl, rfl⟩ := rl
    obtain ⟨tu, rfl⟩ := ru
    refine ⟨x, t, some (i, tl), some (j, tu), rfl, rfl, rfl, post_val_or_str ⟨Nat.le_trans (Txt.slice_le x _ _) (Nat.le_trans hz (by decide)), fun t' k => ⟨⟨t', rfl⟩, ?_⟩⟩⟩
    exact q₃.grow fun b ob e => Heap.get?_push_of_some _ e) ht
/-- xs[:n] of a list -/
theorem WV.lslice {value hi : Expr} {p pos : Pos} {l : Addr} {xs : List AV} {n : Nat} {R : AV → AS → Prop} (hv : Pu c st value (.ref l)) (h2 : Pu c st hi (.int n)) (b : In c st l (isListW xs)) (hz : xs.length ≤ 1000) (k : ∀ a, R (.ref a) (st.new a (isList (xs.take n)))) (ht : ∀ o r, letTemporaryGo value o r = pure () := by intro _ _; rfl) :
    WV c st (eval (.Subscript value (.Slice Option.none (some hi) Option.none p) pos) c.env) R := ⟨fun s hs =>
  wpAny_Subscript_Slice (T := "list") slot_list_getitem.lookup (hv.run hs fun o s₁ ro q₁ => wpAny_Slice (by
    cases ro
    rw [evalPart_none]
    refine wpAny_pure (h2.run q₁ fun vu s₂ ru q₂ => ?_)
    obtain ⟨tu, rfl⟩ := ru
    refine wpAny_pure ?_
    have q₃ := q₂.grow (h' := s₂.heap.push { cls := .type "slice", data := .fields #[.none, .int n tu, .none] }) fun b ob e => Heap.get?_push_of_some _ e
    obtain ⟨vs, il, rv⟩ := (b _ q₃.hp).isL
    refine ⟨il.typeIs (s := { s₂ with heap := s₂.heap.push { cls := .type "slice", data := .fields #[.none, .int n tu, .none] } }), wpAny_getItem_list_slice (lo := none) (hi := some n) (st := none) il ⟨_, Heap.get?_push_size _ rfl, rfl, rfl⟩ (by constructor) (by constructor) (by constructor) (fun z => nomatch z) ?_ (by rw [rv.size]; exact small_fits hz)⟩
    rw [slicePick_upto']
    exact ⟨.ref _, _, rfl, q₃.push rfl ⟨_, _, rfl, rv.take n⟩, k _⟩)) ht⟩
/-- a comparison whose left side makes something -/
theorem WB.cmp {l r : Expr} {op : CmpOp} {p : Pos} {R : Bool → AS → Prop} (h : WV c st (eval l c.env) fun a st₁ => ∃ b v, Pu c st₁ r b ∧ (∀ va vb s, a.is va → b.is vb → Sat c st₁ s → wpAny c.M c.A (compareOp op va vb) (fun u s' => u = .bool v ∧ Sat c st₁ s') NoE s) ∧ R v st₁) (hm : behindInMarks op r = false := by rfl) :
    WB c st (PySem.isTrue (.Compare l [op] [r] p) c.env (eval (.Compare l [op] [r] p) c.env)) R := ⟨fun s hs =>
  wpAny_isTrue_Compare1 (h.run hs fun va s₁ a st₁ ra q₁ z => by
    obtain ⟨b, v, hr, ho, k⟩ := z
    exact hr.run q₁ fun vb s₂ rb q₂ => wpAny_mono (ho va vb s₂ ra rb q₂) (fun u s₃ x => by
      obtain ⟨rfl, q₃⟩ := x
      exact wpAny_truthy_bool ⟨v, st₁, rfl, q₃, k⟩) fun _ _ x => x) hm⟩
theorem WB.and2 {e f : Expr} {p : Pos} {b : Bool} {R : Bool → AS → Prop} (h : Tt c st e b) (z : b = false → R false st) (z' : b = true → WB c st (PySem.isTrue f c.env (eval f c.env)) R) : WB c st (PySem.isTrue (.BoolOp .And [e, f] p) c.env (eval (.BoolOp .And [e, f] p) c.env)) R := ⟨fun s hs =>
  wpAny_isTrue_BoolOp (wpAny_allTrue_And_cons (wpAny_mono (h.go s hs) (fun u s₁ x => by
    obtain ⟨rfl, q⟩ := x
    cases u with
    | false => rw [if_neg Bool.false_ne_true]; exact ⟨false, st, rfl, q, z rfl⟩
    | true =>
      rw [if_pos rfl]
      refine wpAny_allTrue_And_cons (W.run (z' rfl) q fun v s₂ b' st₂ r q₂ k => ?_)
      subst r
      cases b' with
      | false => rw [if_neg Bool.false_ne_true]; exact ⟨false, st₂, rfl, q₂, k⟩
      | true => rw [if_pos rfl]; exact wpAny_allTrue_And_nil ⟨true, st₂, rfl, q₂, k⟩) fun _ _ x => x))⟩
theorem AVs.intsEq {ns ms : List Int} {vs us : Array Value} (r : AVs (ns.map AV.int) vs.toList) (q : AVs (ms.map AV.int) us.toList) : ∀ j (h1 : j < vs.size) (h2 : j < us.size), ∃ t u, vs[j] = .int (ns.getD j 0) t ∧ us[j] = .int (ms.getD j 0) u := by
  have one : ∀ {ns : List Int} {vs : Array Value}, AVs (ns.map AV.int) vs.toList → ∀ j (h1 : j < vs.size), ∃ t, vs[j] = .int (ns.getD j 0) t := fun {ns vs} r j h1 => by
    obtain ⟨a, ea, ra⟩ := itemV r (Array.getElem?_eq_getElem h1)
    rw [List.getElem?_map] at ea
    obtain ⟨n, en, rfl⟩ := Option.map_eq_some_iff.mp ea
    obtain ⟨t, et⟩ := ra
    exact ⟨t, by rw [et, List.getD_eq_getElem?_getD, en]; rfl⟩
  exact fun j h1 h2 => (one r j h1).elim fun t e => (one q j h2).elim fun u e' => ⟨t, u, e, e'⟩
/-- two lists of numbers, compared -/
theorem eqLists {a b : Addr} {ns ms : List Int} (ha : In c st a (isListW (ns.map AV.int))) (hb : In c st b (isListW (ms.map AV.int))) {s : Shared} (hs : Sat c st s) : wpAny c.M c.A (compareOp .Eq (.ref a) (.ref b)) (fun u s' => u = .bool (ns == ms) ∧ Sat c st s') NoE s := by
  obtain ⟨vs, il, r⟩ := (ha _ hs.hp).isL
  obtain ⟨us, il', r'⟩ := (hb _ hs.hp).isL
  have e1 : vs.size = ns.length := by rw [r.size, List.length_map]
  have e2 : us.size = ms.length := by rw [r'.size, List.length_map]
  have hu : c.A.units < cLine := Nat.lt_of_le_of_lt (Nat.le_add_right _ _) hs.ok.rm.units
  by_cases hl : ns.length = ms.length
  · refine SeqAt.eq_listAt (e := fun j => ns.getD j 0 == ms.getD j 0) il il' (by rw [e1, e2, hl]) hu (fun j h1 h2 => ?_) ⟨?_, hs⟩
    · obtain ⟨t, u, x, y⟩ := r.intsEq r' j h1 h2
      rw [x, y]; exact SeqAt.EqAt.int_int _ t _ u
    · rw [e1]
      refine congrArg _ (Bool.eq_iff_iff.mpr ⟨fun h => beq_iff_eq.mpr (List.ext_getElem hl fun j h1 h2 => ?_), fun h => ?_⟩)
      · have := beq_iff_eq.mp (List.all_eq_true.mp h j (List.mem_range.mpr h1))
        rwa [List.getD_eq_getElem?_getD, List.getD_eq_getElem?_getD, List.getElem?_eq_getElem h1, List.getElem?_eq_getElem h2] at this
      · rw [beq_iff_eq.mp h]; exact List.all_eq_true.mpr fun j _ => beq_self_eq_true _
  · refine SeqAt.eq_list_lengthsAt il il' (bne_iff_ne.mpr (by rw [e1, e2]; exact hl)) hu ⟨?_, hs⟩
    rw [beq_eq_false_iff_ne.mpr fun z => hl (congrArg _ z)]
end
/-- a table by strings: what it says, and a bound of its size -/
def isDict (w : World) (d : Addr) (n : Nat) (m : Str → Option AV) : OP := fun o => (d == sysModules) = false ∧ ∃ kvs, o.IsDictOf (strKind Pg w) kvs ∧ kvs.length ≤ n ∧ ∀ k, (match m k with | some a => ∃ v, valueAt kvs k = some v ∧ a.is v | none => valueAt kvs k = none)
def putM (m : Str → Option AV) (k : Str) (a : AV) : Str → Option AV := fun x => if x = k then some a else m x
theorem dict_at {w : World} {n : Nat} {m : Str → Option AV} {h : Heap} {d : Addr} (b : Bs h d (isDict w d n m)) : (d == sysModules) = false ∧ ∃ kvs, h.DictOf (strKind Pg w) d kvs ∧ kvs.length ≤ n ∧ ∀ k, (match m k with | some a => ∃ v, valueAt kvs k = some v ∧ a.is v | none => valueAt kvs k = none) := by
  obtain ⟨o, e, ns, kvs, hd, r⟩ := b
  exact ⟨ns, kvs, Heap.dictOf_iff.mpr ⟨o, e, hd⟩, r⟩
theorem valueAt_stored (kvs : List (Str × Value)) (k : Str) (v : Value) (x : Str) : valueAt (stored kvs k v) x = if x = k then some v else valueAt kvs x := by
  unfold stored
  split
  · rename_i ha
    induction kvs with
    | nil => cases ha
    | cons kv r ih =>
      unfold valueAt at ih ⊢
      rw [List.map_cons, List.find?_cons, List.find?_cons]
      by_cases hk : kv.1 = k
      · rw [if_pos hk]
        by_cases hx : x = k
        · rw [if_pos hx, hx, show (decide (kv.1 = k)) = true from decide_eq_true hk]; rfl
        · have hne : ¬ kv.1 = x := fun z => hx (z.symm.trans hk)
          rw [if_neg hx, decide_eq_false hne]
          dsimp only
          by_cases har : (r.any fun kv => decide (kv.1 = k)) = true
          · rw [ih har, if_neg hx]
          · have : (r.map fun kv => if kv.1 = k then (kv.1, v) else kv) = r := by
              refine (List.map_congr_left fun y hy => ?_).trans (List.map_id r)
              exact if_neg fun z => har (List.any_eq_true.mpr ⟨y, hy, decide_eq_true z⟩)
            rw [this]
      · rw [if_neg hk]
        have har : (r.any fun kv => decide (kv.1 = k)) = true := by
          rw [List.any_cons, decide_eq_false hk, Bool.false_or] at ha; exact ha
        by_cases hx : kv.1 = x
        · have hxk : ¬ x = k := fun z => hk (hx.trans z)
          rw [decide_eq_true hx, if_neg hxk]
        · rw [decide_eq_false hx]
          exact ih har
  · rename_i ha
    unfold valueAt
    rw [List.find?_append]
    by_cases hx : x = k
    · rw [if_pos hx, hx]
      have : kvs.find? (fun kv => decide (kv.1 = k)) = none := by
        rw [List.find?_eq_none]
        exact fun y hy z => ha (List.any_eq_true.mpr ⟨y, hy, z⟩)
      rw [this, Option.none_or, List.find?_cons, decide_eq_true rfl]; rfl
    · rw [if_neg hx, List.find?_cons, decide_eq_false (fun z : k = x => hx z.symm)]
      cases kvs.find? (fun kv => decide (kv.1 = x)) <;> rfl
section
variable {c : Cx} {st : AS}
theorem newAddr {s : Shared} (hs : Sat c st s) : (s.heap.objs.size == sysModules) = false := by
  have h : (222 : Nat) < s.heap.objs.size := Heap.lt_size (hs.hp.keep _ _ (hs.ok.gr.X 222 _ rfl))
  exact beq_eq_false_iff_ne.mpr fun z => absurd (z ▸ h) (by decide)
/-- {} -/
theorem WV.dict0 {pos : Pos} {R : AV → AS → Prop} (k : ∀ d, R (.ref d) (st.new d (isDict c.w d 0 fun _ => none))) : WV c st (eval (.Dict [] [] pos) c.env) R := ⟨fun s hs => by
  rw [eval_Dict_empty]
  refine wpAny_bind (wpAny_standAt (wpAny_newObj_type ⟨.ref _, _, rfl, hs.push rfl ⟨newAddr hs, [], ?_, Nat.le_refl _, fun _ => rfl⟩, k _⟩))
  obtain ⟨o, e, h⟩ := Heap.dictOf_iff.mp (Heap.DictOf.new (knd := strKind Pg c.w) s.heap)
  rw [Heap.get?_push_size _ rfl] at e
  cases e
  exact h⟩
theorem isNone_of {m : Str → Option AV} {kvs : List (Str × Value)} (h : ∀ k, (match m k with | some a => ∃ v, valueAt kvs k = some v ∧ a.is v | none => valueAt kvs k = none)) (k : Str) : (valueAt kvs k).isSome = (m k).isSome := by
  have := h k
  split at this
  · rename_i a e; obtain ⟨v, ev, _⟩ := this; rw [e, ev]; rfl
  · rename_i e; rw [e, this]; rfl
/-- k in d, k not in d -/
theorem Tt.inD {e1 e2 : Expr} {p : Pos} {y : Str} {d : Addr} {n : Nat} {m : Str → Option AV} (h1 : Pu c st e1 (.str y)) (h2 : Pu c st e2 (.ref d)) (b : In c st d (isDict c.w d n m)) (hm : behindInMarks .In e2 = false := by rfl) : Tt c st (.Compare e1 [.In] [e2] p) (m y).isSome :=
  ⟨fun s hs => wpAny_isTrue_Compare1 (h1.run hs fun va s₁ ra q₁ => h2.run q₁ fun vb s₂ rb q₂ => by
    obtain ⟨t, rfl⟩ := ra
    cases rb
    obtain ⟨ns, kvs, hd, _, r⟩ := dict_at (b _ q₂.hp)
    refine wpAny_in_of (strKind_is Pg c.w y t) ns hd.mapOf ?_
    rw [isNone_of r]
    exact Tv.bool.go st { s₂ with toks := s₂.toks + 1 } _ q₂ rfl) hm⟩
theorem Tt.ninD {e1 e2 : Expr} {p : Pos} {y : Str} {d : Addr} {n : Nat} {m : Str → Option AV} (h1 : Pu c st e1 (.str y)) (h2 : Pu c st e2 (.ref d)) (b : In c st d (isDict c.w d n m)) (hm : behindInMarks .NotIn e2 = false := by rfl) : Tt c st (.Compare e1 [.NotIn] [e2] p) (!(m y).isSome) :=
  ⟨fun s hs => wpAny_isTrue_Compare1 (h1.run hs fun va s₁ ra q₁ => h2.run q₁ fun vb s₂ rb q₂ => by
    obtain ⟨t, rfl⟩ := ra
    cases rb
    obtain ⟨ns, kvs, hd, _, r⟩ := dict_at (b _ q₂.hp)
    refine wpAny_notIn_of (strKind_is Pg c.w y t) ns hd.mapOf ?_
    rw [isNone_of r]
    exact Tv.bool.go st { s₂ with toks := s₂.toks + 1 } _ q₂ rfl) hm⟩
/-- d[k] -/
theorem Pu.itemD {value slice : Expr} {p : Pos} {d : Addr} {n : Nat} {m : Str → Option AV} {y : Str} {a : AV} (hv : Pu c st value (.ref d)) (hk : Pu c st slice (.str y)) (b : In c st d (isDict c.w d n m)) (hx : m y = some a)
    (hs' : ∀ u, subscripted slice false (.ref d) (.str y u) = operate [.ref d, .str y u] (getItem (.ref d) (.str y u)) := by intro u; rfl) : Pu c st (.Subscript value slice p) a := pu fun s hs =>
  Subscript_ (hv.run hs fun ov s₁ ro h₁ => hk.run h₁ fun iv s₂ ri h₂ => by
    cases ro
    obtain ⟨t, rfl⟩ := ri
    obtain ⟨ns, kvs, hd, _, r⟩ := dict_at (b _ h₂.hp)
    have := r y
    rw [hx] at this
    obtain ⟨v, ev, rv⟩ := this
    exact tail_any hd.typeIs slot_dict_getitem.lookup (wpAny_getItem_of (strKind_is Pg c.w y t) hd.mapOf ev ⟨rv, h₂⟩) (hs' t))
/-- d[k] = v -/
theorem WU.setD {j n : Nat} {d : Addr} {m : Str → Option AV} {y : Str} {t : Tok} {a : AV} {u : Value} {R : Unit → AS → Prop} (hd : st.nw[j]? = some (d, isDict c.w d n m)) (hz : n ≤ 1000) (r : a.is u) (k : R () (st.upd j d (isDict c.w d (n + 1) (putM m y a)))) : WU c st (PySem.setItem (.ref d) (.str y t) u) R := ⟨fun s hs => by
  obtain ⟨ns, kvs, hD, hn, rk⟩ := dict_at (hs.hp.get hd)
  refine wpAny_setItem_pairs (strKind_is Pg c.w y t) hD (fun h' hD' hsb => ⟨(), _, trivial, hs.upd hd hsb ?_, k⟩) (Nat.le_trans (Nat.le_trans hn hz) (by decide))
  obtain ⟨o, e, ho⟩ := Heap.dictOf_iff.mp hD'
  refine ⟨o, e, ns, _, ho, Nat.le_trans (stored_length_le _ _ _) (Nat.succ_le_succ hn), fun x => ?_⟩
  rw [valueAt_stored]
  unfold putM
  by_cases hx : x = y
  · rw [if_pos hx, if_pos hx]; exact ⟨u, rfl, r⟩
  · rw [if_neg hx, if_neg hx]; exact rk x⟩
/-- o[i] = e, a statement -/
theorem WF.asgI {o i e : Expr} {p' p : Pos} {R : AF → AS → Prop} (h : WV c st (eval e c.env) fun v st₁ => ∃ x y, Pu c st₁ o x ∧ Pu c st₁ i y ∧ ∀ ux uy u, x.is ux → y.is uy → v.is u → WU c st₁ (setItem ux uy u) fun _ st₂ => R .next st₂)
    (hsw : swapsWithSole [.Subscript o i p'] e p.line c.env = pure false := by rfl) (hw : swappedStores [.Subscript o i p'] e c.env = pure none := by rfl) : WF c st (exec (.Assign [.Subscript o i p'] e p) c.env) R :=
  ⟨fun s hs => wpAny_Assign_stores (h.run hs fun u s₁ v st₁ r q z => by
    obtain ⟨x, y, ho, hi, z⟩ := z
    show wpAny _ _ (assign (.Subscript o i p') c.env u) _ _ s₁
    rw [arm_assign_Subscript]
    refine wpAny_bind (wpAny_holding (ho.run q fun ux s₂ rx q₂ => wpAny_bind (wpAny_holding (hi.run q₂ fun uy s₃ ry q₃ => wpAny_bind (wpAny_standAt (wpAny_bind (wpAny_holding ?_)))))))
    exact W.run (z ux uy u rx ry r) q₃ fun _ s₄ _ st₂ _ q₄ k => wpAny_release ⟨.next, st₂, rfl, q₄, k⟩) hsw hw⟩
end
theorem orStandIn_led (t : SetTable) (n : Nat) : (t.orStandIn n).led = t.led ∧ ((t.orStandIn n).plain = true → t.plain = true) := by
  unfold SetTable.orStandIn
  split
  · exact ⟨rfl, id⟩
  · exact ⟨rfl, fun h => nomatch h⟩
theorem layNew_led (t : SetTable) (es : Array (Int × Value)) (h : Int) (x : Value) : (layNew t es h x).2.1.led = t.led ∧ ((layNew t es h x).2.1.plain = true → t.plain = true) := by
  unfold layNew
  split
  · exact orStandIn_led _ _
  · exact ⟨rfl, fun h => nomatch h⟩
theorem relayAll_led (t : SetTable) (es : Array (Int × Value)) (n : Nat) : (relayAll t es n).2.1.led = t.led ∧ ((relayAll t es n).2.1.plain = true → t.plain = true) := by
  unfold relayAll
  split
  · rename_i t' order e
    have h : t'.led = t.led ∧ t'.plain = t.plain := by
      unfold SetTable.relaid SetTable.laid at e
      cases hc : SetTable.layClean (SetTable.sizeAbove n - 1) (es.map (·.1)) with
      | none => rw [hc] at e; cases e
      | some o => rw [hc] at e; cases e; exact ⟨rfl, rfl⟩
    dsimp only
    split
    · exact ⟨h.1, fun z => h.2 ▸ z⟩
    · exact ⟨rfl, fun h => nomatch h⟩
  · exact ⟨rfl, fun h => nomatch h⟩
abbrev byText (w : World) : Bool := w.params.followText "set-order"
/-- a set of strings -/
structure SSet (w : World) (ys : List Str) (es : Array (Int × Value)) (t : SetTable) : Prop where
  el : ElemsOf (strKind Pg w) es.toList
  sub : ∀ e ∈ es.toList, ∃ y tk, y ∈ ys ∧ e.2 = .str y tk
  all : ∀ y ∈ ys, ∃ e ∈ es.toList, ∃ tk, e.2 = .str y tk
  sz : es.size ≤ ys.length
  fits : t.fits es.size = true
  led : t.led = !byText w
  plain : es.size ≠ 0 → t.plain = false
def isSSet (w : World) (ys : List Str) : OP := fun o => ∃ es ep t, o = { cls := .type "set", data := .set es ep t } ∧ SSet w ys es t
theorem SSet.perm {w : World} {ys : List Str} {es es' : Array (Int × Value)} {t t' : SetTable} (S : SSet w ys es t) (p : es'.toList.Perm es.toList) (hf : t'.fits es'.size = true) (hl : t'.led = t.led) (hp : t'.plain = true → t.plain = true) : SSet w ys es' t' := by
  have hz : es'.size = es.size := by rw [← Array.length_toList, p.length_eq, Array.length_toList]
  refine ⟨S.el.perm p, fun e he => S.sub e (p.mem_iff.mp he), fun y hy => (S.all y hy).elim fun e x => ⟨e, p.mem_iff.mpr x.1, x.2⟩, hz ▸ S.sz, hf, hl.trans S.led, fun h => ?_⟩
  have := S.plain (hz ▸ h)
  cases hq : t'.plain with
  | false => rfl
  | true => rw [hp hq] at this; cases this
theorem SSet.more {w : World} {ys : List Str} {es : Array (Int × Value)} {t : SetTable} (S : SSet w ys es t) {y : Str} (h : ∃ e ∈ es.toList, ∃ tk, e.2 = .str y tk) : SSet w (ys ++ [y]) es t :=
  ⟨S.el, fun e he => (S.sub e he).elim fun z x => x.elim fun tk x => ⟨z, tk, List.mem_append_left _ x.1, x.2⟩, fun z hz => (List.mem_append.mp hz).elim (S.all z) fun q => by rw [List.mem_singleton] at q; rw [q]; exact h,
    Nat.le_trans S.sz (by rw [List.length_append]; exact Nat.le_add_right _ _), S.fits, S.led, S.plain⟩
theorem isStrOf_str {y : Str} {tk : Tok} : (Value.str y tk).isStrOf y = true := by unfold Value.isStrOf; exact beq_self_eq_true y
section
variable {w : World} {A : Around} {s : Shared} {a : Addr} {ys : List Str} {es : Array (Int × Value)} {ep : Nat} {t : SetTable} {y : Str} {tk : Tok}
theorem store_ss {es' : Array (Int × Value)} {t' : SetTable} (ho : s.heap.get? a = some { cls := .type "set", data := .set es ep t }) : (s.heap.update a (Obj.putSet es' t')).get? a = some { cls := .type "set", data := .set es' (ep + 1) t' } := by
  rw [Heap.get?_update_self (Obj.putSet es' t') ho (by rw [putSet_of es' t' rfl]; rfl), putSet_of es' t' rfl]
theorem small_scan {n : Nat} (h : n ≤ 1000) : n < scanBound := Nat.lt_of_le_of_lt h (by decide)
/-- the end of an add: the entries are stored, the table may be laid anew -/
theorem sset_tail {g : Bool → Sem Unit} (hg : ∀ (b : Bool) (s₁ : Shared) (Q' : Unit → Shared → Prop), Q' () s₁ → wpAny (model Pg w) A (g b) Q' NoE s₁) (ho : s.heap.get? a = some { cls := .type "set", data := .set es ep t })
    {es1 : Array (Int × Value)} {t2 : SetTable} (S : SSet w ys es1 t2) (hz : ys.length ≤ 1000) {wasDummy : Bool} {R : Option Bool → Shared → Prop} (h : ∀ h', Heap.SameBut a s.heap h' → Bs h' a (isSSet w ys) → R (some true) { s with heap := h' }) :
    wpAny (model Pg w) A (do
        storeSet a es1 t2
        if (!wasDummy && t2.tooFull) = true then do
            g (relayAll t2 es1 (SetTable.grown es1.size)).2.2
            storeSet a (relayAll t2 es1 (SetTable.grown es1.size)).1 (relayAll t2 es1 (SetTable.grown es1.size)).2.1
            pure (some true)
          else pure (some true)) R NoE s := by
  have hb1 := small_scan (Nat.le_trans S.sz hz)
  refine wpAny_bind (wpAny_storeSet_of ho rfl ?_ (fits_of_scanBound hb1))
  have hsb1 := Heap.SameBut.update s.heap a (Obj.putSet es1 t2)
  have ho1 := store_ss (es' := es1) (t' := t2) ho
  split
  · have hp := relayAll_perm t2 es1 (SetTable.grown es1.size)
    have S2 := S.perm hp (relayAll_fits t2 es1 (SetTable.grown es1.size)) (relayAll_led t2 es1 (SetTable.grown es1.size)).1 (relayAll_led t2 es1 (SetTable.grown es1.size)).2
    refine wpAny_bind (hg _ _ _ (wpAny_bind (wpAny_storeSet_of ho1 rfl ?_ (fits_of_scanBound (small_scan (Nat.le_trans S2.sz hz))))))
    exact wpAny_pure (h _ (hsb1.trans (Heap.SameBut.update _ a _)) ⟨_, store_ss (s := { s with heap := s.heap.update a (Obj.putSet es1 t2) }) ho1, _, _, _, rfl, S2⟩)
  · exact wpAny_pure (h _ hsb1 ⟨_, ho1, _, _, _, rfl, S⟩)
theorem sset_add {Q : Bool → Shared → Prop} (ho : s.heap.get? a = some { cls := .type "set", data := .set es ep t }) (S : SSet w ys es t) (hz : ys.length + 1 ≤ 1000)
    (h : ∀ b h', Heap.SameBut a s.heap h' → Bs h' a (isSSet w (ys ++ [y])) → Q b { s with heap := h' }) : wpAny (model Pg w) A (setAddHashed a (.str y tk) ((strKind Pg w).hash y)) Q NoE s := by
  have hkey := strKind_is Pg w y tk
  have hb := small_scan (Nat.le_trans S.sz (Nat.le_trans (Nat.le_succ _) hz))
  have hlen : (ys ++ [y]).length ≤ 1000 := by rw [List.length_append]; exact hz
  unfold setAddHashed setAddHashedIn
  refine wpAny_holding (wpAny_bind (wpAny_setState_of ho rfl S.fits ?_))
  dsimp only
  rw [byScan_of rfl hb S.el]
  rw [if_pos rfl]
  unfold setAddByScan
  refine wpAny_bind (wpAny_bind (wpAny_rule (wpAny_bind (wpAny_setScan_of hkey ho rfl S.fits S.el ?_))))
  cases hr : List.findIdx? (fun e => (strKind Pg w).is y e.2) es.toList with
  | some j =>
    dsimp only
    obtain ⟨hj, hpj, _⟩ := List.findIdx?_eq_some_iff_getElem.mp hr
    obtain ⟨tk', e'⟩ := Value.isStrOf_shape hpj
    refine wpAny_pure (wpAny_pure ?_)
    exact h false s.heap (Heap.SameBut.refl a s.heap) ⟨_, ho, es, ep, t, rfl, S.more ⟨_, List.getElem_mem hj, tk', e'⟩⟩
  | none =>
    dsimp only
    have hperm := layNew_perm t es ((strKind Pg w).hash y) (.str y tk)
    have hfits := layNew_fits t es ((strKind Pg w).hash y) (.str y tk)
    have hled := layNew_led t es ((strKind Pg w).hash y) (.str y tk)
    generalize hL : layNew t es ((strKind Pg w).hash y) (.str y tk) = L at hperm hfits hled ⊢
    obtain ⟨es1, t1, wasDummy, gave⟩ := L
    dsimp only at hperm hfits hled ⊢
    rw [Array.toList_push] at hperm
    have hsz1 : es1.size = es.size + 1 := by rw [← Array.length_toList, hperm.length_eq, List.length_append, Array.length_toList]; rfl
    have S1 : ∀ t' : SetTable, t'.fits es1.size = true → t'.led = t.led → t'.plain = false → SSet w (ys ++ [y]) es1 t' := fun t' hf hl hp =>
      ⟨(S.el.push hkey rfl).perm hperm, fun e he => by
        rcases List.mem_append.mp (hperm.mem_iff.mp he) with q | q
        · obtain ⟨z, tz, hz', ez⟩ := S.sub e q; exact ⟨z, tz, List.mem_append_left _ hz', ez⟩
        · rw [List.mem_singleton] at q; subst q; exact ⟨y, tk, List.mem_append_right _ (.head _), rfl⟩,
       fun z hz' => by
        rcases List.mem_append.mp hz' with q | q
        · obtain ⟨e, he, x⟩ := S.all z q; exact ⟨e, hperm.mem_iff.mpr (List.mem_append_left _ he), x⟩
        · rw [List.mem_singleton] at q; subst q; exact ⟨_, hperm.mem_iff.mpr (List.mem_append_right _ (.head _)), tk, rfl⟩,
       by rw [hsz1, List.length_append]; exact Nat.succ_le_succ S.sz, hf, hl.trans S.led, fun _ => hp⟩
    have hgw : ∀ (b : Bool) (s₁ : Shared) (Q' : Unit → Shared → Prop), Q' () s₁ → wpAny (model Pg w) A (match b with | true => rule "set.scan.the-table-gave-way" | false => pure ()) Q' NoE s₁ :=
      fun b s₁ Q' hq => by cases b <;> first | exact wpAny_pure hq | exact wpAny_rule hq
    refine wpAny_bind (hgw gave _ _ ?_)
    have hend : ∀ h', Heap.SameBut a s.heap h' → Bs h' a (isSSet w (ys ++ [y])) → Q true { s with heap := h' } := fun h' => h true h'
    cases hpl : t1.plain with
    | true =>
      rw [if_pos rfl]
      refine wpAny_bind ?_
      rw [hashByValue_scannable 8 (rfl : (Value.str y tk).scannable = true)]
      refine wpAny_pure ?_
      refine sset_tail (fun b s₁ Q' hq => hgw b s₁ Q' hq) ho (S1 { t1 with plain := false } (SetTable.fits_plain_off hfits) hled.1 rfl) hlen fun h' hsb hS' => ?_
      exact wpAny_pure (hend h' hsb hS')
    | false =>
      rw [if_neg Bool.false_ne_true]
      refine wpAny_bind (wpAny_pure ?_)
      rw [if_pos rfl]
      refine sset_tail (fun b s₁ Q' hq => hgw b s₁ Q' hq) ho (S1 t1 hfits hled.1 hpl) hlen fun h' hsb hS' => ?_
      exact wpAny_pure (hend h' hsb hS')
end
section
variable {w : World} {A : Around} {s : Shared}
abbrev emptySet (w : World) : Obj := { cls := .type "set", dict := none, data := .set #[] 0 (.fresh 0 0 (!byText w)) }
theorem sset_empty (w : World) : isSSet w [] (emptySet w) := ⟨#[], 0, _, rfl, ⟨(fun e he => nomatch he), (fun e he => nomatch he), (fun y hy => nomatch hy), Nat.le_refl _, rfl, rfl, fun h => absurd rfl h⟩⟩
theorem set_new (a : Value) {E : Value → Shared → Prop} {Q₁ : Value → Shared → Prop} (h : Q₁ (.ref s.heap.objs.size) { s with heap := s.heap.push (emptySet w) }) :
    codeAny (model Pg w) A (.call (.builtin "set.__new__") ⟨[.type "set", a], []⟩) (wants Q₁ E) s := by
  refine codeAny_of_tree ?_
  show wpAny _ A.in1 (do checkBuiltinCall "set.__new__" ⟨[.type "set", a], []⟩; again (.builtin "set.__new__" ⟨[.type "set", a], []⟩)) _ _ s
  refine wpAny_bind (wpAny_of_eq (F.newCall_set_1 a) (wpAny_pure ⟨plainId_quiet F.plain_set_new _, codeAny_builtin F.entry_set_new ?_⟩))
  rw [Around.under_plainId F.plain_set_new _]
  unfold Builtin.«set.__new__» Builtin.Frozenset.newClass
  have hsub := sub_set_self
  obtain ⟨hp, g, d, tk, os⟩ := s
  dsimp only
  wp_walk
  refine wpAny_askSetting (wpAny_pure ?_)
  dsimp only
  simp only [newObj]
  refine wpAny_bind (wpAny_alloc (wpAny_pure ?_))
  exact wpAny_pure h
theorem set_loop {I l S : Addr} {items : Array Value} {ys : List Str} (hh : A.in1.handled = none) (hne : l ≠ I) (hSI : S ≠ I) (hSl : S ≠ l) (hi : AVs (ys.map AV.str) items.toList) (hz : ys.length ≤ 900) {R : Result → Shared → Prop} :
    ∀ (k i : Nat) (s : Shared), items.size - i = k → i ≤ items.size → (s.heap.IsListIter I l i ∧ s.heap.IsList l items) → Bs s.heap S (isSSet w (ys.take i)) →
      (∀ h' tk, Kp [S, I] s.heap h' → Bs h' S (isSSet w ys) → R (.ok (.ret .none)) { s with heap := h', toks := tk }) →
      codeAny (model Pg w) A (.builtin "set.update.loop" ⟨[.ref S, .ref I], []⟩) R s := by
  have D := Walks.list (prog := Pg) (w := w) hh I l hne items
  have nI : S ∉ [I] := fun z => hSI (List.mem_singleton.mp z)
  have hsz : items.size = ys.length := by rw [hi.size, List.length_map]
  intro k
  induction k with
  | zero =>
    intro i s hk hi' hst hS hR
    obtain rfl : i = items.size := by omega
    refine codeAny_builtin F.entry_set_update_loop ?_
    rw [Around.under_plainId F.plain_set_update_loop _]
    show wpAny _ A.in1 (pyNext (.ref I) >>= _) _ _ s
    refine wpAny_bind (D.done s _ _ hst fun h' tk kp => ?_)
    show wpAny _ A.in1 (ret Value.none) _ _ _
    refine wpAny_pure (hR h' tk (fun b o n e => kp b o (fun z => n (.tail _ z)) e) ?_)
    rw [List.take_of_length_le (Nat.le_of_eq hsz.symm)] at hS
    exact hS.elim fun o x => ⟨o, kp _ _ nI x.1, x.2⟩
  | succ k ih =>
    intro i s hk hi' hst hS hR
    have hlt : i < items.size := by omega
    refine codeAny_builtin F.entry_set_update_loop ?_
    rw [Around.under_plainId F.plain_set_update_loop _]
    show wpAny _ A.in1 (pyNext (.ref I) >>= _) _ _ s
    refine wpAny_bind (D.item i s _ _ hlt hst fun v h₁ tk hv hst₁ kp => ?_)
    obtain ⟨b, eb, rb⟩ := itemV hi hv
    rw [List.getElem?_map] at eb
    obtain ⟨y, ey, rfl⟩ := Option.map_eq_some_iff.mp eb
    obtain ⟨ty, rfl⟩ := rb
    obtain ⟨o, eo, es, ep, t, rfl, SS⟩ := hS
    show wpAny _ A.in1 (holding [Value.str y ty] (setAdd S (.str y ty)) >>= _) _ _ _
    refine wpAny_bind (wpAny_holding ?_)
    unfold setAdd
    refine wpAny_holding (wpAny_bind ((strKind Pg w).pyHash (k := y) (strKind_is Pg w y ty) ?_))
    have hz' : (ys.take i).length + 1 ≤ 1000 := by rw [List.length_take]; omega
    refine wpAny_mono (sset_add (s := { s with heap := h₁, toks := tk + 1 }) (Q := fun _ s₂ => ∃ h₂, s₂ = { s with heap := h₂, toks := tk + 1 } ∧ Heap.SameBut S h₁ h₂ ∧ Bs h₂ S (isSSet w (ys.take i ++ [y]))) (kp _ _ nI eo) SS hz' fun b h₂ hsb hS2 => ⟨h₂, rfl, hsb, hS2⟩) (fun b s₂ x => ?_) fun _ _ x => x.elim
    obtain ⟨h₂, rfl, hsb, hS2⟩ := x
    refine wpAny_pure ⟨plainId_quiet F.plain_set_update_loop _, ih (i + 1) _ (by omega) hlt ⟨?_, ?_⟩ ?_ fun h' tk' kp' hS' => ?_⟩
    · exact hst₁.1.extBut hsb.extBut (Ne.symm hSI)
    · exact hst₁.2.extBut hsb.extBut (Ne.symm hSl)
    · rw [List.take_add_one, ey]; exact hS2
    · exact hR h' tk' (fun b o n e => kp' b o n (hsb.extBut b o (fun z => n (z ▸ .head _)) (kp b o (fun z => n (.tail _ z)) e))) hS'
end
set_option maxRecDepth 100000 in
set_option maxHeartbeats 3200000 in
theorem call_set {w : World} {A : Around} {s : Shared} {E : Value → Shared → Prop} {l : Addr} {items : Array Value} {ys : List Str} {Q : Value → Shared → Prop}
    (hh : A.handled = none) (hl : s.heap.IsList l items) (hi : AVs (ys.map AV.str) items.toList) (hz : ys.length ≤ 900)
    (h : ∀ (h' : Heap) (tk : Nat), Bs h' s.heap.objs.size (isSSet w ys) → (∀ b o, s.heap.get? b = some o → h'.get? b = some o) → Q (.ref s.heap.objs.size) { s with heap := h', toks := tk }) :
    wpAny (model Pg w) A (call (.type "set") [.ref l]) Q E s := by
  obtain ⟨c, tl, hmro⟩ := F.called_set.mro
  have hmade := F.called_set.made
  have hsub := F.called_set.sub
  refine wpAny_call (codeAny_of_tree ?_)
  show wpAny _ _ (callAny (.type "set") _) _ _ _
  refine wpAny_pure ⟨Code.quiet_builtin _ (by decide +kernel), codeAny_builtin F.entry_type_call ?_⟩
  rw [Around.under_plain (weight_type_call_type "set" [.ref l] []) rfl]
  have h1 := F.called_set.notType
  have h2 := F.called_set.canCreate
  have hct := F.typeCall_set_1 (.ref l)
  repeat (any_goals (first | assumption | wp_step))
  refine codeAny_mono (set_new (w := w) (.ref l) (E := E) (Q₁ := fun obj s₁ => obj = .ref s.heap.objs.size ∧ s₁ = { s with heap := s.heap.push (emptySet w) }) ⟨rfl, rfl⟩) fun r s₁ hr => ?_
  cases r with
  | error e => exact hr
  | ok fl =>
    cases fl with
    | ret obj =>
      obtain ⟨rfl, rfl⟩ := hr
      have hS : (s.heap.push (emptySet w)).get? s.heap.objs.size = some (emptySet w) := Heap.get?_push_size _ rfl
      have hT : Shared.TypeIs { s with heap := s.heap.push (emptySet w) } (.ref s.heap.objs.size) "set" := ⟨_, hS, rfl⟩
      have hli := F.called_set.init.lookup
      have hbi := F.called_set.init.bind (.ref s.heap.objs.size)
      repeat (any_goals (first | assumption | wp_step))
      refine codeAny_mono (codeAny_call_builtin (R := wants (fun r s₂ => r = .none ∧ ∃ h' tk, s₂ = { s with heap := h', toks := tk } ∧ Bs h' s.heap.objs.size (isSSet w ys) ∧ (∀ b o, s.heap.get? b = some o → h'.get? b = some o)) E) F.called_set.init.plain F.entry_set_init (check_set_init_1 hT ?_)) fun r₂ s₂ hr₂ => ?_
      · obtain ⟨ol, hol, hcl, nl, hdl⟩ := hl
        obtain ⟨ocls, odict, odata, oslots⟩ := ol
        simp only at hcl hdl
        subst hcl; subst hdl
        have hol' : (s.heap.push (emptySet w)).get? l = some { cls := .type "list", dict := odict, data := .seq items nl, slots := oslots } := Heap.get?_push_of_some _ hol
        have hsls := F.sub_list_set
        have hslf := F.sub_list_frozenset
        have hne : (Value.type "list" == Value.type "dict") = false := by decide
        have hl1 : (s.heap.push (emptySet w)).IsList l items := ⟨_, hol', rfl, nl, rfl⟩
        unfold Builtin.«set.__init__» noKeywords Builtin.Frozenset.updateFrom
        generalize hPI : pyIter = PI
        wp_walk
        subst hPI
        refine wpAny_pyIter_list hl1 ?_
        refine wpAny_bind (wpAny_runValue ?_)
        have hlS : l < s.heap.objs.size := Heap.lt_size hol
        have hsz : (s.heap.push (emptySet w)).objs.size = s.heap.objs.size + 1 := Heap.size_push ..
        refine set_loop (w := w) (A := A.in1.in1) (I := (s.heap.push (emptySet w)).objs.size) (S := s.heap.objs.size) (l := l) (items := items) (ys := ys) (show A.in1.in1.in1.handled = none from hh) (by rw [hsz]; exact Nat.ne_of_lt (Nat.lt_succ_of_lt hlS)) (by rw [hsz]; exact Nat.ne_of_lt (Nat.lt_succ_self _)) (Nat.ne_of_gt hlS) hi hz items.size 0 { s with heap := (s.heap.push (emptySet w)).push { cls := .type "list_iterator", data := .fields #[.ref l, .int 0 0] } } (Nat.sub_zero _) (Nat.zero_le _) ⟨⟨_, Heap.get?_push_size _ rfl, rfl, rfl⟩, hl1.push _⟩ ⟨_, Heap.get?_push_of_some _ hS, sset_empty w⟩ fun h' tk kp hS' => ?_
        show wpAny _ _ _ _ _ _
        refine wpAny_pure ?_
        show wpAny _ _ (ret Value.none) _ _ _
        refine wpAny_pure ⟨rfl, h', tk, rfl, hS', fun b o e => ?_⟩
        have hb := Heap.lt_size e
        refine kp b o (fun z => ?_) (Heap.get?_push_of_some _ (Heap.get?_push_of_some _ e))
        rcases List.mem_cons.mp z with z | z
        · exact Nat.ne_of_lt hb z
        · rw [List.mem_singleton, hsz] at z; exact Nat.ne_of_lt (Nat.lt_succ_of_lt hb) z
      · cases r₂ with
        | error e => exact hr₂
        | ok fl₂ =>
          cases fl₂ with
          | ret r =>
            obtain ⟨rfl, h', tk, rfl, hS', hk'⟩ := hr₂
            repeat (any_goals (first | assumption | wp_step))
            exact h _ _ hS' hk'
          | _ => exact hr₂.elim
    | _ => exact hr.elim
theorem sset_of {w : World} {ys : List Str} {h : Heap} {a : Addr} (b : Bs h a (isSSet w ys)) (hz : ys.length ≤ 1000) : ∃ n, h.SetOf (strKind Pg w) a (fun k => ys.any (· == k)) n := by
  obtain ⟨o, e, es, ep, t, rfl, S⟩ := b
  refine ⟨es.size, _, es, ep, t, e, ⟨rfl, rfl, rfl⟩, rfl, S.el, fun k => ⟨fun hk => ?_, fun hk => ?_⟩, small_scan (Nat.le_trans S.sz hz), S.fits, rfl⟩
  · obtain ⟨y, hy, q⟩ := List.any_eq_true.mp hk
    rw [beq_iff_eq] at q; subst q
    obtain ⟨e', he, tk, ee⟩ := S.all y hy
    exact ⟨e', he, by rw [ee]; exact strKind_is Pg w y tk⟩
  · obtain ⟨e', he, q⟩ := hk
    obtain ⟨y, tk, hy, ee⟩ := S.sub e' he
    rw [ee] at q
    have := (strKind Pg w).inj _ _ _ q (strKind_is Pg w y tk)
    exact List.any_eq_true.mpr ⟨y, hy, beq_iff_eq.mpr this.symm⟩
section
variable {c : Cx} {st : AS}
theorem WV.setOf {l : Addr} {ys : List Str} {R : AV → AS → Prop} (b : In c st l (isListW (ys.map AV.str))) (hz : ys.length ≤ 900) (k : ∀ a, R (.ref a) (st.new a (isSSet c.w ys))) : WV c st (call (.type "set") [.ref l]) R := ⟨fun s hs => by
  obtain ⟨vs, il, rv⟩ := (b _ hs.hp).isL
  refine call_set (w := c.w) hs.ok.rm.handled il rv hz fun h' tk hb kp => ⟨.ref s.heap.objs.size, st.new s.heap.objs.size (isSSet c.w ys), rfl, ?_, k _⟩
  have g := hs.grow kp
  have lt : ∀ p ∈ st.nw, p.1 ≠ s.heap.objs.size := fun p hp => Nat.ne_of_lt (hs.hp.lt hp)
  refine ⟨g.ok, ⟨g.hp.keep, fun p hp => ?_, ?_⟩, g.ns, fun p hp => ?_, g.gens, g.os⟩
  · rcases List.mem_append.mp hp with q | q
    · exact g.hp.at' p q
    · rw [List.mem_singleton] at q; subst q; exact ⟨hs.hp.fresh, hb⟩
  · show ((st.nw ++ [(s.heap.objs.size, isSSet c.w ys)]).map (·.1)).Nodup
    rw [List.map_append]
    refine nodup_snoc g.hp.nd fun b hb => ?_
    obtain ⟨p, hp, rfl⟩ := List.mem_map.mp hb
    exact lt p hp
  · rcases List.mem_append.mp hp with q | q
    · exact g.away p q
    · rw [List.mem_singleton] at q; subst q
      obtain ⟨m, hm, _⟩ := hs.ns
      exact Nat.ne_of_gt hm.lt⟩
/-- y in a set of strings -/
theorem Tt.inSet {e1 e2 : Expr} {p : Pos} {y : Str} {a : Addr} {ys : List Str} (h1 : Pu c st e1 (.str y)) (h2 : Pu c st e2 (.ref a)) (b : In c st a (isSSet c.w ys)) (hz : ys.length ≤ 1000) (hm : behindInMarks .In e2 = false := by rfl) : Tt c st (.Compare e1 [.In] [e2] p) (ys.any (· == y)) :=
  ⟨fun s hs => wpAny_isTrue_Compare1 (h1.run hs fun va s₁ ra q₁ => h2.run q₁ fun vb s₂ rb q₂ => by
    obtain ⟨t, rfl⟩ := ra
    cases rb
    obtain ⟨n, hS⟩ := sset_of (b _ q₂.hp) hz
    exact wpAny_inSet_of (strKind_is Pg c.w y t) rfl hS (Tv.bool.go st { s₂ with toks := s₂.toks + 1 } _ q₂ rfl)) hm⟩
end
theorem entry_siter : entryFor table "set.__iter__" = some Builtin.«frozenset.__iter__» :=
  entryFor_alias (id' := "frozenset.__iter__") (by kernel_rfl) rfl (by decide +kernel) (by kernel_rfl)
theorem slot_snext : Slot "set_iterator" "__next__" "set_iterator.__next__" :=
  .of (owner := "set_iterator") (n := "__next__") (by rw [typeLookup_type, builtinLookup_eq_fast]; kernel_rfl) (by decide +kernel) (by decide +kernel) (by decide +kernel)
    (by first | exact .inl (by decide +kernel) | exact .inr (by decide +kernel)) (by rw [isSubtype_type]; kernel_rfl)
theorem entry_snext : entryFor table "set_iterator.__next__" = some Builtin.«set_iterator.__next__» := entryFor_of_tree (by kernel_rfl)
theorem args_snext (a : Value) : argsOk "set_iterator.__next__" ⟨[a], []⟩ := by unfold argsOk; kernel_rfl
theorem args_siter (a : Value) : argsOk "set.__iter__" ⟨[a], []⟩ := by unfold argsOk; kernel_rfl
theorem slot_sself : Slot "set_iterator" "__iter__" "set_iterator.__iter__" :=
  .of (owner := "set_iterator") (n := "__iter__") (by rw [typeLookup_type, builtinLookup_eq_fast]; kernel_rfl) (by decide +kernel) (by decide +kernel) (by decide +kernel)
    (by first | exact .inl (by decide +kernel) | exact .inr (by decide +kernel)) (by rw [isSubtype_type]; kernel_rfl)
abbrev ssObj (es : Array (Int × Value)) (ep : Nat) (t : SetTable) : Obj := { cls := .type "set", data := .set es ep t }
abbrev sitObj (first : Value) (k : Nat) (s : Value) (n ep : Nat) : Obj := { cls := .type "set_iterator", data := .fields #[first, .int k 0, s, .int n 0, .int ep 0] }
section
variable {w : World} {A : Around} {E : Value → Shared → Prop} {s : Shared} {I a : Addr} {es : Array (Int × Value)} {ep : Nat} {t : SetTable} {first : Value} {k : Nat}
/-- one step by places -/
theorem snext_drawn {P : Addr} {places : Array Value} {q : Nat} {tq : Tok} {x : Int × Value} {Q : Option Value → Shared → Prop} (hI : s.heap.get? I = some (sitObj (.ref P) k (.ref a) es.size ep)) (hS : s.heap.get? a = some (ssObj es ep t)) (hf : t.fits es.size = true) (hP : s.heap.IsTuple P places) (hp : places[k]? = some (.int q tq)) (hx : es[q]? = some x)
    (hQ : ∀ h', h'.get? I = some (sitObj (.ref P) (k + 1) (.ref a) es.size ep) → Heap.SameBut I s.heap h' → Q (some x.2) { s with heap := h' }) : wpAny (model Pg w) A (pyNext (.ref I)) Q E s := by
  have hT : s.TypeIs (.ref I) "set_iterator" := ⟨_, hI, rfl⟩
  unfold pyNext
  refine wpAny_bind (wpAny_attempt (wpAny_callSpecial?_slot (name := Str.ofString "__next__") hT slot_snext (wpAny_call_entry slot_snext hT entry_snext ?_ (args_snext _))))
  show wpAny _ _ (fieldsOf (.ref I) >>= fun fs => _) _ _ s
  refine wpAny_bind ?_
  unfold fieldsOf
  refine wpAny_bind (wpAny_load hI (wpAny_pure ?_))
  show wpAny _ _ (setEntries a >>= fun r => _) _ _ s
  refine wpAny_bind (wpAny_setEntries_of hS rfl hf ?_)
  show wpAny _ _ (if (((es.size : Nat) : Int) != ((es.size : Nat) : Int)) = true then _ else _) _ _ s
  rw [if_neg (by rw [bne_self_eq_false]; exact Bool.false_ne_true)]
  show wpAny _ _ (seqItems? (.ref P) >>= fun r => _) _ _ s
  obtain ⟨oP, ePo, hcP, nP, hdP⟩ := hP
  refine wpAny_bind (wpAny_seqItems ePo hdP ?_)
  dsimp only
  rw [Int.toNat_natCast, hp]
  dsimp only
  rw [Int.toNat_natCast, Int.toNat_natCast]
  unfold setNextDrawn
  refine wpAny_bind (wpAny_bind (wpAny_setState_of hS rfl hf ?_))
  dsimp only
  rw [if_neg (by rw [bne_self_eq_false]; exact Bool.false_ne_true)]
  show wpAny _ _ (match es[q]? with | some (_, x) => pure x | _ => unsupported "internal:set_iterator") _ _ s
  rw [hx]
  refine wpAny_pure (wpAny_bind (wpAny_setField_rec hI (by exact Nat.le_of_ble_eq_true rfl) fun h' hI' hs' => ?_))
  exact wpAny_pure ⟨_, rfl, wpAny_pure (hQ h' hI' hs')⟩
/-- the end, by places -/
theorem snext_drawn_end {P : Addr} {places : Array Value} {Q : Option Value → Shared → Prop} (hh : A.handled = none) (hI : s.heap.get? I = some (sitObj (.ref P) k (.ref a) es.size ep)) (hS : s.heap.get? a = some (ssObj es ep t)) (hf : t.fits es.size = true) (hP : s.heap.IsTuple P places) (hp : places[k]? = none)
    (hQ : ∀ h', Heap.ExtBut I s.heap h' → Q none { s with heap := h' }) : wpAny (model Pg w) A (pyNext (.ref I)) Q E s := by
  have hT : s.TypeIs (.ref I) "set_iterator" := ⟨_, hI, rfl⟩
  unfold pyNext
  refine wpAny_bind (wpAny_attempt (wpAny_callSpecial?_slot (name := Str.ofString "__next__") hT slot_snext (wpAny_call_entry slot_snext hT entry_snext ?_ (args_snext _))))
  show wpAny _ _ (fieldsOf (.ref I) >>= fun fs => _) _ _ s
  refine wpAny_bind ?_
  unfold fieldsOf
  refine wpAny_bind (wpAny_load hI (wpAny_pure ?_))
  show wpAny _ _ (setEntries a >>= fun r => _) _ _ s
  refine wpAny_bind (wpAny_setEntries_of hS rfl hf ?_)
  show wpAny _ _ (if (((es.size : Nat) : Int) != ((es.size : Nat) : Int)) = true then _ else _) _ _ s
  rw [if_neg (by rw [bne_self_eq_false]; exact Bool.false_ne_true)]
  show wpAny _ _ (seqItems? (.ref P) >>= fun r => _) _ _ s
  obtain ⟨oP, ePo, hcP, nP, hdP⟩ := hP
  refine wpAny_bind (wpAny_seqItems ePo hdP ?_)
  dsimp only
  rw [Int.toNat_natCast, hp]
  dsimp only
  refine wpAny_bind (wpAny_setField_rec hI (by exact Nat.le_of_ble_eq_true rfl) fun h₁ hI₁ hs₁ => ?_)
  refine wpAny_bind (wpAny_setField_rec hI₁ (by exact Nat.le_of_ble_eq_true rfl) fun h₂ hI₂ hs₂ => ?_)
  show wpAny _ _ (newExc (.type "StopIteration") [] >>= _) _ _ _
  refine wpAny_bind ?_
  simp only [newExc, newTuple]
  refine wpAny_bind (wpAny_newObj_type ?_ (by size_fits))
  refine wpAny_bind (m := firstArgMember _ _) (wpAny_of_eq (a := Value.none) (by first | rfl | (simp only [firstArgMember]; rfl)) ?_)
  refine wpAny_newObj_type ?_ (by size_fits)
  simp only [raiseNew]
  refine wpAny_bind (wpAny_handled ?_)
  rw [show A.in1.handled = none from hh]
  refine wpAny_bind (wpAny_pure (wpAny_throw ?_))
  refine wpAny_bind (wpAny_isInstance (T := "StopIteration") (b := true) ⟨_, Heap.get?_push_size _ rfl, rfl⟩ isSubtype_stop ?_)
  exact wpAny_pure (hQ _ (((hs₁.trans hs₂).extBut.push _).push _))
end
/-- what setNext says -/
def NextIs (w : World) (A : Around) (s : Shared) (a : Addr) (slot k ep : Nat) (r : Option (Value × Nat)) : Prop := ∀ (E' : Value → Shared → Prop) (Q' : Option (Value × Nat) → Shared → Prop), Q' r s → wpAny (model Pg w) A (setNext a slot k ep) Q' E' s
section
variable {w : World} {A : Around} {E : Value → Shared → Prop} {s : Shared} {I a : Addr} {es : Array (Int × Value)} {ep : Nat} {t : SetTable} {k slot : Nat}
theorem snext_int {next : Nat} {x : Value} {Q : Option Value → Shared → Prop} (hI : s.heap.get? I = some (sitObj (.int slot 0) k (.ref a) es.size ep)) (hS : s.heap.get? a = some (ssObj es ep t)) (hf : t.fits es.size = true) (hN : NextIs w A.in1 s a slot k ep (some (x, next)))
    (hQ : ∀ h', h'.get? I = some (sitObj (.int next 0) (k + 1) (.ref a) es.size ep) → Heap.SameBut I s.heap h' → Q (some x) { s with heap := h' }) : wpAny (model Pg w) A (pyNext (.ref I)) Q E s := by
  have hT : s.TypeIs (.ref I) "set_iterator" := ⟨_, hI, rfl⟩
  unfold pyNext
  refine wpAny_bind (wpAny_attempt (wpAny_callSpecial?_slot (name := Str.ofString "__next__") hT slot_snext (wpAny_call_entry slot_snext hT entry_snext ?_ (args_snext _))))
  show wpAny _ _ (fieldsOf (.ref I) >>= fun fs => _) _ _ s
  refine wpAny_bind ?_
  unfold fieldsOf
  refine wpAny_bind (wpAny_load hI (wpAny_pure ?_))
  show wpAny _ _ (setEntries a >>= fun r => _) _ _ s
  refine wpAny_bind (wpAny_setEntries_of hS rfl hf ?_)
  show wpAny _ _ (if (((es.size : Nat) : Int) != ((es.size : Nat) : Int)) = true then _ else _) _ _ s
  rw [if_neg (by rw [bne_self_eq_false]; exact Bool.false_ne_true)]
  show wpAny _ _ (setNext a (slot : Int).toNat (k : Int).toNat (ep : Int).toNat >>= fun r => _) _ _ s
  rw [Int.toNat_natCast, Int.toNat_natCast, Int.toNat_natCast]
  refine wpAny_bind (hN _ _ ?_)
  dsimp only
  refine wpAny_bind (wpAny_setField_rec hI (by exact Nat.le_of_ble_eq_true rfl) fun h₁ hI₁ hs₁ => ?_)
  refine wpAny_bind (wpAny_setField_rec hI₁ (by exact Nat.le_of_ble_eq_true rfl) fun h₂ hI₂ hs₂ => ?_)
  exact wpAny_pure ⟨_, rfl, wpAny_pure (hQ h₂ hI₂ (hs₁.trans hs₂))⟩
theorem snext_int_end {Q : Option Value → Shared → Prop} (hh : A.handled = none) (hI : s.heap.get? I = some (sitObj (.int slot 0) k (.ref a) es.size ep)) (hS : s.heap.get? a = some (ssObj es ep t)) (hf : t.fits es.size = true) (hN : NextIs w A.in1 s a slot k ep none)
    (hQ : ∀ h', Heap.ExtBut I s.heap h' → Q none { s with heap := h' }) : wpAny (model Pg w) A (pyNext (.ref I)) Q E s := by
  have hT : s.TypeIs (.ref I) "set_iterator" := ⟨_, hI, rfl⟩
  unfold pyNext
  refine wpAny_bind (wpAny_attempt (wpAny_callSpecial?_slot (name := Str.ofString "__next__") hT slot_snext (wpAny_call_entry slot_snext hT entry_snext ?_ (args_snext _))))
  show wpAny _ _ (fieldsOf (.ref I) >>= fun fs => _) _ _ s
  refine wpAny_bind ?_
  unfold fieldsOf
  refine wpAny_bind (wpAny_load hI (wpAny_pure ?_))
  show wpAny _ _ (setEntries a >>= fun r => _) _ _ s
  refine wpAny_bind (wpAny_setEntries_of hS rfl hf ?_)
  show wpAny _ _ (if (((es.size : Nat) : Int) != ((es.size : Nat) : Int)) = true then _ else _) _ _ s
  rw [if_neg (by rw [bne_self_eq_false]; exact Bool.false_ne_true)]
  show wpAny _ _ (setNext a (slot : Int).toNat (k : Int).toNat (ep : Int).toNat >>= fun r => _) _ _ s
  rw [Int.toNat_natCast, Int.toNat_natCast, Int.toNat_natCast]
  refine wpAny_bind (hN _ _ ?_)
  dsimp only
  refine wpAny_bind (wpAny_setField_rec hI (by exact Nat.le_of_ble_eq_true rfl) fun h₂ hI₂ hs₂ => ?_)
  show wpAny _ _ (newExc (.type "StopIteration") [] >>= _) _ _ _
  refine wpAny_bind ?_
  simp only [newExc, newTuple]
  refine wpAny_bind (wpAny_newObj_type ?_ (by size_fits))
  refine wpAny_bind (m := firstArgMember _ _) (wpAny_of_eq (a := Value.none) (by first | rfl | (simp only [firstArgMember]; rfl)) ?_)
  refine wpAny_newObj_type ?_ (by size_fits)
  simp only [raiseNew]
  refine wpAny_bind (wpAny_handled ?_)
  rw [show A.in1.handled = none from hh]
  refine wpAny_bind (wpAny_pure (wpAny_throw ?_))
  refine wpAny_bind (wpAny_isInstance (T := "StopIteration") (b := true) ⟨_, Heap.get?_push_size _ rfl, rfl⟩ isSubtype_stop ?_)
  exact wpAny_pure (hQ _ ((hs₂.extBut.push _).push _))
end
theorem perm_erase {α : Type} : ∀ {l : List α} {i : Nat} (h : i < l.length), (l[i] :: l.eraseIdx i).Perm l
  | a :: l, 0, _ => List.Perm.refl _
  | a :: l, i + 1, h => (List.Perm.swap a (l[i]'(Nat.lt_of_succ_lt_succ h)) (l.eraseIdx i)).trans (List.Perm.cons a (perm_erase (l := l) (i := i) (Nat.lt_of_succ_lt_succ h)))
theorem pick_go {α : Type} (next : Nat → Nat) : ∀ (fuel k : Nat) (left : List α) (out : Array α), left.length = fuel → (pickOrder.go next fuel k left out).toList.Perm (out.toList ++ left)
  | 0, k, left, out, h => by
    cases left with
    | nil => rw [List.append_nil]; exact List.Perm.refl _
    | cons a l => cases h
  | fuel + 1, k, left, out, h => by
    have hl : next k % left.length < left.length := Nat.mod_lt _ (by rw [h]; exact Nat.succ_pos _)
    unfold pickOrder.go
    rw [List.getElem?_eq_getElem hl]
    refine (pick_go next fuel (k + 1) _ _ (by rw [List.length_eraseIdx_of_lt hl, h]; rfl)).trans ?_
    rw [Array.toList_push, List.append_assoc]
    refine List.Perm.append_left _ ?_
    exact perm_erase hl
theorem pick_perm {α : Type} (next : Nat → Nat) (xs : Array α) : (pickOrder next xs).toList.Perm xs.toList := by
  have := pick_go next xs.size 0 xs.toList #[] Array.length_toList
  exact this
section
variable {w : World} {A : Around} {s : Shared} {a : Addr} {es : Array (Int × Value)} {ep : Nat} {t : SetTable} {k slot : Nat}
theorem next_text (hS : s.heap.get? a = some (ssObj es ep t)) (hf : t.fits es.size = true) (hb : byText w = true) : NextIs w A s a slot k ep (((pickOrder (w.params.setOrder a ep) es)[k]?).map fun e => (e.2, slot)) := fun E' Q' h => by
  unfold setNext
  refine wpAny_bind (wpAny_setState_of hS rfl hf ?_)
  dsimp only
  unfold setsByText
  refine wpAny_bind (wpAny_bind (wpAny_askSetting (wpAny_pure ?_)))
  show wpAny _ _ (if w.params.followText "set-order" = true then _ else _) _ _ s
  rw [if_pos hb, if_neg (by rw [bne_self_eq_false]; exact Bool.false_ne_true)]
  unfold setWalk
  refine wpAny_bind (wpAny_bind (wpAny_setState_of hS rfl hf ?_))
  dsimp only
  unfold setsByText
  refine wpAny_bind (wpAny_bind (wpAny_askSetting (wpAny_pure ?_)))
  show wpAny _ _ (if w.params.followText "set-order" = true then _ else _) _ _ s
  rw [if_pos hb]
  exact wpAny_bind (wpAny_askSetting (wpAny_pure (wpAny_pure h)))
end
section
variable {w : World} {A : Around} {s : Shared} {a : Addr} {es : Array (Int × Value)} {ep : Nat} {t : SetTable} {k slot : Nat}
def fewNext (es : Array (Int × Value)) (t : SetTable) (slot : Nat) : Option (Value × Nat) := match es[SetTable.below t.place slot]?, t.place[SetTable.below t.place slot]? with
  | some (_, x), some j => some (x, j + 1)
  | _, _ => none
theorem next_few (hS : s.heap.get? a = some (ssObj es ep t)) (hf : t.fits es.size = true) (hb : byText w = false) (hz : es.size ≤ 1) (hl : t.led = true) : NextIs w A s a slot k ep (fewNext es t slot) := fun E' Q' h => by
  unfold setNext
  refine wpAny_bind (wpAny_setState_of hS rfl hf ?_)
  dsimp only
  unfold setsByText
  refine wpAny_bind (wpAny_bind (wpAny_askSetting (wpAny_pure ?_)))
  show wpAny _ _ (if w.params.followText "set-order" = true then _ else _) _ _ s
  rw [if_neg (by rw [show w.params.followText "set-order" = false from hb]; exact Bool.false_ne_true)]
  show wpAny _ _ (if (!t.plain && decide (es.size > 1)) = true then _ else _) _ _ s
  rw [if_neg (by rw [decide_eq_false (Nat.not_lt.mpr hz), Bool.and_false]; exact Bool.false_ne_true)]
  refine wpAny_bind ?_
  show wpAny _ _ (if (!t.led && !es.isEmpty) = true then _ else _) _ _ s
  rw [if_neg (by rw [hl]; exact Bool.false_ne_true)]
  exact wpAny_pure (wpAny_pure h)
theorem few_0 (h : es.size = 0) : fewNext es t slot = none := by
  unfold fewNext
  rw [Array.getElem?_eq_none (by rw [h]; exact Nat.zero_le _)]
theorem few_1 {x : Int × Value} {p : Nat} (he : es = #[x]) (hp : t.place = #[p]) : fewNext es t 0 = some (x.2, p + 1) ∧ fewNext es t (p + 1) = none := by
  unfold fewNext
  subst he
  rw [hp]
  have b0 : SetTable.below #[p] 0 = 0 := by
    show SetTable.below.go _ _ 1 0 1 = 0
    unfold SetTable.below.go
    rw [if_pos (by decide)]
    show (if p < 0 then _ else SetTable.below.go _ _ 0 0 0) = 0
    rw [if_neg (Nat.not_lt_zero _)]; rfl
  have b1 : SetTable.below #[p] (p + 1) = 1 := by
    show SetTable.below.go _ _ 1 0 1 = 1
    unfold SetTable.below.go
    rw [if_pos (by decide)]
    show (if p < p + 1 then SetTable.below.go _ _ 0 1 1 else _) = 1
    rw [if_pos (Nat.lt_succ_self _)]; rfl
  rw [b0, b1]
  exact ⟨rfl, rfl⟩
end
section
variable {w : World} {A : Around} {E : Value → Shared → Prop}
/-- an order is drawn -/
theorem draw_order {α : Type} : ∀ (n : Nat) (xs : List α) (s : Shared) (Q : List α → Shared → Prop), xs.length = n → (∀ l dr, l.Perm xs → Q l { s with drawn := dr }) → wpAny (model Pg w) A (drawOrder n xs) Q E s
  | 0, xs, s, Q, h, k => by
    cases xs with
    | nil => exact wpAny_pure (k [] s.drawn (List.Perm.refl _))
    | cons a l => cases h
  | n + 1, [], s, Q, h, k => by cases h
  | n + 1, x :: xs, s, Q, h, k => by
    unfold drawOrder
    have key : ∀ i, i < (x :: xs).length → ∀ dr, wpAny (model Pg w) A (match (x :: xs)[i]? with | some y => (do return y :: (← drawOrder n ((x :: xs).eraseIdx i))) | none => unsupported "internal:drawOrder") Q E { s with drawn := dr } := fun i hi dr => by
      rw [List.getElem?_eq_getElem hi]
      refine wpAny_bind (draw_order n _ _ _ (by rw [List.length_eraseIdx_of_lt hi, h]; rfl) fun l dr' hp => wpAny_pure (k _ dr' ?_))
      exact (List.Perm.cons _ hp).trans (perm_erase hi)
    refine wpAny_bind ?_
    intro Γ p hΓ
    show Sem.wp _ Γ (.choose .order (x :: xs).length _) _ _ p s
    rw [Sem.wp_choose]
    refine ⟨Nat.succ_ne_zero _, ?_⟩
    rw [Sem.wp]
    exact key _ (Nat.mod_lt _ (Nat.succ_pos _)) _
end
section
variable {w : World} {A : Around} {E : Value → Shared → Prop} {s : Shared} {a : Addr} {es : Array (Int × Value)} {ep : Nat} {t : SetTable}
/-- iter(set): the iterator is laid -/
theorem siter {Q : Value → Shared → Prop} (hS : s.heap.get? a = some (ssObj es ep t)) (hf : t.fits es.size = true) (hz : es.size ≤ 1000)
    (h1 : (byText w = true ∨ es.size ≤ 1) → Q (.ref s.heap.objs.size) { s with heap := s.heap.push (sitObj (.int 0 0) 0 (.ref a) es.size ep) })
    (h2 : ∀ (l : List Nat) dr, byText w = false → l.Perm (List.range es.size) → Q (.ref (s.heap.push { cls := .type "tuple", data := .seq (l.map fun (i : Nat) => rawInt i).toArray }).objs.size) { s with heap := (s.heap.push { cls := .type "tuple", data := .seq (l.map fun (i : Nat) => rawInt i).toArray }).push (sitObj (.ref s.heap.objs.size) 0 (.ref a) es.size ep), drawn := dr })
    (h3 : (!byText w && (!t.plain && decide (es.size > 1))) = false → byText w = true ∨ es.size ≤ 1) :
    wpAny (model Pg w) A (pyIter (.ref a)) Q E s := by
  have hT : s.TypeIs (.ref a) "set" := ⟨_, hS, rfl⟩
  refine wpAny_pyIter_slot hT F.slot_set_iter (wpAny_call_entry F.slot_set_iter hT entry_siter ?_ (args_siter _))
  show wpAny _ _ (Builtin.Frozenset.sizeOf a >>= fun n => _) _ _ s
  unfold Builtin.Frozenset.sizeOf
  refine wpAny_bind (wpAny_bind (wpAny_setEntries_of hS rfl hf (wpAny_pure ?_)))
  unfold setDrawn
  refine wpAny_bind (wpAny_bind (wpAny_setState_of hS rfl hf ?_))
  dsimp only
  unfold setsByText
  refine wpAny_bind (wpAny_bind (wpAny_askSetting (wpAny_pure (wpAny_pure ?_))))
  show wpAny _ _ (if (!byText w && (!t.plain && decide (es.size > 1))) = true then _ else _) _ _ s
  have fin : ∀ (first : Value) (s₁ : Shared), s₁.heap.get? a = some (ssObj es ep t) → Q (.ref s₁.heap.objs.size) { s₁ with heap := s₁.heap.push (sitObj first 0 (.ref a) es.size ep) } →
      wpAny (model Pg w) A.in1 (do
        let ep' ← setEpoch a
        let it ← newFields "set_iterator" [first, rawInt 0, Value.ref a, rawInt es.size, rawInt ep']
        ret it) (fun fin s' => ∃ v, fin = Fin.done (Flow.ret v) ∧ ∃ T' r, s'.TypeIs v T' ∧ typeLookup (Value.type T') (Str.ofString "__next__") = pure (some r) ∧ Q v s') E s₁ := fun first s₁ hS₁ hq =>
    wpAny_bind (wpAny_setEpoch_of hS₁ rfl hf (wpAny_bind (wpAny_newObj_type (wpAny_pure ⟨_, rfl, "set_iterator", _, ⟨_, Heap.get?_push_size _ rfl, rfl⟩, slot_snext.lookup, hq⟩))))
  cases hd : (!byText w && (!t.plain && decide (es.size > 1))) with
  | false =>
    rw [if_neg Bool.false_ne_true]
    exact wpAny_bind (wpAny_pure (fin _ s hS (h1 (h3 hd))))
  | true =>
    rw [if_pos rfl]
    have hbt : byText w = false := by
      cases q : byText w with
      | false => rfl
      | true => rw [q] at hd; cases hd
    refine wpAny_bind (draw_order es.size _ s _ List.length_range fun l dr hp => wpAny_bind (wpAny_newTuple ?_ ?_))
    · exact fin _ _ (Heap.get?_push_of_some _ hS) (h2 l dr hbt hp)
    · rw [List.length_map, hp.length_eq, List.length_range]; exact Nat.le_trans hz (by decide)
end
theorem own_sit {w : World} {A : Around} {target : Expr} {I : Addr} {v : Value} {s : Shared} {Q : Unit → Shared → Prop} {first s' : Value} {k n ep : Nat} (e : s.heap.get? I = some (sitObj first k s' n ep)) (h : Q () s) : wpAny (model Pg w) A (letOwnedTupleGo target (.ref I) v) Q NoE s := own_off e rfl rfl (by decide) h
section
variable {w : World} {A : Around} {target : Expr} {I a : Addr} {es : Array (Int × Value)} {ep : Nat} {t : SetTable}
/-- the walk by a number: by text, or over one entry at most -/
theorem It.sint (hh : A.handled = none) (hne : a ≠ I) (hf : t.fits es.size = true) (slots : Nat → Nat) (xs : List Value) (hn : ∀ k, k < xs.length → ∀ s : Shared, s.heap.get? a = some (ssObj es ep t) → NextIs w A.in1 s a (slots k) k ep (some ((xs[k]?).getD .none, slots (k + 1)))) (he : ∀ s : Shared, s.heap.get? a = some (ssObj es ep t) → NextIs w A.in1 s a (slots xs.length) xs.length ep none)
    (self : ∀ k (s : Shared) (Q : Value → Shared → Prop), s.heap.get? I = some (sitObj (.int (slots k) 0) k (.ref a) es.size ep) → Q (.ref I) s → wpAny (model Pg w) A (pyIter (.ref I)) Q NoE s) :
    It w A target I [I, a] [I] xs.length (fun k h => h.get? I = some (sitObj (.int (slots k) 0) k (.ref a) es.size ep) ∧ h.get? a = some (ssObj es ep t)) (fun k v _ => xs[k]? = some v) where
  sub := fun b hb => by rw [List.mem_singleton] at hb; rw [hb]; exact .head _
  dom := fun i h st b hb => by
    rcases List.mem_cons.mp hb with rfl | hb
    · exact ⟨_, st.1⟩
    · rw [List.mem_singleton] at hb; subst hb; exact ⟨_, st.2⟩
  frame := fun i h h' st k => ⟨k _ (.head _) _ st.1, k _ (.tail _ (.head _)) _ st.2⟩
  item := fun i s Q hi st K => by
    refine snext_int st.1 st.2 hf (hn i hi s st.2) fun h' hI hs => K _ h' s.toks (fun s₁ Q' e k' => ?_) (Kp.same hs)
    subst e
    exact own_sit hI (k' s₁.heap (by rw [List.getElem?_eq_getElem hi]; rfl) ⟨hI, (hs.2 a hne).trans st.2⟩ Kp.refl)
  done := fun s Q st K => snext_int_end hh st.1 st.2 hf (he s st.2) fun h' hx => K h' s.toks (Kp.ext hx)
  self := fun i s Q st K => self i s Q st.1 K
end
theorem entry_sself : entryFor table "set_iterator.__iter__" = some Builtin.«dict_keyiterator.__iter__» :=
  entryFor_alias (id' := "dict_keyiterator.__iter__") (by kernel_rfl) (by first | rfl | decide +kernel | (unfold String.splitOn; simp +decide [String.splitOnAux])) (by decide +kernel) (by kernel_rfl)
theorem args_sself (a : Value) : argsOk "set_iterator.__iter__" ⟨[a], []⟩ := by unfold argsOk; kernel_rfl
theorem iter_sit {w : World} {A : Around} {I : Addr} {s : Shared} {Q : Value → Shared → Prop} {first s' : Value} {k n ep : Nat} (e : s.heap.get? I = some (sitObj first k s' n ep)) (h : Q (.ref I) s) : wpAny (model Pg w) A (pyIter (.ref I)) Q NoE s := by
  have hT : s.TypeIs (.ref I) "set_iterator" := ⟨_, e, rfl⟩
  refine wpAny_pyIter_slot hT slot_sself (wpAny_call_entry slot_sself hT entry_sself ?_ (args_sself _))
  show wpAny _ _ (ret (.ref I)) _ _ s
  exact wpAny_pure ⟨_, rfl, "set_iterator", _, hT, slot_snext.lookup, h⟩
section
variable {w : World} {A : Around} {target : Expr} {I a P : Addr} {es : Array (Int × Value)} {ep : Nat} {t : SetTable}
theorem It.sdrawn (hh : A.handled = none) (hne : a ≠ I) (hPI : P ≠ I) (hf : t.fits es.size = true) (l : List Nat) (hl : ∀ q ∈ l, q < es.size) :
    It w A target I [I, a, P] [I] l.length (fun k h => h.get? I = some (sitObj (.ref P) k (.ref a) es.size ep) ∧ h.get? a = some (ssObj es ep t) ∧ h.IsTuple P (l.map fun (i : Nat) => rawInt i).toArray) (fun k v _ => ∃ q x, l[k]? = some q ∧ es[q]? = some x ∧ v = x.2) where
  sub := fun b hb => by rw [List.mem_singleton] at hb; rw [hb]; exact .head _
  dom := fun i h st b hb => by
    rcases List.mem_cons.mp hb with rfl | hb
    · exact ⟨_, st.1⟩
    · rcases List.mem_cons.mp hb with rfl | hb
      · exact ⟨_, st.2.1⟩
      · rw [List.mem_singleton] at hb; subst hb; exact st.2.2.elim fun o x => ⟨o, x.1⟩
  frame := fun i h h' st k => ⟨k _ (.head _) _ st.1, k _ (.tail _ (.head _)) _ st.2.1, st.2.2.elim fun o x => ⟨o, k _ (.tail _ (.tail _ (.head _))) _ x.1, x.2⟩⟩
  item := fun i s Q hi st K => by
    have hq := hl l[i] (List.getElem_mem hi)
    have hp : (l.map fun (i : Nat) => rawInt i).toArray[i]? = some (.int (l[i] : Nat) 0) := by rw [List.getElem?_toArray, List.getElem?_map, List.getElem?_eq_getElem hi]; rfl
    refine snext_drawn st.1 st.2.1 hf st.2.2 hp (Array.getElem?_eq_getElem hq) fun h' hI hs => K _ h' s.toks (fun s₁ Q' e k' => ?_) (Kp.same hs)
    subst e
    exact own_sit hI (k' s₁.heap ⟨l[i], _, List.getElem?_eq_getElem hi, Array.getElem?_eq_getElem hq, rfl⟩ ⟨hI, (hs.2 a hne).trans st.2.1, st.2.2.elim fun o x => ⟨o, (hs.2 P hPI).trans x.1, x.2⟩⟩ Kp.refl)
  done := fun s Q st K => snext_drawn_end hh st.1 st.2.1 hf st.2.2 (by rw [List.getElem?_toArray, List.getElem?_eq_none (by rw [List.length_map]; exact Nat.le_refl _)]) fun h' hx => K h' s.toks (Kp.ext hx)
  self := fun i s Q st K => iter_sit st.1 K
end
/-- what a walk over a set of strings hands out -/
structure Runs (ys : List Str) (n : Nat) (Val : Nat → Value → Heap → Prop) : Prop where
  sub : ∀ k v h, Val k v h → ∃ y, y ∈ ys ∧ (AV.str y).is v
  all : ∀ y ∈ ys, ∃ k, k < n ∧ ∀ v h, Val k v h → (AV.str y).is v
  le : n ≤ ys.length
theorem runs_list {w : World} {ys : List Str} {es : Array (Int × Value)} {t : SetTable} (S : SSet w ys es t) {l : List (Int × Value)} (p : l.Perm es.toList) : Runs ys (l.map (·.2)).length fun k v _ => (l.map (·.2))[k]? = some v := by
  refine ⟨fun k v _ e => ?_, fun y hy => ?_, by rw [List.length_map, p.length_eq, Array.length_toList]; exact S.sz⟩
  · obtain ⟨e', he, rfl⟩ := List.mem_map.mp (List.mem_of_getElem? e)
    obtain ⟨y, tk, hy, ee⟩ := S.sub e' (p.mem_iff.mp he)
    exact ⟨y, hy, tk, ee⟩
  · obtain ⟨e', he, tk, ee⟩ := S.all y hy
    obtain ⟨k, hk⟩ := List.getElem?_of_mem (List.mem_map_of_mem (f := (·.2)) (p.mem_iff.mpr he))
    refine ⟨k, (List.getElem?_eq_some_iff.mp hk).1, fun v _ e => ?_⟩
    rw [hk] at e; cases e
    exact ⟨tk, ee⟩
theorem runs_drawn {w : World} {ys : List Str} {es : Array (Int × Value)} {t : SetTable} (S : SSet w ys es t) {l : List Nat} (p : l.Perm (List.range es.size)) : Runs ys l.length fun k v _ => ∃ q x, l[k]? = some q ∧ es[q]? = some x ∧ v = x.2 := by
  refine ⟨fun k v _ e => ?_, fun y hy => ?_, by rw [p.length_eq, List.length_range]; exact S.sz⟩
  · obtain ⟨q, x, _, ex, rfl⟩ := e
    obtain ⟨y, tk, hy, ee⟩ := S.sub x (by rw [← Array.getElem?_toList] at ex; exact List.mem_of_getElem? ex)
    exact ⟨y, hy, tk, ee⟩
  · obtain ⟨e', he, tk, ee⟩ := S.all y hy
    obtain ⟨q, hq⟩ := List.getElem?_of_mem he
    rw [Array.getElem?_toList] at hq
    have hq' : q < es.size := (Array.getElem?_eq_some_iff.mp hq).1
    obtain ⟨k, hk⟩ := List.getElem?_of_mem (p.mem_iff.mpr (List.mem_range.mpr hq'))
    refine ⟨k, (List.getElem?_eq_some_iff.mp hk).1, fun v _ e => ?_⟩
    obtain ⟨q', x, e1, e2, rfl⟩ := e
    rw [hk] at e1; cases e1
    rw [hq] at e2; cases e2
    exact ⟨tk, ee⟩
section
variable {c : Cx} {st : AS}
theorem sset_mk {target : Expr} {a : Addr} {ys : List Str} {vs : List (Option AV)} {rest nwM : List (Addr × OP)} {R : (n : Nat) → (Nat → Value → Heap → Prop) → List (Option AV) → List (Addr × OP) → List (Addr × OP) → Prop} {s₁ : Shared} {es : Array (Int × Value)} {ep : Nat} {t : SetTable} (q' : Sat c ⟨vs, rest ++ nwM⟩ s₁) (eo : s₁.heap.get? a = some (ssObj es ep t)) (n1 : a ≠ c.env.locals) (n2 : ∀ p ∈ nwM, p.1 ≠ a) (S : SSet c.w ys es t)
    (hR : ∀ n Val, Runs ys n Val → R n Val vs rest nwM) (slots : Nat → Nat) (l : List (Int × Value)) (xs : List Value) (ex : xs = l.map (·.2)) (h0 : slots 0 = 0) (hpm : l.Perm es.toList) (hn : ∀ k, k < xs.length → ∀ s : Shared, s.heap.get? a = some (ssObj es ep t) → NextIs c.w c.A.in1 s a (slots k) k ep (some ((xs[k]?).getD .none, slots (k + 1)))) (hend : ∀ s : Shared, s.heap.get? a = some (ssObj es ep t) → NextIs c.w c.A.in1 s a (slots xs.length) xs.length ep none) :
    Ready c target R (.ref s₁.heap.objs.size) { s₁ with heap := s₁.heap.push (sitObj (.int 0 0) 0 (.ref a) es.size ep) } := by
  have hlt : a < s₁.heap.objs.size := Heap.lt_size eo
  have D := It.sint (w := c.w) (A := c.A) (target := target) (I := s₁.heap.objs.size) (a := a) q'.ok.rm.handled (Nat.ne_of_lt hlt) S.fits slots xs hn hend (fun k s Q e K => iter_sit e K)
  refine .mk s₁.heap.objs.size [s₁.heap.objs.size, a] [s₁.heap.objs.size] xs.length _ _ vs rest nwM rfl D ((apart_new q').more n1 n2) (q'.grow fun b ob e => Heap.get?_push_of_some _ e) ⟨by rw [h0]; exact Heap.get?_push_size _ rfl, Heap.get?_push_of_some _ eo⟩ (hR _ _ ?_)
  subst ex
  exact runs_list S hpm
end
section
variable {c : Cx} {st : AS}
theorem Src.sset {target iter : Expr} {a : Addr} {ys : List Str} {rest nwM : List (Addr × OP)} {R : (n : Nat) → (Nat → Value → Heap → Prop) → List (Option AV) → List (Addr × OP) → List (Addr × OP) → Prop} (hp : Pu c st iter (.ref a)) (pm : (rest ++ nwM).Perm st.nw) (b : InR c rest a (isSSet c.w ys)) (hz : ys.length ≤ 1000)
    (hR : ∀ n Val, Runs ys n Val → R n Val st.vs rest nwM) : Src c st target iter R := ⟨fun s hs => hp.run hs fun u s₁ r q => by
  cases r
  have q' := q.perm pm
  obtain ⟨⟨o, eo, es, ep, t, rfl, S⟩, n1, n2⟩ := b.at q'
  have hlt : a < s₁.heap.objs.size := Heap.lt_size eo
  have he : es.size ≤ 1000 := Nat.le_trans S.sz hz
  have hh := q.ok.rm.handled
  refine siter eo S.fits he (fun hc => ?_) (fun l dr hbt hpm => ?_) fun hd => ?_
  · have mk := fun slots (l : List (Int × Value)) xs ex h0 hpm hn hend => sset_mk (target := target) q' eo n1 n2 S hR slots l xs ex h0 hpm hn hend
    cases hb : byText c.w with
    | true =>
      have hpp := pick_perm (c.w.params.setOrder a ep) es
      refine mk (fun _ => 0) (pickOrder (c.w.params.setOrder a ep) es).toList _ rfl rfl hpp (fun k hk s e => ?_) fun s e => ?_
      · have := next_text (A := c.A.in1) (k := k) (slot := 0) e S.fits hb
        rw [List.length_map, Array.length_toList] at hk
        rw [List.getElem?_map, Array.getElem?_toList, Array.getElem?_eq_getElem hk]
        rw [Array.getElem?_eq_getElem hk] at this
        exact this
      · have := next_text (A := c.A.in1) (k := ((pickOrder (c.w.params.setOrder a ep) es).toList.map (·.2)).length) (slot := 0) e S.fits hb
        rw [List.length_map, Array.length_toList] at this ⊢
        rw [Array.getElem?_eq_none (Nat.le_refl _)] at this
        exact this
    | false =>
      have hz1 : es.size ≤ 1 := hc.elim (fun h => by rw [hb] at h; cases h) id
      have hl : t.led = true := by rw [S.led, hb]; rfl
      have hps : t.place.size = es.size := eq_of_beq (Bool.and_eq_true_iff.mp S.fits).1
      rcases Nat.eq_zero_or_pos es.size with h0 | h0
      · have e0 : es.toList = [] := List.length_eq_zero_iff.mp (by rw [Array.length_toList]; exact h0)
        refine mk (fun _ => 0) [] [] rfl rfl (by rw [e0]) (fun k hk => absurd hk (Nat.not_lt_zero _)) fun s e => ?_
        have := next_few (A := c.A.in1) (k := 0) (slot := 0) e S.fits hb hz1 hl
        rw [few_0 h0] at this
        exact this
      · have h1 : es.size = 1 := Nat.le_antisymm hz1 h0
        obtain ⟨x, hx⟩ := Array.size_eq_one_iff.mp h1
        obtain ⟨p, hp'⟩ := Array.size_eq_one_iff.mp (hps.trans h1)
        obtain ⟨f0, f1⟩ := few_1 (t := t) hx hp'
        refine mk (fun k => if k = 0 then 0 else p + 1) [x] [x.2] rfl rfl (by rw [hx]) (fun k hk s e => ?_) fun s e => ?_
        · obtain rfl : k = 0 := Nat.lt_one_iff.mp hk
          have := next_few (A := c.A.in1) (k := 0) (slot := 0) e S.fits hb hz1 hl
          rw [f0] at this
          exact this
        · have := next_few (A := c.A.in1) (k := 1) (slot := p + 1) e S.fits hb hz1 hl
          rw [f1] at this
          exact this
  · have hsz : (s₁.heap.push { cls := .type "tuple", data := .seq (l.map fun (i : Nat) => rawInt i).toArray }).objs.size = s₁.heap.objs.size + 1 := Heap.size_push ..
    have D := It.sdrawn (w := c.w) (A := c.A) (target := target) (I := (s₁.heap.push { cls := .type "tuple", data := .seq (l.map fun (i : Nat) => rawInt i).toArray }).objs.size) (a := a) (P := s₁.heap.objs.size) (ep := ep) hh (by rw [hsz]; exact Nat.ne_of_lt (Nat.lt_succ_of_lt hlt)) (by rw [hsz]; exact Nat.ne_of_lt (Nat.lt_succ_self _)) S.fits l fun x hx => List.mem_range.mp (hpm.mem_iff.mp hx)
    refine .mk _ _ _ l.length _ _ st.vs rest nwM rfl D (apart_news q' (fun x hx => ?_) fun x hx => ?_) (q'.grow fun b ob e => Heap.get?_push_of_some _ (Heap.get?_push_of_some _ e)) ⟨Heap.get?_push_size _ rfl, Heap.get?_push_of_some _ (Heap.get?_push_of_some _ eo), ⟨_, Heap.get?_push_of_some _ (Heap.get?_push_size _ rfl), rfl, _, rfl⟩⟩ (hR _ _ (runs_drawn S hpm))
    · rw [List.mem_singleton] at hx; rw [hx, hsz]; exact Nat.le_succ _
    · rcases List.mem_cons.mp hx with hx | hx
      · rw [hx, hsz]; exact .inl (Nat.le_succ _)
      · rcases List.mem_cons.mp hx with hx | hx
        · rw [hx]; exact .inr ⟨n1, n2⟩
        · rw [List.mem_singleton] at hx; rw [hx]; exact .inl (Nat.le_refl _)
  · cases hb : byText c.w with
    | true => exact .inl rfl
    | false =>
      refine .inr (Nat.not_lt.mp fun h => ?_)
      rw [hb, S.plain (Nat.ne_of_gt (Nat.lt_trans Nat.zero_lt_one h)), decide_eq_true h] at hd
      cases hd⟩
end
def rightsL : List Int := [488, 457, 420, 2121, 1080, 966, 3584, 511]
def modeF (q : Int) : Int := ([4, 6, 4, 12] : List Int).getD (q.fmod 4).toNat 0 * 4096 + Builtin.bitXor (rightsL.getD ((q.fdiv 4).fmod 8).toNat 0) ((q.fdiv 32).fmod 4096)
theorem mode_sp {w : World} {A : Around} {hb : Heap} {R : AV → List (Addr × OP) → Prop} {q : Int} {vals : List Value} (G : Gr w hb) (r : Rm A 2) (ha : AVs [.int q] vals) (k : R (.int (modeF q)) []) : Sp w A hb [] (call (.ref 191) vals) R := by
  refine' Sp.def (n := 0) (ps := [Str.ofString "q"]) (vars := [Str.ofString "q", Str.ofString "rights"]) [some (.int q), none] (fun _ => []) G r ?ho ?hcd ?hbind ha ?hok ?hvs ?hent (fun L g o => ?h)
  case ho => exact rfl
  case hcd => kernel_rfl
  case hok => exact rfl
  case hvs => exact rfl
  case hent => exact fun _ => rfl
  case hbind =>
    obtain ⟨u, rfl, _⟩ := ha.inv1
    exact fun _ _ => BindsTo.of_eq rfl
  refine WF.cons (WF.asg (.loc 1 rfl) (WV.list (WA.lits rfl ⟨Nat.le_of_ble_eq_true rfl, fun a => ⟨trivial, ?_⟩⟩)))
  have h4 := Int.fmod_nonneg_of_pos q (b := 4) (by decide)
  have h4' := Int.fmod_lt_of_pos q (b := 4) (by decide)
  have h8 := Int.fmod_nonneg_of_pos (q.fdiv 4) (b := 8) (by decide)
  have h8' := Int.fmod_lt_of_pos (q.fdiv 4) (b := 8) (by decide)
  refine WF.cons (WF.ret (WV.binL (WV.binL (WV.item (WV.list (WA.lits rfl ⟨Nat.le_of_ble_eq_true rfl, fun b => ⟨b, _, _, _, rfl, Pu.bin (Op2.fmod (by decide)) (.loc 0 rfl rfl) .int, (In.led 1 rfl).w, h4, Int.lt_trans h4' (by decide), getI [4, 6, 4, 12] h4 h4',
    _, _, .int, Op2.mulR (by decide), _, _, Pu.bin Op2.bxor (Pu.item (.loc 1 rfl rfl) (Pu.bin (Op2.fmod (by decide)) (Pu.bin (Op2.fdivS 4) (.loc 0 rfl rfl) .int) .int) (In.led 0 rfl).w h8 (Int.lt_trans h8' (by decide)) (getI rightsL h8 h8')) (Pu.bin (Op2.fmod (by decide)) (Pu.bin (Op2.fdivS 32) (.loc 0 rfl rfl) .int) .int), Op2.add, [], List.nil_sublist _, k⟩⟩))))))
theorem AVs.ints {ns : List Int} {vs : List Value} (h : AVs (ns.map AV.int) vs) : IntsAre vs ns := by
  induction ns generalizing vs with
  | nil => cases h; exact .nil
  | cons n ns ih => cases h with | cons h1 h => obtain ⟨t, rfl⟩ := h1; exact .cons n t (ih h)
section
variable {c : Cx} {st : AS}
theorem WV.bytes {l : Addr} {ns : List Int} {R : AV → AS → Prop} (b : In c st l (isListW (ns.map AV.int))) (hr : ∀ n ∈ ns, 0 ≤ n ∧ n < 256) (hz : ns.length ≤ 1000) (k : R (.bytes (byteArr ns)) st) : WV c st (call (.type "bytes") [.ref l]) R := ⟨fun s hs => by
  obtain ⟨vs, hl, r⟩ := (b _ hs.hp).isL
  refine call_bytes_ints (vs := vs.toList) (by rw [Array.toArray_toList]; exact hl) r.ints hr (by rw [r.len, List.length_map]; exact small_fits hz) hs.ok.rm.handled fun h' t k' kp => ⟨.bytes _, st, ⟨t, rfl⟩, hs.grow kp, k⟩⟩
/-- x + y of pure ints: the right side made here too -/
theorem Pu.pow {l r : Expr} {p : Pos} {a n : Int} (hl : Pu c st l (.int a)) (hr : Pu c st r (.int n)) (h0 : 0 ≤ n) (h1 : n ≤ 1000000) (ha : a.natAbs < 2 ^ 64) : Pu c st (.BinOp l .Pow r p) (.int (a ^ n.toNat)) := .bin (.pow h0 h1 ha) hl hr
end
theorem pow_ne {a : Int} (h : a ≠ 0) (n : Nat) : a ^ n ≠ 0 := by
  induction n with
  | zero => rw [Int.pow_zero]; decide
  | succ n ih => rw [Int.pow_succ]; exact Int.mul_ne_zero ih h
set_option exponentiation.threshold 10000 in
theorem noPy {x : Int} {a : Nat} {n : Nat} (ha : a ≤ 2 ^ 64) (hn : n ≤ 100) : Builtin.divisionGoesByPylong x ((a : Int) ^ n) = false := by
  refine PyProof.noPylong_of_log2 ?_
  rw [Int.natAbs_pow, Int.natAbs_natCast]
  by_cases h0 : a ^ n = 0
  · rw [h0]; decide
  · refine (Nat.log2_lt h0).mpr (Nat.lt_of_le_of_lt (Nat.pow_le_pow_left ha n) ?_)
    rw [← Nat.pow_mul]
    exact Nat.pow_lt_pow_right (by decide) (Nat.lt_of_le_of_lt (Nat.mul_le_mul_left 64 hn) (by decide))
def octT (q : Int) (k : Nat) : Int := (q.fdiv (256 ^ k) + 63 * k).fmod 256
def octF (place : Nat) (q : Int) : List Int := [251, 255, 191] ++ (List.range place).map (octT q)
theorem octF_ok {place : Nat} {q : Int} : ∀ n ∈ octF place q, 0 ≤ n ∧ n < 256 := fun n hn => by
  rcases List.mem_append.mp hn with h | h
  · exact (by decide : ∀ n ∈ ([251, 255, 191] : List Int), 0 ≤ n ∧ n < 256) n h
  · obtain ⟨k, _, rfl⟩ := List.mem_map.mp h
    exact ⟨Int.fmod_nonneg_of_pos _ (by decide), Int.fmod_lt_of_pos _ (by decide)⟩
theorem filter_all {α : Type} {l : List α} {p : α → Bool} (h : ∀ a, p a = true) : l.filter p = l := List.filter_eq_self.mpr fun a _ => h a
theorem octets_sp {w : World} {A : Around} {hb : Heap} {R : AV → List (Addr × OP) → Prop} {place : Nat} {q : Int} {vals : List Value} (G : Gr w hb) (r : Rm A 2) (hp : place < 5) (ha : AVs [.int place, .int q] vals) (k : R (.bytes (byteArr (octF place q))) []) : Sp w A hb [] (call (.ref 179) vals) R := by
  refine' Sp.def (n := 0) (ps := [Str.ofString "place", Str.ofString "q"]) (vars := [Str.ofString "place"]) [some (.int place)] (fun L => [(L + 1, isCell (some (.int q)))]) G r ?ho ?hcd ?hbind ha ?hok ?hvs ?hent (fun L g o => ?h)
  case ho => exact rfl
  case hcd => kernel_rfl
  case hok => exact rfl
  case hvs => exact rfl
  case hent => exact fun _ => rfl
  case hbind =>
    obtain ⟨u, v, rfl, _, _⟩ := ha.inv2
    exact fun _ _ => BindsTo.of_eq rfl
  refine WF.cons (WF.ret (WV.callT (.blt (fun _ => rfl) rfl (by decide) rfl) (WA.cons (WV.bin (WV.list (WA.lits (as := [.int 251, .int 255, .int 191]) rfl ⟨Nat.le_of_ble_eq_true rfl, fun a => ?_⟩))))))
  refine WV.comp (cl := [(Str.ofString "q", L + 1)]) (vars := [Str.ofString "k"]) rfl rfl (Src.range (n := place) (.blt (fun _ => rfl) rfl (by decide) rfl) (.loc 0 rfl rfl) (by omega) (nwM := []) perm0 (CompK.one (fun k => .int k) (fun _ => true) (fun k => .int (octT q k)) (by omega) (fun k v h _ hv => hv) (fun hb' C k1 k2 k D ys hk => ?_) fun D => ?_))
  · refine WB.ifs0 ⟨rfl, ?_⟩
    refine Pu.wv (Pu.bin (Op2.fmod (by decide)) (Pu.bin Op2.add (Pu.bin (Op2.fdiv (pow_ne (by decide) _) (noPy (a := 256) (by decide) (by omega))) (.celB (a := L + 1) rfl (k2 _ (.head _)) rfl) (Pu.pow .int (.loc 0 rfl rfl) (by omega) (by omega) (by decide))) (Pu.bin (Op2.mulL (by decide)) .int (.loc 0 rfl rfl))) .int) ⟨?_, List.Sublist.refl _⟩
    rw [Int.toNat_natCast]; rfl
  · intro va vb ra rb
    cases ra; cases rb
    rw [filter_all (fun _ => rfl)]
    refine WV.cat (In.led 1 rfl) (In.led 2 rfl) (by rw [List.length_map, List.length_range]; show 3 + place ≤ 1000; omega) fun e => WA.nil fun vs rv => ?_
    obtain ⟨u, rfl, ru⟩ := rv.inv1
    cases ru
    refine WV.bytes (ns := octF place q) (fun h H => (In.led 3 ?_ : In _ _ e _).w h H) octF_ok (by unfold octF; rw [List.length_append, List.length_map, List.length_range]; show 3 + place ≤ 1000; omega) ⟨[], List.nil_sublist _, k⟩
    unfold octF
    rw [List.map_append, List.map_map]
    rfl
def alphaS : Str := Str.ofString "ABCDEFGHIJKLMNOPQRSTUVWXYZabcdefghijklmnopqrstuvwxyz0123456789-_"
def valF (ns : List Int) : Int := ns.foldl (fun v o => 256 * v + o) 0
def sizeN (n : Nat) : Nat := (8 * n + 5) / 6
def spV (ns : List Int) : Int := valF ns * 2 ^ (6 * sizeN ns.length - 8 * ns.length)
def spDig (ns : List Int) (k : Nat) : Nat := (((spV ns).fdiv (64 ^ (sizeN ns.length - 1 - k))).fmod 64).toNat
def spellF (ns : List Int) : Str := Str.join ⟨#[]⟩ ((List.range (sizeN ns.length)).map fun k => chr alphaS (spDig ns k)) ++ Txt.mul (Str.ofString "=") ((-(sizeN ns.length : Int)).fmod 4)
theorem byte_at {ns : List Int} (hr : ∀ n ∈ ns, 0 ≤ n ∧ n < 256) {k : Nat} {x : UInt8} (h : (byteArr ns)[k]? = some x) : ns[k]? = some (x.toNat : Int) := by
  have e : (KBw.bInts (byteArr ns))[k]? = some (x.toNat : Int) := by
    unfold KBw.bInts
    rw [List.getElem?_map, Array.getElem?_toList, h]; rfl
  rwa [KBa.ints_make hr] at e
theorem valF_snoc {ns : List Int} {k : Nat} {x : Int} (h : ns[k]? = some x) : valF (ns.take (k + 1)) = 256 * valF (ns.take k) + x := by
  unfold valF
  rw [List.take_add_one, h, List.foldl_append]; rfl
theorem mulOk4 : ∀ n : Nat, n < 4 → MulOk (Str.ofString "=") (n : Int) := by
  intro n h
  match n, h with
  | 0, _ => exact ⟨by decide, fun h _ => absurd (by decide) h, fun h _ => absurd (by decide) h⟩
  | 1, _ => exact ⟨by decide, fun _ _ => by decide, fun _ _ => by decide⟩
  | 2, _ => exact ⟨by decide, fun _ _ => by decide, fun _ _ => by decide⟩
  | 3, _ => exact ⟨by decide, fun _ _ => by decide, fun _ _ => by decide⟩
theorem pad_ok {e : Int} (h0 : 0 ≤ e) (h1 : e < 4) : MulOk (Str.ofString "=") e ∧ (Txt.mul (Str.ofString "=") e).length ≤ 3 := by
  obtain ⟨n, rfl⟩ := Int.eq_ofNat_of_zero_le h0
  have hn : n < 4 := by omega
  refine ⟨mulOk4 n hn, ?_⟩
  match n, hn with
  | 0, _ => decide
  | 1, _ => decide
  | 2, _ => decide
  | 3, _ => decide
theorem sum_ones {α : Type} (f : α → Nat) (x : Str) : ∀ l : List α, ((l.map fun k => chr x (f k)).map (·.length)).sum = l.length
  | [] => rfl
  | a :: l => by
    rw [List.map_cons, List.map_cons, List.sum_cons, sum_ones f x l, List.length_cons, Nat.add_comm]; rfl
theorem spelled_sp {w : World} {A : Around} {hb : Heap} {R : AV → List (Addr × OP) → Prop} {ns : List Int} {vals : List Value} (G : Gr w hb) (r : Rm A 2) (hr : ∀ n ∈ ns, 0 ≤ n ∧ n < 256) (hl : ns.length < 8) (ha : AVs [.bytes (byteArr ns)] vals) (k : R (.str (spellF ns)) []) : Sp w A hb [] (call (.ref 184) vals) R := by
  refine' Sp.def (n := 0) (ps := [Str.ofString "octets"]) (vars := [Str.ofString "octets", Str.ofString "octet"]) [some (.bytes (byteArr ns)), none] (fun L => [(L + 3, isCell none), (L + 2, isCell none), (L + 1, isCell none)]) G r ?ho ?hcd ?hbind ha ?hok ?hvs ?hent (fun L g o => ?h)
  case ho => exact rfl
  case hcd => kernel_rfl
  case hok => exact rfl
  case hvs => exact rfl
  case hent => exact fun _ => rfl
  case hbind =>
    obtain ⟨u, rfl, _⟩ := ha.inv1
    exact fun _ _ => BindsTo.of_eq rfl
  have hbs := byteArr_size ns
  have hb1 : (byteArr ns).size ≤ 1099511627776 := by omega
  refine WF.cons (WF.asg (.cel 2 (a := L + 1) rfl rfl) (Pu.wv .str ⟨⟨_, rfl⟩, ?_⟩))
  refine WF.cons (WF.asgT (WV.tup (WA.cons (Pu.wv (Pu.bin (Op2.fdivS 6) (Pu.bin Op2.add (Pu.bin (Op2.mulL (by decide)) .int (Pu.lenB (.blt (fun _ => rfl) rfl (by decide) rfl) (.loc 0 rfl rfl) hb1)) .int) .int) (WA.cons (Pu.wv .int (WA.nil ⟨Nat.le_of_ble_eq_true rfl, fun a => ⟨a, _, _, rfl, .inl (fun h H => (H.get (i := 3) rfl).elim fun o q => ⟨o, q.1, tupW o q.2⟩), Tgs.cons (.cel 1 (a := L + 2) rfl rfl) ⟨_, rfl⟩ (Tgs.cons (.cel 0 (a := L + 3) rfl rfl) ⟨_, rfl⟩ .nil), ?_⟩⟩)))))))
  have es : (8 * ((byteArr ns).size : Int) + 5).fdiv 6 = (sizeN ns.length : Nat) := by rw [hbs]; unfold sizeN; rw [Int.ofNat_fdiv]; rfl
  rw [es]
  refine WF.cons (WF.for (Src.bytes (rest := []) (.loc 0 rfl rfl) (List.Perm.refl _) ⟨fun j st' => ∃ u, st' = ⟨[some (.bytes (byteArr ns)), none], [(L + 3, isCell (some (.int (valF (ns.take j))))), (L + 2, isCell (some (.int (sizeN ns.length)))), (L + 1, isCell (some (.str alphaS))), (a, u)]⟩, ⟨_, rfl⟩, ForT.one (fun hb' => .loc 1 rfl) (fun j v => ∃ x, ns[j]? = some x ∧ v = .int x) (fun j v h z => ?_) (fun hb' k1 k2 j st' v hj hI hv => ⟨trivial, ?_⟩), fun st' hI => WF.nil ?_⟩))
  · obtain ⟨x, hx, rx⟩ := z
    exact ⟨_, ⟨_, byte_at hr hx, rfl⟩, rx⟩
  · obtain ⟨u, rfl⟩ := hI
    obtain ⟨x, hx, rfl⟩ := hv
    refine WF.cons (WF.asg (.cel 0 (a := L + 3) rfl rfl) (Pu.wv (Pu.bin Op2.add (Pu.bin (Op2.mulL (by decide)) .int (.cel 0 (a := L + 3) rfl rfl rfl)) (.loc 1 rfl rfl)) ⟨⟨_, rfl⟩, WF.nil ⟨_, .keep (.drop (.nil (List.Sublist.refl _))), u, ?_⟩⟩))
    rw [valF_snoc hx]; rfl
  · obtain ⟨u, rfl⟩ := hI
    rw [List.take_of_length_le (Nat.le_of_eq hbs.symm)]
    have hs := hl
    have hp : 0 ≤ 6 * (sizeN ns.length : Int) - 8 * ((byteArr ns).size : Int) := by rw [hbs]; unfold sizeN; omega
    have hp2 : 6 * (sizeN ns.length : Int) - 8 * ((byteArr ns).size : Int) ≤ 5 := by rw [hbs]; unfold sizeN; omega
    have h12 : sizeN ns.length ≤ 12 := by unfold sizeN; omega
    have ev : valF ns * 2 ^ (6 * (sizeN ns.length : Int) - 8 * ((byteArr ns).size : Int)).toNat = spV ns := by
      unfold spV; rw [hbs, show (6 * (sizeN ns.length : Int) - 8 * (ns.length : Int)).toNat = 6 * sizeN ns.length - 8 * ns.length by omega]
    refine WF.cons (WF.asg (.cel 0 (a := L + 3) rfl rfl) (Pu.wv (Pu.bin (Op2.mulR ?_) (.cel 0 (a := L + 3) rfl rfl rfl) (Pu.pow .int (Pu.bin Op2.sub (Pu.bin (Op2.mulL (by decide)) .int (.cel 1 (a := L + 2) rfl rfl rfl)) (Pu.bin (Op2.mulL (by decide)) .int (Pu.lenB (.blt (fun _ => rfl) rfl (by decide) rfl) (.loc 0 rfl rfl) hb1))) hp (by omega) (by decide))) ⟨⟨_, rfl⟩, ?_⟩))
    · generalize 6 * (sizeN ns.length : Int) - 8 * ((byteArr ns).size : Int) = e at hp hp2
      obtain ⟨e, rfl⟩ := Int.eq_ofNat_of_zero_le hp
      have : e ≤ 5 := by omega
      match e, this with
      | 0, _ => decide
      | 1, _ => decide
      | 2, _ => decide
      | 3, _ => decide
      | 4, _ => decide
      | 5, _ => decide
    rw [ev]
    refine WF.cons (WF.ret (WV.binL (WV.meth (Pu.wv .str ⟨.str F.slot_str_join F.type_str_join, WA.cons ?_⟩))))
    refine WV.comp (cl := [(Str.ofString "value", L + 3), (Str.ofString "size", L + 2), (Str.ofString "alphabet", L + 1)]) (vars := [Str.ofString "k"]) rfl rfl (Src.range (n := sizeN ns.length) (.blt (fun _ => rfl) rfl (by decide) rfl) (.cel 1 (a := L + 2) rfl rfl rfl) (by omega) (nwM := []) perm0 (CompK.one (fun k => .int k) (fun _ => true) (fun k => .str (chr alphaS (spDig ns k))) (by omega) (fun k v h _ hv => hv) (fun hb' C k1 k2 k D ys hk => ?_) fun D => ?_))
    · refine WB.ifs0 ⟨rfl, ?_⟩
      have e1 : ((sizeN ns.length : Int) - 1 - k).toNat = sizeN ns.length - 1 - k := by omega
      refine Pu.wv (Pu.sidx (.celB (a := L + 1) rfl (k2 _ (.tail _ (.tail _ (.head _)))) rfl) (Pu.bin (Op2.fmod (by decide)) (Pu.bin (Op2.fdiv (pow_ne (by decide) _) (noPy (a := 64) (by decide) (by omega))) (.celB (a := L + 3) rfl (k2 _ (.head _)) rfl) (Pu.pow .int (Pu.bin Op2.sub (Pu.bin Op2.sub (.celB (a := L + 2) rfl (k2 _ (.tail _ (.head _))) rfl) .int) (.loc 0 rfl rfl)) (by omega) (by omega) (by decide))) .int) (Int.fmod_nonneg_of_pos _ (by decide)) (Int.lt_of_lt_of_le (Int.fmod_lt_of_pos _ (by decide)) (by decide)) (Int.lt_trans (Int.fmod_lt_of_pos _ (by decide)) (by decide))) ⟨?_, List.Sublist.refl _⟩
      rw [e1]; rfl
    · refine WA.nil fun u vs ru rv => ?_
      obtain ⟨t, rfl⟩ := ru
      obtain ⟨v, rfl, rfl⟩ := rv.inv1
      rw [filter_all (fun _ => rfl)]
      refine WV.join (ys := (List.range (sizeN ns.length)).map fun k => chr alphaS (spDig ns k)) (fun h H => ?_) ?_ ?_
      · refine (In.led 4 (P := isList _) ?_ : In _ _ D _).w h H
        rw [List.map_map]; rfl
      · rw [sum_ones, List.length_range, List.length_map, List.length_range]
        show _ + _ * 0 ≤ _
        omega
      · have h4 := Int.fmod_nonneg_of_pos (-(sizeN ns.length : Int)) (b := 4) (by decide)
        have h4' := Int.fmod_lt_of_pos (-(sizeN ns.length : Int)) (b := 4) (by decide)
        refine ⟨_, _, Pu.bin (Op2.rep ?_) .str (Pu.bin (Op2.fmod (by decide)) (Pu.neg (.cel 1 (a := L + 2) rfl rfl rfl)) .int), Op2.cat ?_, [], List.nil_sublist _, k⟩
        · exact (pad_ok h4 h4').1
        · refine Nat.le_trans (Nat.add_le_add (StrLaws.join_length_le _ _) (pad_ok h4 h4').2) (Nat.le_trans (m := 1000) ?_ (by decide))
          rw [sum_ones, List.length_range, List.length_map, List.length_range]
          show _ + _ * 0 + 3 ≤ _
          omega
abbrev up (bs : List Nat) : List Int := bs.map fun (n : Nat) => (n : Int)
def vN (bs : List Nat) : Nat := bs.foldl (fun v o => 256 * v + o) 0
def dN (bs : List Nat) (t : Nat) : Nat := vN bs * 2 ^ (6 * sizeN bs.length - 8 * bs.length) / 64 ^ (sizeN bs.length - 1 - t) % 64
theorem valF_up (bs : List Nat) : valF (up bs) = (vN bs : Int) := by
  have key : ∀ (l : List Nat) (v : Nat), (l.map fun (n : Nat) => (n : Int)).foldl (fun v o => 256 * v + o) (v : Int) = ((l.foldl (fun v o => 256 * v + o) v : Nat) : Int) := by
    intro l
    induction l with
    | nil => intro v; rfl
    | cons a l ih => intro v; rw [List.map_cons, List.foldl_cons, List.foldl_cons, ← ih (256 * v + a), Int.natCast_add, Int.natCast_mul]; rfl
  exact key bs 0
theorem spDig_up (bs : List Nat) (t : Nat) : spDig (up bs) t = dN bs t := by
  unfold spDig spV dN
  rw [valF_up, List.length_map]
  have e1 : ((vN bs : Int) * 2 ^ (6 * sizeN bs.length - 8 * bs.length)) = ((vN bs * 2 ^ (6 * sizeN bs.length - 8 * bs.length) : Nat) : Int) := by rw [Int.natCast_mul, Int.natCast_pow]; rfl
  have e2 : (64 : Int) ^ (sizeN bs.length - 1 - t) = ((64 ^ (sizeN bs.length - 1 - t) : Nat) : Int) := by rw [Int.natCast_pow]; rfl
  rw [e1, e2, ← Int.ofNat_fdiv]
  exact congrArg Int.toNat (Int.ofNat_fmod _ 64).symm
theorem vN_snoc {bs : List Nat} {k x : Nat} (h : bs[k]? = some x) : vN (bs.take (k + 1)) = 256 * vN (bs.take k) + x := by
  unfold vN
  rw [List.take_add_one, h, List.foldl_append]; rfl
/-- a digit is settled once its bits are read -/
theorem dig_step {v b s : Nat} (hb : b < 256) : (256 * v + b) / 2 ^ (8 + s) = v / 2 ^ s := by
  rw [Nat.pow_add, ← Nat.div_div_eq_div_mul, Nat.mul_add_div (by decide), Nat.div_eq_of_lt hb, Nat.add_zero]
theorem dig_on {bs : List Nat} (hb : ∀ b ∈ bs, b < 256) {j t : Nat} (ht : 6 * (t + 1) ≤ 8 * j) : ∀ d, j + d ≤ bs.length → vN (bs.take (j + d)) / 2 ^ (8 * (j + d) - 6 * (t + 1)) = vN (bs.take j) / 2 ^ (8 * j - 6 * (t + 1))
  | 0, _ => rfl
  | d + 1, h => by
    have hl : j + d < bs.length := h
    have e := List.getElem?_eq_getElem hl
    rw [← dig_on hb ht d (Nat.le_of_lt hl), ← Nat.add_assoc, vN_snoc e, show 8 * (j + d + 1) - 6 * (t + 1) = 8 + (8 * (j + d) - 6 * (t + 1)) by omega]
    exact dig_step (hb _ (List.getElem_mem hl))
theorem dN_eq {bs : List Nat} (hb : ∀ b ∈ bs, b < 256) {j t : Nat} (hj : j ≤ bs.length) (ht : 6 * (t + 1) ≤ 8 * j) : dN bs t = vN (bs.take j) / 2 ^ (8 * j - 6 * (t + 1)) % 64 := by
  have e := dig_on hb ht (bs.length - j) (by omega)
  rw [show j + (bs.length - j) = bs.length by omega, List.take_of_length_le (Nat.le_refl _)] at e
  rw [← e]
  unfold dN
  have h1 : 8 * bs.length ≤ 6 * sizeN bs.length := by unfold sizeN; omega
  rw [show (64 : Nat) = 2 ^ 6 from rfl, ← Nat.pow_mul, show 6 * (sizeN bs.length - 1 - t) = (8 * bs.length - 6 * (t + 1)) + (6 * sizeN bs.length - 8 * bs.length) by omega, Nat.pow_add, Nat.mul_div_mul_right _ _ (Nat.two_pow_pos _)]
/-- 16 bits are enough -/
theorem dig16 {v s : Nat} (hs : s ≤ 10) : v % 65536 / 2 ^ s % 64 = v / 2 ^ s % 64 := by
  rw [show 65536 = 2 ^ s * 2 ^ (16 - s) by rw [← Nat.pow_add, show s + (16 - s) = 16 by omega], Nat.mod_mul_right_div_self]
  refine Nat.mod_mod_of_dvd _ ?_
  rw [show (64 : Nat) = 2 ^ 6 from rfl]
  exact Nat.pow_dvd_pow 2 (by omega)
theorem dN_lt (bs : List Nat) (t : Nat) : dN bs t < 64 := Nat.mod_lt _ (by decide)
/-- the last digit: two or four bits are left -/
theorem dN_last2 {bs : List Nat} {m : Nat} (h : 8 * bs.length = 6 * m + 2) : dN bs m = vN bs % 4 * 16 := by
  unfold dN
  have hs : sizeN bs.length = m + 1 := by unfold sizeN; omega
  rw [hs, show 6 * (m + 1) - 8 * bs.length = 4 by omega, show m + 1 - 1 - m = 0 by omega, Nat.pow_zero, Nat.div_one]
  omega
theorem dN_last4 {bs : List Nat} {m : Nat} (h : 8 * bs.length = 6 * m + 4) : dN bs m = vN bs % 16 * 4 := by
  unfold dN
  have hs : sizeN bs.length = m + 1 := by unfold sizeN; omega
  rw [hs, show 6 * (m + 1) - 8 * bs.length = 2 by omega, show m + 1 - 1 - m = 0 by omega, Nat.pow_zero, Nat.div_one]
  omega
/-- the codes of the letters -/
def b64L : List Int := [65, 66, 67, 68, 69, 70, 71, 72, 73, 74, 75, 76, 77, 78, 79, 80, 81, 82, 83, 84, 85, 86, 87, 88, 89, 90, 97, 98, 99, 100, 101, 102, 103, 104, 105, 106, 107, 108, 109, 110, 111, 112, 113, 114, 115, 116, 117, 118, 119, 120, 121, 122, 48, 49, 50, 51, 52, 53, 54, 55, 56, 57, 43, 47]
def outL (bs : List Nat) (m : Nat) : List Int := (List.range m).map fun t => b64L.getD (dN bs t) 0
theorem outL_snoc (bs : List Nat) (m : Nat) : outL bs (m + 1) = outL bs m ++ [b64L.getD (dN bs m) 0] := by
  unfold outL
  rw [List.range_succ, List.map_append]; rfl
theorem bor256 {a b : Nat} (hb : b < 256) : Builtin.bitOr (((a : Nat) : Int) * 256) (b : Int) = ((256 * a + b : Nat) : Int) := by
  have e : ∀ x y : Nat, Builtin.bitOr (x : Int) (y : Int) = ((x ||| y : Nat) : Int) := by
    intro x y
    unfold Builtin.bitOr Builtin.bitAnd
    have n1 : ∀ z : Nat, decide (0 ≤ Builtin.bitNot (z : Int)) = false := fun z => decide_eq_false (by unfold Builtin.bitNot; omega)
    have n2 : ∀ z : Nat, (Builtin.bitNot (Builtin.bitNot (z : Int))).toNat = z := fun z => by unfold Builtin.bitNot; omega
    rw [n1, n1]
    show Builtin.bitNot (Builtin.bitNot _) = _
    rw [n2, n2]
    unfold Builtin.bitNot; omega
  rw [show ((a : Int) * 256) = ((256 * a : Nat) : Int) by omega, e]
  exact congrArg _ (Nat.two_pow_add_eq_or_of_lt (i := 8) hb a).symm
theorem buffer_sp {w : World} {A : Around} {hb : Heap} {R : AV → List (Addr × OP) → Prop} {b : Array UInt8} {vals : List Value} (G : Gr w hb) (r : Rm A 2) (ha : AVs [.bytes b] vals) (k : R (.bytes b) []) : Sp w A hb [] (call (.ref 90) vals) R := by
  refine' Sp.def (n := 0) (ps := [Str.ofString "data"]) (vars := [Str.ofString "data", Str.ofString "t"]) [some (.bytes b), none] (fun L => []) G r ?ho ?hcd ?hbind ha ?hok ?hvs ?hent (fun L g o => ?h)
  case ho => exact rfl
  case hcd => kernel_rfl
  case hok => exact rfl
  case hvs => exact rfl
  case hent => exact fun _ => rfl
  case hbind =>
    obtain ⟨u, rfl, _⟩ := ha.inv1
    exact fun _ _ => BindsTo.of_eq rfl
  refine WF.cons (WF.asg (.loc 1 rfl) (Pu.wv (Pu.type (T := "bytes") (.blt (fun _ => rfl) rfl (by decide) rfl) (.loc 0 rfl rfl) (fun s u ⟨t, e⟩ => e ▸ typeIs_bytes s b t) (by decide)) ⟨trivial, ?_⟩))
  exact WF.cons (WF.ifT (Tt.cmp (Op2.isT (b := true) (by decide)) (.loc 1 rfl rfl) (.blt (fun _ => rfl) rfl (by decide) rfl)) (WF.cons (WF.ret (Pu.wv (.loc 0 rfl rfl) ⟨[], List.nil_sublist _, k⟩))))
theorem truth_sp {w : World} {A : Around} {hb : Heap} {R : AV → List (Addr × OP) → Prop} {vals : List Value} (G : Gr w hb) (r : Rm A 2) (ha : AVs [.bool false] vals) (k : R (.bool false) []) : Sp w A hb [] (call (.ref 97) vals) R := by
  refine' Sp.def (n := 0) (ps := [Str.ofString "x"]) (vars := [Str.ofString "x", Str.ofString "t"]) [some (.bool false), none] (fun L => []) G r ?ho ?hcd ?hbind ha ?hok ?hvs ?hent (fun L g o => ?h)
  case ho => exact rfl
  case hcd => kernel_rfl
  case hok => exact rfl
  case hvs => exact rfl
  case hent => exact fun _ => rfl
  case hbind =>
    obtain ⟨u, rfl, _⟩ := ha.inv1
    exact fun _ _ => BindsTo.of_eq rfl
  refine WF.cons (WF.asg (.loc 1 rfl) (Pu.wv (Pu.type (T := "bool") (.blt (fun _ => rfl) rfl (by decide) rfl) (.loc 0 rfl rfl) (fun s u e => e ▸ rfl) (by decide)) ⟨trivial, ?_⟩))
  exact WF.cons (WF.ifT (Tt.ops (.orF (.cmp Op2.isBN (.loc 0 rfl rfl) .none) (.orT (.cmp (Op2.isT (b := true) (by decide)) (.loc 1 rfl rfl) (.blt (fun _ => rfl) rfl (by decide) rfl))))) (WF.cons (WF.ret (WV.ifx (Tt.wb (Tt.plain (.loc 0 rfl rfl) .bool) (Pu.wv .bool ⟨[], List.nil_sublist _, k⟩))))))
def b64A : Array UInt8 := byteArr b64L
theorem byte_up {bs : List Nat} (hb : ∀ b ∈ bs, b < 256) : ∀ n ∈ up bs, 0 ≤ n ∧ n < 256 := fun n hn => by
  obtain ⟨b, h, rfl⟩ := List.mem_map.mp hn
  exact ⟨Int.natCast_nonneg _, Int.ofNat_lt.mpr (hb b h)⟩
theorem up_at {bs : List Nat} {k : Nat} {x : Int} (h : (up bs)[k]? = some x) : ∃ b, bs[k]? = some b ∧ x = b := by
  rw [List.getElem?_map] at h
  obtain ⟨b, e, rfl⟩ := Option.map_eq_some_iff.mp h
  exact ⟨b, e, rfl⟩
/-- what b2a_base64 hands out -/
def b2aL (bs : List Nat) : List Int := outL bs (sizeN bs.length) ++ List.replicate (3 * sizeN bs.length - 4 * bs.length) 61
section
variable {c : Cx} {st : AS}
theorem Pu.b64 {x : Str} {np p : Pos} {e : Expr} {k : Int} (hf : Pu c st (.Name x np) (.bytes b64A)) (hk : Pu c st e (.int k)) (h0 : 0 ≤ k) (h : k < 64)
    (hs' : ∀ t u, subscripted e false (.bytes b64A t) (.int k u) = operate [.bytes b64A t, .int k u] (getItem (.bytes b64A t) (.int k u)) := by intro _ _; rfl) : Pu c st (.Subscript (.Name x np) e p) (.int (b64L.getD k.toNat 0)) :=
  .bidx hf hk (KBa.ints_make (by decide : ∀ n ∈ b64L, 0 ≤ n ∧ n < 256)) (by decide) h0 h hs'
end
theorem idx_dig {bs : List Nat} (hb : ∀ b ∈ bs, b < 256) {j m lb : Nat} (hj : j ≤ bs.length) (he : 6 * m + (lb + 6) = 8 * j) (hl : lb ≤ 10) : Builtin.bitAnd (((vN (bs.take j) % 65536 : Nat) : Int).fdiv (2 ^ ((((lb + 6 : Nat) : Int) - 6).toNat))) 63 = (dN bs m : Nat) := by
  rw [bitAnd_m6, dN_eq hb hj (by omega : 6 * (m + 1) ≤ 8 * j), show 8 * j - 6 * (m + 1) = lb by omega, show ((((lb + 6 : Nat) : Int) - 6).toNat) = lb by omega, ← dig16 hl]
  have e2 : (2 : Int) ^ lb = ((2 ^ lb : Nat) : Int) := by rw [Int.natCast_pow]; rfl
  rw [e2, ← Int.ofNat_fdiv]
  exact (Int.natCast_emod _ 64).symm
theorem code_snoc (bs : List Nat) (m : Nat) : (outL bs m).map AV.int ++ [AV.int (b64L.getD ((dN bs m : Nat) : Int).toNat 0)] = (outL bs (m + 1)).map AV.int := by
  rw [outL_snoc, List.map_append, Int.toNat_natCast]; rfl
theorem out_len (bs : List Nat) (m : Nat) : ((outL bs m).map AV.int).length = m := by unfold outL; rw [List.length_map, List.length_map, List.length_range]
theorem b64_in (d : Nat) (h : d < 64) : 0 ≤ b64L.getD d 0 ∧ b64L.getD d 0 < 256 := by
  have : b64L.getD d 0 ∈ b64L := by
    rw [List.getD_eq_getElem?_getD, List.getElem?_eq_getElem (h : d < b64L.length)]
    exact List.getElem_mem _
  exact (by decide : ∀ n ∈ b64L, 0 ≤ n ∧ n < 256) _ this
theorem b2aL_in (bs : List Nat) : ∀ n ∈ b2aL bs, 0 ≤ n ∧ n < 256 := fun n hn => by
  rcases List.mem_append.mp hn with h | h
  · obtain ⟨t, _, rfl⟩ := List.mem_map.mp h
    exact b64_in _ (dN_lt bs t)
  · rw [List.eq_of_mem_replicate h]; decide
theorem b2aL_0 {bs : List Nat} {m : Nat} (h : 8 * bs.length = 6 * m + 0) : b2aL bs = outL bs m := by
  have e : sizeN bs.length = m := by unfold sizeN; omega
  unfold b2aL
  rw [e, show 3 * m - 4 * bs.length = 0 by omega]; exact List.append_nil _
theorem b2aL_2 {bs : List Nat} {m : Nat} (h : 8 * bs.length = 6 * m + 2) : b2aL bs = outL bs (m + 1) ++ [61, 61] := by
  have e : sizeN bs.length = m + 1 := by unfold sizeN; omega
  unfold b2aL
  rw [e, show 3 * (m + 1) - 4 * bs.length = 2 by omega]; rfl
theorem b2aL_4 {bs : List Nat} {m : Nat} (h : 8 * bs.length = 6 * m + 4) : b2aL bs = outL bs (m + 1) ++ [61] := by
  have e : sizeN bs.length = m + 1 := by unfold sizeN; omega
  unfold b2aL
  rw [e, show 3 * (m + 1) - 4 * bs.length = 1 by omega]; rfl
theorem b2aL_len (bs : List Nat) : (b2aL bs).length = sizeN bs.length + (3 * sizeN bs.length - 4 * bs.length) := by
  unfold b2aL outL
  rw [List.length_append, List.length_map, List.length_range, List.length_replicate]
theorem b2a_sp {w : World} {A : Around} {hb : Heap} {R : AV → List (Addr × OP) → Prop} {bs : List Nat} {u v : Value} (G : Gr w hb) (r : Rm A 3) (hB : ∀ b ∈ bs, b < 256) (hl : bs.length < 8) (ru : (AV.bytes (byteArr (up bs))).is u) (rv : (AV.bool false).is v) (k : R (.bytes (byteArr (b2aL bs))) []) : Sp w A hb [] (call (.ref 105) [u] [(Str.ofString "newline", v)]) R := by
  refine' Sp.def (n := 1) (ps := [Str.ofString "data", Str.ofString "newline"]) (vars := [Str.ofString "data", Str.ofString "newline", Str.ofString "bin_data", Str.ofString "out", Str.ofString "leftbits", Str.ofString "leftchar", Str.ofString "b"]) (avs := [.bytes (byteArr (up bs)), .bool false]) (pos' := [u, v]) [some (.bytes (byteArr (up bs))), some (.bool false), none, none, none, none, none] (fun L => []) G r ?ho ?hcd ?hbind (.cons ru (.cons rv .nil)) ?hok ?hvs ?hent (fun L g o => ?h)
  case ho => exact rfl
  case hcd => kernel_rfl
  case hok => exact rfl
  case hvs => exact rfl
  case hent => exact fun _ => rfl
  case hbind => exact fun _ _ => BindsTo.of_eq rfl
  have hbs : (byteArr (up bs)).size = bs.length := by rw [byteArr_size, List.length_map]
  refine WF.cons (WF.asg (.loc 2 rfl) (WV.callN (f := 90) (.glob (fun _ => rfl) rfl rfl) (fun _ => by kernel_rfl) (WA.cons (Pu.wv (.loc 0 rfl rfl) (WA.nil fun vs rv => WV.call0 fun hbC G' _ _ => buffer_sp G' (r.deeper _) rv ⟨trivial, ?_⟩)))))
  refine WF.cons (WF.asg (.loc 1 rfl) (WV.callN (f := 97) (.glob (fun _ => rfl) rfl rfl) (fun _ => by kernel_rfl) (WA.cons (Pu.wv (.loc 1 rfl rfl) (WA.nil fun vs rv => WV.call0 fun hbC G' _ _ => truth_sp G' (r.deeper _) rv ⟨trivial, ?_⟩)))))
  refine WF.cons (WF.asg (.loc 3 rfl) (WV.list (WA.nil ⟨Nat.zero_le _, fun oa => ⟨trivial, ?_⟩⟩)))
  refine WF.cons (WF.asg (.loc 4 rfl) (Pu.wv .int ⟨trivial, ?_⟩))
  refine WF.cons (WF.asg (.loc 5 rfl) (Pu.wv .int ⟨trivial, ?_⟩))
  refine WF.cons (WF.for (Src.bytes (rest := []) (.loc 2 rfl rfl) (List.Perm.refl _) ⟨fun j st' => ∃ m lb : Nat, 6 * m + lb = 8 * j ∧ lb < 6 ∧ st' = ⟨[some (.bytes (byteArr (up bs))), some (.bool false), some (.bytes (byteArr (up bs))), some (.ref oa), some (.int lb), some (.int ((vN (bs.take j) % 65536 : Nat) : Int)), none], [(oa, isList ((outL bs m).map AV.int))]⟩, ⟨0, 0, rfl, by decide, rfl⟩,
    ForT.one (fun hb' => .loc 6 rfl) (fun j v => ∃ b, bs[j]? = some b ∧ v = .int (b : Nat)) (fun j v h z => ?_) (fun hb' k1 k2 j st' v hj hI hv => ⟨trivial, ?_⟩), fun st' hI => WF.nil ?_⟩))
  · obtain ⟨x, hx, rx⟩ := z
    obtain ⟨b, eb, ex⟩ := up_at (byte_at (byte_up hB) hx)
    exact ⟨_, ⟨b, eb, rfl⟩, ex ▸ rx⟩
  · obtain ⟨m, lb, he, hlb, rfl⟩ := hI
    obtain ⟨b, eb, rfl⟩ := hv
    have hbb := hB b (List.mem_of_getElem? eb)
    have hj' : j + 1 ≤ bs.length := (List.getElem?_eq_some_iff.mp eb).1
    refine WF.cons (WF.asg (.loc 5 rfl) (Pu.wv (Pu.bin Op2.band (Pu.bin Op2.bor (Pu.bin (Op2.shl (by decide) (by decide) ?_) (.loc 5 rfl rfl) .int) (.loc 6 rfl rfl)) .int) ⟨trivial, ?_⟩))
    · rw [Int.natAbs_natCast]
      exact Nat.lt_trans (Nat.mod_lt _ (by decide)) (by decide)
    have e1 : Builtin.bitAnd (Builtin.bitOr (((vN (bs.take j) % 65536 : Nat) : Int) * 2 ^ (8 : Int).toNat) (b : Nat)) 65535 = ((vN (bs.take (j + 1)) % 65536 : Nat) : Int) := by
      rw [show (2 : Int) ^ (8 : Int).toNat = 256 from rfl, bor256 hbb, bitAnd_m16, vN_snoc eb]; omega
    rw [e1]
    refine WF.cons (WF.asg (.loc 4 rfl) (Pu.wv (Pu.bin Op2.add (.loc 4 rfl rfl) .int) ⟨trivial, ?_⟩))
    refine WF.cons (WF.while (fun n st' => ∃ m lb : Nat, n = lb ∧ 6 * m + lb = 8 * (j + 1) ∧ lb ≤ 13 ∧ st' = ⟨[some (.bytes (byteArr (up bs))), some (.bool false), some (.bytes (byteArr (up bs))), some (.ref oa), some (.int lb), some (.int ((vN (bs.take (j + 1)) % 65536 : Nat) : Int)), some (.int (b : Nat))], [(oa, isList ((outL bs m).map AV.int))]⟩) (lb + 8) ⟨m, lb + 8, rfl, by omega, by omega, rfl⟩ (fun n st' hI => ?_))
    obtain ⟨m, _, rfl, he, hlb, rfl⟩ := hI
    refine Tt.wb (Tt.cmp Op2.geI (.loc 4 rfl rfl) .int) ?_
    by_cases h6 : 6 ≤ n
    · rw [decide_eq_true (by omega : (6 : Int) ≤ (n : Int))]
      obtain ⟨lb, rfl⟩ := Nat.exists_eq_add_of_le' h6
      have hi := idx_dig hB hj' he (by omega)
      refine WF.cons (WF.append (j := 0) (.loc 3 rfl rfl) rfl (Pu.b64 (.glob (fun _ => rfl) rfl ⟨_, rfl⟩) (Pu.bin Op2.band (Pu.bin (Op2.shr (by omega)) (.loc 5 rfl rfl) (Pu.bin Op2.sub (.loc 4 rfl rfl) .int)) .int) (by rw [hi]; exact Int.natCast_nonneg _) (by rw [hi]; exact Int.ofNat_lt.mpr (dN_lt _ _))) (by rw [out_len]; omega) ?_)
      refine WF.cons (WF.asg (.loc 4 rfl) (Pu.wv (Pu.bin Op2.sub (.loc 4 rfl rfl) .int) ⟨trivial, WF.nil ⟨_, .refl, lb, by omega, m + 1, lb, rfl, by omega, by omega, ?_⟩⟩))
      rw [hi, code_snoc, show ((lb + 6 : Nat) : Int) - 6 = (lb : Int) by omega]; rfl
    · rw [decide_eq_false (by omega : ¬ (6 : Int) ≤ (n : Int))]
      exact WF.nil (WF.nil ⟨_, .keep (.keep (.keep (.keep (.keep (.keep (.drop (.nil (List.Sublist.refl _)))))))), m, n, he, by omega, rfl⟩)
  · obtain ⟨m, lb, he, hlb, rfl⟩ := hI
    rw [hbs] at he ⊢
    rw [List.take_of_length_le (Nat.le_refl _)]
    have lz : m ≤ 12 := by omega
    have hc : lb = 0 ∨ lb = 2 ∨ lb = 4 := by omega
    have lc3 : Builtin.bitAnd ((vN bs % 65536 : Nat) : Int) 3 = ((vN bs % 4 : Nat) : Int) := by rw [bitAnd_m2]; omega
    have lc15 : Builtin.bitAnd ((vN bs % 65536 : Nat) : Int) 15 = ((vN bs % 16 : Nat) : Int) := by rw [bitAnd_m4]; omega
    refine WF.cons (W.mono (R := fun f st' => f = AF.next ∧ st' = ⟨[some (.bytes (byteArr (up bs))), some (.bool false), some (.bytes (byteArr (up bs))), some (.ref oa), some (.int lb), some (.int ((vN bs % 65536 : Nat) : Int)), none], [(oa, isList ((b2aL bs).map AV.int))]⟩) ?_ fun f st' z => ?_)
    · rcases hc with rfl | rfl | rfl
      · exact WF.ifF (Tt.cmp Op2.eqI (.loc 4 rfl rfl) .int) (WF.cons (WF.ifF (Tt.cmp Op2.eqI (.loc 4 rfl rfl) .int) (WF.nil (WF.nil ⟨rfl, by rw [b2aL_0 he.symm]; rfl⟩))))
      · have hi : Builtin.bitAnd ((vN bs % 65536 : Nat) : Int) 3 * 2 ^ (4 : Int).toNat = (dN bs m : Nat) := by rw [lc3, dN_last2 he.symm]; rfl
        refine WF.ifT (Tt.cmp Op2.eqI (.loc 4 rfl rfl) .int) (WF.cons (WF.append (j := 0) (.loc 3 rfl rfl) rfl (Pu.b64 (.glob (fun _ => rfl) rfl ⟨_, rfl⟩) (Pu.bin (Op2.shl (by decide) (by decide) (by rw [lc3]; omega)) (Pu.bin Op2.band (.loc 5 rfl rfl) .int) .int) (by rw [hi]; exact Int.natCast_nonneg _) (by rw [hi]; exact Int.ofNat_lt.mpr (dN_lt _ _))) (by rw [out_len]; omega) ?_))
        rw [hi, code_snoc]
        refine WF.cons (WF.append (j := 0) (.loc 3 rfl rfl) rfl .int (by rw [out_len]; omega) (WF.cons (WF.append (j := 0) (.loc 3 rfl rfl) rfl .int (by rw [List.length_append, out_len]; show m + 1 + 1 ≤ 1000; omega) (WF.nil ⟨rfl, ?_⟩))))
        rw [b2aL_2 he.symm, List.map_append, List.append_assoc]; rfl
      · have hi : Builtin.bitAnd ((vN bs % 65536 : Nat) : Int) 15 * 2 ^ (2 : Int).toNat = (dN bs m : Nat) := by rw [lc15, dN_last4 he.symm]; rfl
        refine WF.ifF (Tt.cmp Op2.eqI (.loc 4 rfl rfl) .int) (WF.cons (WF.ifT (Tt.cmp Op2.eqI (.loc 4 rfl rfl) .int) (WF.cons (WF.append (j := 0) (.loc 3 rfl rfl) rfl (Pu.b64 (.glob (fun _ => rfl) rfl ⟨_, rfl⟩) (Pu.bin (Op2.shl (by decide) (by decide) (by rw [lc15]; omega)) (Pu.bin Op2.band (.loc 5 rfl rfl) .int) .int) (by rw [hi]; exact Int.natCast_nonneg _) (by rw [hi]; exact Int.ofNat_lt.mpr (dN_lt _ _))) (by rw [out_len]; omega) ?_))))
        rw [hi, code_snoc]
        refine WF.cons (WF.append (j := 0) (.loc 3 rfl rfl) rfl .int (by rw [out_len]; omega) (WF.nil (WF.nil ⟨rfl, ?_⟩)))
        rw [b2aL_4 he.symm, List.map_append]; rfl
    · obtain ⟨rfl, rfl⟩ := z
      refine WF.cons (WF.ifF (Tt.plain (.loc 1 rfl rfl) .bool) (WF.nil (WF.cons (WF.ret (WV.callT (.blt (fun _ => rfl) rfl (by decide) rfl) (WA.cons (Pu.wv (.loc 3 rfl rfl) (WA.nil fun vs rv => ?_))))))))
      obtain ⟨x, rfl, rfl⟩ := rv.inv1
      exact WV.bytes (In.led 0 rfl).w (b2aL_in bs) (by rw [b2aL_len]; unfold sizeN; omega) ⟨[], List.nil_sublist _, k⟩
theorem b64_sp {w : World} {A : Around} {hb : Heap} {R : AV → List (Addr × OP) → Prop} {bs : List Nat} {vals : List Value} (G : Gr w hb) (r : Rm A 4) (hB : ∀ b ∈ bs, b < 256) (hl : bs.length < 8) (ha : AVs [.bytes (byteArr (up bs))] vals) (k : R (.bytes (byteArr (b2aL bs))) []) : Sp w A hb [] (call (.ref 113) vals) R := by
  obtain ⟨u, rfl, ru⟩ := ha.inv1
  refine' Sp.def (n := 2) (ps := [Str.ofString "s", Str.ofString "altchars"]) (vars := [Str.ofString "s", Str.ofString "altchars", Str.ofString "encoded"]) (avs := [.bytes (byteArr (up bs)), .none]) (pos' := [u, .none]) [some (.bytes (byteArr (up bs))), some .none, none] (fun L => []) G r ?ho ?hcd ?hbind (.cons ru (.cons rfl .nil)) ?hok ?hvs ?hent (fun L g o => ?h)
  case ho => exact rfl
  case hcd => kernel_rfl
  case hok => exact rfl
  case hvs => exact rfl
  case hent => exact fun _ => rfl
  case hbind => exact fun s kp => kp_binds (G.X.keeps kp) fun _ => rfl
  refine WF.cons (WF.asg (.loc 2 rfl) (WV.callKw (f := 105) (.glob (fun _ => rfl) rfl rfl) (fun _ => rfl) rfl (Pu.wv (.loc 0 rfl rfl) (Pu.wv .bool fun u v ru rv => WV.call0 fun hbC G' _ _ => b2a_sp G' (r.deeper _) hB hl ru rv ⟨trivial, ?_⟩))))
  exact WF.cons (WF.ifF (Tt.cmp Op2.isnNN (.loc 1 rfl rfl) .none) (WF.nil (WF.cons (WF.ret (Pu.wv (.loc 2 rfl rfl) ⟨[], List.nil_sublist _, k⟩)))))
def urlL : List Int := (List.range 256).map fun (n : Nat) => (if n = 43 then 45 else if n = 47 then 95 else (n : Int))
def urlA : Array UInt8 := byteArr urlL
theorem glob_url (w : World) : nsIn (Kx w.params) mainGlobals (Str.ofString "_urlsafe_encode_translation") = some (some (.bytes urlA 342)) := by kernel_rfl
theorem urlsafe_sp {w : World} {A : Around} {hb : Heap} {R : AV → List (Addr × OP) → Prop} {bs : List Nat} {vals : List Value} (G : Gr w hb) (r : Rm A 5) (hB : ∀ b ∈ bs, b < 256) (hl : bs.length < 8) (ha : AVs [.bytes (byteArr (up bs))] vals) (k : R (.bytes (transA urlA (byteArr (b2aL bs)))) []) : Sp w A hb [] (call (.ref 120) vals) R := by
  refine' Sp.def (n := 3) (ps := [Str.ofString "s"]) (vars := [Str.ofString "s"]) [some (.bytes (byteArr (up bs)))] (fun L => []) G r ?ho ?hcd ?hbind ha ?hok ?hvs ?hent (fun L g o => ?h)
  case ho => exact rfl
  case hcd => kernel_rfl
  case hok => exact rfl
  case hvs => exact rfl
  case hent => exact fun _ => rfl
  case hbind =>
    obtain ⟨u, rfl, _⟩ := ha.inv1
    exact fun _ _ => BindsTo.of_eq rfl
  refine WF.cons (WF.ret (WV.meth (WV.callN (f := 113) (.glob (fun _ => rfl) rfl rfl) (fun _ => by kernel_rfl) (WA.cons (Pu.wv (.loc 0 rfl rfl) (WA.nil fun vs rv => WV.call0 fun hbC G' _ _ => b64_sp G' (r.deeper _) hB hl rv ⟨.bytes slot_translate type_translate, WA.cons (Pu.wv (.glob (av := .bytes urlA) glob_url rfl ⟨_, rfl⟩) (WA.nil fun u vs ru rv => ?_))⟩))))))
  obtain ⟨t, rfl⟩ := ru
  obtain ⟨v, rfl, ⟨t', rfl⟩⟩ := rv.inv1
  exact WV.translate rfl (by rw [byteArr_size, b2aL_len]; unfold sizeN; omega) ⟨[], List.nil_sublist _, k⟩
def uc (n : Int) : Nat := (urlA.getD (n.toNat.toUInt8).toNat (n.toNat.toUInt8)).toNat
def alC (d : Nat) : Nat := (alphaS.cps[d]?).getD 0
theorem uc_b64 : ∀ d, d < 64 → uc (b64L.getD d 0) = alC d := by decide +kernel
theorem ascii_trans (L : List Int) : asciiS (transA urlA (byteArr L)) = ⟨(L.map uc).toArray⟩ := by
  unfold asciiS transA byteArr
  rw [List.map_toArray, List.map_toArray, List.map_map, List.map_map]; rfl
def nameL (bs : List Nat) : List Nat := (List.range (sizeN bs.length)).map (fun t => alC (dN bs t)) ++ List.replicate (3 * sizeN bs.length - 4 * bs.length) 61
def nameS (bs : List Nat) : Str := ⟨(nameL bs).toArray⟩
theorem uc_b2a (bs : List Nat) : (b2aL bs).map uc = nameL bs := by
  unfold b2aL nameL outL
  rw [List.map_append, List.map_map, List.map_replicate]
  refine congr (congrArg _ (List.map_congr_left fun t _ => uc_b64 _ (dN_lt bs t))) (congrArg _ (by decide +kernel))
theorem written_eq (bs : List Nat) : asciiS (transA urlA (byteArr (b2aL bs))) = nameS bs := by rw [ascii_trans, uc_b2a]; rfl
theorem pad_eq : ∀ n, n < 8 → Txt.mul (Str.ofString "=") ((-(sizeN n : Int)).fmod 4) = ⟨(List.replicate (3 * sizeN n - 4 * n) 61).toArray⟩ := by decide +kernel
theorem spelled_eq (bs : List Nat) (hl : bs.length < 8) : spellF (up bs) = nameS bs := by
  unfold spellF nameS nameL
  rw [List.length_map, pad_eq _ hl]
  have e : ((List.range (sizeN bs.length)).map fun k => chr alphaS (spDig (up bs) k)) = ((List.range (sizeN bs.length)).map (fun t => alC (dN bs t))).map fun k => (⟨#[k]⟩ : Str) := by
    rw [List.map_map]
    exact List.map_congr_left fun t _ => by rw [spDig_up]; rfl
  rw [e, join_ones]
  show (⟨_ ++ _⟩ : Str) = _
  rw [List.append_toArray]
theorem alC_ok : ∀ d, d < 64 → alC d < 128 ∧ alC d ≠ 46 ∧ alC d ≠ 47 ∧ alC d ≠ 60 := by decide +kernel
theorem nameL_ok (bs : List Nat) : ∀ x ∈ nameL bs, x < 128 ∧ x ≠ 46 ∧ x ≠ 47 ∧ x ≠ 60 := fun x hx => by
  rcases List.mem_append.mp hx with h | h
  · obtain ⟨t, _, rfl⟩ := List.mem_map.mp h
    exact alC_ok _ (dN_lt bs t)
  · rw [List.eq_of_mem_replicate h]; decide
theorem nameL_len (bs : List Nat) : (nameL bs).length = sizeN bs.length + (3 * sizeN bs.length - 4 * bs.length) := by
  unfold nameL
  rw [List.length_append, List.length_map, List.length_range, List.length_replicate]
theorem trans_ascii (bs : List Nat) : ∀ k, k < (transA urlA (byteArr (b2aL bs))).size → ((transA urlA (byteArr (b2aL bs))).getD k 0).toNat < 128 := fun k hk => by
  have e : (nameL bs)[k]? = some ((transA urlA (byteArr (b2aL bs))).getD k 0).toNat := by
    have h := congrArg Str.cps (written_eq bs)
    have h2 : ((transA urlA (byteArr (b2aL bs))).map fun c => c.toNat)[k]? = (nameL bs).toArray[k]? := by rw [show ((transA urlA (byteArr (b2aL bs))).map fun c => c.toNat) = (nameL bs).toArray from h]
    rw [Array.getElem?_map, Array.getElem?_eq_getElem hk, List.getElem?_toArray] at h2
    rw [← h2, Array.getD_eq_getD_getElem?, Array.getElem?_eq_getElem hk]; rfl
  exact (nameL_ok bs _ (List.mem_of_getElem? e)).1
/-- the octets of a place, as numbers -/
def octN (place : Nat) (q : Int) : List Nat := (octF place q).map Int.toNat
theorem octF_up (place : Nat) (q : Int) : octF place q = up (octN place q) := by
  unfold octN
  show _ = List.map _ _
  rw [List.map_map]
  exact (List.map_id _).symm.trans (List.map_congr_left fun n hn => (Int.toNat_of_nonneg (octF_ok n hn).1).symm)
theorem octN_lt (place : Nat) (q : Int) : ∀ b ∈ octN place q, b < 256 := fun b hb => by
  obtain ⟨n, hn, rfl⟩ := List.mem_map.mp hb
  have := octF_ok n hn
  omega
theorem octN_len (place : Nat) (q : Int) : (octN place q).length = place + 3 := by
  unfold octN octF
  rw [List.length_map, List.length_append, List.length_map, List.length_range, Nat.add_comm]; rfl
def fmT : List (Addr × List (Addr × Int × Str)) := [(142, [(135, 40960, Str.ofString "l"), (136, 49152, Str.ofString "s"), (137, 32768, Str.ofString "-"), (138, 24576, Str.ofString "b"), (139, 16384, Str.ofString "d"), (140, 8192, Str.ofString "c"), (141, 4096, Str.ofString "p")]),
  (144, [(143, 256, Str.ofString "r")]),
  (146, [(145, 128, Str.ofString "w")]),
  (150, [(147, 2112, Str.ofString "s"), (148, 2048, Str.ofString "S"), (149, 64, Str.ofString "x")]),
  (152, [(151, 32, Str.ofString "r")]),
  (154, [(153, 16, Str.ofString "w")]),
  (158, [(155, 1032, Str.ofString "s"), (156, 1024, Str.ofString "S"), (157, 8, Str.ofString "x")]),
  (160, [(159, 4, Str.ofString "r")]),
  (162, [(161, 2, Str.ofString "w")]),
  (166, [(163, 513, Str.ofString "t"), (164, 512, Str.ofString "T"), (165, 1, Str.ofString "x")])]
theorem fmT_ok {w : World} {hb : Heap} (G : Gr w hb) : ∀ t ∈ fmT, Bs hb t.1 (isTupW (t.2.map fun r => .ref r.1)) ∧ ∀ r ∈ t.2, Bs hb r.1 (isTupW [.int r.2.1, .str r.2.2]) := by
  have row : ∀ {a : Addr} {i : Int} {x : Str} {t u : Tok}, (Kx w.params).lookup a = some ⟨.type "tuple", none, .seq #[.int i t, .str x u] 0, #[]⟩ → Bs hb a (isTupW [.int i, .str x]) := fun h => ⟨_, G.X _ _ h, _, _, rfl, rfl, .cons ⟨_, rfl⟩ (.cons ⟨_, rfl⟩ .nil)⟩
  refine List.forall_mem_cons.mpr ⟨?_, List.forall_mem_cons.mpr ⟨?_, List.forall_mem_cons.mpr ⟨?_, List.forall_mem_cons.mpr ⟨?_, List.forall_mem_cons.mpr ⟨?_, List.forall_mem_cons.mpr ⟨?_, List.forall_mem_cons.mpr ⟨?_, List.forall_mem_cons.mpr ⟨?_, List.forall_mem_cons.mpr ⟨?_, List.forall_mem_cons.mpr ⟨?_, List.forall_mem_nil _⟩⟩⟩⟩⟩⟩⟩⟩⟩⟩
  · exact ⟨⟨_, G.X _ _ rfl, _, _, rfl, rfl, (.cons rfl (.cons rfl (.cons rfl (.cons rfl (.cons rfl (.cons rfl (.cons rfl .nil)))))))⟩, List.forall_mem_cons.mpr ⟨row rfl, List.forall_mem_cons.mpr ⟨row rfl, List.forall_mem_cons.mpr ⟨row rfl, List.forall_mem_cons.mpr ⟨row rfl, List.forall_mem_cons.mpr ⟨row rfl, List.forall_mem_cons.mpr ⟨row rfl, List.forall_mem_cons.mpr ⟨row rfl, List.forall_mem_nil _⟩⟩⟩⟩⟩⟩⟩⟩
  · exact ⟨⟨_, G.X _ _ rfl, _, _, rfl, rfl, (.cons rfl .nil)⟩, List.forall_mem_cons.mpr ⟨row rfl, List.forall_mem_nil _⟩⟩
  · exact ⟨⟨_, G.X _ _ rfl, _, _, rfl, rfl, (.cons rfl .nil)⟩, List.forall_mem_cons.mpr ⟨row rfl, List.forall_mem_nil _⟩⟩
  · exact ⟨⟨_, G.X _ _ rfl, _, _, rfl, rfl, (.cons rfl (.cons rfl (.cons rfl .nil)))⟩, List.forall_mem_cons.mpr ⟨row rfl, List.forall_mem_cons.mpr ⟨row rfl, List.forall_mem_cons.mpr ⟨row rfl, List.forall_mem_nil _⟩⟩⟩⟩
  · exact ⟨⟨_, G.X _ _ rfl, _, _, rfl, rfl, (.cons rfl .nil)⟩, List.forall_mem_cons.mpr ⟨row rfl, List.forall_mem_nil _⟩⟩
  · exact ⟨⟨_, G.X _ _ rfl, _, _, rfl, rfl, (.cons rfl .nil)⟩, List.forall_mem_cons.mpr ⟨row rfl, List.forall_mem_nil _⟩⟩
  · exact ⟨⟨_, G.X _ _ rfl, _, _, rfl, rfl, (.cons rfl (.cons rfl (.cons rfl .nil)))⟩, List.forall_mem_cons.mpr ⟨row rfl, List.forall_mem_cons.mpr ⟨row rfl, List.forall_mem_cons.mpr ⟨row rfl, List.forall_mem_nil _⟩⟩⟩⟩
  · exact ⟨⟨_, G.X _ _ rfl, _, _, rfl, rfl, (.cons rfl .nil)⟩, List.forall_mem_cons.mpr ⟨row rfl, List.forall_mem_nil _⟩⟩
  · exact ⟨⟨_, G.X _ _ rfl, _, _, rfl, rfl, (.cons rfl .nil)⟩, List.forall_mem_cons.mpr ⟨row rfl, List.forall_mem_nil _⟩⟩
  · exact ⟨⟨_, G.X _ _ rfl, _, _, rfl, rfl, (.cons rfl (.cons rfl (.cons rfl .nil)))⟩, List.forall_mem_cons.mpr ⟨row rfl, List.forall_mem_cons.mpr ⟨row rfl, List.forall_mem_cons.mpr ⟨row rfl, List.forall_mem_nil _⟩⟩⟩⟩
theorem fmT_all {w : World} {hb : Heap} (G : Gr w hb) : Bs hb 167 (isTupW (fmT.map fun t => .ref t.1)) := ⟨_, G.X _ _ rfl, _, _, rfl, rfl, .cons rfl (.cons rfl (.cons rfl (.cons rfl (.cons rfl (.cons rfl (.cons rfl (.cons rfl (.cons rfl (.cons rfl .nil)))))))))⟩
section
variable {c : Cx} {st : AS}
/-- a call that makes nothing -/
theorem Pu.of {e : Expr} {v : AV} (h : WV c st (eval e c.env) fun a st' => a = v ∧ st' = { st with nw := st.nw ++ [] }) : Pu c st e v := ⟨h.mono fun a st' z => ⟨z.1, by rw [z.2, List.append_nil]⟩⟩
theorem Pu.cmp {l r : Expr} {op : CmpOp} {p : Pos} {a b v : AV} (o : Op2 c (compareOp op) a b v) (hl : Pu c st l a) (hr : Pu c st r b) (hm : behindInMarks op r = false := by rfl) : Pu c st (.Compare l [op] [r] p) v := pu fun s hs =>
  wpAny_Compare1 (hl.run hs fun va s₁ ra h₁ => hr.run h₁ fun vb s₂ rb h₂ => o.go st s₂ va vb h₂ ra rb) hm
end
theorem ifmt_sp {w : World} {A : Around} {hb : Heap} {R : AV → List (Addr × OP) → Prop} {mode : Int} {vals : List Value} (G : Gr w hb) (r : Rm A 2) (ha : AVs [.int mode] vals) (k : R (.int (Builtin.bitAnd mode 61440)) []) : Sp w A hb [] (call (.ref 127) vals) R := by
  refine' Sp.def (n := 0) (ps := [Str.ofString "mode"]) (vars := [Str.ofString "mode"]) [some (.int mode)] (fun L => []) G r ?ho ?hcd ?hbind ha ?hok ?hvs ?hent (fun L g o => ?h)
  case ho => exact rfl
  case hcd => kernel_rfl
  case hok => exact rfl
  case hvs => exact rfl
  case hent => exact fun _ => rfl
  case hbind =>
    obtain ⟨u, rfl, _⟩ := ha.inv1
    exact fun _ _ => BindsTo.of_eq rfl
  exact WF.cons (WF.ret (Pu.wv (Pu.bin Op2.band (.loc 0 rfl rfl) .int) ⟨[], List.nil_sublist _, k⟩))
theorem isdir_sp {w : World} {A : Around} {hb : Heap} {R : AV → List (Addr × OP) → Prop} {mode : Int} {vals : List Value} (G : Gr w hb) (r : Rm A 3) (ha : AVs [.int mode] vals) (k : R (.bool (Builtin.bitAnd mode 61440 == 16384)) []) : Sp w A hb [] (call (.ref 134) vals) R := by
  refine' Sp.def (n := 1) (ps := [Str.ofString "mode"]) (vars := [Str.ofString "mode"]) [some (.int mode)] (fun L => []) G r ?ho ?hcd ?hbind ha ?hok ?hvs ?hent (fun L g o => ?h)
  case ho => exact rfl
  case hcd => kernel_rfl
  case hok => exact rfl
  case hvs => exact rfl
  case hent => exact fun _ => rfl
  case hbind =>
    obtain ⟨u, rfl, _⟩ := ha.inv1
    exact fun _ _ => BindsTo.of_eq rfl
  exact WF.cons (WF.ret (Pu.wv (Pu.cmp Op2.eqI (Pu.of (WV.callN (f := 127) (.glob (fun _ => rfl) rfl rfl) (fun _ => by kernel_rfl) (WA.cons (Pu.wv (.loc 0 rfl rfl) (WA.nil fun vs rv => WV.call0 fun hbC G' _ _ => ifmt_sp G' (r.deeper _) rv ⟨rfl, rfl⟩))))) (.glob (av := .int 16384) (fun _ => rfl) rfl ⟨_, rfl⟩)) ⟨[], List.nil_sublist _, k⟩))
def hit (idx : Nat) (mode bit : Int) : Bool := if idx = 0 then Builtin.bitAnd mode 61440 == bit else Builtin.bitAnd mode bit == bit
def rowF (idx : Nat) (mode : Int) (rows : List (Addr × Int × Str)) : Str := ((rows.find? fun r => hit idx mode r.2.1).map (·.2.2)).getD (if idx = 0 then Str.ofString "?" else Str.ofString "-")
def fmL (mode : Int) : List Str := (List.range 10).map fun k => rowF k mode (fmT.getD k (0, [])).2
def fmF (mode : Int) : Str := Str.join ⟨#[]⟩ (fmL mode)
def fmK (mode : Int) (k : Nat) : List AV := ((List.range k).map fun k => rowF k mode (fmT.getD k (0, [])).2).map AV.str
theorem fmK_snoc (mode : Int) (k : Nat) : fmK mode (k + 1) = fmK mode k ++ [.str (rowF k mode (fmT.getD k (0, [])).2)] := by
  unfold fmK
  rw [List.range_succ, List.map_append, List.map_append]; rfl
theorem fmK_len (mode : Int) (k : Nat) : (fmK mode k).length = k := by unfold fmK; rw [List.length_map, List.length_map, List.length_range]
theorem rowF_hit {idx : Nat} {mode : Int} {rows : List (Addr × Int × Str)} {j : Nat} {r : Addr × Int × Str} (h : ∀ i r', i < j → rows[i]? = some r' → hit idx mode r'.2.1 = false) (e : rows[j]? = some r) (hr : hit idx mode r.2.1 = true) : rowF idx mode rows = r.2.2 := by
  have : rows.find? (fun r => hit idx mode r.2.1) = some r := by
    rw [List.find?_eq_some_iff_getElem]
    obtain ⟨hj, ej⟩ := List.getElem?_eq_some_iff.mp e
    refine ⟨hr, j, hj, ej, fun i hi => ?_⟩
    rw [h i _ hi (List.getElem?_eq_getElem (Nat.lt_trans hi hj))]; rfl
  unfold rowF
  rw [this]; rfl
theorem rowF_none {idx : Nat} {mode : Int} {rows : List (Addr × Int × Str)} (h : ∀ i r', i < rows.length → rows[i]? = some r' → hit idx mode r'.2.1 = false) : rowF idx mode rows = if idx = 0 then Str.ofString "?" else Str.ofString "-" := by
  have : rows.find? (fun r => hit idx mode r.2.1) = none := by
    rw [List.find?_eq_none]
    intro r hr
    obtain ⟨i, hi⟩ := List.getElem?_of_mem hr
    rw [h i r (List.getElem?_eq_some_iff.mp hi).1 hi]; exact Bool.false_ne_true
  unfold rowF
  rw [this]; rfl
theorem chars1 : ∀ t ∈ fmT, ∀ r ∈ t.2, r.2.2.length = 1 := by decide +kernel
theorem rowF_len {k : Nat} {mode : Int} (hk : k < 10) : (rowF k mode (fmT.getD k (0, [])).2).length = 1 := by
  unfold rowF
  cases e : (fmT.getD k (0, [])).2.find? fun r => hit k mode r.2.1 with
  | none => show (if k = 0 then Str.ofString "?" else Str.ofString "-").length = 1; split <;> rfl
  | some r =>
    have hm : fmT.getD k (0, []) ∈ fmT := by
      rw [List.getD_eq_getElem?_getD, List.getElem?_eq_getElem (show k < fmT.length from hk)]
      exact List.getElem_mem _
    exact chars1 _ hm r (List.mem_of_find?_eq_some e)
theorem sum_len1 : ∀ (l : List Str), (∀ x ∈ l, x.length = 1) → (l.map (·.length)).sum = l.length
  | [], _ => rfl
  | x :: l, h => by
    rw [List.map_cons, List.sum_cons, h x (.head _), sum_len1 l fun y hy => h y (.tail _ hy), List.length_cons, Nat.add_comm]
theorem fmL_one (mode : Int) : ∀ x ∈ fmL mode, x.length = 1 := fun x hx => by
  obtain ⟨k, hk, rfl⟩ := List.mem_map.mp hx
  exact rowF_len (List.mem_range.mp hk)
theorem filemode_sp {w : World} {A : Around} {hb : Heap} {R : AV → List (Addr × OP) → Prop} {mode : Int} {vals : List Value} (G : Gr w hb) (r : Rm A 3) (ha : AVs [.int mode] vals) (k : R (.str (fmF mode)) []) : Sp w A hb [] (call (.ref 174) vals) R := by
  refine' Sp.def (n := 1) (ps := [Str.ofString "mode"]) (vars := [Str.ofString "mode", Str.ofString "perm", Str.ofString "index", Str.ofString "table", Str.ofString "bit", Str.ofString "char"]) [some (.int mode), none, none, none, none, none] (fun L => []) G r ?ho ?hcd ?hbind ha ?hok ?hvs ?hent (fun L g o => ?h)
  case ho => exact rfl
  case hcd => kernel_rfl
  case hok => exact rfl
  case hvs => exact rfl
  case hent => exact fun _ => rfl
  case hbind =>
    obtain ⟨u, rfl, _⟩ := ha.inv1
    exact fun _ _ => BindsTo.of_eq rfl
  refine WF.cons (WF.asg (.loc 1 rfl) (WV.list (WA.nil ⟨Nat.zero_le _, fun pa => ⟨trivial, ?_⟩⟩)))
  refine WF.cons (WF.for (Src.enum (rest := []) (.blt (fun _ => rfl) rfl (by decide) rfl) (.glob (av := .ref 167) (fun _ => rfl) rfl rfl) (fmT_all G) (List.Perm.refl _) ⟨fun j st' => st' = ⟨[some (.int mode), some (.ref pa), none, none, none, none], [(pa, isList (fmK mode j))]⟩, rfl,
    ForT.tup (fun _ _ _ _ _ z => z) (fun hb' k1 _ j st' as hj hI hP => ?_), fun st' hI => WF.nil ?_⟩))
  · subst hI
    obtain ⟨a, ea, rfl⟩ := hP
    rw [List.getElem?_map] at ea
    obtain ⟨t, et, rfl⟩ := Option.map_eq_some_iff.mp ea
    have ht := fmT_ok (G.keeps k1) t (List.mem_of_getElem? et)
    have etD : fmT.getD j (0, []) = t := by rw [List.getD_eq_getElem?_getD, et]; rfl
    have hj10 : j < 10 := hj
    have add : ∀ (c : Cx) (st : AS), True := fun _ _ => trivial
    refine ⟨_, Tgs.cons (.loc 2 rfl) trivial (Tgs.cons (.loc 3 rfl) trivial .nil), WF.cons (WF.for (Src.tup (Pu.wv (.loc 3 rfl rfl) ⟨t.1, _, [], _, rfl, List.Perm.refl _, .inl ht.1, fun i st' => (∀ i' r', i' < i → t.2[i']? = some r' → hit j mode r'.2.1 = false) ∧ st' = ⟨[some (.int mode), some (.ref pa), some (.int j), some (.ref t.1), none, none], [(pa, isList (fmK mode j))]⟩, ⟨fun _ _ h => absurd h (Nat.not_lt_zero _), rfl⟩,
      ForT.tup (P := fun i as => ∃ r, t.2[i]? = some r ∧ as = [.int r.2.1, .str r.2.2]) (fun i v h _ kp z => ?_) (fun hb'' k1' _ i st' as hi hI hP => ?_), fun st' hI => ?_⟩)))⟩
    · obtain ⟨a, ea, ra⟩ := z
      rw [List.getElem?_map] at ea
      obtain ⟨r, er, rfl⟩ := Option.map_eq_some_iff.mp ea
      cases ra
      obtain ⟨o, eo, vs, n, hc, hd, rv⟩ := ht.2 r (List.mem_of_getElem? er)
      exact ⟨r.1, vs, _, rfl, ⟨o, kp _ _ eo, hc, n, hd⟩, rv, r, er, rfl⟩
    · obtain ⟨hno, rfl⟩ := hI
      obtain ⟨r', er, rfl⟩ := hP
      have yes : hit j mode r'.2.1 = true → fmK mode j ++ [.str r'.2.2] = fmK mode (j + 1) := fun h => by rw [fmK_snoc, etD, rowF_hit hno er h]
      have next : hit j mode r'.2.1 = false → ∀ i' r'', i' < i + 1 → t.2[i']? = some r'' → hit j mode r''.2.1 = false := fun h i' r'' hi' e => by
        rcases Nat.lt_succ_iff_lt_or_eq.mp hi' with h' | h'
        · exact hno i' r'' h' e
        · subst h'; rw [er] at e; cases e; exact h
      refine ⟨_, Tgs.cons (.loc 4 rfl) trivial (Tgs.cons (.loc 5 rfl) trivial .nil), ?_⟩
      by_cases hj0 : j = 0
      · subst hj0
        have hh : hit 0 mode r'.2.1 = (Builtin.bitAnd mode 61440 == r'.2.1) := rfl
        refine WF.cons (WF.ifT (Tt.cmp Op2.eqI (.loc 2 rfl rfl) .int) (WF.cons (WF.ifB (Tt.cmp Op2.eqI (Pu.of (WV.callN (f := 127) (.glob (fun _ => rfl) rfl rfl) (fun _ => by kernel_rfl) (WA.cons (Pu.wv (.loc 0 rfl rfl) (WA.nil fun vs rv => WV.call0 fun hbC G' _ _ => ifmt_sp G' (r.deeper _) rv ⟨rfl, rfl⟩))))) (.loc 4 rfl rfl)) (fun e => ?_) fun e => WF.nil (WF.nil (WF.nil ⟨_, .keep (.keep (.keep (.keep (.drop (.drop (.nil (List.Sublist.refl _))))))), next (hh.trans e), rfl⟩)))))
        refine WF.cons (WF.append (j := 0) (.loc 1 rfl rfl) rfl (.loc 5 rfl rfl) (by rw [fmK_len]; omega) (WF.cons (WF.brk (WF.nil ⟨_, .keep (.keep (.drop (.drop (.drop (.drop (.nil (List.Sublist.refl _))))))), ?_⟩))))
        show AS.mk _ _ = _
        rw [← yes (hh.trans e)]; rfl
      · have hh : hit j mode r'.2.1 = (Builtin.bitAnd mode r'.2.1 == r'.2.1) := if_neg hj0
        have hj0' : ((j : Int) == 0) = false := beq_eq_false_iff_ne.mpr (by omega)
        refine WF.cons (WF.ifF (hj0' ▸ Tt.cmp Op2.eqI (.loc 2 rfl rfl) .int) (WF.cons (WF.ifB (Tt.cmp Op2.eqI (Pu.bin Op2.band (.loc 0 rfl rfl) (.loc 4 rfl rfl)) (.loc 4 rfl rfl)) (fun e => ?_) fun e => WF.nil (WF.nil (WF.nil ⟨_, .keep (.keep (.keep (.keep (.drop (.drop (.nil (List.Sublist.refl _))))))), next (hh.trans e), rfl⟩)))))
        refine WF.cons (WF.append (j := 0) (.loc 1 rfl rfl) rfl (.loc 5 rfl rfl) (by rw [fmK_len]; omega) (WF.cons (WF.brk (WF.nil ⟨_, .keep (.keep (.drop (.drop (.drop (.drop (.nil (List.Sublist.refl _))))))), ?_⟩))))
        show AS.mk _ _ = _
        rw [← yes (hh.trans e)]; rfl
    · obtain ⟨hno, rfl⟩ := hI
      rw [List.length_map] at hno
      have fin := rowF_none hno
      by_cases hj0 : j = 0
      · subst hj0
        refine WF.cons (WF.ifT (Tt.cmp Op2.eqI (.loc 2 rfl rfl) .int) (WF.cons (WF.append (j := 0) (.loc 1 rfl rfl) rfl .str (by rw [fmK_len]; omega) (WF.nil (WF.nil (WF.nil ⟨_, .keep (.keep (.drop (.drop (.drop (.drop (.nil (List.Sublist.refl _))))))), ?_⟩))))))
        show AS.mk _ _ = _
        rw [fmK_snoc, etD, fin]; rfl
      · have hj0' : ((j : Int) == 0) = false := beq_eq_false_iff_ne.mpr (by omega)
        refine WF.cons (WF.ifF (hj0' ▸ Tt.cmp Op2.eqI (.loc 2 rfl rfl) .int) (WF.cons (WF.append (j := 0) (.loc 1 rfl rfl) rfl .str (by rw [fmK_len]; omega) (WF.nil (WF.nil (WF.nil ⟨_, .keep (.keep (.drop (.drop (.drop (.drop (.nil (List.Sublist.refl _))))))), ?_⟩))))))
        show AS.mk _ _ = _
        rw [fmK_snoc, etD, fin, if_neg hj0]; rfl
  · subst hI
    refine WF.cons (WF.ret (WV.meth (Pu.wv .str ⟨.str F.slot_str_join F.type_str_join, WA.cons (Pu.wv (.loc 1 rfl rfl) (WA.nil fun u vs ru rv => ?_))⟩)))
    obtain ⟨t, rfl⟩ := ru
    obtain ⟨v, rfl, rfl⟩ := rv.inv1
    refine WV.join (ys := fmL mode) (fun h H => (In.led 0 rfl : In _ _ pa _).w h H) ?_ ⟨[], List.nil_sublist _, k⟩
    rw [sum_len1 _ (fmL_one mode)]
    unfold fmL
    rw [List.length_map, List.length_range]; decide
structure Th where
  up : Int
  mode : Int
  owner : Int
  nm : Str
  sh : Str
def Th.avs (t : Th) : List AV := [.int t.up, .int t.mode, .int t.owner, .str t.nm, .str t.nm, .str t.sh]
/-- the things, as they lie -/
structure Things (h : Heap) (tl : Addr) (rs : List Addr) (T : List Th) : Prop where
  list : Bs h tl (isListW (rs.map .ref))
  len : rs.length = T.length
  item : ∀ (k : Nat) r t, rs[k]? = some r → T[k]? = some t → Bs h r (isListW t.avs)
def UpOk (T : List Th) : Prop := T.length ≤ 5 ∧ ∀ (k : Nat) t, T[k]? = some t → -1 ≤ t.up ∧ t.up < k
/-- the chain of a thing, from the root on -/
noncomputable def chainF (T : List Th) : Nat → Int → List Int
  | 0, _ => []
  | n + 1, i => if i < 0 then [] else chainF T n ((T[i.toNat]?.map (·.up)).getD (-1)) ++ [i]
theorem Things.get {h : Heap} {tl : Addr} {rs : List Addr} {T : List Th} (H : Things h tl rs T) {k : Nat} {t : Th} (e : T[k]? = some t) : ∃ r, (rs.map AV.ref)[k]? = some (.ref r) ∧ Bs h r (isListW t.avs) := by
  have hl : k < rs.length := by rw [H.len]; exact (List.getElem?_eq_some_iff.mp e).1
  exact ⟨rs[k], by rw [List.getElem?_map, List.getElem?_eq_getElem hl]; rfl, H.item k _ t (List.getElem?_eq_getElem hl) e⟩
theorem chainF_len (T : List Th) : ∀ n i, (chainF T n i).length ≤ n
  | 0, _ => Nat.le_refl _
  | n + 1, i => by
    rw [chainF]
    split
    · exact Nat.zero_le _
    · rw [List.length_append]; exact Nat.succ_le_succ (chainF_len T n _)
theorem chainF_step {T : List Th} {t : Th} {j : Nat} {n : Nat} (e : T[j]? = some t) : chainF T (n + 1) j = chainF T n t.up ++ [(j : Int)] := by
  rw [chainF, if_neg (by omega), Int.toNat_natCast, e]; rfl
theorem chainF_neg {T : List Th} {n : Nat} {i : Int} (h : i < 0) : chainF T n i = [] := by
  cases n with
  | zero => rfl
  | succ n => rw [chainF, if_pos h]
/-- the fuel is enough -/
theorem chainF_fuel {T : List Th} (hu : UpOk T) : ∀ (n m : Nat) (i : Int), i < T.length → i < n → i < m → chainF T n i = chainF T m i := by
  intro n
  induction n with
  | zero => intro m i _ h _; rw [chainF_neg (by omega), chainF_neg (by omega)]
  | succ n ih =>
    intro m i hi h h'
    by_cases hz : i < 0
    · rw [chainF_neg hz, chainF_neg hz]
    · obtain ⟨j, rfl⟩ := Int.eq_ofNat_of_zero_le (Int.not_lt.mp hz)
      obtain ⟨m, rfl⟩ : ∃ m', m = m' + 1 := ⟨m - 1, by omega⟩
      have hj : j < T.length := by omega
      have e := List.getElem?_eq_getElem hj
      have := (hu.2 j _ e)
      rw [chainF_step e, chainF_step e, ih m _ (by omega) (by omega) (by omega)]
theorem Wk.nw1 {vs : List (Option AV)} {nw nw' : List (Addr × OP)} (h : nw'.Sublist nw) : Wk ⟨vs, nw⟩ ⟨vs, nw'⟩ := ⟨fun _ _ e => e, h⟩
theorem chain_sp {w : World} {A : Around} {hb : Heap} {R : AV → List (Addr × OP) → Prop} {tl : Addr} {rs : List Addr} {T : List Th} {i : Nat} {vals : List Value} (G : Gr w hb) (r : Rm A 2) (H : Things hb tl rs T) (hu : UpOk T) (hi : i < T.length)
    (ha : AVs [.ref tl, .int i] vals) (k : ∀ a, R (.ref a) [(a, isList ((chainF T 5 i).map AV.int))]) : Sp w A hb [] (call (.ref 205) vals) R := by
  refine' Sp.def (n := 0) (ps := [Str.ofString "things", Str.ofString "i"]) (vars := [Str.ofString "things", Str.ofString "i", Str.ofString "chain"]) [some (.ref tl), some (.int i), none] (fun _ => []) G r ?ho ?hcd ?hbind ha ?hok ?hvs ?hent (fun L g o => ?h)
  case ho => exact rfl
  case hcd => kernel_rfl
  case hok => exact rfl
  case hvs => exact rfl
  case hent => exact fun _ => rfl
  case hbind =>
    obtain ⟨u, v, rfl, _, _⟩ := ha.inv2
    exact fun _ _ => BindsTo.of_eq rfl
  refine WF.cons (WF.asg (.loc 2 rfl) (WV.list (WA.nil ⟨Nat.zero_le _, fun a => ⟨trivial, ?_⟩⟩)))
  refine WF.cons (WF.while (fun n st' => ∃ (j : Int) (a : Addr) (acc : List Int), n = (j + 1).toNat ∧ -1 ≤ j ∧ j < T.length ∧ acc.length + (j + 1).toNat ≤ 5 ∧ chainF T 5 i = chainF T ((j + 1).toNat) j ++ acc ∧
      st' = ⟨[some (.ref tl), some (.int j), some (.ref a)], [(a, isList (acc.map AV.int))]⟩) (i + 1) ⟨i, a, [], by omega, by omega, by omega, by have := hu.1; simp only [List.length_nil]; omega, ?_, rfl⟩ (fun n st' hI => ?_))
  · have := hu.1
    rw [List.append_nil]
    exact chainF_fuel hu _ _ _ (by omega) (by omega) (by omega)
  · obtain ⟨j, a', acc, rfl, h1, h2, h3, h4, rfl⟩ := hI
    refine Tt.wb (Tt.cmp Op2.geI (.loc 1 rfl rfl) .int) ?_
    by_cases hj : 0 ≤ j
    · rw [decide_eq_true hj]
      obtain ⟨j, rfl⟩ := Int.eq_ofNat_of_zero_le hj
      have e := List.getElem?_eq_getElem (show j < T.length by omega)
      obtain ⟨q, e1, b1⟩ := H.get e
      have hup := hu.2 j _ e
      have hl := hu.1
      refine WF.cons (WF.asg (.loc 2 rfl) (WV.bin (WV.list (WA.cons (Pu.wv (.loc 1 rfl rfl) (WA.nil ⟨Nat.le_of_ble_eq_true rfl, fun a₁ => Pu.wv (.loc 2 rfl rfl) fun va vb ra rb => ?_⟩))))))
      cases ra; cases rb
      refine WV.cat (In.led 1 rfl) (In.led 0 rfl) (by rw [List.length_map]; exact Nat.le_trans (by show 1 + acc.length ≤ 6; omega) (by decide)) fun a₂ => ⟨trivial, ?_⟩
      refine WF.cons (WF.asg (.loc 1 rfl) (Pu.wv (Pu.item (Pu.item (.loc 0 rfl rfl) (.loc 1 rfl rfl) (.base H.list) (by omega) (by omega) e1) .int (.base b1) (by decide) (by decide) rfl) ⟨trivial, WF.nil ⟨_, .nw1 ((List.Sublist.refl _).cons _ |>.cons _), ((T[j]).up + 1).toNat, by omega, (T[j]).up, a₂, j :: acc, rfl, by omega, by omega, by rw [List.length_cons]; omega, ?_, rfl⟩⟩))
      rw [h4, show ((j : Int) + 1).toNat = j + 1 by omega, chainF_step e, List.append_assoc, chainF_fuel hu j ((T[j]).up + 1).toNat _ (by omega) (by omega) (by omega)]
      rfl
    · rw [decide_eq_false hj]
      refine WF.nil (WF.cons (WF.ret (Pu.wv (.loc 2 rfl rfl) ⟨_, List.Sublist.refl _, ?_⟩)))
      rw [chainF_neg (T := T) (i := j) (by omega), List.nil_append] at h4
      rw [← h4]
      exact k a'
def mkTh (place : Nat) (up mode owner q : Int) : Th := ⟨up, mode, owner, nameS (octN place q), fmF mode⟩
theorem thing_sp {w : World} {A : Around} {hb : Heap} {R : AV → List (Addr × OP) → Prop} {place : Nat} {u m ow q : Int} {vals : List Value} (G : Gr w hb) (r : Rm A 6) (hp : place < 5) (ha : AVs [.int place, .int u, .int m, .int ow, .int q] vals) (k : ∀ a, R (.ref a) [(a, isList (mkTh place u m ow q).avs)]) : Sp w A hb [] (call (.ref 198) vals) R := by
  refine' Sp.def (n := 4) (ps := [Str.ofString "place", Str.ofString "up", Str.ofString "mode", Str.ofString "owner", Str.ofString "q"]) (vars := [Str.ofString "place", Str.ofString "up", Str.ofString "mode", Str.ofString "owner", Str.ofString "q", Str.ofString "octets"]) [some (.int place), some (.int u), some (.int m), some (.int ow), some (.int q), none] (fun L => []) G r ?ho ?hcd ?hbind ha ?hok ?hvs ?hent (fun L g o => ?h)
  case ho => exact rfl
  case hcd => kernel_rfl
  case hok => exact rfl
  case hvs => exact rfl
  case hent => exact fun _ => rfl
  case hbind =>
    cases ha with | cons _ ha => cases ha with | cons _ ha => cases ha with | cons _ ha => cases ha with | cons _ ha => cases ha with | cons _ ha => cases ha with | nil =>
      exact fun _ _ => BindsTo.of_eq rfl
  have hl : (octN place q).length < 8 := by rw [octN_len]; omega
  have r' := r.deeper (envOfC (Str.ofString "_law_thing") (scopeOf (fnAt 47)) L 198 (.ref 197))
  refine WF.cons (WF.asg (.loc 5 rfl) (WV.callN (f := 179) (.glob (fun _ => rfl) rfl rfl) (fun _ => by kernel_rfl) (WA.cons (Pu.wv (.loc 0 rfl rfl) (WA.cons (Pu.wv (.loc 4 rfl rfl) (WA.nil fun vs rv => WV.call0 fun hbC G' _ _ => octets_sp G' (r'.le (by decide)) hp rv ⟨trivial, ?_⟩)))))))
  rw [octF_up]
  refine WF.cons (WF.ret (WV.list (WA.cons (Pu.wv (.loc 1 rfl rfl) (WA.cons (Pu.wv (.loc 2 rfl rfl) (WA.cons (Pu.wv (.loc 3 rfl rfl) (WA.cons (WV.callN (f := 184) (.glob (fun _ => rfl) rfl rfl) (fun _ => by kernel_rfl) (WA.cons (Pu.wv (.loc 5 rfl rfl) (WA.nil fun vs rv => WV.call0 fun hbC G' _ _ => spelled_sp G' (r'.le (by decide)) (byte_up (octN_lt place q)) (by rw [List.length_map]; exact hl) rv ?_)))))))))))))
  rw [spelled_eq _ hl]
  refine WA.cons (WV.meth (WV.callN (f := 120) (.glob (fun _ => rfl) rfl rfl) (fun _ => by kernel_rfl) (WA.cons (Pu.wv (.loc 5 rfl rfl) (WA.nil fun vs rv => WV.call0 fun hbC G' _ _ => urlsafe_sp G' r' (octN_lt place q) hl rv ⟨.bytes FB.slot_bytes_decode FB.type_bytes_decode, WA.cons (Pu.wv .str (WA.nil fun u vs ru rv => ?_))⟩)))))
  obtain ⟨t, rfl⟩ := ru
  obtain ⟨v, rfl, ⟨t', rfl⟩⟩ := rv.inv1
  have hsz : (transA urlA (byteArr (b2aL (octN place q)))).size = (b2aL (octN place q)).length := by unfold transA; rw [Array.size_map, byteArr_size]
  refine WV.decode (trans_ascii _) (by rw [hsz, b2aL_len, octN_len]; unfold sizeN; omega) (by rw [hsz, b2aL_len, octN_len]; unfold sizeN; omega) ?_
  rw [written_eq]
  refine WA.cons (WV.callN (f := 174) (.glob (fun _ => rfl) rfl rfl) (fun _ => by kernel_rfl) (WA.cons (Pu.wv (.loc 2 rfl rfl) (WA.nil fun vs rv => WV.call0 fun hbC G' _ _ => filemode_sp G' (r'.le (by decide)) rv (WA.nil ⟨by show 6 ≤ 1000; decide, fun a => ⟨_, ?_, k a⟩⟩)))))
  exact List.Sublist.refl _
theorem set_new0 {w : World} {A : Around} {s : Shared} {E : Value → Shared → Prop} {Q₁ : Value → Shared → Prop} (h : Q₁ (.ref s.heap.objs.size) { s with heap := s.heap.push (emptySet w) }) :
    codeAny (model Pg w) A (.call (.builtin "set.__new__") ⟨[.type "set"], []⟩) (wants Q₁ E) s := by
  refine codeAny_of_tree (wpAny_bind (wpAny_of_eq F.newCall_set_0 (wpAny_pure ⟨plainId_quiet F.plain_set_new _, codeAny_builtin F.entry_set_new ?_⟩)))
  rw [Around.under_plainId F.plain_set_new _]
  unfold Builtin.«set.__new__» Builtin.Frozenset.newClass
  have hsub := sub_set_self
  obtain ⟨hp, g, d, tk, os⟩ := s
  dsimp only
  wp_walk
  refine wpAny_askSetting (wpAny_pure ?_)
  dsimp only
  simp only [newObj]
  exact wpAny_bind (wpAny_alloc (wpAny_pure (wpAny_pure h)))
set_option maxHeartbeats 1000000 in
theorem call_set0 {w : World} {A : Around} {s : Shared} {E : Value → Shared → Prop} {Q : Value → Shared → Prop} (h : Q (.ref s.heap.objs.size) { s with heap := s.heap.push (emptySet w) }) : wpAny (model Pg w) A (call (.type "set") []) Q E s := by
  obtain ⟨c, tl, hmro⟩ := F.called_set.mro
  have hmade := F.called_set.made
  have hsub := F.called_set.sub
  refine wpAny_call (codeAny_of_tree ?_)
  show wpAny _ _ (callAny (.type "set") _) _ _ _
  refine wpAny_pure ⟨Code.quiet_builtin _ (by decide +kernel), codeAny_builtin F.entry_type_call ?_⟩
  rw [Around.under_plain (weight_type_call_type "set" [] []) rfl]
  have h1 := F.called_set.notType
  have h2 := F.called_set.canCreate
  have hct := F.typeCall_set_0
  repeat (any_goals (first | assumption | wp_step))
  refine codeAny_mono (set_new0 (w := w) (E := E) (Q₁ := fun obj s₁ => obj = .ref s.heap.objs.size ∧ s₁ = { s with heap := s.heap.push (emptySet w) }) ⟨rfl, rfl⟩) fun r s₁ hr => ?_
  cases r with
  | error e => exact hr
  | ok fl =>
    cases fl with
    | ret obj =>
      obtain ⟨rfl, rfl⟩ := hr
      have hS : (s.heap.push (emptySet w)).get? s.heap.objs.size = some (emptySet w) := Heap.get?_push_size _ rfl
      have hT : Shared.TypeIs { s with heap := s.heap.push (emptySet w) } (.ref s.heap.objs.size) "set" := ⟨_, hS, rfl⟩
      have hli := F.called_set.init.lookup
      have hbi := F.called_set.init.bind (.ref s.heap.objs.size)
      repeat (any_goals (first | assumption | wp_step))
      refine codeAny_mono (codeAny_call_builtin (R := wants (fun r s₂ => r = .none ∧ Q (.ref s.heap.objs.size) s₂) E) F.called_set.init.plain F.entry_set_init (check_set_init hT ?_)) fun r₂ s₂ hr₂ => ?_
      · unfold Builtin.«set.__init__» noKeywords
        wp_walk
        exact ⟨rfl, h⟩
      · cases r₂ with
        | error e => exact hr₂
        | ok fl₂ =>
          cases fl₂ with
          | ret r =>
            obtain ⟨rfl, hq⟩ := hr₂
            repeat (any_goals (first | assumption | wp_step))
          | _ => exact hr₂.elim
    | _ => exact hr.elim
section
variable {c : Cx} {st : AS}
/-- set() -/
theorem WV.set0 {x : Str} {np pos : Pos} {R : AV → AS → Prop} (hf : Pu c st (.Name x np) (.raw (.type "set"))) (k : ∀ a, R (.ref a) (st.new a (isSSet c.w []))) : WV c st (eval (.Call (.Name x np) [] [] pos) c.env) R := ⟨fun s hs =>
  wpAny_Call_ofName (hf.run hs fun u s₁ r h₁ => by
    cases r
    exact callWith_type0 (call_set0 ⟨.ref _, _, rfl, h₁.push rfl (sset_empty c.w), k _⟩))⟩
/-- {'k': e} -/
theorem WV.dict1 {y : Str} {kk : Nat} {kp pos : Pos} {e : Expr} {a : AV} {R : AV → AS → Prop} (he : ∀ st, Pu c st e a) (k : ∀ d, R (.ref d) (st.new d (isDict c.w d 1 (putM (fun _ => none) y a)))) : WV c st (eval (.Dict [some (.Constant (.str y) kk kp)] [e] pos) c.env) R := ⟨fun s hs => by
  have dz := newAddr hs
  have h0 : ∀ h : Heap, h.get? s.heap.objs.size = some { cls := .type "dict", data := .dict #[] } → h.DictOf (strKind Pg c.w) s.heap.objs.size [] := fun h e => by
    obtain ⟨o, e', h'⟩ := Heap.dictOf_iff.mp (Heap.DictOf.new (knd := strKind Pg c.w) s.heap)
    rw [Heap.get?_push_size _ rfl] at e'
    cases e'
    exact Heap.dictOf_iff.mpr ⟨_, e, h'⟩
  have hs1 : Sat c (st.new s.heap.objs.size (fun o => o = { cls := .type "dict", data := .dict #[] })) { s with heap := s.heap.push { cls := .type "dict", data := .dict #[] } } := hs.push rfl rfl
  refine wpAny_Dict_pairs (knd := strKind Pg c.w) (pairs := [(eval (.Constant (.str y) kk kp) c.env, do let x ← eval e c.env; standAt pos; pure x)]) rfl (by simp) (by simp) ?_
  refine evalPairs_cons (Pu.str.run hs1 fun u s₂ r q₂ => wpAny_bind ((he _).run q₂ fun v s₃ rv q₃ => wpAny_bind (wpAny_standAt (wpAny_pure (evalPairs_nil ?_)))))
  obtain ⟨t, rfl⟩ := r
  have ej : (st.new s.heap.objs.size (fun o => o = { cls := .type "dict", data := .dict #[] })).nw[st.nw.length]? = some (s.heap.objs.size, fun o => o = { cls := .type "dict", data := .dict #[] }) := by
    show (st.nw ++ [_])[st.nw.length]? = _
    rw [List.getElem?_append_right (Nat.le_refl _), Nat.sub_self]; rfl
  obtain ⟨o, eo, rfl⟩ := q₃.hp.get ej
  refine ⟨[(y, v)], ⟨strKind_is Pg c.w y t, rfl, trivial⟩, h0 _ eo, fun h' hd hsb => ⟨.ref _, _, rfl, ?_, k _⟩⟩
  have q₄ := q₃.upd ej hsb (P' := isDict c.w s.heap.objs.size 1 (putM (fun _ => none) y a)) ?_
  · have e2 : (st.new s.heap.objs.size (fun o => o = { cls := .type "dict", data := .dict #[] })).upd st.nw.length s.heap.objs.size (isDict c.w s.heap.objs.size 1 (putM (fun _ => none) y a)) = st.new s.heap.objs.size (isDict c.w s.heap.objs.size 1 (putM (fun _ => none) y a)) := by
      show AS.mk _ _ = AS.mk _ _
      congr 1
      show (st.nw ++ [_]).set st.nw.length _ = _
      rw [List.set_append_right _ _ (Nat.le_refl _), Nat.sub_self]; rfl
    rw [e2] at q₄
    exact q₄
  · obtain ⟨o, e, ho⟩ := Heap.dictOf_iff.mp hd
    refine ⟨o, e, dz, _, ho, Nat.le_of_ble_eq_true rfl, fun x => ?_⟩
    show (match putM (fun _ => none) y a x with | some a => ∃ v', valueAt (stored [] y v) x = some v' ∧ a.is v' | none => valueAt (stored [] y v) x = none)
    rw [valueAt_stored]
    unfold putM
    by_cases hx : x = y
    · rw [if_pos hx, if_pos hx]; exact ⟨v, rfl, rv⟩
    · rw [if_neg hx, if_neg hx]; rfl⟩
/-- a string, walked -/
theorem Src.str {target iter : Expr} {x : Str} {rest nwM : List (Addr × OP)} {R : (n : Nat) → (Nat → Value → Heap → Prop) → List (Option AV) → List (Addr × OP) → List (Addr × OP) → Prop}
    (h : Pu c st iter (.str x)) (pm : (rest ++ nwM).Perm st.nw) (hR : R x.cps.size (fun k v _ => k < x.cps.size ∧ (AV.str (chr x k)).is v) st.vs rest nwM) : Src c st target iter R := ⟨fun s hs =>
  h.run hs fun u s₁ r q => by
    obtain ⟨t, rfl⟩ := r
    have q' := q.perm pm
    have key : ∀ (T : String) (hT : T = "str_ascii_iterator" ∨ T = "str_iterator"), Walks Pg c.w c.A s₁.heap.objs.size [s₁.heap.objs.size] [s₁.heap.objs.size] x.cps.size (SignAt x) (fun i h => h.IsStrIter s₁.heap.objs.size T x t i) → Ready c target R (.ref s₁.heap.objs.size) { s₁ with heap := s₁.heap.push { cls := .type T, data := .fields #[.str x t, .int 0 0] } } := fun T hT D => by
      refine ⟨_, _, _, _, _, _, st.vs, rest, nwM, rfl, It.of (T := T) D (fun i h z a ha => ?_) (fun i h z => z.elim fun o y => ⟨o, _, y.1, y.2.1, y.2.2⟩) ?_ fun i v h z => ?_, apart_new q', q'.grow fun b ob e => Heap.get?_push_of_some _ e, ⟨_, Heap.get?_push_size _ rfl, rfl, rfl⟩, hR⟩
      · rw [List.mem_singleton] at ha; subst ha; exact z.elim fun o y => ⟨o, y.1⟩
      · rcases hT with rfl | rfl <;> decide
      · obtain ⟨ch, u, hc, rfl⟩ := z
        refine ⟨(Array.getElem?_eq_some_iff.mp hc).1, u, ?_⟩
        unfold chr; rw [hc]; rfl
    refine wpAny_pyIter_strU ?_
    unfold strIterType
    split
    · exact key _ (.inl rfl) (Walks.strAscii q.ok.rm.handled _ x t)
    · exact key _ (.inr rfl) (Walks.strWide q.ok.rm.handled _ x t)⟩
/-- x.startswith(y) -/
theorem Pu.starts {o e : Expr} {apos pos : Pos} {x y : Str} {pl : Sem Bool} (ho : Pu c st o (.str x)) (he : Pu c st e (.str y))
    (he' : eval (.Call (.Attribute o (Str.ofString "startswith") apos) [e] [] pos) c.env = (do
      let ov ← eval o c.env
      standAt apos.atName
      let (f, first) ← holding [ov] (getMethod ov (Str.ofString "startswith") pl)
      callWith pos f first (backTo pos (starEach [e] c.env)) []) := by rfl)
    (h1 : starEach [e] c.env = (false, eval e c.env) :: starEach [] c.env := by rfl) : Pu c st (.Call (.Attribute o (Str.ofString "startswith") apos) [e] [] pos) (.bool (Txt.startswith x y)) :=
  ⟨WV.meth (ho.wv ⟨.str F.slot_str_startswith F.type_str_startswith, WA.cons (he.wv (WA.nil fun u vs ru rv => by
    obtain ⟨t, rfl⟩ := ru
    obtain ⟨v, rfl, ⟨t', rfl⟩⟩ := rv.inv1
    exact ⟨fun s hs => SC.startswith ⟨.bool _, st, rfl, hs, rfl, rfl⟩⟩)) h1⟩) he' h1 rfl⟩
end
theorem k79_ga (w : World) : findIn (Kx w.params) (.ref 79) "__getattribute__" = some (some (.builtin "object.__getattribute__")) := by kernel_rfl
theorem k79_gt (w : World) : findIn (Kx w.params) (.ref 79) "__getattr__" = some none := by kernel_rfl
theorem k79_hd (w : World) : hasDictIn (Kx w.params) 79 = true := by kernel_rfl
theorem k79_m (w : World) : findIn (Kx w.params) (.ref 79) (Str.ofString "_mods") = some none := by kernel_rfl
theorem k79_d (w : World) : findIn (Kx w.params) (.ref 79) (Str.ofString "_dirs") = some none := by kernel_rfl
theorem k79_i (w : World) : findIn (Kx w.params) (.ref 79) (Str.ofString "_ignore") = some none := by kernel_rfl
theorem k79_tm (w : World) : takerIn (Kx w.params) 79 (Str.ofString "_mods") = some none := by kernel_rfl
theorem k79_td (w : World) : takerIn (Kx w.params) 79 (Str.ofString "_dirs") = some none := by kernel_rfl
theorem k79_ti (w : World) : takerIn (Kx w.params) 79 (Str.ofString "_ignore") = some none := by kernel_rfl
theorem k79_sa (w : World) : findIn (Kx w.params) (.ref 79) "__setattr__" = some (some (.builtin "object.__setattr__")) := by kernel_rfl
theorem k79_po (w : World) : plainOver (Kx w.params) 79 = true := by kernel_rfl
theorem k79_n (w : World) : findIn (Kx w.params) (.ref 79) (Str.ofString "names") = some (some (.ref 76)) := by kernel_rfl
theorem k79_nt (w : World) : typeIn (Kx w.params) (.ref 76) = some (.type "function") := by kernel_rfl
theorem k79_it (w : World) : typeIn (Kx w.params) (.ref 69) = some (.type "function") := by kernel_rfl
theorem k79_in (w : World) : findIn (Kx w.params) (.ref 79) "__init__" = some (some (.ref 69)) := by kernel_rfl
theorem k79_mk (w : World) : makesIn (Kx w.params) 79 = true := by kernel_rfl
section
variable {c : Cx} {st : AS}
/-- x.names(..) -/
theorem WV.methI {o : Expr} {name : Str} {apos pos : Pos} {e : Expr} {es : List Expr} {R : AV → AS → Prop} {pl : Sem Bool} {x dx f : Addr} {l : List (Str × AV)} (ho : Pu c st o (.ref x)) (hx : In c st x (isInst dx)) (hd : In c st dx (isAttrs l)) (hl : l.lookup name = none)
    (hf : ∀ w : World, findIn (Kx w.params) (.ref 79) name = some (some (.ref f))) (ht : ∀ w : World, typeIn (Kx w.params) (.ref f) = some (.type "function")) (hk : ∀ w : World, keepIn (Kx w.params) (.ref f) = true)
    (h : WA c st pos (e :: es) fun as st₁ => ∀ vs, AVs as vs → WV c st₁ (call (.ref f) (.ref x :: vs)) R)
    (he' : eval (.Call (.Attribute o name apos) (e :: es) [] pos) c.env = (do
      let ov ← eval o c.env
      standAt apos.atName
      let (f, first) ← holding [ov] (getMethod ov name pl)
      callWith pos f first (backTo pos (starEach (e :: es) c.env)) []) := by rfl)
    (he : starEach (e :: es) c.env = (false, eval e c.env) :: starEach es c.env := by rfl) (hp : (backTo pos (starEach es c.env)).any (·.1) = false := by rfl) : WV c st (eval (.Call (.Attribute o name apos) (e :: es) [] pos) c.env) R :=
  ⟨fun s hs => MethodCall_ (ho.run hs fun u s₁ r h₁ => by
    cases r
    obtain ⟨es', n, re, e', I⟩ := instAt hx hd h₁.hp
    obtain ⟨g1, _, _⟩ := re.none hl
    refine method_fn (h₁.ok.gr.X.keeps h₁.hp.keep) I (k79_ga c.w) (k79_gt c.w) (hf c.w) (ht c.w) (by show (lookIn name (dictOf es' n)).map _ = _; rw [lookIn_dict, g1]; rfl) ?_
    exact callWith_K (first := [.ref x]) hs.ok.gr.X (hk c.w) (h.run h₁ fun us s₂ as st₂ rs q₂ z₂ => ⟨q₂.ok.gr.X.keeps q₂.hp.keep, (z₂ us rs).go s₂ q₂⟩) he hp) he'⟩
end
theorem units79 (vals : List Value) : (Code.builtin "type.__call__" ⟨.ref 79 :: vals, []⟩).cUnits = 1 := by first | rfl | kernel_rfl
theorem Rm.under {A : Around} {n : Nat} (r : Rm A (n + 1)) (vals : List Value) : Rm (A.under (.builtin "type.__call__" ⟨.ref 79 :: vals, []⟩)) n := by
  refine ⟨r.1, ?_, ?_⟩
  · have := r.2; show A.depth + 1 + n < _; omega
  · have := r.3
    show A.units + (Code.builtin "type.__call__" ⟨.ref 79 :: vals, []⟩).cUnits + 20 * n < _
    rw [units79]; omega
/-- _Ignore(..) -/
theorem Sp.make {w : World} {A : Around} {hb : Heap} {nw : List (Addr × OP)} {vals : List Value} {R : AV → List (Addr × OP) → Prop} (G : Gr w hb)
    (h : ∀ x dx, SpC w (A.under (.builtin "type.__call__" ⟨.ref 79 :: vals, []⟩)) hb (nw ++ [(dx, isAttrs [])] ++ [(x, isInst dx)]) (.call (.ref 69) ⟨.ref x :: vals, []⟩) fun av nw' => av = .none ∧ R (.ref x) nw') : Sp w A hb nw (call (.ref 79) vals) R := ⟨fun s H => by
  have X := G.X.keeps H.keep
  obtain ⟨hh, g, d, t, os⟩ := s
  refine wpAny_call (make_core (makes_of X (k79_mk w)) (looks_findIn X (k79_in w)) (fun self => bind_fn X self (k79_it w)) (.inl rfl) ?_)
  have H1 := H.push (o := emptyDict) (P := isAttrs []) rfl ⟨[], 0, rfl, .nil⟩
  have H2 := H1.push (o := instObj 79 hh.objs.size) (P := isInst hh.objs.size) rfl rfl
  rw [Heap.size_push] at H2
  refine codeAny_mono ((h (hh.objs.size + 1) hh.objs.size).go _ H2) fun r s' z => ?_
  rcases r with e | (v | _ | _ | _)
  · exact z.elim
  · exact z.elim
  · exact z.elim
  · exact z.elim
  · obtain ⟨av, nw', r, H', eg, eo, rfl, z⟩ := z
    cases r
    exact ⟨rfl, .ref _, nw', rfl, H', eg, eo, z⟩⟩
abbrev attr3 (ms ds ig : Addr) : List (Str × AV) := [(Str.ofString "_mods", .ref ms), (Str.ofString "_dirs", .ref ds), (Str.ofString "_ignore", .ref ig)]
abbrev ig0 : Str → Option AV := putM (fun _ => none) (Str.ofString "<string>") (.int 1)
theorem init_sp {w : World} {A : Around} {hb : Heap} {R : AV → List (Addr × OP) → Prop} {x dx l : Addr} {ys : List Str} {vals : List Value} (G : Gr w hb) (r : Rm A 2) (hl : Bs hb l (isListW (ys.map AV.str))) (hz : ys.length ≤ 900) (ha : AVs [.ref x, .ref l] vals)
    (k : ∀ ms ds ig, R .none [(dx, isAttrs (attr3 ms ds ig)), (x, isInst dx), (ms, isSSet w ys), (ds, isList []), (ig, isDict w ig 1 ig0)]) : SpC w A hb [(dx, isAttrs []), (x, isInst dx)] (.call (.ref 69) ⟨vals, []⟩) R := by
  obtain ⟨u, v, rfl, ru, rv⟩ := ha.inv2
  refine' SpC.def (n := 0) (ps := [Str.ofString "self", Str.ofString "modules", Str.ofString "dirs"]) (vars := [Str.ofString "self", Str.ofString "modules", Str.ofString "dirs"]) (avs := [.ref x, .ref l, .none]) (pos' := [u, v, .none]) [some (.ref x), some (.ref l), some .none] (fun L => []) G r ?ho ?hcd ?hbind (.cons ru (.cons rv (.cons rfl .nil))) ?hok ?hvs ?hent (fun L g o => ?h)
  case ho => exact rfl
  case hcd => kernel_rfl
  case hok => exact rfl
  case hvs => exact rfl
  case hent => exact fun _ => rfl
  case hbind => exact fun s kp => kp_binds (G.X.keeps kp) fun _ => rfl
  have hz' : (ys.map AV.str).length ≤ 1000 := by rw [List.length_map]; omega
  have rest : ∀ ms, WF ⟨w, A.deeper (envOfC (Str.ofString "_Ignore.__init__") (scopeOf (mtAt 9 0)) L 69 (.ref 68)), 0, hb, g, o, envOfC (Str.ofString "_Ignore.__init__") (scopeOf (mtAt 9 0)) L 69 (.ref 68), [Str.ofString "self", Str.ofString "modules", Str.ofString "dirs"]⟩ ⟨[some (.ref x), some (.ref l), some .none], [(dx, isAttrs [(Str.ofString "_mods", .ref ms)]), (x, isInst dx), (ms, isSSet w ys)]⟩ (execs ((bodyOf (mtAt 9 0)).drop 1) (envOfC (Str.ofString "_Ignore.__init__") (scopeOf (mtAt 9 0)) L 69 (.ref 68))) fun fl st' => ∃ nw', nw'.Sublist st'.nw ∧ R fl.val nw' := fun ms => by
    refine WF.cons (WF.asgA (WV.ifx (Tt.wb (Tt.not (Tt.plain (.loc 2 rfl rfl) .none)) (WV.list (WA.nil ⟨Nat.zero_le _, fun ds => ⟨x, .loc 0 rfl rfl, fun u ru => WU.setAttr (j := 0) (In.led 1 rfl) rfl rfl (Nat.le_of_ble_eq_true rfl) ru k79_sa k79_po k79_td k79_hd ?_⟩⟩)))))
    refine WF.cons (WF.asgA (WV.dict1 (fun _ => Pu.int) fun ig => ⟨x, .loc 0 rfl rfl, fun u ru => WU.setAttr (j := 0) (In.led 1 rfl) rfl rfl (Nat.le_of_ble_eq_true rfl) ru k79_sa k79_po k79_ti k79_hd (WF.nil ⟨_, List.Sublist.refl _, k ms ds ig⟩)⟩))
  by_cases hy : ys = []
  · subst hy
    refine WF.cons (WF.asgA (WV.ifx (Tt.wb (Tt.not (Tt.list (xs := []) (.loc 1 rfl rfl) (.base hl) hz')) (WV.set0 (.blt (fun _ => rfl) rfl (by decide) rfl) fun ms => ⟨x, .loc 0 rfl rfl, fun u ru => WU.setAttr (j := 0) (In.led 1 rfl) rfl rfl (by decide) ru k79_sa k79_po k79_tm k79_hd (rest ms)⟩))))
  · have he : (!(!(ys.map AV.str).isEmpty)) = false := by
      cases ys with
      | nil => exact absurd rfl hy
      | cons a b => rfl
    refine WF.cons (WF.asgA (WV.ifx (Tt.wb (he ▸ Tt.not (Tt.list (.loc 1 rfl rfl) (.base hl) hz')) (WV.callT (.blt (fun _ => rfl) rfl (by decide) rfl) (WA.cons (Pu.wv (.loc 1 rfl rfl) (WA.nil fun vs rv => ?_)))))))
    obtain ⟨v, rfl, rfl⟩ := rv.inv1
    exact WV.setOf (.base hl) hz fun ms => ⟨x, .loc 0 rfl rfl, fun u ru => WU.setAttr (j := 0) (In.led 1 rfl) rfl rfl (by decide) ru k79_sa k79_po k79_tm k79_hd (rest ms)⟩
def refused (ys dl : List Str) (fl mn : Str) : Bool := ys.any (· == mn) || (ys.any (fun y => Txt.startswith mn (y ++ Str.ofString ".")) || dl.any fun d => Txt.startswith fl (d ++ Str.ofString "/"))
def bit (b : Bool) : Int := if b then 1 else 0
/-- a reader, as it lies -/
structure Rdr (w : World) (h : Heap) (rd dx ms ds ig : Addr) (ys dl : List Str) : Prop where
  inst : Bs h rd (isInst dx)
  attrs : Bs h dx (isAttrs (attr3 ms ds ig))
  mods : Bs h ms (isSSet w ys)
  dirs : Bs h ds (isListW (dl.map AV.str))
theorem Rdr.keeps {w : World} {h h' : Heap} {rd dx ms ds ig : Addr} {ys dl : List Str} (H : Rdr w h rd dx ms ds ig ys dl) (k : ∀ b o, h.get? b = some o → h'.get? b = some o) : Rdr w h' rd dx ms ds ig ys dl :=
  have up : ∀ {a : Addr} {P : OP}, Bs h a P → Bs h' a P := fun b => b.elim fun o x => ⟨o, k _ _ x.1, x.2⟩
  ⟨up H.inst, up H.attrs, up H.mods, up H.dirs⟩
section
variable {c : Cx} {st : AS} {rd dx ms ds ig : Addr} {ys dl : List Str}
theorem Rdr.pm (H : Rdr c.w c.hb rd dx ms ds ig ys dl) {y : Str} {p p' : Pos} (ho : Pu c st (.Name y p) (.ref rd)) : Pu c st (.Attribute (.Name y p) (Str.ofString "_mods") p') (.ref ms) := .attr ho (.base H.inst) (.base H.attrs) rfl k79_ga k79_hd k79_m fun v e => by cases e; rfl
theorem Rdr.pd (H : Rdr c.w c.hb rd dx ms ds ig ys dl) {y : Str} {p p' : Pos} (ho : Pu c st (.Name y p) (.ref rd)) : Pu c st (.Attribute (.Name y p) (Str.ofString "_dirs") p') (.ref ds) := .attr ho (.base H.inst) (.base H.attrs) rfl k79_ga k79_hd k79_d fun v e => by cases e; rfl
theorem Rdr.pi (H : Rdr c.w c.hb rd dx ms ds ig ys dl) {y : Str} {p p' : Pos} (ho : Pu c st (.Name y p) (.ref rd)) : Pu c st (.Attribute (.Name y p) (Str.ofString "_ignore") p') (.ref ig) := .attr ho (.base H.inst) (.base H.attrs) rfl k79_ga k79_hd k79_i fun v e => by cases e; rfl
/-- self._ignore[modulename] = i -/
theorem Rdr.mark (H : Rdr c.w c.hb rd dx ms ds ig ys dl) {x y : Str} {px py p1 p2 p3 p4 : Pos} {i : Int} {kk n j : Nat} {m : Str → Option AV} {mn : Str} {R : AF → AS → Prop} (hx : Pu c st (.Name x px) (.ref rd)) (hy : Pu c st (.Name y py) (.str mn)) (hj : st.nw[j]? = some (ig, isDict c.w ig n m)) (hz : n ≤ 1000)
    (k : R .next (st.upd j ig (isDict c.w ig (n + 1) (putM m mn (.int i))))) : WF c st (exec (.Assign [.Subscript (.Attribute (.Name x px) (Str.ofString "_ignore") p1) (.Name y py) p2] (.Constant (.int i) kk p3) p4) c.env) R :=
  WF.asgI (Pu.wv .int ⟨.ref ig, .str mn, H.pi hx, hy, fun ux uy u rx ry ru => by
    cases rx
    obtain ⟨t, rfl⟩ := ry
    exact WU.setD hj hz ru k⟩)
end
theorem startsTo {ys : List Str} {f : Str → Bool} {n : Nat} {Val : Nat → Value → Heap → Prop} (Ru : Runs ys n Val) (h : ∀ k, k < n → ∀ y ∈ ys, (∀ v h, Val k v h → (AV.str y).is v) → f y = false) : ys.any f = false := by
  rw [List.any_eq_false]
  intro y hy
  obtain ⟨k, hk, z⟩ := Ru.all y hy
  rw [h k hk y hy z]; exact Bool.false_ne_true
theorem names_sp {w : World} {A : Around} {hb : Heap} {R : AV → List (Addr × OP) → Prop} {rd dx ms ds ig : Addr} {ys dl : List Str} {n : Nat} {m : Str → Option AV} {fl mn : Str} {vals : List Value} (G : Gr w hb) (r : Rm A 2) (H : Rdr w hb rd dx ms ds ig ys dl) (hz : ys.length ≤ 900) (hn : n ≤ 1000) (hys : ∀ y ∈ ys, y.length ≤ 1000) (hdl : ∀ y ∈ dl, y.length ≤ 1000)
    (ha : AVs [.ref rd, .str fl, .str mn] vals) (k1 : ∀ a, m mn = some a → R a [(ig, isDict w ig n m)]) (k2 : m mn = none → R (.int (bit (refused ys dl fl mn))) [(ig, isDict w ig (n + 1) (putM m mn (.int (bit (refused ys dl fl mn)))))]) :
    Sp w A hb [(ig, isDict w ig n m)] (call (.ref 76) vals) R := by
  refine' Sp.def (n := 0) (ps := [Str.ofString "self", Str.ofString "filename", Str.ofString "modulename"]) (vars := [Str.ofString "self", Str.ofString "filename", Str.ofString "modulename", Str.ofString "mod", Str.ofString "d"]) [some (.ref rd), some (.str fl), some (.str mn), none, none] (fun L => []) G r ?ho ?hcd ?hbind ha ?hok ?hvs ?hent (fun L g o => ?h)
  case ho => exact rfl
  case hcd => kernel_rfl
  case hok => exact rfl
  case hvs => exact rfl
  case hent => exact fun _ => rfl
  case hbind =>
    cases ha with | cons _ ha => obtain ⟨u, v, rfl, _, _⟩ := ha.inv2; exact fun _ _ => BindsTo.of_eq rfl
  refine WF.cons (WF.ifB (Tt.inD (.loc 2 rfl rfl) (H.pi (.loc 0 rfl rfl)) (.led 0 rfl)) (fun e => ?_) fun e => WF.nil ?_)
  · obtain ⟨a, ea⟩ := Option.isSome_iff_exists.mp e
    exact WF.cons (WF.ret (Pu.wv (Pu.itemD (H.pi (.loc 0 rfl rfl)) (.loc 2 rfl rfl) (.led 0 rfl) ea) ⟨_, List.Sublist.refl _, k1 a ea⟩))
  have e0 : m mn = none := Option.not_isSome_iff_eq_none.mp (by rw [e]; exact Bool.false_ne_true)
  have k3 : refused ys dl fl mn = true → R (.int 1) [(ig, isDict w ig (n + 1) (putM m mn (.int 1)))] := fun h => by have := k2 e0; rw [h] at this; exact this
  refine WF.cons (WF.ifB (Tt.inSet (.loc 2 rfl rfl) (H.pm (.loc 0 rfl rfl)) (.base H.mods) (Nat.le_trans hz (by decide))) (fun e => ?_) fun e1 => WF.nil ?_)
  · refine WF.cons (H.mark (j := 0) (.loc 0 rfl rfl) (.loc 2 rfl rfl) rfl hn (WF.cons (WF.ret (Pu.wv .int ⟨_, List.Sublist.refl _, k3 ?_⟩))))
    unfold refused; rw [e]; rfl
  refine WF.cons (WF.for (Src.sset (rest := []) (H.pm (.loc 0 rfl rfl)) (List.Perm.refl _) (.inl H.mods) (Nat.le_trans hz (by decide)) fun nn Val Ru => ⟨fun j st' => (∀ k, k < j → ∀ y ∈ ys, (∀ v h, Val k v h → (AV.str y).is v) → Txt.startswith mn (y ++ Str.ofString ".") = false) ∧ st' = ⟨[some (.ref rd), some (.str fl), some (.str mn), none, none], [(ig, isDict w ig n m)]⟩, ⟨fun _ h => absurd h (Nat.not_lt_zero _), rfl⟩,
    ForT.one (fun _ => Tg.loc 3 rfl) (fun k a => ∃ y ∈ ys, a = .str y ∧ ∀ y', (∀ v h, Val k v h → (AV.str y').is v) → y' = y) (fun k v h hv => ?_) (fun hb' kp _ k st' a hk hI hA => ⟨trivial, ?_⟩), fun st' hI => WF.nil ?_⟩))
  · obtain ⟨y, hy, t, rfl⟩ := Ru.sub k v h hv
    exact ⟨.str y, ⟨y, hy, rfl, fun y' z => by obtain ⟨t', e⟩ := z _ h hv; cases e; rfl⟩, t, rfl⟩
  · obtain ⟨hI, rfl⟩ := hI
    obtain ⟨y, hy, rfl, hu⟩ := hA
    have H' := H.keeps kp
    refine WF.cons (WF.ifB (Tt.plain (Pu.starts (.loc 2 rfl rfl) (Pu.bin (Op2.cat (y := Str.ofString ".") ?_) (.loc 3 rfl rfl) .str)) .bool) (fun e => ?_) fun e => WF.nil (WF.nil ⟨_, .keep (.keep (.keep (.drop (.drop (.nil (List.Sublist.refl _)))))), fun k' hk' y' hy' z => ?_, rfl⟩))
    · exact Nat.le_trans (Nat.add_le_add_right (hys y hy) _) (by decide)
    · refine WF.cons (H'.mark (j := 0) (.loc 0 rfl rfl) (.loc 2 rfl rfl) rfl hn (WF.cons (WF.ret (Pu.wv .int ⟨_, List.Sublist.refl _, k3 ?_⟩))))
      unfold refused
      rw [show ys.any (fun y => Txt.startswith mn (y ++ Str.ofString ".")) = true from List.any_eq_true.mpr ⟨y, hy, e⟩, Bool.true_or, Bool.or_true]
    · rcases Nat.lt_succ_iff_lt_or_eq.mp hk' with h | h
      · exact hI k' h y' hy' z
      · subst h; rw [hu y' z]; exact e
  obtain ⟨hI, rfl⟩ := hI
  have e2 := startsTo Ru hI
  refine WF.cons (WF.ifF (Tt.cmp Op2.isSN (.loc 1 rfl rfl) .none) (WF.nil ?_))
  refine WF.cons (WF.for (Src.list (Pu.wv (H.pd (.loc 0 rfl rfl)) ⟨ds, _, [], _, rfl, List.Perm.refl _, .inl H.dirs, fun j st' => (∀ d ∈ dl.take j, Txt.startswith fl (d ++ Str.ofString "/") = false) ∧ st' = ⟨[some (.ref rd), some (.str fl), some (.str mn), none, none], [(ig, isDict w ig n m)]⟩, ⟨(fun d hd => nomatch hd), rfl⟩,
    ForT.one (fun _ => Tg.loc 4 rfl) (fun k a => ∃ d, dl[k]? = some d ∧ a = .str d) (fun k v h hv => ?_) (fun hb' kp _ k st' a hk hI hA => ⟨trivial, ?_⟩), fun st' hI => WF.nil ?_⟩)))
  · obtain ⟨a, ea, ra⟩ := hv
    rw [List.getElem?_map] at ea
    obtain ⟨d, ed, rfl⟩ := Option.map_eq_some_iff.mp ea
    exact ⟨.str d, ⟨d, ed, rfl⟩, ra⟩
  · obtain ⟨hI, rfl⟩ := hI
    obtain ⟨d, ed, rfl⟩ := hA
    have hd := List.mem_of_getElem? ed
    have H' := H.keeps kp
    refine WF.cons (WF.ifB (Tt.plain (Pu.starts (.loc 1 rfl rfl) (Pu.bin (Op2.cat (y := Str.ofString "/") ?_) (.loc 4 rfl rfl) (.glob (av := .str (Str.ofString "/")) (fun _ => rfl) rfl ⟨_, rfl⟩))) .bool) (fun e => ?_) fun e => WF.nil (WF.nil ⟨_, .keep (.keep (.keep (.drop (.drop (.nil (List.Sublist.refl _)))))), fun d' hd' => ?_, rfl⟩))
    · exact Nat.le_trans (Nat.add_le_add_right (hdl d hd) _) (by decide)
    · refine WF.cons (H'.mark (j := 0) (.loc 0 rfl rfl) (.loc 2 rfl rfl) rfl hn (WF.cons (WF.ret (Pu.wv .int ⟨_, List.Sublist.refl _, k3 ?_⟩))))
      unfold refused
      rw [show dl.any (fun d => Txt.startswith fl (d ++ Str.ofString "/")) = true from List.any_eq_true.mpr ⟨d, hd, e⟩, Bool.or_true, Bool.or_true]
    · rw [List.take_add_one, ed] at hd'
      rcases List.mem_append.mp hd' with h | h
      · exact hI d' h
      · rw [List.mem_singleton.mp h]; exact e
  obtain ⟨hI, rfl⟩ := hI
  have e3 : dl.any (fun d => Txt.startswith fl (d ++ Str.ofString "/")) = false := by
    rw [List.any_eq_false]
    intro d hd
    rw [List.length_map, List.take_of_length_le (Nat.le_refl _)] at hI
    rw [hI d hd]; exact Bool.false_ne_true
  have e4 : refused ys dl fl mn = false := by unfold refused; rw [e1, e2, e3]; rfl
  have k4 := k2 e0
  rw [e4] at k4
  exact WF.cons (H.mark (j := 0) (.loc 0 rfl rfl) (.loc 2 rfl rfl) rfl hn (WF.cons (WF.ret (Pu.wv .int ⟨_, List.Sublist.refl _, k4⟩))))
abbrev cl (s : Str) : List Nat := s.cps.toList
theorem cl_inj {a b : Str} (h : cl a = cl b) : a = b := by
  cases a; cases b; exact congrArg _ (Array.toList_inj.mp h)
theorem cl_app (a b : Str) : cl (a ++ b) = cl a ++ cl b := by
  show (a.cps ++ b.cps).toList = _
  rw [Array.toList_append]
theorem starts_iff (x y : Str) : Txt.startswith x y = true ↔ cl y <+: cl x := by
  unfold Txt.startswith
  rw [Bool.and_eq_true_iff, decide_eq_true_iff, StrLaws.subAt_eq, beq_iff_eq, List.drop_zero, List.prefix_iff_eq_take]
  have e : y.length = (cl y).length := Array.length_toList.symm
  have e' : x.length = (cl x).length := Array.length_toList.symm
  constructor
  · intro h; rw [← e]; exact h.2.symm
  · intro h
    refine ⟨?_, by rw [e]; exact h.symm⟩
    have := congrArg List.length h
    rw [List.length_take] at this
    omega
/-- texts about a sign -/
theorem split_pre {q : Nat} : ∀ {a b t u : List Nat}, q ∉ a → q ∉ b → (a ++ q :: t <+: b ++ q :: u ↔ a = b ∧ t <+: u)
  | [], [], t, u, _, _ => by
    rw [List.nil_append, List.nil_append, List.cons_prefix_cons]; exact ⟨fun h => ⟨rfl, h.2⟩, fun h => ⟨rfl, h.2⟩⟩
  | [], y :: b, t, u, _, hb => by
    rw [List.nil_append, List.cons_append, List.cons_prefix_cons]
    exact ⟨fun h => absurd (h.1 ▸ List.mem_cons_self) hb, fun h => nomatch h.1⟩
  | x :: a, [], t, u, ha, _ => by
    rw [List.nil_append, List.cons_append, List.cons_prefix_cons]
    exact ⟨fun h => absurd (h.1 ▸ List.mem_cons_self) ha, fun h => nomatch h.1⟩
  | x :: a, y :: b, t, u, ha, hb => by
    rw [List.cons_append, List.cons_append, List.cons_prefix_cons, split_pre (fun h => ha (.tail _ h)) (fun h => hb (.tail _ h)), List.cons.injEq]
    exact ⟨fun h => ⟨⟨h.1, h.2.1⟩, h.2.2⟩, fun h => ⟨h.1.1, h.1.2, h.2⟩⟩
theorem split_eq {q : Nat} {a b t u : List Nat} (ha : q ∉ a) (hb : q ∉ b) (h : a ++ q :: t = b ++ q :: u) : a = b ∧ t = u := by
  have h1 := (split_pre ha hb).mp (by rw [h]; exact List.prefix_refl _)
  have h2 := (split_pre hb ha).mp (by rw [h]; exact List.prefix_refl _)
  exact ⟨h1.1, h1.2.eq_of_length_le h2.2.length_le⟩
abbrev slash : Str := Str.ofString "/"
abbrev dot : Str := Str.ofString "."
theorem cl_slash : cl slash = [47] := by decide +kernel
theorem cl_dot : cl dot = [46] := by decide +kernel
theorem join2 (x y : Str) (r : List Str) : cl (Str.join slash (x :: y :: r)) = cl x ++ 47 :: cl (Str.join slash (y :: r)) := by
  show cl (x ++ slash ++ Str.join slash (y :: r)) = _
  rw [cl_app, cl_app, cl_slash, List.append_assoc]; rfl
theorem path_pre : ∀ (c d : List Str), (∀ x ∈ c, 47 ∉ cl x) → (∀ x ∈ d, 47 ∉ cl x) → c ≠ [] → (cl (Str.join slash c) ++ [47] <+: cl (Str.join slash d) ↔ c <+: d ∧ c.length < d.length)
  | [], d, _, _, h => absurd rfl h
  | [a], [], hc, hd, _ => by
    refine ⟨fun h => ?_, fun h => absurd h.2 (Nat.not_lt_zero _)⟩
    have := h.length_le
    rw [List.length_append] at this
    exact absurd this (Nat.not_succ_le_zero _)
  | [a], [b], hc, hd, _ => by
    refine ⟨fun h => ?_, fun h => absurd h.2 (Nat.lt_irrefl _)⟩
    exact absurd (h.subset (List.mem_append_right _ List.mem_cons_self)) (hd b List.mem_cons_self)
  | [a], b :: b' :: r, hc, hd, _ => by
    rw [join2]
    show cl a ++ 47 :: [] <+: _ ↔ _
    rw [split_pre (hc a List.mem_cons_self) (hd b List.mem_cons_self), List.cons_prefix_cons]
    exact ⟨fun h => ⟨⟨cl_inj h.1, List.nil_prefix⟩, by show 1 < _ + 1 + 1; omega⟩, fun h => ⟨congrArg cl h.1.1, List.nil_prefix⟩⟩
  | a :: a' :: c, [], hc, hd, _ => by
    refine ⟨fun h => ?_, fun h => absurd h.2 (Nat.not_lt_zero _)⟩
    have := h.length_le
    rw [List.length_append] at this
    exact absurd this (Nat.not_succ_le_zero _)
  | a :: a' :: c, [b], hc, hd, _ => by
    refine ⟨fun h => ?_, fun h => absurd h.2 (by show ¬ _ + 1 + 1 < 1; omega)⟩
    exact absurd (h.subset (List.mem_append_right _ List.mem_cons_self)) (hd b List.mem_cons_self)
  | a :: a' :: c, b :: b' :: r, hc, hd, _ => by
    rw [join2, join2, List.append_assoc, List.cons_append, split_pre (hc a List.mem_cons_self) (hd b List.mem_cons_self),
      path_pre (a' :: c) (b' :: r) (fun x hx => hc x (.tail _ hx)) (fun x hx => hd x (.tail _ hx)) (fun h => nomatch h), List.cons_prefix_cons (a := a)]
    exact ⟨fun h => ⟨⟨cl_inj h.1, h.2.1⟩, Nat.succ_lt_succ h.2.2⟩, fun h => ⟨congrArg cl h.1.1, h.1.2, Nat.lt_of_succ_lt_succ h.2⟩⟩
abbrev rwx : Str := Str.ofString "rwx"
abbrev lt (k : Nat) : Str := chr rwx k
def keyS (i k : Nat) : Str := Str.ofString (toString (i : Int)) ++ lt k
theorem key_inj : ∀ i, i < 5 → ∀ j, j < 5 → ∀ k, k < 3 → ∀ l, l < 3 → keyS i k = keyS j l → i = j ∧ k = l := fun i hi j hj k hk l hl h => by
  have e : ((List.range 5).all fun i => (List.range 5).all fun j => (List.range 3).all fun k => (List.range 3).all fun l => !(keyS i k == keyS j l) || (i == j && k == l)) = true := by decide +kernel
  have := List.all_eq_true.mp (List.all_eq_true.mp (List.all_eq_true.mp (List.all_eq_true.mp e i (List.mem_range.mpr hi)) j (List.mem_range.mpr hj)) k (List.mem_range.mpr hk)) l (List.mem_range.mpr hl)
  rw [beq_iff_eq.mpr h, Bool.not_true, Bool.false_or, Bool.and_eq_true_iff, beq_iff_eq, beq_iff_eq] at this
  exact this
theorem lt_ok : ∀ k, k < 3 → ∀ l, l < 3 → (lt k = lt l → k = l) := by decide +kernel
theorem lt_cl : ∀ k, k < 3 → (cl (lt k)).length = 1 ∧ 46 ∉ cl (lt k) := by decide +kernel
abbrev nmN (N : List Str) (i : Nat) : Str := N.getD i ⟨#[]⟩
def modS (N : List Str) (i k : Nat) : Str := nmN N i ++ dot ++ lt k
structure NOk (N : List Str) : Prop where
  le : N.length ≤ 5
  ok : ∀ i, i < N.length → 46 ∉ cl (nmN N i) ∧ 47 ∉ cl (nmN N i) ∧ (nmN N i).length ≤ 20
  inj : ∀ i j, i < N.length → j < N.length → nmN N i = nmN N j → i = j
theorem cl_mod (N : List Str) (i k : Nat) : cl (modS N i k) = cl (nmN N i) ++ 46 :: cl (lt k) := by
  unfold modS
  rw [cl_app, cl_app, cl_dot, List.append_assoc]; rfl
theorem mod_inj {N : List Str} (hN : NOk N) {i j k l : Nat} (hi : i < N.length) (hj : j < N.length) (hk : k < 3) (hl : l < 3) (h : modS N i k = modS N j l) : i = j ∧ k = l := by
  have := congrArg cl h
  rw [cl_mod, cl_mod] at this
  obtain ⟨h1, h2⟩ := split_eq (hN.ok i hi).1 (hN.ok j hj).1 this
  exact ⟨hN.inj i j hi hj (cl_inj h1), lt_ok k hk l hl (cl_inj h2)⟩
theorem mod_string {N : List Str} {i k : Nat} : modS N i k ≠ Str.ofString "<string>" := fun h => by
  have h1 : 46 ∈ cl (modS N i k) := by rw [cl_mod]; exact List.mem_append_right _ List.mem_cons_self
  rw [h] at h1
  exact absurd h1 (by decide +kernel)
def lostL (lost : Nat → Nat → Bool) (j : Nat) : List Nat := (List.range 3).filter (lost j)
def ysRow (N : List Str) (lost : Nat → Nat → Bool) (j : Nat) : List Str := if (lostL lost j).length = 3 then [nmN N j] else (lostL lost j).map (modS N j)
def ysF (N : List Str) (lost : Nat → Nat → Bool) (n : Nat) : List Str := (List.range n).flatMap (ysRow N lost)
def lacRow (lost : Nat → Nat → Bool) (j : Nat) : List Str := (lostL lost j).map (keyS j)
def lacF (lost : Nat → Nat → Bool) (n : Nat) : List Str := (List.range n).flatMap (lacRow lost)
def pathF (N : List Str) (c : List Int) : Str := Str.join slash (c.map fun e => nmN N e.toNat)
def belowB (ch c : List Int) : Bool := decide (c.length < ch.length) && (ch.take c.length == c)
theorem mem_lost {lost : Nat → Nat → Bool} {j k : Nat} : k ∈ lostL lost j ↔ k < 3 ∧ lost j k = true := by
  unfold lostL; rw [List.mem_filter, List.mem_range]
theorem all_lost {lost : Nat → Nat → Bool} {j : Nat} (h : (lostL lost j).length = 3) {k : Nat} (hk : k < 3) : lost j k = true := by
  have e : ((List.range 3).filter (lost j)).length = (List.range 3).length := h
  rw [List.length_filter_eq_length_iff] at e
  exact e k (List.mem_range.mpr hk)
theorem lac_iff {lost : Nat → Nat → Bool} {n i k : Nat} (hn : n ≤ 5) (hi : i < 5) (hk : k < 3) : (lacF lost n).any (· == keyS i k) = true ↔ i < n ∧ lost i k = true := by
  rw [List.any_eq_true]
  constructor
  · rintro ⟨z, hz, e⟩
    rw [beq_iff_eq] at e; subst e
    obtain ⟨j, hj, hz⟩ := List.mem_flatMap.mp hz
    obtain ⟨l, hl, e⟩ := List.mem_map.mp hz
    obtain ⟨hl3, hl⟩ := mem_lost.mp hl
    have hj := List.mem_range.mp hj
    obtain ⟨rfl, rfl⟩ := key_inj j (by omega) i hi l hl3 k hk e
    exact ⟨hj, hl⟩
  · rintro ⟨h1, h2⟩
    exact ⟨_, List.mem_flatMap.mpr ⟨i, List.mem_range.mpr h1, List.mem_map.mpr ⟨k, mem_lost.mpr ⟨hk, h2⟩, rfl⟩⟩, beq_self_eq_true _⟩
theorem ys_iff {N : List Str} (hN : NOk N) {lost : Nat → Nat → Bool} {n i k : Nat} (hn : n ≤ N.length) (hi : i < N.length) (hk : k < 3) :
    ((ysF N lost n).any (· == modS N i k) || (ysF N lost n).any fun y => Txt.startswith (modS N i k) (y ++ dot)) = true ↔ i < n ∧ lost i k = true := by
  rw [Bool.or_eq_true_iff, List.any_eq_true, List.any_eq_true]
  have row : ∀ y ∈ ysF N lost n, ∃ j, j < n ∧ (((lostL lost j).length = 3 ∧ y = nmN N j) ∨ ∃ l, l < 3 ∧ lost j l = true ∧ y = modS N j l) := fun y hy => by
    obtain ⟨j, hj, hy⟩ := List.mem_flatMap.mp hy
    refine ⟨j, List.mem_range.mp hj, ?_⟩
    unfold ysRow at hy
    split at hy
    · rename_i h3; exact .inl ⟨h3, List.mem_singleton.mp hy⟩
    · obtain ⟨l, hl, e⟩ := List.mem_map.mp hy
      exact .inr ⟨l, (mem_lost.mp hl).1, (mem_lost.mp hl).2, e.symm⟩
  constructor
  · rintro (⟨y, hy, e⟩ | ⟨y, hy, e⟩)
    · rw [beq_iff_eq] at e; subst e
      obtain ⟨j, hj, ⟨_, e⟩ | ⟨l, hl, h, e⟩⟩ := row _ hy
      · exfalso
        have h1 : 46 ∈ cl (modS N i k) := by rw [cl_mod]; exact List.mem_append_right _ List.mem_cons_self
        rw [e] at h1
        exact (hN.ok j (Nat.lt_of_lt_of_le hj hn)).1 h1
      · obtain ⟨rfl, rfl⟩ := mod_inj hN hi (Nat.lt_of_lt_of_le hj hn) hk hl e
        exact ⟨hj, h⟩
    · rw [starts_iff, cl_mod, cl_app, cl_dot] at e
      obtain ⟨j, hj, ⟨h3, rfl⟩ | ⟨l, hl, h, rfl⟩⟩ := row _ hy
      · have hj' := Nat.lt_of_lt_of_le hj hn
        have := ((split_pre (hN.ok j hj').1 (hN.ok i hi).1).mp e).1
        cases hN.inj j i hj' hi (cl_inj this)
        exact ⟨hj, all_lost h3 hk⟩
      · exfalso
        have hj' := Nat.lt_of_lt_of_le hj hn
        rw [cl_mod, List.append_assoc, List.cons_append] at e
        have := ((split_pre (hN.ok j hj').1 (hN.ok i hi).1).mp e).2.length_le
        rw [List.length_append, (lt_cl l hl).1, (lt_cl k hk).1] at this
        exact absurd this (by decide)
  · rintro ⟨h1, h2⟩
    by_cases h3 : (lostL lost i).length = 3
    · refine .inr ⟨nmN N i, List.mem_flatMap.mpr ⟨i, List.mem_range.mpr h1, ?_⟩, ?_⟩
      · unfold ysRow; rw [if_pos h3]; exact List.mem_singleton.mpr rfl
      · rw [starts_iff, cl_mod, cl_app, cl_dot, split_pre (hN.ok i hi).1 (hN.ok i hi).1]
        exact ⟨rfl, List.nil_prefix⟩
    · refine .inl ⟨modS N i k, List.mem_flatMap.mpr ⟨i, List.mem_range.mpr h1, ?_⟩, beq_self_eq_true _⟩
      unfold ysRow; rw [if_neg h3]; exact List.mem_map.mpr ⟨k, mem_lost.mpr ⟨hk, h2⟩, rfl⟩
/-- numbers of things -/
def Vd (n : Nat) (c : List Int) : Prop := ∀ e ∈ c, 0 ≤ e ∧ e < n
theorem map_pre {N : List Str} (hN : NOk N) : ∀ {c d : List Int}, Vd N.length c → Vd N.length d → (c.map (fun e => nmN N e.toNat) <+: d.map (fun e => nmN N e.toNat) ↔ c <+: d)
  | [], d, _, _ => ⟨fun _ => List.nil_prefix, fun _ => List.nil_prefix⟩
  | a :: c, [], _, _ => ⟨(fun h => absurd h.length_le (Nat.not_succ_le_zero _)), (fun h => absurd h.length_le (Nat.not_succ_le_zero _))⟩
  | a :: c, b :: d, hc, hd => by
    rw [List.map_cons, List.map_cons, List.cons_prefix_cons, List.cons_prefix_cons, map_pre hN (fun e h => hc e (.tail _ h)) (fun e h => hd e (.tail _ h))]
    refine ⟨fun h => ⟨?_, h.2⟩, fun h => ⟨by rw [h.1], h.2⟩⟩
    have h1 := hc a List.mem_cons_self
    have h2 := hd b List.mem_cons_self
    have := hN.inj a.toNat b.toNat (by omega) (by omega) h.1
    omega
theorem path_below {N : List Str} (hN : NOk N) {c d : List Int} (hc : Vd N.length c) (hd : Vd N.length d) (h0 : c ≠ []) : Txt.startswith (pathF N d) (pathF N c ++ slash) = belowB d c := by
  have vd : ∀ {c : List Int}, Vd N.length c → ∀ x ∈ c.map (fun e => nmN N e.toNat), 47 ∉ cl x := fun hc x hx => by
    obtain ⟨e, he, rfl⟩ := List.mem_map.mp hx
    exact (hN.ok e.toNat (by have := hc e he; omega)).2.1
  rw [Bool.eq_iff_iff, starts_iff, cl_app, cl_slash]
  unfold pathF belowB
  rw [path_pre _ _ (vd hc) (vd hd) (fun h => h0 (List.map_eq_nil_iff.mp h)), map_pre hN hc hd, List.length_map, List.length_map, Bool.and_eq_true_iff, decide_eq_true_iff, beq_iff_eq, List.prefix_iff_eq_take]
  exact ⟨fun h => ⟨h.2, h.1.symm⟩, fun h => ⟨h.2.symm, h.1⟩⟩
theorem refused_eq {N : List Str} (hN : NOk N) {lost : Nat → Nat → Bool} {n i k : Nat} {cs : List (List Int)} {ch : List Int} (hn : n ≤ N.length) (hi : i < N.length) (hk : k < 3) (hcs : ∀ c ∈ cs, Vd N.length c ∧ c ≠ []) (hch : Vd N.length ch) :
    refused (ysF N lost n) (cs.map (pathF N)) (pathF N ch) (modS N i k) = (cs.any (belowB ch) || (lacF lost n).any (· == keyS i k)) := by
  unfold refused
  have e1 : ((ysF N lost n).any (· == modS N i k) || (ysF N lost n).any fun y => Txt.startswith (modS N i k) (y ++ dot)) = (lacF lost n).any (· == keyS i k) := by
    rw [Bool.eq_iff_iff, ys_iff hN hn hi hk, lac_iff (Nat.le_trans hn hN.le) (Nat.lt_of_lt_of_le hi hN.le) hk]
  have e2 : (cs.map (pathF N)).any (fun d => Txt.startswith (pathF N ch) (d ++ Str.ofString "/")) = cs.any (belowB ch) := by
    rw [List.any_map]
    refine Bool.eq_iff_iff.mpr ?_
    rw [List.any_eq_true, List.any_eq_true]
    refine exists_congr fun c => and_congr_right fun hc => ?_
    show Txt.startswith (pathF N ch) (pathF N c ++ slash) = true ↔ _
    rw [path_below hN (hcs c hc).1 hch (hcs c hc).2]
  rw [← Bool.or_assoc, e1, e2, Bool.or_comm]
theorem band_nat (m b : Nat) : Builtin.bitAnd (m : Int) (b : Int) = ((m &&& b : Nat) : Int) := by
  unfold Builtin.bitAnd
  rw [decide_eq_true (Int.natCast_nonneg m), decide_eq_true (Int.natCast_nonneg b)]
  rfl
theorem hit_nat {k : Nat} (hk : k ≠ 0) (m b : Nat) : hit k (m : Int) (b : Int) = decide (m &&& b = b) := by
  unfold hit
  rw [if_neg hk, band_nat, Bool.eq_iff_iff, beq_iff_eq, decide_eq_true_iff]
  exact Int.natCast_inj
theorem and_or_iff (m a b : Nat) : m &&& (a ||| b) = a ||| b ↔ m &&& a = a ∧ m &&& b = b := by
  constructor
  · intro h
    constructor
    · have : m &&& ((a ||| b) &&& a) = (a ||| b) &&& a := by rw [← Nat.and_assoc, h]
      rwa [show (a ||| b) &&& a = a from by rw [Nat.and_comm]; exact Nat.eq_of_testBit_eq fun i => by rw [Nat.testBit_and, Nat.testBit_or]; cases a.testBit i <;> rfl] at this
    · have : m &&& ((a ||| b) &&& b) = (a ||| b) &&& b := by rw [← Nat.and_assoc, h]
      rwa [show (a ||| b) &&& b = b from by rw [Nat.and_comm]; exact Nat.eq_of_testBit_eq fun i => by rw [Nat.testBit_and, Nat.testBit_or]; cases b.testBit i <;> cases a.testBit i <;> rfl] at this
  · rintro ⟨h1, h2⟩
    rw [Nat.and_or_distrib_left, h1, h2]
theorem and_pow_iff (m j : Nat) : m &&& 2 ^ j = 2 ^ j ↔ m.testBit j = true := by
  constructor
  · intro h
    have := congrArg (fun x => x.testBit j) h
    rwa [Nat.testBit_and, Nat.testBit_two_pow, decide_eq_true rfl, Bool.and_true] at this
  · intro h
    refine Nat.eq_of_testBit_eq fun i => ?_
    rw [Nat.testBit_and, Nat.testBit_two_pow]
    by_cases hi : j = i
    · subst hi; rw [h]; rfl
    · rw [decide_eq_false hi, Bool.and_false]
/-- what a right's sign says -/
theorem row1 {k : Nat} (hk : k ≠ 0) (m j : Nat) (a : Addr) (ch : Str) (hc : Txt.contains (Str.ofString "-ST") ch = false) : Txt.contains (Str.ofString "-ST") (rowF k (m : Int) [(a, ((2 ^ j : Nat) : Int), ch)]) = !m.testBit j := by
  unfold rowF
  rw [List.find?_cons, hit_nat hk]
  by_cases h : m &&& 2 ^ j = 2 ^ j
  · rw [decide_eq_true h, (and_pow_iff m j).mp h]; exact hc
  · rw [decide_eq_false h]
    have : m.testBit j = false := Bool.eq_false_iff.mpr fun z => h ((and_pow_iff m j).mpr z)
    rw [this, if_neg hk]
    show Txt.contains (Str.ofString "-ST") (Str.ofString "-") = true
    decide +kernel
theorem row3 {k : Nat} (hk : k ≠ 0) (m j l : Nat) (a b c : Addr) (c1 c2 c3 : Str) (h1 : Txt.contains (Str.ofString "-ST") c1 = false) (h2 : Txt.contains (Str.ofString "-ST") c2 = true) (h3 : Txt.contains (Str.ofString "-ST") c3 = false) :
    Txt.contains (Str.ofString "-ST") (rowF k (m : Int) [(a, ((2 ^ j ||| 2 ^ l : Nat) : Int), c1), (b, ((2 ^ l : Nat) : Int), c2), (c, ((2 ^ j : Nat) : Int), c3)]) = !m.testBit j := by
  unfold rowF
  rw [List.find?_cons, hit_nat hk, List.find?_cons, hit_nat hk, List.find?_cons, hit_nat hk]
  have e := and_or_iff m (2 ^ j) (2 ^ l)
  by_cases hj : m &&& 2 ^ j = 2 ^ j
  · rw [(and_pow_iff m j).mp hj]
    by_cases hl : m &&& 2 ^ l = 2 ^ l
    · rw [decide_eq_true (e.mpr ⟨hj, hl⟩)]; exact h1
    · rw [decide_eq_false (fun z => hl (e.mp z).2), decide_eq_false hl, decide_eq_true hj]; exact h3
  · have : m.testBit j = false := Bool.eq_false_iff.mpr fun z => hj ((and_pow_iff m j).mpr z)
    rw [decide_eq_false (fun z => hj (e.mp z).1), this, decide_eq_false hj]
    by_cases hl : m &&& 2 ^ l = 2 ^ l
    · rw [decide_eq_true hl]; exact h2
    · rw [decide_eq_false hl, if_neg hk]
      show Txt.contains (Str.ofString "-ST") (Str.ofString "-") = true
      decide +kernel
def fc (mode : Int) (k : Nat) : Nat := ((rowF k mode (fmT.getD k (0, [])).2).cps[0]?).getD 0
theorem one_str {x : Str} (h : x.length = 1) : x = ⟨#[(x.cps[0]?).getD 0]⟩ := by
  obtain ⟨⟨l⟩⟩ := x
  match l, h with
  | [a], _ => rfl
theorem fmF_eq (mode : Int) : fmF mode = ⟨((List.range 10).map (fc mode)).toArray⟩ := by
  unfold fmF fmL
  have e : ((List.range 10).map fun k => rowF k mode (fmT.getD k (0, [])).2) = ((List.range 10).map (fc mode)).map fun k => (⟨#[k]⟩ : Str) := by
    rw [List.map_map]
    exact List.map_congr_left fun k hk => one_str (rowF_len (List.mem_range.mp hk))
  rw [e, join_ones]
def signsF (mode : Int) (w : Nat) : Str := Txt.slice (fmF mode) (some (1 + 3 * (w : Int))) (some (4 + 3 * (w : Int)))
theorem signs_eq (mode : Int) (w : Nat) (hw : w < 3) : signsF mode w = ⟨#[fc mode (1 + 3 * w), fc mode (2 + 3 * w), fc mode (3 + 3 * w)]⟩ := by
  unfold signsF
  rw [fmF_eq]
  match w, hw with
  | 0, _ => rfl
  | 1, _ => rfl
  | 2, _ => rfl
theorem signs_chr (mode : Int) {w k : Nat} (hw : w < 3) (hk : k < 3) : chr (signsF mode w) k = rowF (1 + 3 * w + k) mode (fmT.getD (1 + 3 * w + k) (0, [])).2 := by
  rw [signs_eq mode w hw]
  have e := one_str (rowF_len (k := 1 + 3 * w + k) (mode := mode) (by omega))
  rw [e]
  match k, hk with
  | 0, _ => rfl
  | 1, _ => show (⟨#[fc mode (2 + 3 * w)]⟩ : Str) = ⟨#[fc mode (1 + 3 * w + 1)]⟩; rw [show 1 + 3 * w + 1 = 2 + 3 * w by omega]
  | 2, _ => show (⟨#[fc mode (3 + 3 * w)]⟩ : Str) = ⟨#[fc mode (1 + 3 * w + 2)]⟩; rw [show 1 + 3 * w + 2 = 3 + 3 * w by omega]
theorem sign_bit (m : Nat) {w k : Nat} (hw : w < 3) (hk : k < 3) : Txt.contains (Str.ofString "-ST") (chr (signsF m w) k) = !m.testBit (8 - 3 * w - k) := by
  rw [signs_chr _ hw hk]
  match w, hw, k, hk with
  | 0, _, 0, _ => exact row1 (k := 1) (by decide) m 8 143 (Str.ofString "r") (by decide +kernel)
  | 0, _, 1, _ => exact row1 (k := 2) (by decide) m 7 145 (Str.ofString "w") (by decide +kernel)
  | 0, _, 2, _ => exact row3 (k := 3) (by decide) m 6 11 147 148 149 (Str.ofString "s") (Str.ofString "S") (Str.ofString "x") (by decide +kernel) (by decide +kernel) (by decide +kernel)
  | 1, _, 0, _ => exact row1 (k := 4) (by decide) m 5 151 (Str.ofString "r") (by decide +kernel)
  | 1, _, 1, _ => exact row1 (k := 5) (by decide) m 4 153 (Str.ofString "w") (by decide +kernel)
  | 1, _, 2, _ => exact row3 (k := 6) (by decide) m 3 10 155 156 157 (Str.ofString "s") (Str.ofString "S") (Str.ofString "x") (by decide +kernel) (by decide +kernel) (by decide +kernel)
  | 2, _, 0, _ => exact row1 (k := 7) (by decide) m 2 159 (Str.ofString "r") (by decide +kernel)
  | 2, _, 1, _ => exact row1 (k := 8) (by decide) m 1 161 (Str.ofString "w") (by decide +kernel)
  | 2, _, 2, _ => exact row3 (k := 9) (by decide) m 0 9 163 164 165 (Str.ofString "t") (Str.ofString "T") (Str.ofString "x") (by decide +kernel) (by decide +kernel) (by decide +kernel)
/-- the figure of a class -/
def figN (m w : Nat) : Nat := m / 8 ^ (2 - w) % 8
def lostB (m w k : Nat) : Bool := figN m w / 2 ^ (2 - k) % 2 == 0
theorem lost_bit (m : Nat) {w k : Nat} (hw : w < 3) (hk : k < 3) : lostB m w k = !m.testBit (8 - 3 * w - k) := by
  unfold lostB figN
  rw [Nat.testBit_eq_decide_div_mod_eq]
  have e : m / 8 ^ (2 - w) % 8 / 2 ^ (2 - k) % 2 = m / 2 ^ (8 - 3 * w - k) % 2 := by
    rw [show (8 : Nat) ^ (2 - w) = 2 ^ (3 * (2 - w)) by rw [Nat.pow_mul]]
    rw [show 8 - 3 * w - k = 3 * (2 - w) + (2 - k) by omega, Nat.pow_add, ← Nat.div_div_eq_div_mul]
    generalize m / 2 ^ (3 * (2 - w)) = x
    match k, hk with
    | 0, _ => show x % 8 / 4 % 2 = x / 4 % 2; omega
    | 1, _ => show x % 8 / 2 % 2 = x / 2 % 2; omega
    | 2, _ => show x % 8 / 1 % 2 = x / 1 % 2; omega
  rw [e]
  have := Nat.mod_lt (m / 2 ^ (8 - 3 * w - k)) (show 0 < 2 by decide)
  generalize m / 2 ^ (8 - 3 * w - k) % 2 = y at this ⊢
  match y, this with
  | 0, _ => rfl
  | 1, _ => rfl
theorem sign_lost (m : Nat) {w k : Nat} (hw : w < 3) (hk : k < 3) : Txt.contains (Str.ofString "-ST") (chr (signsF m w) k) = lostB m w k := (sign_bit m hw hk).trans (lost_bit m hw hk).symm
theorem signs_size (mode : Int) {w : Nat} (hw : w < 3) : (signsF mode w).cps.size = 3 := by rw [signs_eq mode w hw]; rfl
theorem isdir_nat (m : Nat) : (Builtin.bitAnd (m : Int) 61440 == 16384) = (m / 4096 % 16 == 4) := by
  have e : m &&& 61440 = (m / 4096 % 16) * 4096 := by
    have h1 : m &&& (15 <<< 12) = ((m >>> 12) &&& 15) <<< 12 := Nat.eq_of_testBit_eq fun i => by
      rw [Nat.testBit_and, Nat.testBit_shiftLeft, Nat.testBit_shiftLeft, Nat.testBit_and, Nat.testBit_shiftRight]
      by_cases h : 12 ≤ i
      · rw [show 12 + (i - 12) = i by omega]; cases m.testBit i <;> simp
      · rw [decide_eq_false h]; simp
    have h2 := Nat.and_two_pow_sub_one_eq_mod (m >>> 12) 4
    rw [show (61440 : Nat) = 15 <<< 12 from rfl, h1, show (15 : Nat) = 2 ^ 4 - 1 from rfl, h2, Nat.shiftLeft_eq, Nat.shiftRight_eq_div_pow]
  rw [show (61440 : Int) = ((61440 : Nat) : Int) from rfl, band_nat, e, Bool.eq_iff_iff, beq_iff_eq, beq_iff_eq]
  omega
/-- a session: where its parts lie, what they hold -/
structure Ses where
  tup : Addr
  rd : Addr
  dx : Addr
  ms : Addr
  ds : Addr
  ig : Addr
  lk : Addr
  sh : Addr
  kp : Addr
  chs : List Addr
  n0 : Nat
  lost : Nat → Nat → Bool
  ys : List Str
  cs : List (List Int)
  dl : List Str
  lac : List Str
  n1 : Nat
  m1 : Str → Option AV
  n2 : Nat
  m2 : Str → Option AV
def bitS (b : Bool) : Str := if b then Str.ofString "1" else Str.ofString "0"
inductive Rel : Option AV → Option AV → Prop
  | none : Rel none none
  | some (v : Bool) : Rel (some (.int (bit v))) (some (.str (bitS v)))
structure SesOk (N : List Str) (s : Ses) : Prop where
  n0 : s.n0 ≤ N.length
  ys : s.ys = ysF N s.lost s.n0
  lac : s.lac = lacF s.lost s.n0
  cs : ∀ c ∈ s.cs, Vd s.n0 c ∧ c ≠ [] ∧ c.length ≤ 5
  csl : s.cs.length ≤ 5
  dl : s.dl = s.cs.map (pathF N)
  chs : s.chs.length = s.cs.length
  rel : ∀ i k, i < N.length → k < 3 → Rel (s.m1 (modS N i k)) (s.m2 (keyS i k))
  d1 : ∀ z a, s.m1 z = some a → z = Str.ofString "<string>" ∨ ∃ i k, i < N.length ∧ k < 3 ∧ z = modS N i k
  d2 : ∀ z a, s.m2 z = some a → ∃ i k, i < N.length ∧ k < 3 ∧ z = keyS i k
def Ses.note (s : Ses) (z1 z2 : Str) (v : Bool) : Ses := { s with n1 := s.n1 + 1, m1 := putM s.m1 z1 (.int (bit v)), n2 := s.n2 + 1, m2 := putM s.m2 z2 (.str (bitS v)) }
theorem SesOk.note {N : List Str} {s : Ses} (S : SesOk N s) (hN : NOk N) {i k : Nat} (hi : i < N.length) (hk : k < 3) (v : Bool) : SesOk N (s.note (modS N i k) (keyS i k) v) := by
  refine ⟨S.n0, S.ys, S.lac, S.cs, S.csl, S.dl, S.chs, fun j l hj hl => ?_, fun z a h => ?_, fun z a h => ?_⟩
  · show Rel (putM s.m1 (modS N i k) (.int (bit v)) (modS N j l)) (putM s.m2 (keyS i k) (.str (bitS v)) (keyS j l))
    unfold putM
    by_cases h : j = i ∧ l = k
    · obtain ⟨rfl, rfl⟩ := h
      rw [if_pos rfl, if_pos rfl]; exact .some v
    · rw [if_neg fun z => h (mod_inj hN hj hi hl hk z), if_neg fun z => h (key_inj j (Nat.lt_of_lt_of_le hj hN.le) i (Nat.lt_of_lt_of_le hi hN.le) l hl k hk z)]
      exact S.rel j l hj hl
  · have h' : (if z = modS N i k then some (AV.int (bit v)) else s.m1 z) = some a := h
    split at h'
    · rename_i e; exact .inr ⟨i, k, hi, hk, e⟩
    · exact S.d1 z a h'
  · have h' : (if z = keyS i k then some (AV.str (bitS v)) else s.m2 z) = some a := h
    split at h'
    · rename_i e; exact ⟨i, k, hi, hk, e⟩
    · exact S.d2 z a h'
theorem nmN_snoc {N : List Str} {x : Str} {i : Nat} (h : i < N.length) : nmN (N ++ [x]) i = nmN N i := by
  unfold nmN
  rw [List.getD_eq_getElem?_getD, List.getD_eq_getElem?_getD, List.getElem?_append_left h]
theorem modS_snoc {N : List Str} {x : Str} {i k : Nat} (h : i < N.length) : modS (N ++ [x]) i k = modS N i k := by unfold modS; rw [nmN_snoc h]
theorem ysF_snoc {N : List Str} {x : Str} {lost : Nat → Nat → Bool} {n : Nat} (h : n ≤ N.length) : ysF (N ++ [x]) lost n = ysF N lost n := by
  unfold ysF
  rw [List.flatMap_def, List.flatMap_def]
  refine congrArg _ (List.map_congr_left fun j hj => ?_)
  have hj := Nat.lt_of_lt_of_le (List.mem_range.mp hj) h
  unfold ysRow
  rw [nmN_snoc hj]
  split
  · rfl
  · exact List.map_congr_left fun k _ => modS_snoc hj
theorem pathF_snoc {N : List Str} {x : Str} {c : List Int} {n : Nat} (h : n ≤ N.length) (hc : Vd n c) : pathF (N ++ [x]) c = pathF N c := by
  unfold pathF
  refine congrArg _ (List.map_congr_left fun e he => nmN_snoc ?_)
  have := hc e he
  omega
theorem SesOk.grow {N : List Str} {s : Ses} {x : Str} (S : SesOk N s) (hN : NOk (N ++ [x])) : SesOk (N ++ [x]) s := by
  have hl : (N ++ [x]).length = N.length + 1 := by rw [List.length_append]; rfl
  have hle : N.length + 1 ≤ 5 := hl ▸ hN.le
  refine ⟨Nat.le_trans S.n0 (by omega), S.ys.trans (ysF_snoc S.n0).symm, S.lac, S.cs, S.csl, S.dl.trans (List.map_congr_left fun c hc => (pathF_snoc S.n0 (S.cs c hc).1).symm), S.chs, fun i k hi hk => ?_, fun z a h => ?_, fun z a h => ?_⟩
  · by_cases h : i < N.length
    · rw [modS_snoc h]; exact S.rel i k h hk
    · have e1 : s.m1 (modS (N ++ [x]) i k) = none := by
        cases e : s.m1 (modS (N ++ [x]) i k) with
        | none => rfl
        | some a =>
          rcases S.d1 _ a e with h1 | ⟨j, l, hj, hl', h1⟩
          · exact absurd h1 mod_string
          · rw [← modS_snoc (x := x) hj] at h1
            have := (mod_inj hN hi (by omega) hk hl' h1).1
            omega
      have e2 : s.m2 (keyS i k) = none := by
        cases e : s.m2 (keyS i k) with
        | none => rfl
        | some a =>
          obtain ⟨j, l, hj, hl', h1⟩ := S.d2 _ a e
          have := (key_inj i (by omega) j (by omega) k hk l hl' h1).1
          omega
      rw [e1, e2]; exact .none
  · rcases S.d1 z a h with h1 | ⟨j, l, hj, hl', h1⟩
    · exact .inl h1
    · exact .inr ⟨j, l, by omega, hl', by rw [modS_snoc hj]; exact h1⟩
  · obtain ⟨j, l, hj, hl', h1⟩ := S.d2 z a h
    exact ⟨j, l, by omega, hl', h1⟩
/-- a fresh session is right -/
theorem SesOk.new {N : List Str} {s : Ses} (n0 : s.n0 ≤ N.length) (ys : s.ys = ysF N s.lost s.n0) (lac : s.lac = lacF s.lost s.n0) (cs : ∀ c ∈ s.cs, Vd s.n0 c ∧ c ≠ [] ∧ c.length ≤ 5) (csl : s.cs.length ≤ 5) (dl : s.dl = s.cs.map (pathF N)) (chs : s.chs.length = s.cs.length) (e1 : s.m1 = ig0) (e2 : s.m2 = fun _ => none) : SesOk N s := by
  refine ⟨n0, ys, lac, cs, csl, dl, chs, fun i k hi hk => ?_, fun z a h => ?_, fun z a h => ?_⟩
  · rw [e1, e2]
    show Rel (putM (fun _ => none) _ _ _) none
    unfold putM
    rw [if_neg mod_string]; exact .none
  · rw [e1] at h
    have h' : (if z = Str.ofString "<string>" then some (AV.int 1) else none) = some a := h
    split at h'
    · rename_i e; exact .inl e
    · cases h'
  · rw [e2] at h; cases h
theorem lostL_le (lost : Nat → Nat → Bool) (j : Nat) : (lostL lost j).length ≤ 3 := by
  unfold lostL
  exact Nat.le_trans (List.length_filter_le _ _) (by rw [List.length_range]; exact Nat.le_refl _)
theorem flat_le {f : Nat → List Str} (h : ∀ j, (f j).length ≤ 3) : ∀ n, ((List.range n).flatMap f).length ≤ 3 * n
  | 0 => Nat.le_refl _
  | n + 1 => by
    rw [List.range_succ, List.flatMap_append, List.length_append, List.flatMap_singleton]
    have := flat_le h n
    have := h n
    omega
theorem ysRow_le (N : List Str) (lost : Nat → Nat → Bool) (j : Nat) : (ysRow N lost j).length ≤ 3 := by
  unfold ysRow
  split
  · exact Nat.le_of_ble_eq_true rfl
  · rw [List.length_map]; exact lostL_le lost j
theorem ysF_le (N : List Str) (lost : Nat → Nat → Bool) (n : Nat) : (ysF N lost n).length ≤ 3 * n := flat_le (ysRow_le N lost) n
theorem lacF_le (lost : Nat → Nat → Bool) (n : Nat) : (lacF lost n).length ≤ 3 * n := flat_le (fun j => by unfold lacRow; rw [List.length_map]; exact lostL_le lost j) n
theorem len_cl (x : Str) : x.length = (cl x).length := Array.length_toList.symm
theorem mod_le {N : List Str} (hN : NOk N) {i k : Nat} (hi : i < N.length) (hk : k < 3) : (modS N i k).length ≤ 30 := by
  rw [len_cl, cl_mod, List.length_append, List.length_cons, (lt_cl k hk).1, ← len_cl]
  have := (hN.ok i hi).2.2
  omega
theorem ys_len {N : List Str} (hN : NOk N) {lost : Nat → Nat → Bool} {n : Nat} (hn : n ≤ N.length) : ∀ y ∈ ysF N lost n, y.length ≤ 1000 := fun y hy => by
  obtain ⟨j, hj, hy⟩ := List.mem_flatMap.mp hy
  have hj := Nat.lt_of_lt_of_le (List.mem_range.mp hj) hn
  unfold ysRow at hy
  split at hy
  · rw [List.mem_singleton.mp hy]; have := (hN.ok j hj).2.2; omega
  · obtain ⟨k, hk, rfl⟩ := List.mem_map.mp hy
    have := mod_le hN hj (mem_lost.mp hk).1
    omega
theorem join_len : ∀ {c : List Str} {b : Nat}, (∀ x ∈ c, x.length ≤ b) → (Str.join slash c).length ≤ c.length * (b + 1)
  | [], _, _ => Nat.zero_le _
  | [x], b, h => by
    show x.length ≤ 1 * (b + 1)
    have := h x List.mem_cons_self
    omega
  | x :: y :: r, b, h => by
    have h1 := h x List.mem_cons_self
    have h2 := join_len (c := y :: r) (b := b) fun z hz => h z (.tail _ hz)
    rw [len_cl, join2, List.length_append, List.length_cons, ← len_cl, ← len_cl, List.length_cons (a := x), Nat.add_mul (y :: r).length 1]
    omega
theorem path_len {N : List Str} (hN : NOk N) {c : List Int} (hc : Vd N.length c) (h5 : c.length ≤ 5) : (pathF N c).length ≤ 105 := by
  have : (pathF N c).length ≤ (c.map fun e => nmN N e.toNat).length * (20 + 1) := join_len fun x hx => by
    obtain ⟨e, he, rfl⟩ := List.mem_map.mp hx
    have := hc e he
    exact (hN.ok e.toNat (by omega)).2.2
  rw [List.length_map] at this
  omega
theorem Bs.up {h h' : Heap} {a : Addr} {P : OP} (b : Bs h a P) (k : ∀ b o, h.get? b = some o → h'.get? b = some o) : Bs h' a P := b.elim fun o x => ⟨o, k _ _ x.1, x.2⟩
theorem Bs.imp {h : Heap} {a : Addr} {P P' : OP} (b : Bs h a P) (k : ∀ o, P o → P' o) : Bs h a P' := b.elim fun o x => ⟨o, x.1, k o x.2⟩
theorem Things.keeps {h h' : Heap} {tl : Addr} {rs : List Addr} {T : List Th} (H : Things h tl rs T) (k : ∀ b o, h.get? b = some o → h'.get? b = some o) : Things h' tl rs T :=
  ⟨H.list.up k, H.len, fun i r t e e' => (H.item i r t e e').up k⟩
/-- a session's part that stands -/
structure SesB (w : World) (h : Heap) (s : Ses) : Prop where
  rdr : Rdr w h s.rd s.dx s.ms s.ds s.ig s.ys s.dl
  tup : Bs h s.tup (isTupW [.ref s.rd, .ref s.lk, .ref s.sh, .ref s.kp])
  lk : Bs h s.lk (isListW (s.lac.map AV.str))
  sh : Bs h s.sh (isListW (s.chs.map AV.ref))
  ch : ∀ (k : Nat) a c, s.chs[k]? = some a → s.cs[k]? = some c → Bs h a (isListW (c.map AV.int))
theorem SesB.keeps {w : World} {h h' : Heap} {s : Ses} (H : SesB w h s) (k : ∀ b o, h.get? b = some o → h'.get? b = some o) : SesB w h' s :=
  ⟨H.rdr.keeps k, H.tup.up k, H.lk.up k, H.sh.up k, fun i a c e e' => (H.ch i a c e e').up k⟩
section
variable {c : Cx} {st : AS}
theorem WF.wk {t : Sem Flow} {R : AF → AS → Prop} {st' : AS} (k : Wk st st') (h : WF c st' t R) : WF c st t R := W.weaken (fun _ hs => k.sat hs) h
theorem WF.perm {t : Sem Flow} {R : AF → AS → Prop} {nw' : List (Addr × OP)} (p : nw'.Perm st.nw) (h : WF c ⟨st.vs, nw'⟩ t R) : WF c st t R := W.weaken (fun _ hs => hs.perm p) h
theorem Tt.or2 {e f : Expr} {p : Pos} {a b : Bool} (h : Tt c st e a) (k : Tt c st f b) : Tt c st (.BoolOp .Or [e, f] p) (a || b) := by
  cases a with
  | true => exact .ops (.orT h)
  | false =>
    cases b with
    | true => exact .ops (.orF h (.orT k))
    | false => exact .ops (.orF h (.orF k .or0))
theorem WV.strI {i : Int} {t : Tok} {R : AV → AS → Prop} (hi : i.natAbs.log2 < 1920) (k : R (.str (Str.ofString (toString i))) st) : WV c st (call (.type "str") [.int i t]) R := ⟨fun s hs => P.str_of_int hi ⟨.str _, st, ⟨_, rfl⟩, hs, k⟩⟩
/-- xs.append(e), e makes something -/
theorem WF.appendV {o e : Expr} {apos p pos : Pos} {D : Addr} {R : AF → AS → Prop} {pl : Sem Bool} (ho : Pu c st o (.ref D)) {j₀ : Nat} {ys₀ : List AV} (hD : st.nw[j₀]? = some (D, isList ys₀))
    (he : WV c st (eval e c.env) fun y st₁ => ∃ j ys, st₁.nw[j]? = some (D, isList ys) ∧ ys.length ≤ 1000 ∧ R .next (st₁.upd j D (isList (ys ++ [y]))))
    (he' : eval (.Call (.Attribute o (Str.ofString "append") apos) [e] [] pos) c.env = (do
      let ov ← eval o c.env
      standAt apos.atName
      let (f, first) ← holding [ov] (getMethod ov (Str.ofString "append") pl)
      callWith pos f first (backTo pos (starEach [e] c.env)) []) := by rfl)
    (hi : swapsWith (.Call (.Attribute o (Str.ofString "append") apos) [e] [] pos) none p.line c.env = pure false := by rfl) (h1 : starEach [e] c.env = (false, eval e c.env) :: starEach [] c.env := by rfl) : WF c st (exec (.Expr (.Call (.Attribute o (Str.ofString "append") apos) [e] [] pos) p) c.env) R :=
  .expr (.meth (id := "list.append") (ho.wv ⟨.list (In.led j₀ hD) slot_list_append F.type_list_append, WA.cons (he.mono fun y st₁ z => WA.nil fun u vs ru rv => by
    obtain ⟨j, ys, hD', hz, k⟩ := z
    cases ru
    obtain ⟨v, rfl, r⟩ := rv.inv1
    exact ⟨fun s hs => append_at hs hD' r hz fun s' q => ⟨.none, _, rfl, q, k⟩⟩) h1⟩) he' h1 rfl) hi
/-- xs.extend(e) -/
theorem WF.extendV {o e : Expr} {apos p pos : Pos} {D : Addr} {R : AF → AS → Prop} {pl : Sem Bool} (ho : Pu c st o (.ref D)) {j₀ : Nat} {ys₀ : List AV} (hD : st.nw[j₀]? = some (D, isList ys₀))
    (he : WV c st (eval e c.env) fun y st₁ => ∃ j xs b ys, y = .ref b ∧ st₁.nw[j]? = some (D, isList xs) ∧ In c st₁ b (isList ys) ∧ xs.length + ys.length ≤ 1000 ∧ R .next (st₁.upd j D (isList (xs ++ ys))))
    (he' : eval (.Call (.Attribute o (Str.ofString "extend") apos) [e] [] pos) c.env = (do
      let ov ← eval o c.env
      standAt apos.atName
      let (f, first) ← holding [ov] (getMethod ov (Str.ofString "extend") pl)
      callWith pos f first (backTo pos (starEach [e] c.env)) []) := by rfl)
    (hi : swapsWith (.Call (.Attribute o (Str.ofString "extend") apos) [e] [] pos) none p.line c.env = pure false := by rfl) (h1 : starEach [e] c.env = (false, eval e c.env) :: starEach [] c.env := by rfl) : WF c st (exec (.Expr (.Call (.Attribute o (Str.ofString "extend") apos) [e] [] pos) p) c.env) R :=
  .expr (.meth (id := "list.extend") (ho.wv ⟨.list (In.led j₀ hD) F.slot_list_extend F.type_list_extend, WA.cons (he.mono fun y st₁ z => WA.nil fun u vs ru rv => by
    obtain ⟨j, xs, b, ys, rfl, hD', hb, hz, k⟩ := z
    cases ru
    obtain ⟨v, rfl, rfl⟩ := rv.inv1
    exact WV.extend hD' hb hz k) h1⟩) he' h1 rfl) hi
/-- xs.clear() -/
theorem WF.clear {o : Expr} {apos p pos : Pos} {D : Addr} {j : Nat} {xs : List AV} {R : AF → AS → Prop} {pl : Sem Bool} (ho : Pu c st o (.ref D)) (hD : st.nw[j]? = some (D, isList xs)) (hz : xs.length ≤ 1000) (k : R .next (st.upd j D (isList [])))
    (he' : eval (.Call (.Attribute o (Str.ofString "clear") apos) [] [] pos) c.env = (do
      let ov ← eval o c.env
      standAt apos.atName
      let (f, first) ← holding [ov] (getMethod ov (Str.ofString "clear") pl)
      callWith pos f first (backTo pos (starEach [] c.env)) []) := by rfl)
    (hi : swapsWith (.Call (.Attribute o (Str.ofString "clear") apos) [] [] pos) none p.line c.env = pure false := by rfl) : WF c st (exec (.Expr (.Call (.Attribute o (Str.ofString "clear") apos) [] [] pos) p) c.env) R :=
  .expr ⟨fun s hs => MethodCall_ (ho.run hs fun u s₁ r h₁ => by
    cases r
    exact (Gm.list (In.led j hD) F.slot_list_clear F.type_list_clear).go s₁ _ pl _ h₁ rfl (callWith_method0 ((WV.clear hD hz k).go s₁ h₁))) he'⟩ hi
end
def loopBody : Stmt → List Stmt
  | .For _ _ b _ _ => b
  | _ => []
def nthS (l : List Stmt) (i : Nat) : Stmt := (l[i]?).getD (.Pass ⟨0, 0, 0, 0⟩)
abbrev namesT (T : List Th) : List Str := T.map (·.nm)
theorem nmT {T : List Th} {k : Nat} {t : Th} (e : T[k]? = some t) : nmN (namesT T) k = t.nm := by
  unfold nmN
  rw [List.getD_eq_getElem?_getD, List.getElem?_map, e]; rfl
theorem chain_vd {T : List Th} (hu : UpOk T) : ∀ (n : Nat) (i : Int), i < T.length → Vd T.length (chainF T n i)
  | 0, i, _ => fun e he => nomatch he
  | n + 1, i, hi => by
    intro e he
    rw [chainF] at he
    split at he
    · cases he
    · rename_i h
      rcases List.mem_append.mp he with h1 | h1
      · refine chain_vd hu n _ ?_ e h1
        have hl : i.toNat < T.length := by omega
        rw [List.getElem?_eq_getElem hl]
        have := hu.2 i.toNat _ (List.getElem?_eq_getElem hl)
        show (T[i.toNat]).up < _
        omega
      · rw [List.mem_singleton.mp h1]; omega
theorem chain_ne {T : List Th} {n i : Nat} : chainF T (n + 1) (i : Int) ≠ [] := by
  rw [chainF, if_neg (by omega)]
  exact List.append_ne_nil_of_right_ne_nil _ (fun h => nomatch h)
theorem range_getD {α β : Type} (l : List α) (d : α) (f : α → β) : (List.range l.length).map (fun k => f (l.getD k d)) = l.map f := by
  refine List.ext_getElem (by rw [List.length_map, List.length_map, List.length_range]) fun k h1 h2 => ?_
  rw [List.length_map] at h2
  rw [List.getElem_map, List.getElem_map, List.getElem_range, List.getD_eq_getElem?_getD, List.getElem?_eq_getElem h2]; rfl
abbrev Ses.put (s : Ses) (n1 : Nat) (m1 : Str → Option AV) (n2 : Nat) (m2 : Str → Option AV) : Ses := { s with n1 := n1, m1 := m1, n2 := n2, m2 := m2 }
/-- one ask of a reader -/
theorem names_at {w : World} {A : Around} {hb : Heap} {s : Ses} {N : List Str} {i j n1 n2 : Nat} {m1 m2 : Str → Option AV} {ch : List Int} {v : Bool} {vals : List Value} (G : Gr w hb) (r : Rm A 2) (B : SesB w hb s) (hN : NOk N) {a1 a2 : Nat} {b1 b2 : Str → Option AV} (S : SesOk N (s.put a1 b1 a2 b2)) (hi : i < N.length) (hj : j < 3) (hn : n1 ≤ 1000)
    (ha : AVs [.ref s.rd, .str (pathF N ch), .str (modS N i j)] vals) (h1 : ∀ a, m1 (modS N i j) = some a → a = .int (bit v) ∧ SesOk N { s with n1 := n1, m1 := m1, n2 := n2, m2 := m2 })
    (h2 : m1 (modS N i j) = none → refused s.ys s.dl (pathF N ch) (modS N i j) = v ∧ SesOk N { s with n1 := n1 + 1, m1 := putM m1 (modS N i j) (.int (bit v)), n2 := n2, m2 := m2 }) :
    Sp w A hb [(s.ig, isDict w s.ig n1 m1)] (call (.ref 76) vals) fun av nw' => ∃ n1' m1', av = .int (bit v) ∧ nw' = [(s.ig, isDict w s.ig n1' m1')] ∧ n1' ≤ n1 + 1 ∧ SesOk N { s with n1 := n1', m1 := m1', n2 := n2, m2 := m2 } := by
  have hn0 : s.n0 ≤ N.length := S.n0
  have hys : s.ys = ysF N s.lost s.n0 := S.ys
  have hdl : s.dl = s.cs.map (pathF N) := S.dl
  refine names_sp G r B.rdr ?_ hn ?_ ?_ ha (fun a e => ?_) fun e => ?_
  · rw [hys]
    have := ysF_le N s.lost s.n0
    have := hN.le
    omega
  · rw [hys]; exact ys_len hN hn0
  · rw [hdl]
    intro y hy
    obtain ⟨c, hc, rfl⟩ := List.mem_map.mp hy
    have h : Vd s.n0 c ∧ c ≠ [] ∧ c.length ≤ 5 := S.cs c hc
    have : Vd N.length c := fun e he => by have := h.1 e he; omega
    have := path_len hN this h.2.2
    omega
  · obtain ⟨rfl, z⟩ := h1 a e
    exact ⟨n1, m1, rfl, rfl, Nat.le_succ _, z⟩
  · obtain ⟨e', z⟩ := h2 e
    rw [e']
    exact ⟨n1 + 1, _, rfl, rfl, Nat.le_refl _, z⟩
theorem any_range {α β : Type} (l : List α) (d : α) (q : α → Bool) (f : Nat → β) : (!(((List.range l.length).filter fun k => q (l.getD k d)).map f).isEmpty) = l.any q := by
  rw [Bool.eq_iff_iff, Bool.not_eq_true', List.any_eq_true]
  constructor
  · intro h
    obtain ⟨k, hk⟩ : ∃ k, k ∈ (List.range l.length).filter fun k => q (l.getD k d) := by
      cases e : (List.range l.length).filter fun k => q (l.getD k d) with
      | nil => rw [e] at h; cases h
      | cons k r => exact ⟨k, .head _⟩
    obtain ⟨h1, h2⟩ := List.mem_filter.mp hk
    have h1 := List.mem_range.mp h1
    rw [List.getD_eq_getElem?_getD, List.getElem?_eq_getElem h1] at h2
    exact ⟨_, List.getElem_mem h1, h2⟩
  · rintro ⟨x, hx, h⟩
    obtain ⟨k, hk, rfl⟩ := List.mem_iff_getElem.mp hx
    have : k ∈ (List.range l.length).filter fun k => q (l.getD k d) := List.mem_filter.mpr ⟨List.mem_range.mpr hk, by rw [List.getD_eq_getElem?_getD, List.getElem?_eq_getElem hk]; exact h⟩
    cases e : (List.range l.length).filter fun k => q (l.getD k d) with
    | nil => rw [e] at this; cases this
    | cons a r => rfl
theorem bit_str (v : Bool) : Str.ofString (toString (bit v)) = bitS v := by cases v <;> decide +kernel
theorem bit_log (v : Bool) : (bit v).natAbs.log2 < 1920 := by cases v <;> decide +kernel
theorem rel_inv1 {a : Option AV} {b : AV} (h : Rel a (some b)) : ∃ v, a = some (.int (bit v)) ∧ b = .str (bitS v) := by
  cases h with | some v => exact ⟨v, rfl, rfl⟩
theorem rel_inv0 {a : Option AV} (h : Rel a none) : a = none := by cases h; rfl
abbrev rEnv (L : Addr) : Env := envOfC (Str.ofString "_law_right") (scopeOf (fnAt 50)) L 215 (.ref 214)
abbrev rCx (w : World) (A : Around) (hb : Heap) (g : Array GenState) (o : OsState) (L : Addr) : Cx := ⟨w, A.deeper (rEnv L), 2, hb, g, o, rEnv L, [Str.ofString "session", Str.ofString "i", Str.ofString "letters", Str.ofString "reader", Str.ofString "lacking", Str.ofString "shut", Str.ofString "kept", Str.ofString "path", Str.ofString "letter", Str.ofString "key", Str.ofString "below"]⟩
abbrev rVs (s : Ses) (i : Nat) (lets path : Str) (l k b : Option AV) : List (Option AV) := [some (.ref s.tup), some (.int i), some (.str lets), some (.ref s.rd), some (.ref s.lk), some (.ref s.sh), some (.ref s.kp), some (.str path), l, k, b]
abbrev rNw (w : World) (s : Ses) (n1 : Nat) (m1 : Str → Option AV) (n2 : Nat) (m2 : Str → Option AV) : List (Addr × OP) := [(s.kp, isDict w s.kp n2 m2), (s.ig, isDict w s.ig n1 m1)]
/-- the turn's last statement: the answer is compared -/
theorem right_tail {w : World} {A : Around} {hb : Heap} {g : Array GenState} {o : OsState} {L : Addr} {s : Ses} {tl : Addr} {rs : List Addr} {T : List Th} {i j : Nat} {lets : Str} {ch : List Int} {bv : Option AV} {n1 n2 : Nat} {m1 m2 : Str → Option AV} {v : Bool} {P : AS → Prop} {Q : AF → AS → Prop}
    (G : Gr w hb) (r : Rm (A.deeper (rEnv L)) 3) (B : SesB w hb s) (H : Things hb tl rs T) (hN : NOk (namesT T)) {a1 a2 : Nat} {b1 b2 : Str → Option AV} (S : SesOk (namesT T) (s.put a1 b1 a2 b2)) (hi : i < T.length) (hj : j < 3) (hn : n1 ≤ 1000) (hc : Bs hb (L + 1) (isCell (some (.ref tl))))
    (hk2 : m2 (keyS i j) = some (.str (bitS v))) (h1 : ∀ a, m1 (modS (namesT T) i j) = some a → a = .int (bit v) ∧ SesOk (namesT T) (s.put n1 m1 n2 m2))
    (h2 : m1 (modS (namesT T) i j) = none → refused s.ys s.dl (pathF (namesT T) ch) (modS (namesT T) i j) = v ∧ SesOk (namesT T) (s.put (n1 + 1) (putM m1 (modS (namesT T) i j) (.int (bit v))) n2 m2))
    (hP : ∀ n1' m1', n1' ≤ n1 + 1 → SesOk (namesT T) (s.put n1' m1' n2 m2) → P ⟨rVs s i lets (pathF (namesT T) ch) none none none, rNw w s n1' m1' n2 m2⟩) :
    WF (rCx w A hb g o L) ⟨rVs s i lets (pathF (namesT T) ch) (some (.str (lt j))) (some (.str (keyS i j))) bv, rNw w s n1 m1 n2 m2⟩ (execs ((loopBody (nthS (bodyOf (fnAt 50)) 3)).drop 2) (rEnv L)) (LoopR P Q) := by
  have hiN : i < (namesT T).length := by rw [List.length_map]; exact hi
  have ei := List.getElem?_eq_getElem hi
  obtain ⟨ri, ei1, bi⟩ := H.get ei
  have eN : nmN (namesT T) i = (T[i]).nm := nmT ei
  have hnm := (hN.ok i hiN).2.2
  rw [eN] at hnm
  have hl1 : (lt j).length = 1 := by rw [len_cl]; exact (lt_cl j hj).1
  have hd1 : dot.length = 1 := by decide +kernel
  have em : (T[i]).nm ++ dot ++ lt j = modS (namesT T) i j := by unfold modS; rw [eN]
  have hB1 : ((T[i]).nm ++ dot).length + (lt j).length ≤ sizeLine := by
    rw [Str.length_append, hl1, hd1]; exact Nat.le_trans (show _ ≤ 1000 by omega) (by decide)
  have hB2 : (T[i]).nm.length + dot.length ≤ sizeLine := by
    rw [hd1]; exact Nat.le_trans (show _ ≤ 1000 by omega) (by decide)
  have ht5 := hN.le
  refine WF.cons (WF.iff (WB.cmp (WV.callT (.blt (fun _ => rfl) rfl (by decide) rfl) (WA.cons (WV.methI (x := s.rd) (.loc 3 rfl rfl) (.base B.rdr.inst) (.base B.rdr.attrs) rfl k79_n k79_nt (fun _ => by kernel_rfl) (WA.cons (Pu.wv (.loc 7 rfl rfl) (WA.cons (Pu.wv (Pu.bin (v := .str (modS (namesT T) i j)) (em ▸ Op2.cat hB1) (Pu.bin (Op2.cat hB2) (Pu.item (Pu.item (.celB (a := L + 1) rfl hc rfl) (.loc 1 rfl rfl) (.base H.list) (by omega) (by omega) ei1) .int (.base bi) (by decide) (by decide) rfl) .str) (.loc 8 rfl rfl)) (WA.nil fun vs rv => WV.callG (nwM := [(s.ig, isDict w s.ig n1 m1)]) (rest := [(s.kp, isDict w s.kp n2 m2)]) (List.Perm.refl _) fun hbC G' kp kr => (names_at (ch := ch) (i := i) (j := j) G' (r.le (by decide)) (B.keeps kp) hN S hiN hj hn (.cons rfl rv) h1 h2).mono fun av nw' z => ?_))))))))))
  obtain ⟨n1', m1', rfl, rfl, hn', S'⟩ := z
  refine WA.nil fun vs rv => ?_
  obtain ⟨u, rfl, ⟨t, rfl⟩⟩ := rv.inv1
  refine WV.strI (bit_log v) ⟨.str (bitS v), false, Pu.itemD (.loc 6 rfl rfl) (.loc 9 rfl rfl) (.led 0 rfl) hk2, fun va vb s' ra rb q => ?_, WF.nil (WF.nil ⟨_, .keep (.keep (.keep (.keep (.keep (.keep (.keep (.keep (.drop (.drop (.drop (.nil (List.Sublist.refl _)))))))))))), hP n1' m1' hn' S'⟩)⟩
  have ne : (bitS v != bitS v) = false := by rw [bne, beq_self_eq_true]; rfl
  have := (Op2.neS (c := rCx w A hb g o L) (x := bitS v) (y := bitS v)).go _ s' va vb q (bit_str v ▸ ra) rb
  rw [ne] at this
  exact this
theorem key_len : ∀ i : Nat, i < 5 → ∀ k, k < 3 → (Str.ofString (toString (i : Int))).length + (lt k).length ≤ 1000 := by decide +kernel
theorem log_len : ∀ i : Nat, i < 5 → (i : Int).natAbs.log2 < 1920 := by decide +kernel
/-- a letter is asked for -/
theorem right_turn {w : World} {A : Around} {hb : Heap} {g : Array GenState} {o : OsState} {L ca : Addr} {s : Ses} {tl : Addr} {rs : List Addr} {T : List Th} {i j : Nat} {lets : Str} {ch : List Int} {n1 n2 : Nat} {m1 m2 : Str → Option AV} {P : AS → Prop} {Q : AF → AS → Prop}
    (G : Gr w hb) (r : Rm (A.deeper (rEnv L)) 3) (B : SesB w hb s) (H : Things hb tl rs T) (hN : NOk (namesT T)) (S : SesOk (namesT T) (s.put n1 m1 n2 m2)) (hi : i < T.length) (hj : j < 3) (hn : n1 ≤ 910) (hn2 : n2 ≤ 910) (hch : Vd (namesT T).length ch) (h5 : ch.length ≤ 5) (hc : Bs hb (L + 1) (isCell (some (.ref tl)))) (hc2 : Bs hb (L + 2) (isCell (some (.ref ca)))) (hca : Bs hb ca (isList (ch.map AV.int)))
    (hP : ∀ n1' m1' n2' m2', n1' ≤ n1 + 1 → n2' ≤ n2 + 1 → SesOk (namesT T) (s.put n1' m1' n2' m2') → P ⟨rVs s i lets (pathF (namesT T) ch) none none none, rNw w s n1' m1' n2' m2'⟩) :
    WF (rCx w A hb g o L) ⟨rVs s i lets (pathF (namesT T) ch) (some (.str (lt j))) none none, rNw w s n1 m1 n2 m2⟩ (execs (loopBody (nthS (bodyOf (fnAt 50)) 3)) (rEnv L)) (LoopR P Q) := by
  have hiN : i < (namesT T).length := by rw [List.length_map]; exact hi
  have hi5 := Nat.lt_of_lt_of_le hiN hN.le
  have hys : s.ys = ysF (namesT T) s.lost s.n0 := S.ys
  have hdl : s.dl = s.cs.map (pathF (namesT T)) := S.dl
  have hlac : s.lac = lacF s.lost s.n0 := S.lac
  have hcl : s.chs.length = s.cs.length := S.chs
  have hc5 : s.cs.length ≤ 5 := S.csl
  have hn0 : s.n0 ≤ (namesT T).length := S.n0
  refine WF.cons (WF.asg (.loc 9 rfl) (Pu.wv (Pu.bin (v := .str (keyS i j)) (Op2.cat (Nat.le_trans (key_len i hi5 j hj) (by decide))) (Pu.strI (.blt (fun _ => rfl) rfl (by decide) rfl) (.loc 1 rfl rfl) (log_len i hi5)) (.loc 8 rfl rfl)) ⟨trivial, ?_⟩))
  have rel := S.rel i j hiN hj
  refine WF.cons (WF.ifB (Tt.ninD (.loc 9 rfl rfl) (.loc 6 rfl rfl) (.led 0 rfl)) (fun e => ?_) fun e => WF.nil ?_)
  · have e0 : m2 (keyS i j) = none := by
      cases h : m2 (keyS i j) with
      | none => rfl
      | some a => rw [h] at e; cases e
    have e1 : m1 (modS (namesT T) i j) = none := rel_inv0 (show Rel (m1 (modS (namesT T) i j)) none from e0 ▸ rel)
    refine WF.cons (WF.asgC (i := 10) (cl := [(Str.ofString "chain", L + 2)]) (vars := [Str.ofString "head"]) rfl rfl rfl (Src.list (Pu.wv (.loc 5 rfl rfl) ⟨s.sh, _, _, [], rfl, perm0, .inl B.sh, CompK.one (fun k => .ref (s.chs.getD k 0)) (fun k => belowB ch (s.cs.getD k [])) (fun k => .ref (s.chs.getD k 0)) ?_ (fun k v h hk hv => ?_) (fun hb' C k1 k2 k D ys hk => ?_) fun D => ?_⟩)))
    · rw [List.length_map]; omega
    · obtain ⟨a, ea, ra⟩ := hv
      rw [List.getElem?_map] at ea
      obtain ⟨n, en, rfl⟩ := Option.map_eq_some_iff.mp ea
      rw [List.getD_eq_getElem?_getD, en]; exact ra
    · rw [List.length_map] at hk
      have ek := List.getElem?_eq_getElem hk
      have ek' := List.getElem?_eq_getElem (hcl ▸ hk)
      have eg : s.chs.getD k 0 = s.chs[k] := by rw [List.getD_eq_getElem?_getD, ek]; rfl
      have eg' : s.cs.getD k [] = s.cs[k] := by rw [List.getD_eq_getElem?_getD, ek']; rfl
      have bk := (B.ch k _ _ ek ek').up k1
      have h5' : (s.cs[k]).length ≤ 5 := (S.cs _ (List.mem_of_getElem? ek')).2.2
      rw [eg, eg']
      generalize s.cs[k] = hd at bk h5' ⊢
      have bc := listW (hca.up k1)
      have el : decide ((((hd.map AV.int).length : Nat) : Int) < (((ch.map AV.int).length : Nat) : Int)) = decide (hd.length < ch.length) := by
        rw [List.length_map, List.length_map]; exact decide_eq_decide.mpr Int.ofNat_lt
      refine WB.ifs1 (WB.and2 (b := decide (hd.length < ch.length)) (el ▸ Tt.cmp Op2.ltI (Pu.lenL (.blt (fun _ => rfl) rfl (by decide) rfl) (.loc 0 rfl rfl) (.base bk) (by rw [List.length_map]; omega)) (Pu.lenL (.blt (fun _ => rfl) rfl (by decide) rfl) (.celB (a := L + 2) rfl (hc2.up k1) rfl) (.base bc) (by rw [List.length_map]; omega))) (fun e => ⟨?_, List.Sublist.refl _⟩) fun e => ?_)
      · unfold belowB; rw [e]; rfl
      · refine WB.cmp (WV.lslice (n := (hd.map AV.int).length) (.celB (a := L + 2) rfl (hc2.up k1) rfl) (Pu.lenL (.blt (fun _ => rfl) rfl (by decide) rfl) (.loc 0 rfl rfl) (.base bk) (by rw [List.length_map]; omega)) (.base bc) (by rw [List.length_map]; omega) fun a => ⟨.ref s.chs[k], (ch.take hd.length == hd), .loc 0 rfl rfl, fun va vb s' ra rb q => ?_, ?_, ?_⟩)
        · cases ra; cases rb
          refine eqLists (fun h H' => (In.led 1 ?_ : In _ _ a _).w h H') (.base bk) q
          rw [List.length_map, ← List.map_take]; rfl
        · unfold belowB; rw [e]; rfl
        · have hcond : ∀ (b : Bool) (X Y : Prop), (X ∧ Y) → cond b X Y := fun b X Y h => by cases b; exact h.2; exact h.1
          exact hcond _ _ _ ⟨Pu.wv (.loc 0 rfl rfl) ⟨rfl, List.sublist_append_left _ _⟩, List.sublist_append_left _ _⟩
    · have ev : ((!((((List.range (s.chs.map AV.ref).length).filter fun k => belowB ch (s.cs.getD k [])).map fun k => AV.ref (s.chs.getD k 0))).isEmpty) || s.lac.any (· == keyS i j)) = refused s.ys s.dl (pathF (namesT T) ch) (modS (namesT T) i j) := by
        rw [hys, hdl, refused_eq hN hn0 hiN hj (fun c hc => ⟨fun e he => by have h : Vd s.n0 c := (S.cs c hc).1; have := h e he; omega, (S.cs c hc).2.1⟩) hch, ← hlac, List.length_map, hcl, any_range s.cs [] (belowB ch)]
      have hz : (((List.range (s.chs.map AV.ref).length).filter fun k => belowB ch (s.cs.getD k [])).map fun k => AV.ref (s.chs.getD k 0)).length ≤ 1000 := by
        rw [List.length_map]
        refine Nat.le_trans (List.length_filter_le _ _) ?_
        rw [List.length_range, List.length_map]; omega
      refine WF.cons (WF.asgI (WV.ifx (Tt.wb (Tt.or2 (Tt.list (.loc 10 rfl rfl) (In.led 2 rfl).w hz) (Tt.inL (.loc 9 rfl rfl) (.loc 4 rfl rfl) (.base B.lk))) ?_)))
      rw [ev]
      generalize hv : refused s.ys s.dl (pathF (namesT T) ch) (modS (namesT T) i j) = v
      have S2 : SesOk (namesT T) (s.put (n1 + 1) (putM m1 (modS (namesT T) i j) (.int (bit v))) (n2 + 1) (putM m2 (keyS i j) (.str (bitS v)))) := S.note hN hiN hj v
      have fin : ∀ u, (AV.str (bitS v)).is u → ∀ ux uy, (AV.ref s.kp).is ux → (AV.str (keyS i j)).is uy → WU (rCx w A hb g o L) ⟨rVs s i lets (pathF (namesT T) ch) (some (.str (lt j))) (some (.str (keyS i j))) (some (.ref D)), rNw w s n1 m1 n2 m2 ++ [(D, isList (((List.range (s.chs.map AV.ref).length).filter fun k => belowB ch (s.cs.getD k [])).map fun k => AV.ref (s.chs.getD k 0)))]⟩ (setItem ux uy u) fun _ st₂ => WF (rCx w A hb g o L) st₂ (execs ((loopBody (nthS (bodyOf (fnAt 50)) 3)).drop 2) (rEnv L)) (LoopR P Q) := fun u ru ux uy rx ry => by
        cases rx
        obtain ⟨t, rfl⟩ := ry
        refine WU.setD (j := 0) rfl (by omega) ru ?_
        refine WF.wk (st' := ⟨rVs s i lets (pathF (namesT T) ch) (some (.str (lt j))) (some (.str (keyS i j))) (some (.ref D)), rNw w s n1 m1 (n2 + 1) (putM m2 (keyS i j) (.str (bitS v)))⟩) (.nw1 (List.sublist_append_left _ _)) ?_
        refine right_tail (v := v) G r B H hN S hi hj (by omega) hc (if_pos rfl) (fun a ea => nomatch ea.symm.trans e1) (fun _ => ⟨hv, S2⟩) fun n1' m1' h' S' => hP n1' m1' (n2 + 1) _ h' (Nat.le_refl _) S'
      cases v with
      | true => exact Pu.wv .str ⟨.ref s.kp, .str (keyS i j), .loc 6 rfl rfl, .loc 9 rfl rfl, fun ux uy u rx ry ru => W.mono (fin u ru ux uy rx ry) fun _ _ z => WF.nil z⟩
      | false => exact Pu.wv .str ⟨.ref s.kp, .str (keyS i j), .loc 6 rfl rfl, .loc 9 rfl rfl, fun ux uy u rx ry ru => W.mono (fin u ru ux uy rx ry) fun _ _ z => WF.nil z⟩
  · obtain ⟨a, ea⟩ : ∃ a, m2 (keyS i j) = some a := by
      cases h : m2 (keyS i j) with
      | none => rw [h] at e; cases e
      | some a => exact ⟨a, rfl⟩
    have rel' : Rel (m1 (modS (namesT T) i j)) (some a) := ea ▸ rel
    obtain ⟨v, e1, rfl⟩ := rel_inv1 rel'
    exact right_tail G r B H hN S hi hj (by omega) hc ea (fun a' ea' => ⟨by rw [e1] at ea'; cases ea'; rfl, S⟩) (fun e' => nomatch e'.symm.trans e1) fun n1' m1' h' S' => hP n1' m1' n2 m2 h' (Nat.le_succ _) S'
theorem right_sp {w : World} {A : Around} {hb : Heap} {R : AV → List (Addr × OP) → Prop} {s : Ses} {tl : Addr} {rs : List Addr} {T : List Th} {i : Nat} {lets : Str} {vals : List Value} (G : Gr w hb) (r : Rm A 4) (B : SesB w hb s) (H : Things hb tl rs T) (hu : UpOk T) (hN : NOk (namesT T)) (S : SesOk (namesT T) s) (hi : i < T.length)
    (hl : lets.cps.size ≤ 3) (hlt : ∀ k, k < lets.cps.size → chr lets k = lt k) (hb1 : s.n1 ≤ 900) (hb2 : s.n2 ≤ 900) (ha : AVs [.ref s.tup, .ref tl, .int i, .str lets] vals)
    (k : ∀ n1 m1 n2 m2, n1 ≤ s.n1 + 3 → n2 ≤ s.n2 + 3 → SesOk (namesT T) (s.put n1 m1 n2 m2) → R (.bool true) [(s.kp, isDict w s.kp n2 m2), (s.ig, isDict w s.ig n1 m1)]) :
    Sp w A hb [(s.kp, isDict w s.kp s.n2 s.m2), (s.ig, isDict w s.ig s.n1 s.m1)] (call (.ref 215) vals) R := by
  refine' Sp.def (n := 2) (ps := [Str.ofString "session", Str.ofString "things", Str.ofString "i", Str.ofString "letters"]) (vars := [Str.ofString "session", Str.ofString "i", Str.ofString "letters", Str.ofString "reader", Str.ofString "lacking", Str.ofString "shut", Str.ofString "kept", Str.ofString "path", Str.ofString "letter", Str.ofString "key", Str.ofString "below"]) [some (.ref s.tup), some (.int i), some (.str lets), none, none, none, none, none, none, none, none] (fun L => [(L + 2, isCell none), (L + 1, isCell (some (.ref tl)))]) G r ?ho ?hcd ?hbind ha ?hok ?hvs ?hent (fun L g o => ?h)
  case ho => exact rfl
  case hcd => kernel_rfl
  case hok => exact rfl
  case hvs => exact rfl
  case hent => exact fun _ => rfl
  case hbind =>
    cases ha with | cons _ ha => cases ha with | cons _ ha => obtain ⟨u, v, rfl, _, _⟩ := ha.inv2; exact fun _ _ => BindsTo.of_eq rfl
  have r' := r.deeper (envOfC (Str.ofString "_law_right") (scopeOf (fnAt 50)) L 215 (.ref 214))
  have hiN : i < (namesT T).length := by rw [List.length_map]; exact hi
  have hT5 := hu.1
  have hch := chain_vd hu 5 i (by omega)
  have hch' : Vd (namesT T).length (chainF T 5 i) := by rw [List.length_map]; exact hch
  have hch5 := chainF_len T 5 i
  have ei := List.getElem?_eq_getElem hi
  obtain ⟨ri, ei1, bi⟩ := H.get ei
  have eN : nmN (namesT T) i = (T[i]).nm := nmT ei
  generalize hCH : chainF T 5 i = ch at hch hch' hch5
  refine WF.cons (WF.asgT (Pu.wv (.loc 0 rfl rfl) ⟨s.tup, _, _, rfl, .inl (.base B.tup), Tgs.cons (.loc 3 rfl) trivial (Tgs.cons (.loc 4 rfl) trivial (Tgs.cons (.loc 5 rfl) trivial (Tgs.cons (.loc 6 rfl) trivial .nil))), ?_⟩))
  refine WF.cons (WF.asg (.cel 2 rfl rfl) (WV.callN (f := 205) (.glob (fun _ => rfl) rfl rfl) (fun _ => by kernel_rfl) (WA.cons (Pu.wv (.cel 3 rfl rfl rfl) (WA.cons (Pu.wv (.loc 1 rfl rfl) (WA.nil fun vs rv => WV.call0 fun hbC G' kp _ => chain_sp G' (r'.le (by decide)) (H.keeps kp) hu hi rv fun ca => ⟨⟨_, rfl⟩, ?_⟩)))))))
  rw [hCH]
  refine WF.cons (WF.asg (.loc 7 rfl) (WV.meth (Pu.wv .str ⟨.str F.slot_str_join F.type_str_join, WA.cons (WV.comp (cl := [(Str.ofString "things", L + 1)]) (vars := [Str.ofString "k"]) rfl rfl (Src.list (Pu.wv (.cel 2 rfl rfl rfl) ⟨ca, _, _, [], rfl, perm0, .inr ⟨_, .tail _ (.tail _ (.tail _ (.tail _ (.head _)))), listWo⟩, CompK.one (fun k => .int (ch.getD k 0)) (fun _ => true) (fun k => .str (nmN (namesT T) (ch.getD k 0).toNat)) ?_ (fun k v h hk hv => ?_) (fun hb' C k1 k2 k D ys hk => ?_) fun D => WA.nil fun u vs ru rv => ?_⟩)))⟩)))
  · rw [List.length_map]; omega
  · obtain ⟨a, ea, ra⟩ := hv
    rw [List.getElem?_map] at ea
    obtain ⟨n, en, rfl⟩ := Option.map_eq_some_iff.mp ea
    rw [List.getD_eq_getElem?_getD, en]; exact ra
  · rw [List.length_map] at hk
    have ek := List.getElem?_eq_getElem hk
    have hv := hch _ (List.mem_of_getElem? ek)
    have eg : ch.getD k 0 = ch[k] := by rw [List.getD_eq_getElem?_getD, ek]; rfl
    have et := List.getElem?_eq_getElem (show (ch[k]).toNat < T.length by omega)
    obtain ⟨q, e1, b1⟩ := (H.keeps k1).get et
    refine WB.ifs0 ⟨rfl, Pu.wv (Pu.item (Pu.item (.celB (a := L + 1) rfl (k2 _ (.tail _ (.tail _ (.tail _ (.head _))))) rfl) (.loc 0 rfl rfl) (.base (H.keeps k1).list) (by rw [eg]; omega) (by rw [eg]; omega) (by rw [eg]; exact e1)) .int (.base b1) (by decide) (by decide) rfl) ⟨?_, List.Sublist.refl _⟩⟩
    rw [eg, nmT et]
  · obtain ⟨t, rfl⟩ := ru
    obtain ⟨v, rfl, rfl⟩ := rv.inv1
    refine WV.join (ys := ch.map fun e => nmN (namesT T) e.toNat) (fun h H' => (In.led 5 ?_ : In _ _ D _).w h H') ?_ ⟨trivial, ?_⟩
    · rw [filter_all (fun _ => rfl), List.length_map, List.map_map]
      show some (D, isList ((List.range ch.length).map fun k => AV.str (nmN (namesT T) (ch.getD k 0).toNat))) = _
      rw [range_getD ch 0 fun e => AV.str (nmN (namesT T) e.toNat)]
      rfl
    · have hb' : ∀ l : List Str, (∀ x ∈ l, x.length ≤ 20) → (l.map (·.length)).sum ≤ l.length * 20 := fun l => by
        induction l with
        | nil => intro _; exact Nat.le_refl _
        | cons x l ih =>
          intro h
          have h1 := h x List.mem_cons_self
          have h2 := ih fun y hy => h y (.tail _ hy)
          rw [List.map_cons, List.sum_cons, List.length_cons, Nat.add_mul]
          omega
      have := hb' (ch.map fun e => nmN (namesT T) e.toNat) fun x hx => by
        obtain ⟨e, he, rfl⟩ := List.mem_map.mp hx
        have := hch' e he
        exact (hN.ok e.toNat (by omega)).2.2
      rw [List.length_map] at this ⊢
      have e1 : (Str.ofString "/").length = 1 := by decide +kernel
      rw [e1]
      omega
    show WF _ _ _ _
    refine WF.wk (st' := ⟨[some (.ref s.tup), some (.int i), some (.str lets), some (.ref s.rd), some (.ref s.lk), some (.ref s.sh), some (.ref s.kp), some (.str (pathF (namesT T) ch)), none, none, none], [(s.kp, isDict w s.kp s.n2 s.m2), (s.ig, isDict w s.ig s.n1 s.m1), (L + 2, isCell (some (.ref ca))), (L + 1, isCell (some (.ref tl))), (ca, isList (ch.map AV.int))]⟩) (.nw1 (List.sublist_append_left _ _)) ?_
    refine WF.cons (WF.for (Src.str (rest := [(L + 2, isCell (some (.ref ca))), (L + 1, isCell (some (.ref tl))), (ca, isList (ch.map AV.int))]) (nwM := [(s.kp, isDict w s.kp s.n2 s.m2), (s.ig, isDict w s.ig s.n1 s.m1)]) (.loc 2 rfl rfl) List.perm_append_comm
      ⟨fun j st' => ∃ n1 m1 n2 m2, n1 ≤ s.n1 + j ∧ n2 ≤ s.n2 + j ∧ SesOk (namesT T) (s.put n1 m1 n2 m2) ∧ st' = ⟨[some (.ref s.tup), some (.int i), some (.str lets), some (.ref s.rd), some (.ref s.lk), some (.ref s.sh), some (.ref s.kp), some (.str (pathF (namesT T) ch)), none, none, none], [(s.kp, isDict w s.kp n2 m2), (s.ig, isDict w s.ig n1 m1)]⟩,
      ⟨s.n1, s.m1, s.n2, s.m2, Nat.le_refl _, Nat.le_refl _, S, rfl⟩, ForT.one (fun _ => Tg.loc 8 rfl) (fun j a => j < lets.cps.size ∧ a = .str (lt j)) (fun j v h hv => ?_) (fun hb' k1 k2 j st' a hj hI hA => ⟨trivial, ?_⟩), fun st' hI => WF.nil ?_⟩))
    · exact ⟨_, ⟨hv.1, rfl⟩, by rw [← hlt j hv.1]; exact hv.2⟩
    · obtain ⟨n1, m1, n2, m2, hn1, hn2, S', rfl⟩ := hI
      obtain ⟨_, rfl⟩ := hA
      have hj3 : j < 3 := by omega
      have G' := G.keeps k1
      have B' := B.keeps k1
      have H' := H.keeps k1
      exact right_turn (ca := ca) G' (r'.le (by decide)) B' H' hN S' hi hj3 (by omega) (by omega) hch' (by omega) (k2 _ (.tail _ (.head _))) (k2 _ (.head _)) (k2 _ (.tail _ (.tail _ (.head _)))) fun n1' m1' n2' m2' h1 h2 S'' => ⟨n1', m1', n2', m2', by omega, by omega, S'', rfl⟩
    · obtain ⟨n1, m1, n2, m2, hn1, hn2, S', rfl⟩ := hI
      exact WF.cons (WF.ret (Pu.wv .bool ⟨_, List.sublist_append_right _ _, k n1 m1 n2 m2 (by omega) (by omega) S'⟩))
abbrev oEnv (L : Addr) : Env := envOfC (Str.ofString "_law_opened") (scopeOf (fnAt 49)) L 210 (.ref 209)
abbrev oCx (w : World) (A : Around) (hb : Heap) (g : Array GenState) (o : OsState) (L : Addr) : Cx := ⟨w, A.deeper (oEnv L), 3, hb, g, o, oEnv L, [Str.ofString "person", Str.ofString "mods", Str.ofString "dirs", Str.ofString "lacking", Str.ofString "shut", Str.ofString "up", Str.ofString "mode", Str.ofString "owner", Str.ofString "written", Str.ofString "shown", Str.ofString "which", Str.ofString "signs", Str.ofString "lost", Str.ofString "reader", Str.ofString "place"]⟩
abbrev oNw (L tl am ad al ah : Addr) (f sp ii : Option AV) (xm xd xl xh : List AV) (X : List (Addr × OP)) : List (Addr × OP) := (L + 4, isCell f) :: (L + 3, isCell sp) :: (L + 2, isCell ii) :: (L + 1, isCell (some (.ref tl))) :: (am, isList xm) :: (ad, isList xd) :: (al, isList xl) :: (ah, isList xh) :: X
abbrev oBody : List Stmt := loopBody (nthS (bodyOf (fnAt 49)) 1)
def whichN (p : Int) (t : Th) : Nat := ((p - t.owner).fmod 3).toNat
theorem which_eq (p : Int) (t : Th) : (p - t.owner).fmod 3 = (whichN p t : Int) := (Int.toNat_of_nonneg (Int.fmod_nonneg_of_pos _ (by decide))).symm
theorem which_lt (p : Int) (t : Th) : whichN p t < 3 := by
  have := Int.fmod_lt_of_pos (p - t.owner) (b := 3) (by decide)
  rw [which_eq] at this
  omega
/-- a thing is in order -/
structure ThOk (t : Th) : Prop where
  mode : 0 ≤ t.mode
  sh : t.sh = fmF t.mode
abbrev mN (t : Th) : Nat := t.mode.toNat
theorem ThOk.m {t : Th} (h : ThOk t) : t.mode = (mN t : Int) := (Int.toNat_of_nonneg h.mode).symm
theorem fig_int (m w : Nat) (hw : w < 3) : ((m : Int).fdiv ((8 : Int) ^ ((2 : Int) - (w : Int)).toNat)).fmod 8 = (figN m w : Int) := by
  unfold figN
  rw [show ((2 : Int) - (w : Int)).toNat = 2 - w by omega, show ((8 : Int) ^ (2 - w)) = ((8 ^ (2 - w) : Nat) : Int) by rw [Int.natCast_pow]; rfl, ← Int.ofNat_fdiv]
  exact (Int.ofNat_fmod _ 8).symm
theorem fmF_len (mode : Int) : (fmF mode).length = 10 := by
  rw [fmF_eq]
  show ((List.range 10).map (fc mode)).toArray.size = 10
  rw [List.size_toArray, List.length_map, List.length_range]
theorem rwx_size : rwx.cps.size = 3 := by decide +kernel
section
variable {c : Cx} {st : AS}
theorem In.mem {a : Addr} {P : OP} (h : (a, P) ∈ st.nw) : In c st a P := fun hp H => (H.at' _ h).2
theorem In.imp {a : Addr} {P P' : OP} (h : In c st a P) (k : ∀ o, P o → P' o) : In c st a P' := fun hp H => (h hp H).imp k
end
theorem mem_last {α : Type} {l : List α} {a : α} : a ∈ l ++ [a] := List.mem_append_right _ (.head _)
/-- what is read of a thing, its class, its signs, the letters that are lost -/
theorem open_A {w : World} {A : Around} {hb : Heap} {g : Array GenState} {o : OsState} {L tl am ad al ah : Addr} {rs : List Addr} {T : List Th} {p : Int} {j : Nat} {t : Th} {f sp : Option AV} {xm xd xl xh : List AV} {X : List (Addr × OP)} {Q : AF → AS → Prop}
    (H : Things hb tl rs T) (hu : T.length ≤ 5) (e : T[j]? = some t) (ok : ThOk t)
    (k : ∀ ld, WF (oCx w A hb g o L) ⟨[some (.int p), some (.ref am), some (.ref ad), some (.ref al), some (.ref ah), some (.int t.up), some (.int (mN t)), some (.int t.owner), some (.str t.nm), some (.str t.sh), some (.int (whichN p t)), some (.str (signsF (mN t) (whichN p t))), some (.ref ld), none, none],
      oNw L tl am ad al ah (some (.int (figN (mN t) (whichN p t)))) (some (.str t.nm)) (some (.int j)) xm xd xl xh (X ++ [(ld, isList (((List.range 3).filter (lostB (mN t) (whichN p t))).map fun k => .str (lt k)))])⟩ (execs (oBody.drop 4) (oEnv L)) Q) :
    WF (oCx w A hb g o L) ⟨[some (.int p), some (.ref am), some (.ref ad), some (.ref al), some (.ref ah), none, none, none, none, none, none, none, none, none, none], oNw L tl am ad al ah f sp (some (.int j)) xm xd xl xh X⟩ (execs oBody (oEnv L)) Q := by
  obtain ⟨q, e1, b1⟩ := H.get e
  have hj := (List.getElem?_eq_some_iff.mp e).1
  have hm := ok.m
  have hw := which_lt p t
  refine WF.cons (WF.asgT (Pu.wv (Pu.item (.cel 3 rfl rfl rfl) (.cel 2 rfl rfl rfl) (.base H.list) (by omega) (by omega) e1) ⟨q, _, _, rfl, .inr (.base b1), Tgs.cons (.loc 5 rfl) trivial (Tgs.cons (.loc 6 rfl) trivial (Tgs.cons (.loc 7 rfl) trivial (Tgs.cons (.cel 1 rfl rfl) ⟨_, rfl⟩ (Tgs.cons (.loc 8 rfl) trivial (Tgs.cons (.loc 9 rfl) trivial .nil))))), ?_⟩))
  rw [hm]
  refine WF.cons (WF.asg (.loc 10 rfl) (Pu.wv (v := .int (whichN p t)) (which_eq p t ▸ Pu.bin (Op2.fmod (by decide)) (Pu.bin Op2.sub (.loc 0 rfl rfl) (.loc 7 rfl rfl)) .int) ⟨trivial, ?_⟩))
  have hsg : Txt.slice t.sh (some (1 + 3 * (whichN p t : Int))) (some (4 + 3 * (whichN p t : Int))) = signsF (mN t) (whichN p t) := by
    rw [ok.sh, hm]; rfl
  refine WF.cons (WF.asgT (WV.tup (WA.cons (Pu.wv (v := .str (signsF (mN t) (whichN p t))) (hsg ▸ Pu.sslice (.loc 9 rfl rfl) (Pu.bin Op2.add .int (Pu.bin (Op2.mulL (by decide)) .int (.loc 10 rfl rfl))) (Pu.bin Op2.add .int (Pu.bin (Op2.mulL (by decide)) .int (.loc 10 rfl rfl))) (by rw [ok.sh, fmF_len]; decide)) (WA.cons (Pu.wv (v := .int (figN (mN t) (whichN p t))) (fig_int (mN t) (whichN p t) hw ▸ Pu.bin (Op2.fmod (by decide)) (Pu.bin (Op2.fdiv (pow_ne (by decide) _) (noPy (a := 8) (by decide) (by omega))) (.loc 6 rfl rfl) (Pu.pow .int (Pu.bin Op2.sub .int (.loc 10 rfl rfl)) (by omega) (by omega) (by decide))) .int) (WA.nil ⟨Nat.le_of_ble_eq_true rfl, fun ta => ⟨ta, _, _, rfl, .inl (In.imp (In.mem mem_last) tupW), Tgs.cons (.loc 11 rfl) trivial (Tgs.cons (.cel 0 rfl rfl) ⟨_, rfl⟩ .nil), ?_⟩⟩)))))))
  refine WF.wk (st' := ⟨[some (.int p), some (.ref am), some (.ref ad), some (.ref al), some (.ref ah), some (.int t.up), some (.int (mN t)), some (.int t.owner), some (.str t.nm), some (.str t.sh), some (.int (whichN p t)), some (.str (signsF (mN t) (whichN p t))), none, none, none], oNw L tl am ad al ah (some (.int (figN (mN t) (whichN p t)))) (some (.str t.nm)) (some (.int j)) xm xd xl xh X⟩) (.nw1 (List.sublist_append_left _ _)) ?_
  refine WF.cons (WF.asgC (i := 12) (cl := []) (vars := [Str.ofString "letter", Str.ofString "sign"]) rfl rfl rfl (Src.zip (.blt (fun _ => rfl) rfl (by decide) rfl) .str (.loc 11 rfl rfl) (rwx_size.trans (signs_size (mN t) hw).symm) (nwM := []) perm0 (CompK.two (fun k => .str (lt k)) (fun k => .str (chr (signsF (mN t) (whichN p t)) k)) (lostB (mN t) (whichN p t)) (fun k => .str (lt k)) (by rw [rwx_size]; decide) (fun k as _ h => h) (fun hb' C k1 k2 k D ys hk => ?_) fun D => ?_)))
  · rw [rwx_size] at hk
    refine WB.ifs1 (Tt.wb (b := lostB (mN t) (whichN p t) k) (sign_lost (mN t) hw hk ▸ Tt.cmp Op2.inS (.loc 1 rfl rfl) .str) ⟨rfl, ?_⟩)
    cases lostB (mN t) (whichN p t) k with
    | false => exact List.Sublist.refl _
    | true => exact Pu.wv (.loc 0 rfl rfl) ⟨rfl, List.Sublist.refl _⟩
  · rw [rwx_size]
    exact k D
abbrev oVs (p : Int) (am ad al ah : Addr) (t : Th) (ld : Addr) : List (Option AV) := [some (.int p), some (.ref am), some (.ref ad), some (.ref al), some (.ref ah), some (.int t.up), some (.int (mN t)), some (.int t.owner), some (.str t.nm), some (.str t.sh), some (.int (whichN p t)), some (.str (signsF (mN t) (whichN p t))), some (.ref ld), none, none]
abbrev lostT (p : Int) (t : Th) : Nat → Bool := lostB (mN t) (whichN p t)
abbrev lostK (p : Int) (t : Th) : List Nat := (List.range 3).filter (lostT p t)
abbrev lostV (p : Int) (t : Th) : List AV := (lostK p t).map fun k => .str (lt k)
abbrev oNt (L tl am ad al ah : Addr) (p : Int) (t : Th) (j : Nat) (xm xd xl xh : List AV) (X : List (Addr × OP)) (ld : Addr) : List (Addr × OP) := oNw L tl am ad al ah (some (.int (figN (mN t) (whichN p t)))) (some (.str t.nm)) (some (.int j)) xm xd xl xh (X ++ [(ld, isList (lostV p t))])
def rowT (p : Int) (t : Th) : List Str := if (lostK p t).length = 3 then [t.nm] else (lostK p t).map fun k => t.nm ++ dot ++ lt k
theorem lostK_le (p : Int) (t : Th) : (lostK p t).length ≤ 3 := Nat.le_trans (List.length_filter_le _ _) (by rw [List.length_range]; exact Nat.le_refl _)
theorem lostK_lt {p : Int} {t : Th} {k : Nat} (h : k ∈ lostK p t) : k < 3 := List.mem_range.mp (List.mem_filter.mp h).1
theorem dot_len : dot.length = 1 := by decide +kernel
theorem lt_len {k : Nat} (hk : k < 3) : (lt k).length = 1 := by rw [len_cl]; exact (lt_cl k hk).1
theorem cat_le {a b : Nat} (h : a + b ≤ 1000) : a + b ≤ sizeLine := Nat.le_trans h (by decide)
/-- mods grows -/
theorem open_B {w : World} {A : Around} {hb : Heap} {g : Array GenState} {o : OsState} {L tl am ad al ah ld : Addr} {p : Int} {j : Nat} {t : Th} {xm xd xl xh : List AV} {X : List (Addr × OP)} {Q : AF → AS → Prop} (hx : xm.length ≤ 900) (hn : t.nm.length ≤ 20)
    (k : WF (oCx w A hb g o L) ⟨oVs p am ad al ah t ld, oNt L tl am ad al ah p t j (xm ++ (rowT p t).map AV.str) xd xl xh X ld⟩ (execs (oBody.drop 5) (oEnv L)) Q) :
    WF (oCx w A hb g o L) ⟨oVs p am ad al ah t ld, oNt L tl am ad al ah p t j xm xd xl xh X ld⟩ (execs (oBody.drop 4) (oEnv L)) Q := by
  have hl3 := lostK_le p t
  have hlen : (lostV p t).length = (lostK p t).length := List.length_map ..
  have mem : (ld, isList (lostV p t)) ∈ oNt L tl am ad al ah p t j xm xd xl xh X ld := .tail _ (.tail _ (.tail _ (.tail _ (.tail _ (.tail _ (.tail _ (.tail _ mem_last)))))))
  refine WF.cons (WF.extendV (j₀ := 4) (.loc 1 rfl rfl) rfl (WV.ifx (Tt.wb (Tt.cmp Op2.eqI (Pu.lenL (.blt (fun _ => rfl) rfl (by decide) rfl) (.loc 12 rfl rfl) (In.mem mem).w (by rw [hlen]; omega)) .int) ?_)))
  rw [hlen]
  by_cases h3 : (lostK p t).length = 3
  · rw [show (((lostK p t).length : Int) == 3) = true by rw [h3]; rfl]
    refine WV.list (WA.cons (Pu.wv (.cel 1 rfl rfl rfl) (WA.nil ⟨Nat.le_of_ble_eq_true rfl, fun a => ⟨4, xm, a, [.str t.nm], rfl, rfl, In.mem mem_last, by show xm.length + 1 ≤ 1000; omega, ?_⟩⟩)))
    have e : rowT p t = [t.nm] := if_pos h3
    rw [e] at k
    exact WF.wk (.nw1 (List.sublist_append_left _ _)) k
  · rw [show (((lostK p t).length : Int) == 3) = false from beq_eq_false_iff_ne.mpr (by omega)]
    refine WV.comp (cl := [(Str.ofString "spelled", L + 3)]) (vars := [Str.ofString "letter"]) rfl rfl (Src.list (Pu.wv (.loc 12 rfl rfl) ⟨ld, _, _, [], rfl, perm0, .inr ⟨_, mem, listWo⟩, CompK.one (fun k => .str (lt ((lostK p t).getD k 0))) (fun _ => true) (fun k => .str (t.nm ++ dot ++ lt ((lostK p t).getD k 0))) (by rw [hlen]; omega) (fun k v h hk hv => ?_) (fun hb' C k1 k2 k D ys hk => ?_) fun D => ⟨4, xm, D, _, rfl, rfl, In.mem mem_last, ?_, ?_⟩⟩))
    · obtain ⟨a, ea, ra⟩ := hv
      rw [List.getElem?_map] at ea
      obtain ⟨n, en, rfl⟩ := Option.map_eq_some_iff.mp ea
      rw [List.getD_eq_getElem?_getD, en]; exact ra
    · rw [hlen] at hk
      have hk3 : (lostK p t).getD k 0 < 3 := by
        rw [List.getD_eq_getElem?_getD, List.getElem?_eq_getElem hk]
        exact lostK_lt (List.getElem_mem hk)
      refine WB.ifs0 ⟨rfl, Pu.wv (Pu.bin (Op2.cat (cat_le ?_)) (Pu.bin (Op2.cat (cat_le ?_)) (.celB (a := L + 3) rfl (k2 _ (.tail _ (.head _))) rfl) .str) (.loc 0 rfl rfl)) ⟨rfl, List.Sublist.refl _⟩⟩
      · show (t.nm ++ dot).length + _ ≤ 1000
        rw [Str.length_append, lt_len hk3, dot_len]; omega
      · show t.nm.length + dot.length ≤ 1000
        rw [dot_len]; omega
    · rw [filter_all (fun _ => rfl), List.length_map, List.length_range, hlen]; omega
    · have e : rowT p t = (lostK p t).map fun k => t.nm ++ dot ++ lt k := if_neg h3
      rw [filter_all (fun _ => rfl), hlen, range_getD (lostK p t) 0 fun k => AV.str (t.nm ++ dot ++ lt k)]
      rw [e, List.map_map] at k
      exact WF.wk (.nw1 (List.sublist_append_left _ _)) k
theorem lost_x {p : Int} {t : Th} : ((lostK p t).map lt).any (· == Str.ofString "x") = lostT p t 2 := by
  have e : Str.ofString "x" = lt 2 := by decide +kernel
  rw [e, Bool.eq_iff_iff, List.any_eq_true]
  constructor
  · rintro ⟨y, hy, h⟩
    obtain ⟨k, hk, rfl⟩ := List.mem_map.mp hy
    rw [lt_ok k (lostK_lt hk) 2 (by decide) (beq_iff_eq.mp h)] at hk
    exact (List.mem_filter.mp hk).2
  · intro h
    exact ⟨lt 2, List.mem_map.mpr ⟨2, List.mem_filter.mpr ⟨List.mem_range.mpr (by decide), h⟩, rfl⟩, beq_self_eq_true _⟩
def shutT (p : Int) (t : Th) : Bool := (mN t / 4096 % 16 == 4) && lostT p t 2
/-- shut.append -/
theorem open_E {w : World} {A : Around} {hb : Heap} {g : Array GenState} {o : OsState} {L tl am ad al ah ld : Addr} {rs : List Addr} {T : List Th} {p : Int} {j : Nat} {t : Th} {xm xd xl xh : List AV} {X : List (Addr × OP)} {P : AS → Prop} {Q : AF → AS → Prop} (G : Gr w hb) (r : Rm (A.deeper (oEnv L)) 4) (H : Things hb tl rs T) (hu : UpOk T) (hj : j < T.length) (hx : xh.length ≤ 900)
    (k0 : shutT p t = false → P ⟨[some (.int p), some (.ref am), some (.ref ad), some (.ref al), some (.ref ah), none, none, none, none, none, none, none, none, none, none], oNw L tl am ad al ah (some (.int (figN (mN t) (whichN p t)))) (some (.str t.nm)) (some (.int j)) xm xd xl xh X⟩)
    (k1 : ∀ ca, shutT p t = true → P ⟨[some (.int p), some (.ref am), some (.ref ad), some (.ref al), some (.ref ah), none, none, none, none, none, none, none, none, none, none], oNw L tl am ad al ah (some (.int (figN (mN t) (whichN p t)))) (some (.str t.nm)) (some (.int j)) xm xd xl (xh ++ [.ref ca]) (X ++ [(ca, isList ((chainF T 5 j).map AV.int))])⟩) :
    WF (oCx w A hb g o L) ⟨oVs p am ad al ah t ld, oNt L tl am ad al ah p t j xm xd xl xh X ld⟩ (execs (oBody.drop 7) (oEnv L)) (LoopR P Q) := by
  have ev : ((((mN t : Int).fdiv 4096).fmod 16 == 4) && (((figN (mN t) (whichN p t) : Int)).fmod 2 == 0)) = shutT p t := by
    unfold shutT
    congr 1
    · rw [show ((mN t : Int).fdiv 4096).fmod 16 = ((mN t / 4096 % 16 : Nat) : Int) from by rw [show (4096 : Int) = ((4096 : Nat) : Int) from rfl, ← Int.ofNat_fdiv]; exact (Int.ofNat_fmod _ 16).symm, Bool.eq_iff_iff, beq_iff_eq, beq_iff_eq]
      omega
    · show _ = (figN (mN t) (whichN p t) / 2 ^ (2 - 2) % 2 == 0)
      rw [show (figN (mN t) (whichN p t) : Int).fmod 2 = ((figN (mN t) (whichN p t) % 2 : Nat) : Int) from (Int.ofNat_fmod _ 2).symm, Nat.sub_self, Nat.pow_zero, Nat.div_one, Bool.eq_iff_iff, beq_iff_eq, beq_iff_eq]
      omega
  refine WF.cons (WF.ifB (b := shutT p t) (ev ▸ Tt.and2 (Tt.cmp Op2.eqI (Pu.bin (Op2.fmod (by decide)) (Pu.bin (Op2.fdivS 4096) (.loc 6 rfl rfl) .int) .int) .int) fun _ => Tt.cmp Op2.eqI (Pu.bin (Op2.fmod (by decide)) (.cel 0 rfl rfl rfl) .int) .int) (fun e => ?_) fun e => WF.nil (WF.nil ⟨_, ?_, k0 e⟩))
  · refine WF.cons (WF.appendV (j₀ := 7) (.loc 4 rfl rfl) rfl (WV.callN (f := 205) (.glob (fun _ => rfl) rfl rfl) (fun _ => by kernel_rfl) (WA.cons (Pu.wv (.cel 3 rfl rfl rfl) (WA.cons (Pu.wv (.cel 2 rfl rfl rfl) (WA.nil fun vs rv => WV.call0 fun hbC G' kp _ => chain_sp G' (r.le (by decide)) (H.keeps kp) hu hj rv fun ca => ⟨7, xh, rfl, by omega, WF.nil (WF.nil ⟨_, ?_, k1 ca e⟩)⟩)))))))
    exact .keep (.keep (.keep (.keep (.keep (.drop (.drop (.drop (.drop (.drop (.drop (.drop (.drop (.keep (.keep (.nil (.cons_cons _ (.cons_cons _ (.cons_cons _ (.cons_cons _ (.cons_cons _ (.cons_cons _ (.cons_cons _ (.cons_cons _ (List.Sublist.append (List.sublist_append_left _ _) (List.Sublist.refl _)))))))))))))))))))))))))
  · exact .keep (.keep (.keep (.keep (.keep (.drop (.drop (.drop (.drop (.drop (.drop (.drop (.drop (.keep (.keep (.nil (.cons_cons _ (.cons_cons _ (.cons_cons _ (.cons_cons _ (.cons_cons _ (.cons_cons _ (.cons_cons _ (.cons_cons _ (List.sublist_append_left _ _))))))))))))))))))))))))
theorem sum_le {b : Nat} : ∀ {l : List Str}, (∀ x ∈ l, x.length ≤ b) → (l.map (·.length)).sum ≤ l.length * b
  | [], _ => Nat.zero_le _
  | x :: l, h => by
    have h1 := h x List.mem_cons_self
    have h2 := sum_le (l := l) fun y hy => h y (.tail _ hy)
    rw [List.map_cons, List.sum_cons, List.length_cons, Nat.add_mul]
    omega
/-- dirs grows -/
theorem open_C {w : World} {A : Around} {hb : Heap} {g : Array GenState} {o : OsState} {L tl am ad al ah ld : Addr} {rs : List Addr} {T : List Th} {p : Int} {j : Nat} {t : Th} {xm xd xl xh : List AV} {X : List (Addr × OP)} {Q : AF → AS → Prop} (G : Gr w hb) (r : Rm (A.deeper (oEnv L)) 4) (H : Things hb tl rs T) (hu : UpOk T) (hN : NOk (namesT T)) (hj : j < T.length) (hx : xd.length ≤ 900)
    (k : WF (oCx w A hb g o L) ⟨oVs p am ad al ah t ld, oNt L tl am ad al ah p t j xm (xd ++ if shutT p t = true then [.str (pathF (namesT T) (chainF T 5 j))] else []) xl xh X ld⟩ (execs (oBody.drop 6) (oEnv L)) Q) :
    WF (oCx w A hb g o L) ⟨oVs p am ad al ah t ld, oNt L tl am ad al ah p t j xm xd xl xh X ld⟩ (execs (oBody.drop 5) (oEnv L)) Q := by
  have mem : (ld, isList (lostV p t)) ∈ oNt L tl am ad al ah p t j xm xd xl xh X ld := .tail _ (.tail _ (.tail _ (.tail _ (.tail _ (.tail _ (.tail _ (.tail _ mem_last)))))))
  have el : lostV p t = ((lostK p t).map lt).map AV.str := by unfold lostV; rw [List.map_map]; rfl
  have ev : ((Builtin.bitAnd (mN t : Int) 61440 == 16384) && ((lostK p t).map lt).any (· == Str.ofString "x")) = shutT p t := by rw [isdir_nat, lost_x]; rfl
  refine WF.cons (WF.ifB (b := shutT p t) (ev ▸ Tt.and2 (Tt.plain (Pu.of (WV.callN (f := 134) (.glob (fun _ => rfl) rfl rfl) (fun _ => by kernel_rfl) (WA.cons (Pu.wv (.loc 6 rfl rfl) (WA.nil fun vs rv => WV.call0 fun hbC G' _ _ => isdir_sp G' (r.le (by decide)) rv ⟨rfl, rfl⟩))))) .bool) fun _ => Tt.inL .str (.loc 12 rfl rfl) (In.mem (el ▸ mem)).w) (fun e => ?_) fun e => WF.nil ?_)
  · rw [if_pos e] at k
    have hch := chain_vd hu 5 j (by omega)
    have hch5 := chainF_len T 5 j
    have hch' : Vd (namesT T).length (chainF T 5 j) := by rw [List.length_map]; exact hch
    generalize hCH : chainF T 5 j = ch at hch hch' hch5 k
    refine WF.cons (WF.appendV (j₀ := 5) (.loc 2 rfl rfl) rfl (WV.meth (Pu.wv .str ⟨.str F.slot_str_join F.type_str_join, WA.cons (WV.comp (cl := [(Str.ofString "things", L + 1)]) (vars := [Str.ofString "k"]) rfl rfl (Src.list (WV.callN (f := 205) (.glob (fun _ => rfl) rfl rfl) (fun _ => by kernel_rfl) (WA.cons (Pu.wv (.cel 3 rfl rfl rfl) (WA.cons (Pu.wv (.cel 2 rfl rfl rfl) (WA.nil fun vs rv => WV.call0 fun hbC G' kp _ => chain_sp G' (r.le (by decide)) (H.keeps kp) hu hj rv fun ca => ?_))))))))⟩)))
    rw [hCH]
    refine ⟨ca, _, _, [], rfl, perm0, .inr ⟨_, mem_last, listWo⟩, CompK.one (fun k => .int (ch.getD k 0)) (fun _ => true) (fun k => .str (nmN (namesT T) (ch.getD k 0).toNat)) ?_ (fun k v h hk hv => ?_) (fun hb' C k1 k2 k D ys hk => ?_) fun D => WA.nil fun u vs ru rv => ?_⟩
    · rw [List.length_map]; omega
    · obtain ⟨a, ea, ra⟩ := hv
      rw [List.getElem?_map] at ea
      obtain ⟨n, en, rfl⟩ := Option.map_eq_some_iff.mp ea
      rw [List.getD_eq_getElem?_getD, en]; exact ra
    · rw [List.length_map] at hk
      have ek := List.getElem?_eq_getElem hk
      have hv := hch _ (List.mem_of_getElem? ek)
      have eg : ch.getD k 0 = ch[k] := by rw [List.getD_eq_getElem?_getD, ek]; rfl
      have et := List.getElem?_eq_getElem (show (ch[k]).toNat < T.length by omega)
      obtain ⟨q, e1, b1⟩ := (H.keeps k1).get et
      have hT5 := hu.1
      refine WB.ifs0 ⟨rfl, Pu.wv (Pu.item (Pu.item (.celB (a := L + 1) rfl (k2 _ (.tail _ (.tail _ (.tail _ (.head _))))) rfl) (.loc 0 rfl rfl) (.base (H.keeps k1).list) (by rw [eg]; omega) (by rw [eg]; omega) (by rw [eg]; exact e1)) .int (.base b1) (by decide) (by decide) rfl) ⟨?_, List.Sublist.refl _⟩⟩
      rw [eg, nmT et]
    · obtain ⟨u', rfl⟩ := ru
      obtain ⟨v, rfl, rfl⟩ := rv.inv1
      refine WV.join (ys := ch.map fun e => nmN (namesT T) e.toNat) (fun h H' => (In.mem (P := isList ((ch.map fun e => nmN (namesT T) e.toNat).map AV.str)) ?_ : In _ _ D _).w h H') ?_ ⟨5, xd, rfl, by omega, ?_⟩
      · refine List.mem_append_right _ ?_
        rw [filter_all (fun _ => rfl), List.length_map, List.map_map, range_getD ch 0 fun e => AV.str (nmN (namesT T) e.toNat)]
        exact .head _
      · have := sum_le (b := 20) (l := ch.map fun e => nmN (namesT T) e.toNat) fun x hx => by
          obtain ⟨e, he, rfl⟩ := List.mem_map.mp hx
          have := hch' e he
          exact (hN.ok e.toNat (by omega)).2.2
        rw [List.length_map] at this ⊢
        rw [show (Str.ofString "/").length = 1 by decide +kernel]
        omega
      · refine WF.nil (WF.wk (.nw1 ?_) k)
        exact .cons_cons _ (.cons_cons _ (.cons_cons _ (.cons_cons _ (.cons_cons _ (.cons_cons _ (.cons_cons _ (.cons_cons _ (List.Sublist.trans (List.sublist_append_left _ _) (List.sublist_append_left _ _)))))))))
  · rw [e, if_neg Bool.false_ne_true, List.append_nil] at k
    exact k
theorem d421 (m w : Nat) {k : Nat} (hk : k < 3) : (((figN m w : Int).fdiv (([4, 2, 1] : List Int).getD k 0)).fmod 2 == 0) = lostB m w k := by
  unfold lostB
  have e : (([4, 2, 1] : List Int).getD k 0) = ((2 ^ (2 - k) : Nat) : Int) := by
    match k, hk with
    | 0, _ => rfl
    | 1, _ => rfl
    | 2, _ => rfl
  rw [e, ← Int.ofNat_fdiv, show (((figN m w / 2 ^ (2 - k) : Nat) : Int)).fmod 2 = ((figN m w / 2 ^ (2 - k) % 2 : Nat) : Int) from (Int.ofNat_fmod _ 2).symm, Bool.eq_iff_iff, beq_iff_eq, beq_iff_eq]
  omega
theorem d421_ne {k : Nat} (hk : k < 3) : (([4, 2, 1] : List Int).getD k 0) ≠ 0 ∧ (([4, 2, 1] : List Int).getD k 0).natAbs < 1073741824 := by
  match k, hk with
  | 0, _ => decide
  | 1, _ => decide
  | 2, _ => decide
/-- lacking grows -/
theorem open_D {w : World} {A : Around} {hb : Heap} {g : Array GenState} {o : OsState} {L tl am ad al ah ld : Addr} {p : Int} {j : Nat} {t : Th} {xm xd xl xh : List AV} {X : List (Addr × OP)} {Q : AF → AS → Prop} (hx : xl.length ≤ 900) (hj : j < 5)
    (k : WF (oCx w A hb g o L) ⟨oVs p am ad al ah t ld, oNt L tl am ad al ah p t j xm xd (xl ++ ((lostK p t).map (keyS j)).map AV.str) xh X ld⟩ (execs (oBody.drop 7) (oEnv L)) Q) :
    WF (oCx w A hb g o L) ⟨oVs p am ad al ah t ld, oNt L tl am ad al ah p t j xm xd xl xh X ld⟩ (execs (oBody.drop 6) (oEnv L)) Q := by
  have hl3 := lostK_le p t
  refine WF.cons (WF.extendV (j₀ := 6) (.loc 3 rfl rfl) rfl (WV.comp (cl := [(Str.ofString "i", L + 2), (Str.ofString "figure", L + 4)]) (vars := [Str.ofString "k"]) rfl rfl (Src.range (n := 3) (.blt (fun _ => rfl) rfl (by decide) rfl) .int (by decide) (nwM := []) perm0 (CompK.one (fun k => .int k) (lostT p t) (fun k => .str (keyS j k)) (by decide) (fun k v h _ hv => hv) (fun hb' C k1 k2 k D ys hk => ?_) fun D => ⟨6, xl, D, _, rfl, rfl, In.mem mem_last, ?_, ?_⟩))))
  · have hd := d421_ne hk
    refine WB.ifs1 (WB.cmp (WV.binL (WV.bin (Pu.wv (.celB (a := L + 4) rfl (k2 _ (.head _)) rfl) (WV.item (WV.list (WA.lits (as := [.int 4, .int 2, .int 1]) rfl ⟨Nat.le_of_ble_eq_true rfl, fun a => ⟨a, _, k, .int (([4, 2, 1] : List Int).getD k 0), rfl, .loc 0 rfl rfl, (In.led 1 rfl).w, by omega, by omega, getI [4, 2, 1] (k := (k : Int)) (by omega) (by show (k : Int) < 3; omega), (Op2.fdiv hd.1 (PyProof.noPylong_small hd.2)).wv ⟨_, _, .int, Op2.fmod (by decide), .int 0, lostT p t k, .int, fun va vb s' ra rb q => ?_, rfl, ?_⟩⟩⟩)))))))
    · have := (Op2.eqI (c := (oCx w A hb g o L).comp _ _ _ hb' C)).go _ s' va vb q ra rb
      rw [d421 (mN t) (whichN p t) hk] at this
      exact this
    · have hcond : ∀ (b : Bool) (X Y : Prop), (X ∧ Y) → cond b X Y := fun b X Y h => by cases b; exact h.2; exact h.1
      refine hcond _ _ _ ⟨Pu.wv (Pu.bin (v := .str (keyS j k)) (Op2.cat (Nat.le_trans (key_len j hj k hk) (by decide))) (Pu.strI (.blt (fun _ => rfl) rfl (by decide) rfl) (.celB (a := L + 2) rfl (k2 _ (.tail _ (.tail _ (.head _)))) rfl) (log_len j hj)) (Pu.sidx (k := (k : Int)) .str (.loc 0 rfl rfl) (by omega) (by rw [rwx_size]; omega) (by omega))) ⟨rfl, ?_⟩, ?_⟩
      · exact List.sublist_append_left _ _
      · exact List.sublist_append_left _ _
  · rw [List.length_map]; show xl.length + (lostK p t).length ≤ 1000; omega
  · rw [List.map_map] at k
    exact WF.wk (.nw1 (List.sublist_append_left _ _)) k
def lostS (p : Int) (T : List Th) (j k : Nat) : Bool := match T[j]? with
  | some t => lostT p t k
  | none => false
def shutS (p : Int) (T : List Th) (j : Nat) : Bool := match T[j]? with
  | some t => shutT p t
  | none => false
noncomputable def csF (p : Int) (T : List Th) (n : Nat) : List (List Int) := ((List.range n).filter (shutS p T)).map fun (i : Nat) => chainF T 5 (i : Int)
def chE (chs : List Addr) (cs : List (List Int)) : List (Addr × OP) := (chs.zip cs).map fun q => (q.1, isList (q.2.map AV.int))
theorem lostS_at {p : Int} {T : List Th} {j : Nat} {t : Th} (e : T[j]? = some t) : lostL (lostS p T) j = lostK p t := by
  unfold lostL lostK
  have : lostS p T j = lostT p t := by funext k; unfold lostS; rw [e]
  rw [this]
theorem ysRow_at {p : Int} {T : List Th} {j : Nat} {t : Th} (e : T[j]? = some t) : ysRow (namesT T) (lostS p T) j = rowT p t := by
  unfold ysRow rowT
  rw [lostS_at e, nmT e]
  split
  · rfl
  · exact List.map_congr_left fun k _ => by unfold modS; rw [nmT e]
theorem ysF_succ {N : List Str} {lost : Nat → Nat → Bool} {n : Nat} : ysF N lost (n + 1) = ysF N lost n ++ ysRow N lost n := by
  unfold ysF; rw [List.range_succ, List.flatMap_append, List.flatMap_singleton]
theorem lacF_succ {lost : Nat → Nat → Bool} {n : Nat} : lacF lost (n + 1) = lacF lost n ++ lacRow lost n := by
  unfold lacF; rw [List.range_succ, List.flatMap_append, List.flatMap_singleton]
theorem lacRow_at {p : Int} {T : List Th} {j : Nat} {t : Th} (e : T[j]? = some t) : lacRow (lostS p T) j = (lostK p t).map (keyS j) := by
  unfold lacRow; rw [lostS_at e]
theorem csF_succ {p : Int} {T : List Th} {n : Nat} : csF p T (n + 1) = csF p T n ++ if shutS p T n = true then [chainF T 5 (n : Int)] else [] := by
  unfold csF
  rw [List.range_succ, List.filter_append, List.map_append]
  congr 1
  by_cases h : shutS p T n = true
  · rw [if_pos h, List.filter_cons_of_pos h]; rfl
  · rw [if_neg h, List.filter_cons_of_neg h]; rfl
theorem csF_le {p : Int} {T : List Th} {n : Nat} : (csF p T n).length ≤ n := by
  unfold csF
  rw [List.length_map]
  exact Nat.le_trans (List.length_filter_le _ _) (by rw [List.length_range]; exact Nat.le_refl _)
theorem chE_snoc {chs : List Addr} {cs : List (List Int)} (h : chs.length = cs.length) {a : Addr} {c : List Int} : chE (chs ++ [a]) (cs ++ [c]) = chE chs cs ++ [(a, isList (c.map AV.int))] := by
  unfold chE
  rw [List.zip_append h, List.map_append]; rfl
theorem Pu.lenN {c : Cx} {st : AS} {n : Nat} {x : Str} {np p : Pos} {e : Expr} {l : Addr} {xs : List AV} (hn : xs.length = n) (hf : Pu c st (.Name x np) (.raw (.builtin "len"))) (he : Pu c st e (.ref l)) (b : In c st l (isListW xs)) (hz : xs.length ≤ 1000000)
    (h1 : starEach [e] c.env = (false, eval e c.env) :: starEach [] c.env := by rfl) : Pu c st (.Call (.Name x np) [e] [] p) (.int n) := hn ▸ Pu.lenL hf he b hz h1
def Ses.led (w : World) (s : Ses) : List (Addr × OP) := (s.lk, isList (s.lac.map AV.str)) :: (s.sh, isList (s.chs.map AV.ref)) :: (chE s.chs s.cs ++ [(s.dx, isAttrs (attr3 s.ms s.ds s.ig)), (s.rd, isInst s.dx), (s.ms, isSSet w s.ys), (s.ig, isDict w s.ig s.n1 s.m1), (s.ds, isList (s.dl.map AV.str)), (s.kp, isDict w s.kp s.n2 s.m2), (s.tup, isTup [.ref s.rd, .ref s.lk, .ref s.sh, .ref s.kp])])
theorem perm_x {α : Type} (c : List α) (al ah ad dx x ms ds ig : α) : ((al :: ah :: (c ++ [dx, x, ms, ig, ad])) ++ [ds]).Perm (ad :: al :: ah :: (c ++ [dx, x, ms, ds, ig])) := by
  have h : ([dx, x, ms, ig, ad] ++ [ds]).Perm ([dx, x, ms, ds, ig] ++ [ad]) := .cons _ (.cons _ (.cons _ (List.perm_append_comm (l₁ := [ig, ad]) (l₂ := [ds]))))
  show (al :: ah :: (c ++ [dx, x, ms, ig, ad] ++ [ds])).Perm _
  rw [List.append_assoc]
  refine (((h.append_left c).cons _).cons _).trans ?_
  rw [← List.append_assoc]
  exact List.perm_append_comm (l₁ := al :: ah :: (c ++ [dx, x, ms, ds, ig])) (l₂ := [ad])
theorem sub_x {α : Type} (c : List α) (al ah dx x ms ig ad ds kp tup : α) : (al :: ah :: (c ++ [dx, x, ms, ig, ds, kp, tup])).Sublist ((((al :: ah :: (c ++ [dx, x, ms, ig, ad])) ++ [ds]) ++ [kp]) ++ [tup]) := by
  show (al :: ah :: (c ++ [dx, x, ms, ig, ds, kp, tup])).Sublist (al :: ah :: (((c ++ [dx, x, ms, ig, ad]) ++ [ds]) ++ [kp] ++ [tup]))
  refine .cons_cons _ (.cons_cons _ ?_)
  rw [List.append_assoc, List.append_assoc, List.append_assoc]
  refine List.Sublist.append (List.Sublist.refl _) ?_
  exact .cons_cons _ (.cons_cons _ (.cons_cons _ (.cons_cons _ (.cons _ (List.Sublist.refl _)))))
/-- all things, as they must be -/
structure TOk (T : List Th) : Prop where
  up : UpOk T
  ok : ∀ t ∈ T, ThOk t
  nm : NOk (namesT T)
theorem opened_sp {w : World} {A : Around} {hb : Heap} {R : AV → List (Addr × OP) → Prop} {tl : Addr} {rs : List Addr} {T : List Th} {p : Int} {vals : List Value} (G : Gr w hb) (r : Rm A 5) (H : Things hb tl rs T) (hT : TOk T) (ha : AVs [.ref tl, .int p] vals)
    (k : ∀ s : Ses, SesOk (namesT T) s → s.n1 = 1 → s.n2 = 0 → R (.ref s.tup) (s.led w)) : Sp w A hb [] (call (.ref 210) vals) R := by
  refine' Sp.def (n := 3) (ps := [Str.ofString "things", Str.ofString "person"]) (vars := [Str.ofString "person", Str.ofString "mods", Str.ofString "dirs", Str.ofString "lacking", Str.ofString "shut", Str.ofString "up", Str.ofString "mode", Str.ofString "owner", Str.ofString "written", Str.ofString "shown", Str.ofString "which", Str.ofString "signs", Str.ofString "lost", Str.ofString "reader", Str.ofString "place"]) [some (.int p), none, none, none, none, none, none, none, none, none, none, none, none, none, none] (fun L => [(L + 4, isCell none), (L + 3, isCell none), (L + 2, isCell none), (L + 1, isCell (some (.ref tl)))]) G r ?ho ?hcd ?hbind ha ?hok ?hvs ?hent (fun L g o => ?h)
  case ho => exact rfl
  case hcd => kernel_rfl
  case hok => exact rfl
  case hvs => exact rfl
  case hent => exact fun _ => rfl
  case hbind =>
    obtain ⟨u, v, rfl, _, _⟩ := ha.inv2
    exact fun _ _ => BindsTo.of_eq rfl
  have r' := r.deeper (oEnv L)
  have h5 := hT.up.1
  have hlN : (namesT T).length = T.length := List.length_map ..
  refine WF.cons (WF.asgT (WV.tup (WA.cons (WV.list (WA.nil ⟨Nat.zero_le _, fun am => WA.cons (WV.list (WA.nil ⟨Nat.zero_le _, fun ad => WA.cons (WV.list (WA.nil ⟨Nat.zero_le _, fun al => WA.cons (WV.list (WA.nil ⟨Nat.zero_le _, fun ah => WA.nil ⟨Nat.le_of_ble_eq_true rfl, fun ta => ⟨ta, _, _, rfl, .inl (In.imp (In.mem mem_last) tupW), Tgs.cons (.loc 1 rfl) trivial (Tgs.cons (.loc 2 rfl) trivial (Tgs.cons (.loc 3 rfl) trivial (Tgs.cons (.loc 4 rfl) trivial .nil))), ?_⟩⟩⟩))⟩))⟩))⟩)))))
  refine WF.wk (st' := ⟨[some (.int p), some (.ref am), some (.ref ad), some (.ref al), some (.ref ah), none, none, none, none, none, none, none, none, none, none], oNw L tl am ad al ah none none none [] [] [] [] []⟩) (.nw1 (List.sublist_append_left _ _)) ?_
  refine WF.cons (WF.for (Src.range (n := T.length) (rest := []) (.blt (fun _ => rfl) rfl (by decide) rfl) (show Pu _ _ _ (.int T.length) from ?len) (by omega) (List.Perm.refl _) ⟨fun j st' => ∃ f sp ii chs, chs.length = (csF p T j).length ∧ st' = ⟨[some (.int p), some (.ref am), some (.ref ad), some (.ref al), some (.ref ah), none, none, none, none, none, none, none, none, none, none], oNw L tl am ad al ah f sp ii ((ysF (namesT T) (lostS p T) j).map AV.str) (((csF p T j).map (pathF (namesT T))).map AV.str) ((lacF (lostS p T) j).map AV.str) (chs.map AV.ref) (chE chs (csF p T j))⟩,
    ⟨none, none, none, [], rfl, rfl⟩, ForT.one (fun _ => Tg.cel 2 rfl rfl) (fun j a => a = .int j) (fun j v h hv => ⟨_, rfl, hv⟩) (fun hb' k1 k2 j st' a hj hI hA => ?_), fun st' hI => WF.nil ?_⟩))
  case len =>
    have e : (rs.map AV.ref).length = T.length := by rw [List.length_map, H.len]
    exact Pu.lenN e (.blt (fun _ => rfl) rfl (by decide) rfl) (.cel 3 rfl rfl rfl) (.base H.list) (by omega)
  · obtain ⟨f, sp, ii, chs, hl, rfl⟩ := hI
    subst hA
    refine ⟨⟨_, rfl⟩, ?_⟩
    have e := List.getElem?_eq_getElem hj
    have hH := H.keeps k1
    have hG := G.keeps k1
    have ok := hT.ok _ (List.getElem_mem hj)
    have hnm : (T[j]).nm.length ≤ 20 := by rw [← nmT e]; exact (hT.nm.ok j (by omega)).2.2
    have y1 := ysF_le (namesT T) (lostS p T) j
    have y2 := lacF_le (lostS p T) j
    have y3 := csF_le (p := p) (T := T) (n := j)
    have hs : shutS p T j = shutT p T[j] := by unfold shutS; rw [e]
    refine open_A hH h5 e ok fun ld => ?_
    refine open_B (by rw [List.length_map]; omega) hnm ?_
    refine open_C hG r' hH hT.up hT.nm hj (by rw [List.length_map, List.length_map]; omega) ?_
    refine open_D (by rw [List.length_map]; omega) (by omega) ?_
    refine open_E hG r' hH hT.up hj (by rw [List.length_map]; omega) (fun es => ?_) fun ca es => ?_
    · refine ⟨some (.int (figN (mN T[j]) (whichN p T[j]))), some (.str (T[j]).nm), some (.int j), chs, ?_, ?_⟩
      · rw [csF_succ, hs, es, if_neg Bool.false_ne_true, List.append_nil]; exact hl
      · rw [ysF_succ, ysRow_at e, lacF_succ, lacRow_at e, csF_succ, hs, es, if_neg Bool.false_ne_true, if_neg Bool.false_ne_true, List.append_nil, List.append_nil, List.map_append, List.map_append]
    · refine ⟨some (.int (figN (mN T[j]) (whichN p T[j]))), some (.str (T[j]).nm), some (.int j), chs ++ [ca], ?_, ?_⟩
      · rw [csF_succ, hs, es, if_pos rfl, List.length_append, List.length_append, hl]; rfl
      · rw [ysF_succ, ysRow_at e, lacF_succ, lacRow_at e, csF_succ, hs, es, if_pos rfl, if_pos rfl, List.map_append, List.map_append, List.map_append, List.map_append, List.map_append, chE_snoc hl]; rfl
  · obtain ⟨f, sp, ii, chs, hl, rfl⟩ := hI
    have y1 := ysF_le (namesT T) (lostS p T) T.length
    have y2 := lacF_le (lostS p T) T.length
    have y3 := csF_le (p := p) (T := T) (n := T.length)
    have hcs : ∀ c ∈ csF p T T.length, Vd T.length c ∧ c ≠ [] ∧ c.length ≤ 5 := fun c hc => by
      obtain ⟨i, hi, rfl⟩ := List.mem_map.mp hc
      have hi := List.mem_range.mp (List.mem_filter.mp hi).1
      exact ⟨chain_vd hT.up 5 i (by omega), chain_ne, chainF_len T 5 i⟩
    generalize hys : ysF (namesT T) (lostS p T) T.length = ys at y1
    generalize hlac : lacF (lostS p T) T.length = lac at y2
    generalize hCS : csF p T T.length = cs at hl y3 hcs
    generalize hdl : cs.map (pathF (namesT T)) = dl
    have hdz : dl.length ≤ 5 := by rw [← hdl, List.length_map]; omega
    refine WF.cons (WF.asg (.loc 13 rfl) (WV.callN (f := 79) (.glob (fun _ => rfl) rfl rfl) (fun _ => by kernel_rfl) (WA.cons (Pu.wv (.loc 1 rfl rfl) (WA.nil fun vs rv => WV.call0 fun hbC G' kp kr => Sp.make G' fun x dx => init_sp (ys := ys) G' ((r'.le (by decide) : Rm _ 3).under _) (listW (kr (am, _) (.tail _ (.tail _ (.tail _ (.tail _ (.head _))))))) (by omega) (.cons rfl rv) fun ms ds ig => ⟨rfl, trivial, ?_⟩)))))
    refine WF.cons (WF.clear (j := 4) (.loc 1 rfl rfl) rfl (by rw [List.length_map]; omega) ?_)
    refine WF.wk (st' := ⟨[some (.int p), some (.ref am), some (.ref ad), some (.ref al), some (.ref ah), none, none, none, none, none, none, none, none, some (.ref x), none], (ad, isList (dl.map AV.str)) :: (al, isList (lac.map AV.str)) :: (ah, isList (chs.map AV.ref)) :: (chE chs cs ++ [(dx, isAttrs (attr3 ms ds ig)), (x, isInst dx), (ms, isSSet w ys), (ds, isList []), (ig, isDict w ig 1 ig0)])⟩) (.nw1 (.cons _ (.cons _ (.cons _ (.cons _ (.cons _ (List.Sublist.refl _))))))) ?_
    refine WF.perm (nw' := ((al, isList (lac.map AV.str)) :: (ah, isList (chs.map AV.ref)) :: (chE chs cs ++ [(dx, isAttrs (attr3 ms ds ig)), (x, isInst dx), (ms, isSSet w ys), (ig, isDict w ig 1 ig0), (ad, isList (dl.map AV.str))])) ++ [(ds, isList [])]) ?_ ?_
    · exact perm_x _ _ _ _ _ _ _ _ _
    refine WF.cons (WF.for (Src.list (Pu.wv (.loc 2 rfl rfl) ⟨ad, _, (al, isList (lac.map AV.str)) :: (ah, isList (chs.map AV.ref)) :: (chE chs cs ++ [(dx, isAttrs (attr3 ms ds ig)), (x, isInst dx), (ms, isSSet w ys), (ig, isDict w ig 1 ig0), (ad, isList (dl.map AV.str))]), [(ds, isList [])], rfl, List.Perm.refl _, .inr ⟨_, .tail _ (.tail _ (List.mem_append_right _ (.tail _ (.tail _ (.tail _ (.tail _ (.head _))))))), listWo⟩, fun i st' => st' = ⟨[some (.int p), some (.ref am), some (.ref ad), some (.ref al), some (.ref ah), none, none, none, none, none, none, none, none, some (.ref x), none], [(ds, isList ((dl.take i).map AV.str))]⟩, rfl,
      ForT.one (fun _ => Tg.loc 14 rfl) (fun i a => ∃ d, dl[i]? = some d ∧ a = .str d) (fun i v h hv => ?_) (fun hb' k1 k2 i st' a hi hI hA => ⟨trivial, ?_⟩), fun st' hI => WF.nil ?_⟩)))
    · obtain ⟨a, ea, ra⟩ := hv
      rw [List.getElem?_map] at ea
      obtain ⟨d, ed, rfl⟩ := Option.map_eq_some_iff.mp ea
      exact ⟨.str d, ⟨d, ed, rfl⟩, ra⟩
    · subst hI
      obtain ⟨d, ed, rfl⟩ := hA
      refine WF.cons (WF.append (j := 0) (Pu.attr (x := x) (dx := dx) (l := attr3 ms ds ig) (.loc 13 rfl rfl) (.base (k2 (x, _) (.tail _ (.tail _ (List.mem_append_right _ (.tail _ (.head _))))))) (.base (k2 (dx, _) (.tail _ (.tail _ (List.mem_append_right _ (.head _)))))) rfl k79_ga k79_hd k79_d fun v e => by cases e; rfl) rfl (.loc 14 rfl rfl) ?_ (WF.nil ⟨_, ?wk, rfl⟩))
      case wk =>
        rw [List.take_add_one, ed, List.map_append]
        exact .keep (.keep (.keep (.keep (.keep (.keep (.keep (.keep (.keep (.keep (.keep (.keep (.keep (.keep (.drop (.nil (List.Sublist.refl _))))))))))))))))
      rw [List.length_map, List.length_take]; omega
    · subst hI
      rw [List.length_map, List.take_of_length_le (Nat.le_refl _)]
      refine WF.cons (WF.ret (WV.tup (WA.cons (Pu.wv (.loc 13 rfl rfl) (WA.cons (Pu.wv (.loc 3 rfl rfl) (WA.cons (Pu.wv (.loc 4 rfl rfl) (WA.cons (WV.dict0 fun kp => WA.nil ⟨Nat.le_of_ble_eq_true rfl, fun tup => ⟨_, ?_, k ⟨tup, x, dx, ms, ds, ig, al, ah, kp, chs, T.length, lostS p T, ys, cs, dl, lac, 1, ig0, 0, fun _ => none⟩ (SesOk.new (Nat.le_of_eq hlN.symm) hys.symm hlac.symm hcs (Nat.le_trans y3 h5) hdl.symm hl rfl rfl) rfl rfl⟩⟩))))))))))
      exact sub_x (chE chs cs) _ _ _ _ _ _ _ _ _ _
/-- names of places differ -/
theorem alC_pad : ∀ d, d < 64 → alC d ≠ 61 := by decide +kernel
theorem name_count (bs : List Nat) : (nameL bs).count 61 = 3 * sizeN bs.length - 4 * bs.length := by
  unfold nameL
  rw [List.count_append, List.count_replicate_self, List.count_eq_zero_of_not_mem, Nat.zero_add]
  intro h
  obtain ⟨t, _, e⟩ := List.mem_map.mp h
  exact alC_pad _ (dN_lt bs t) e
theorem cl_name (bs : List Nat) : cl (nameS bs) = nameL bs := rfl
theorem place_inj : ∀ i, i < 5 → ∀ j, j < 5 → (sizeN (i + 3) + (3 * sizeN (i + 3) - 4 * (i + 3)) = sizeN (j + 3) + (3 * sizeN (j + 3) - 4 * (j + 3)) ∧ 3 * sizeN (i + 3) - 4 * (i + 3) = 3 * sizeN (j + 3) - 4 * (j + 3)) → i = j := by decide +kernel
theorem name_inj {i j : Nat} {q q' : Int} (hi : i < 5) (hj : j < 5) (h : nameS (octN i q) = nameS (octN j q')) : i = j := by
  have h := congrArg cl h
  rw [cl_name, cl_name] at h
  have h1 := congrArg List.length h
  have h2 := congrArg (List.count 61) h
  rw [nameL_len, nameL_len, octN_len, octN_len] at h1
  rw [name_count, name_count, octN_len, octN_len] at h2
  exact place_inj i hi j hj ⟨h1, h2⟩
def NmOk (T : List Th) : Prop := ∀ (k : Nat) t, T[k]? = some t → ∃ q, t.nm = nameS (octN k q)
theorem name_len : ∀ i, i < 5 → sizeN (i + 3) + (3 * sizeN (i + 3) - 4 * (i + 3)) ≤ 20 := by decide +kernel
theorem NmOk.nok {T : List Th} (h : NmOk T) (h5 : T.length ≤ 5) : NOk (namesT T) := by
  have hl : (namesT T).length = T.length := List.length_map ..
  have at_ : ∀ i, i < (namesT T).length → ∃ q, nmN (namesT T) i = nameS (octN i q) := fun i hi => by
    have e := List.getElem?_eq_getElem (show i < T.length by omega)
    rw [nmT e]; exact h i _ e
  refine ⟨by omega, fun i hi => ?_, fun i j hi hj e => ?_⟩
  · obtain ⟨q, e⟩ := at_ i hi
    rw [e]
    refine ⟨fun z => (nameL_ok _ _ z).2.1 rfl, fun z => (nameL_ok _ _ z).2.2.1 rfl, ?_⟩
    rw [len_cl, cl_name, nameL_len, octN_len]
    exact name_len i (by omega)
  · obtain ⟨q, e1⟩ := at_ i hi
    obtain ⟨q', e2⟩ := at_ j hj
    rw [e1, e2] at e
    exact name_inj (by omega) (by omega) e
/-- one ledger says no more than another -/
structure Ent (nw L : List (Addr × OP)) : Prop where
  hp : ∀ hb h, Hp hb nw h → Hp hb L h
  ad : ∀ p ∈ L, ∃ q ∈ nw, q.1 = p.1
theorem Ent.refl {nw : List (Addr × OP)} : Ent nw nw := ⟨fun _ _ H => H, fun p hp => ⟨p, hp, rfl⟩⟩
theorem Ent.trans {a b c : List (Addr × OP)} (x : Ent a b) (y : Ent b c) : Ent a c := ⟨fun hb h H => y.hp hb h (x.hp hb h H), fun p hp => by
  obtain ⟨q, hq, e⟩ := y.ad p hp
  obtain ⟨q', hq', e'⟩ := x.ad q hq
  exact ⟨q', hq', e'.trans e⟩⟩
theorem Ent.perm {a b : List (Addr × OP)} (p : b.Perm a) : Ent a b := ⟨fun _ _ H => H.perm p, fun q hq => ⟨q, p.mem_iff.mp hq, rfl⟩⟩
theorem Ent.sub {a b : List (Addr × OP)} (p : b.Sublist a) : Ent a b := ⟨fun _ _ H => H.sub p, fun q hq => ⟨q, p.subset hq, rfl⟩⟩
theorem Ent.weak {a b : Addr} {P P' : OP} {x y : List (Addr × OP)} (k : ∀ o, P o → P' o) : Ent (x ++ (a, P) :: y) (x ++ (a, P') :: y) := by
  refine ⟨fun hb h H => ⟨H.keep, fun p hp => ?_, ?_⟩, fun p hp => ?_⟩
  · rcases List.mem_append.mp hp with q | q
    · exact H.at' p (List.mem_append_left _ q)
    · rcases List.mem_cons.mp q with rfl | q
      · obtain ⟨h1, o, e, z⟩ := H.at' (a, P) (List.mem_append_right _ (.head _))
        exact ⟨h1, o, e, k o z⟩
      · exact H.at' p (List.mem_append_right _ (.tail _ q))
  · have := H.nd
    rw [List.map_append, List.map_cons] at this ⊢
    exact this
  · rcases List.mem_append.mp hp with q | q
    · exact ⟨p, List.mem_append_left _ q, rfl⟩
    · rcases List.mem_cons.mp q with rfl | q
      · exact ⟨(a, P), List.mem_append_right _ (.head _), rfl⟩
      · exact ⟨p, List.mem_append_right _ (.tail _ q), rfl⟩
theorem Ent.app {a b c : List (Addr × OP)} (x : Ent a b) : Ent (c ++ a) (c ++ b) := by
  refine ⟨fun hb h H => ?_, fun p hp => ?_⟩
  · have nd := H.nd
    rw [List.map_append] at nd
    obtain ⟨n1, n2, n3⟩ := List.nodup_append.mp nd
    have Ha := H.sub (List.sublist_append_right c a)
    have Hb := x.hp hb h Ha
    refine ⟨H.keep, fun p hp => ?_, ?_⟩
    · rcases List.mem_append.mp hp with q | q
      · exact H.at' p (List.mem_append_left _ q)
      · exact Hb.at' p q
    · rw [List.map_append]
      refine List.nodup_append.mpr ⟨n1, Hb.nd, fun u hu v hv e => ?_⟩
      obtain ⟨p, hp, rfl⟩ := List.mem_map.mp hv
      obtain ⟨q, hq, e'⟩ := x.ad p hp
      exact n3 u hu q.1 (List.mem_map_of_mem hq) (e.trans e'.symm)
  · rcases List.mem_append.mp hp with q | q
    · exact ⟨p, List.mem_append_left _ q, rfl⟩
    · obtain ⟨q', hq', e⟩ := x.ad p q
      exact ⟨q', List.mem_append_right _ hq', e⟩
theorem SatH.ent {c : Cx} {vs : List (Option AV)} {nw L : List (Addr × OP)} {h : Heap} {g : Array GenState} {o : OsState} (hs : SatH c ⟨vs, nw⟩ h g o) (x : Ent nw L) : SatH c ⟨vs, L⟩ h g o :=
  ⟨hs.ok, x.hp _ _ hs.hp, hs.ns, fun p hp => by obtain ⟨q, hq, e⟩ := x.ad p hp; rw [← e]; exact hs.away q hq, hs.gens, hs.os⟩
theorem WF.ent {c : Cx} {vs : List (Option AV)} {nw L : List (Addr × OP)} {t : Sem Flow} {R : AF → AS → Prop} (x : Ent nw L) (h : WF c ⟨vs, L⟩ t R) : WF c ⟨vs, nw⟩ t R := W.weaken (fun _ hs => hs.ent x) h
def thE (rs : List Addr) (T : List Th) : List (Addr × OP) := (rs.zip T).map fun q => (q.1, isListW q.2.avs)
def lawL (w : World) (tl sl : Addr) (T : List Th) (rs : List Addr) (ss : List Ses) : List (Addr × OP) := (tl, isList (rs.map AV.ref)) :: (sl, isList (ss.map fun s => AV.ref s.tup)) :: (thE rs T ++ ss.flatMap (Ses.led w))
structure LOk (B : Nat) (T : List Th) (rs : List Addr) (ss : List Ses) : Prop where
  t : TOk T
  nm : NmOk T
  l4 : T.length = 4 ∨ T.length = 5
  rs : rs.length = T.length
  l3 : ss.length ≤ 3
  ss : ∀ s ∈ ss, SesOk (namesT T) s ∧ s.n1 ≤ B ∧ s.n2 ≤ B
theorem zip_at {α β : Type} {l : List α} {m : List β} {k : Nat} {a : α} {b : β} (e : l[k]? = some a) (e' : m[k]? = some b) : (l.zip m)[k]? = some (a, b) := (List.getElem?_zip_eq_some (z := (a, b))).mpr ⟨e, e'⟩
theorem zip_get {α β : Type} (l : List α) (m : List β) (k : Nat) : (l.zip m)[k]? = (l[k]?).bind fun a => (m[k]?).map fun b => (a, b) := by
  cases e : l[k]? with
  | none =>
    have := List.getElem?_eq_none_iff.mp e
    exact List.getElem?_eq_none (by rw [List.length_zip]; omega)
  | some a =>
    cases e' : m[k]? with
    | none =>
      have := List.getElem?_eq_none_iff.mp e'
      exact List.getElem?_eq_none (by rw [List.length_zip]; omega)
    | some b => exact zip_at e e'
theorem thE_get {rs : List Addr} {T : List Th} {k : Nat} {a : Addr} {t : Th} (e : rs[k]? = some a) (e' : T[k]? = some t) : (thE rs T)[k]? = some (a, isListW t.avs) := by
  unfold thE
  rw [List.getElem?_map, zip_at e e']; rfl
theorem thE_snoc {rs : List Addr} {T : List Th} (h : rs.length = T.length) {a : Addr} {t : Th} : thE (rs ++ [a]) (T ++ [t]) = thE rs T ++ [(a, isListW t.avs)] := by
  unfold thE
  rw [List.zip_append h, List.map_append]; rfl
theorem thE_set {rs : List Addr} {T : List Th} {k : Nat} {a : Addr} {t : Th} (e : rs[k]? = some a) : (thE rs T).set k (a, isListW t.avs) = thE rs (T.set k t) := by
  unfold thE
  refine List.ext_getElem? fun i => ?_
  rw [List.getElem?_set, List.getElem?_map, List.getElem?_map]
  by_cases hi : k = i
  · subst hi
    rw [if_pos rfl]
    have hl : ((rs.zip T).map fun q => (q.1, isListW q.2.avs)).length = (rs.zip T).length := List.length_map ..
    by_cases ht : k < T.length
    · have hk : k < rs.length := (List.getElem?_eq_some_iff.mp e).1
      rw [if_pos (by rw [hl, List.length_zip]; omega), zip_at e (List.getElem?_set_self ht)]; rfl
    · rw [if_neg (by rw [hl, List.length_zip]; omega)]
      have : (rs.zip (T.set k t))[k]? = none := List.getElem?_eq_none (by rw [List.length_zip, List.length_set]; omega)
      rw [this]; rfl
  · rw [if_neg hi]
    rw [zip_get, zip_get, List.getElem?_set_ne hi]
theorem bor_nat (x y : Nat) : Builtin.bitOr (x : Int) (y : Int) = ((x ||| y : Nat) : Int) := by
  unfold Builtin.bitOr Builtin.bitAnd
  have n1 : ∀ z : Nat, decide (0 ≤ Builtin.bitNot (z : Int)) = false := fun z => decide_eq_false (by unfold Builtin.bitNot; omega)
  have n2 : ∀ z : Nat, (Builtin.bitNot (Builtin.bitNot (z : Int))).toNat = z := fun z => by unfold Builtin.bitNot; omega
  rw [n1, n1]
  show Builtin.bitNot (Builtin.bitNot _) = _
  rw [n2, n2]
  unfold Builtin.bitNot; omega
theorem bxor_nonneg {a b : Int} (ha : 0 ≤ a) (hb : 0 ≤ b) : 0 ≤ Builtin.bitXor a b := by
  obtain ⟨x, rfl⟩ := Int.eq_ofNat_of_zero_le ha
  obtain ⟨y, rfl⟩ := Int.eq_ofNat_of_zero_le hb
  show 0 ≤ Builtin.bitOr (x : Int) (y : Int) - Builtin.bitAnd (x : Int) (y : Int)
  rw [bor_nat, band_nat]
  have h1 : x &&& y ≤ x := Nat.and_le_left
  have h2 : x ≤ x ||| y := Nat.left_le_or
  omega
theorem getD_nonneg {l : List Int} (h : ∀ x ∈ l, 0 ≤ x) (k : Nat) : 0 ≤ l.getD k 0 := by
  rw [List.getD_eq_getElem?_getD]
  cases e : l[k]? with
  | none => exact Int.le_refl _
  | some x => exact h x (List.mem_of_getElem? e)
theorem modeF_nonneg (q : Int) : 0 ≤ modeF q := by
  unfold modeF
  refine Int.add_nonneg (Int.mul_nonneg (getD_nonneg (by decide) _) (by decide)) (bxor_nonneg (getD_nonneg (by decide) _) (Int.fmod_nonneg_of_pos _ (by decide)))
theorem things_of {w : World} {tl sl : Addr} {T : List Th} {rs : List Addr} {ss : List Ses} {h : Heap} (hl : rs.length = T.length) (k : ∀ p ∈ lawL w tl sl T rs ss, Bs h p.1 p.2) : Things h tl rs T :=
  ⟨listW (k (tl, _) (.head _)), hl, fun i r t e e' => k (r, isListW t.avs) (.tail _ (.tail _ (List.mem_append_left _ (List.mem_of_getElem? (thE_get e e')))))⟩
theorem names_set {T : List Th} {k : Nat} {t t' : Th} (e : T[k]? = some t) (h : t'.nm = t.nm) : namesT (T.set k t') = namesT T := by
  unfold namesT
  rw [List.map_set]
  exact set_self (by rw [List.getElem?_map, e, h]; rfl)
theorem LOk.set {B : Nat} {T : List Th} {rs : List Addr} {ss : List Ses} (H : LOk B T rs ss) {k : Nat} {t t' : Th} (e : T[k]? = some t) (hn : t'.nm = t.nm) (ok : ThOk t') (h1 : -1 ≤ t'.up) (h2 : t'.up < k) : LOk B (T.set k t') rs ss := by
  have hl : (T.set k t').length = T.length := List.length_set
  have at_ : ∀ (i : Nat) u, (T.set k t')[i]? = some u → (i = k ∧ u = t') ∨ T[i]? = some u := fun i u e' => by
    rw [List.getElem?_set] at e'
    split at e'
    · rename_i h
      split at e'
      · cases e'; exact .inl ⟨h.symm, rfl⟩
      · cases e'
    · exact .inr e'
  refine ⟨⟨⟨by rw [hl]; exact H.t.up.1, fun i u e' => ?_⟩, fun u hu => ?_, ?_⟩, fun i u e' => ?_, by rw [hl]; exact H.l4, by rw [hl]; exact H.rs, H.l3, fun s hs => by rw [names_set e hn]; exact H.ss s hs⟩
  · rcases at_ i u e' with ⟨rfl, rfl⟩ | h
    · exact ⟨h1, h2⟩
    · exact H.t.up.2 i u h
  · obtain ⟨i, hi⟩ := List.getElem?_of_mem hu
    rcases at_ i u hi with ⟨rfl, rfl⟩ | h
    · exact ok
    · exact H.t.ok u (List.mem_of_getElem? h)
  · rw [names_set e hn]; exact H.t.nm
  · rcases at_ i u e' with ⟨rfl, rfl⟩ | h
    · rw [hn]; exact H.nm _ _ e
    · exact H.nm i u h
theorem LOk.grow {B : Nat} {T : List Th} {rs : List Addr} {ss : List Ses} (H : LOk B T rs ss) (h4 : T.length = 4) {up mode owner q : Int} (a : Addr) (h1 : -1 ≤ up) (h2 : up < 4) (hm : 0 ≤ mode) : LOk B (T ++ [mkTh 4 up mode owner q]) (rs ++ [a]) ss := by
  have hl : (T ++ [mkTh 4 up mode owner q]).length = 5 := by rw [List.length_append, h4]; rfl
  have hN : namesT (T ++ [mkTh 4 up mode owner q]) = namesT T ++ [nameS (octN 4 q)] := by unfold namesT; rw [List.map_append]; rfl
  have at_ : ∀ (i : Nat) u, (T ++ [mkTh 4 up mode owner q])[i]? = some u → (i = 4 ∧ u = mkTh 4 up mode owner q) ∨ T[i]? = some u := fun i u e => by
    by_cases h : i < T.length
    · rw [List.getElem?_append_left h] at e; exact .inr e
    · have hi := (List.getElem?_eq_some_iff.mp e).1
      rw [hl] at hi
      have : i = 4 := by omega
      subst this
      rw [List.getElem?_append_right (by omega), h4] at e
      cases e; exact .inl ⟨rfl, rfl⟩
  have nm : NmOk (T ++ [mkTh 4 up mode owner q]) := fun i u e => by
    rcases at_ i u e with ⟨rfl, rfl⟩ | h
    · exact ⟨q, rfl⟩
    · exact H.nm i u h
  have nok := nm.nok (by omega)
  refine ⟨⟨⟨by omega, fun i u e => ?_⟩, fun u hu => ?_, nok⟩, nm, .inr hl, by rw [List.length_append, H.rs, h4, hl]; rfl, H.l3, fun s hs => ⟨?_, (H.ss s hs).2⟩⟩
  · rcases at_ i u e with ⟨rfl, rfl⟩ | h
    · exact ⟨h1, h2⟩
    · exact H.t.up.2 i u h
  · rcases List.mem_append.mp hu with h | h
    · exact H.t.ok u h
    · rw [List.mem_singleton.mp h]; exact ⟨hm, rfl⟩
  · rw [hN]; rw [hN] at nok
    exact (H.ss s hs).1.grow nok
theorem LOk.ses {B : Nat} {T : List Th} {rs : List Addr} {ss : List Ses} (H : LOk B T rs ss) {s : Ses} (S : SesOk (namesT T) s) (h1 : s.n1 ≤ B) (h2 : s.n2 ≤ B) (h3 : ss.length < 3) : LOk B T rs (ss ++ [s]) :=
  ⟨H.t, H.nm, H.l4, H.rs, by rw [List.length_append]; exact h3, fun u hu => (List.mem_append.mp hu).elim (H.ss u) fun z => by rw [List.mem_singleton.mp z]; exact ⟨S, h1, h2⟩⟩
abbrev dEnv (L : Addr) : Env := envOfC (Str.ofString "_law_deed") (scopeOf (fnAt 51)) L 222 (.ref 221)
theorem fmod_nat (q : Int) {n : Nat} (hn : 0 < n) : ∃ k : Nat, q.fmod n = k ∧ k < n := by
  have h1 := Int.fmod_nonneg_of_pos q (b := n) (by omega)
  have h2 := Int.fmod_lt_of_pos q (b := n) (by omega)
  exact ⟨(q.fmod n).toNat, by omega, by omega⟩
theorem deed_sp {w : World} {A : Around} {hb : Heap} {R : AV → List (Addr × OP) → Prop} {tl sl : Addr} {B : Nat} {T : List Th} {rs : List Addr} {ss : List Ses} {n : Int} {vals : List Value} (G : Gr w hb) (r : Rm A 8) (hB : 1 ≤ B) (H : LOk B T rs ss) (ha : AVs [.ref tl, .ref sl, .int n] vals)
    (k : ∀ T' rs' ss' nw', LOk B T' rs' ss' → Ent nw' (lawL w tl sl T' rs' ss') → R .none nw') : Sp w A hb (lawL w tl sl T rs ss) (call (.ref 222) vals) R := by
  refine' Sp.def (n := 6) (ps := [Str.ofString "things", Str.ofString "sessions", Str.ofString "n"]) (vars := [Str.ofString "things", Str.ofString "sessions", Str.ofString "n", Str.ofString "q", Str.ofString "many"]) [some (.ref tl), some (.ref sl), some (.int n), none, none] (fun L => []) G r ?ho ?hcd ?hbind ha ?hok ?hvs ?hent (fun L g o => ?h)
  case ho => exact rfl
  case hcd => kernel_rfl
  case hok => exact rfl
  case hvs => exact rfl
  case hent => exact fun _ => rfl
  case hbind =>
    cases ha with | cons _ ha => obtain ⟨u, v, rfl, _, _⟩ := ha.inv2; exact fun _ _ => BindsTo.of_eq rfl
  have r' := r.deeper (dEnv L)
  have h5 := H.t.up.1
  have hl4 := H.l4
  have hrs := H.rs
  have hlr : (rs.map AV.ref).length = T.length := by rw [List.length_map, H.rs]
  have hls : (ss.map fun s => AV.ref s.tup).length = ss.length := List.length_map ..
  have hl3 := H.l3
  rw [List.append_nil]
  refine WF.cons (WF.asgS (i := 3) (j := 4) rfl rfl (WV.tup (WA.cons (Pu.wv (Pu.bin (Op2.fdivS 4) (.loc 2 rfl rfl) .int) (WA.cons (Pu.wv (Pu.lenN hlr (.blt (fun _ => rfl) rfl (by decide) rfl) (.loc 0 rfl rfl) (In.led 0 rfl).w (by omega)) (WA.nil ⟨Nat.le_of_ble_eq_true rfl, fun ta => ⟨ta, _, _, rfl, In.imp (In.mem mem_last) tupW, ?_⟩⟩)))))))
  generalize n.fdiv 4 = q
  refine WF.wk (st' := ⟨[some (.ref tl), some (.ref sl), some (.int n), some (.int q), some (.int T.length)], lawL w tl sl T rs ss⟩) (.nw1 (List.sublist_append_left _ _)) ?_
  have hTp : 0 < T.length := by omega
  obtain ⟨i, ei, hi⟩ := fmod_nat q hTp
  have et := List.getElem?_eq_getElem hi
  have er := List.getElem?_eq_getElem (show i < rs.length by omega)
  have eL : (lawL w tl sl T rs ss)[i + 2]? = some (rs[i], isListW (T[i]).avs) := by
    show (thE rs T ++ ss.flatMap (Ses.led w))[i]? = _
    have := thE_get er et
    rw [List.getElem?_append_left (List.getElem?_eq_some_iff.mp this).1]; exact this
  have eLs : ∀ t' : Th, (lawL w tl sl T rs ss).set (i + 2) (rs[i], isListW t'.avs) = lawL w tl sl (T.set i t') rs ss := fun t' => by
    show _ :: _ :: (thE rs T ++ ss.flatMap (Ses.led w)).set i _ = _ :: _ :: _
    have := (List.getElem?_eq_some_iff.mp (thE_get er et)).1
    rw [List.set_append_left _ _ this, thE_set er]
  have eri : (rs.map AV.ref)[i]? = some (.ref rs[i]) := by rw [List.getElem?_map, er]; rfl
  have dv : Builtin.divisionGoesByPylong q (T.length : Int) = false := PyProof.noPylong_small (by omega)
  have ne : (T.length : Int) ≠ 0 := by omega
  have ixs : ∀ {st : AS}, st.vs[3]? = some (some (.int q)) → st.vs[4]? = some (some (.int T.length)) → ∀ {p1 p2 p3 : Pos}, Pu ⟨w, A.deeper (dEnv L), 6, hb, g, o, dEnv L, [Str.ofString "things", Str.ofString "sessions", Str.ofString "n", Str.ofString "q", Str.ofString "many"]⟩ st (.BinOp (.Name (Str.ofString "q") p1) .Mod (.Name (Str.ofString "many") p2) p3) (.int i) := fun {st} h3 h4 {p1 p2 p3} => ei ▸ Pu.bin (Op2.fmod ne) (.loc 3 rfl h3) (.loc 4 rfl h4)
  refine WF.cons (WF.ifB (Tt.and2 (Tt.cmp Op2.eqI (Pu.bin (Op2.fmod (by decide)) (.loc 2 rfl rfl) .int) .int) fun _ => Tt.cmp Op2.ltI (.loc 4 rfl rfl) .int) (fun e => ?_) fun _ => ?_)
  · have h4 : T.length = 4 := by
      have := of_decide_eq_true (Bool.and_eq_true_iff.mp e).2
      omega
    have u1 := Int.fmod_nonneg_of_pos q (b := 5) (by decide)
    have u2 := Int.fmod_lt_of_pos q (b := 5) (by decide)
    refine WF.cons (WF.appendV (j₀ := 0) (.loc 0 rfl rfl) rfl (WV.callN (f := 198) (.glob (fun _ => rfl) rfl rfl) (fun _ => by kernel_rfl) (WA.cons (Pu.wv .int (WA.cons (Pu.wv (Pu.bin Op2.sub (Pu.bin (Op2.fmod (by decide)) (.loc 3 rfl rfl) .int) .int) (WA.cons (Pu.wv (Pu.of (WV.callN (f := 191) (.glob (fun _ => rfl) rfl rfl) (fun _ => by kernel_rfl) (WA.cons (Pu.wv (Pu.bin (Op2.fdivS 15) (.loc 3 rfl rfl) .int) (WA.nil fun vs rv => WV.call0 fun hbC G' _ _ => mode_sp G' (r'.le (by decide)) rv ⟨rfl, rfl⟩))))) (WA.cons (Pu.wv (Pu.bin (Op2.fmod (by decide)) (Pu.bin (Op2.fdivS 5) (.loc 3 rfl rfl) .int) .int) (WA.cons (Pu.wv (.loc 3 rfl rfl) (WA.nil fun vs rv => WV.call0 fun hbC G' _ _ => thing_sp (place := 4) G' (r'.le (by decide)) (by decide) rv fun a => ⟨0, _, rfl, by rw [hlr]; omega, WF.nil (WF.nil ⟨_, List.Sublist.refl _, ?_⟩)⟩)))))))))))))
    refine k (T ++ [mkTh 4 (q.fmod 5 - 1) (modeF (q.fdiv 15)) ((q.fdiv 5).fmod 3) q]) (rs ++ [a]) ss _ (H.grow h4 a (by omega) (by omega) (modeF_nonneg _)) ?_
    show Ent ((tl, isList (rs.map AV.ref ++ [.ref a])) :: (sl, isList (ss.map fun s => AV.ref s.tup)) :: (thE rs T ++ ss.flatMap (Ses.led w) ++ [(a, isList (mkTh 4 (q.fmod 5 - 1) (modeF (q.fdiv 15)) ((q.fdiv 5).fmod 3) q).avs)])) (lawL w tl sl _ (rs ++ [a]) ss)
    unfold lawL
    rw [thE_snoc hrs, List.map_append]
    rw [List.append_assoc, List.append_assoc]
    refine Ent.trans (Ent.perm (((List.Perm.append_left (thE rs T) (List.perm_append_comm (l₁ := [(a, isList (mkTh 4 (q.fmod 5 - 1) (modeF (q.fdiv 15)) ((q.fdiv 5).fmod 3) q).avs)]) (l₂ := ss.flatMap (Ses.led w)))).cons _).cons _)) ?_
    exact Ent.weak (b := a) (x := (tl, isList (rs.map AV.ref ++ [.ref a])) :: (sl, isList (ss.map fun s => AV.ref s.tup)) :: thE rs T) (y := ss.flatMap (Ses.led w)) listWo
  refine WF.cons (WF.ifB (Tt.and2 (Tt.cmp Op2.eqI (Pu.bin (Op2.fmod (by decide)) (.loc 2 rfl rfl) .int) .int) fun _ => Tt.cmp Op2.ltI (Pu.lenN hls (.blt (fun _ => rfl) rfl (by decide) rfl) (.loc 1 rfl rfl) (In.led 1 rfl).w (by omega)) .int) (fun e => ?_) fun _ => ?_)
  · have h3 : ss.length < 3 := by
      have := of_decide_eq_true (Bool.and_eq_true_iff.mp e).2
      omega
    refine WF.cons (WF.appendV (j₀ := 1) (.loc 1 rfl rfl) rfl (WV.callN (f := 210) (.glob (fun _ => rfl) rfl rfl) (fun _ => by kernel_rfl) (WA.cons (Pu.wv (.loc 0 rfl rfl) (WA.cons (Pu.wv (Pu.bin (Op2.fmod (by decide)) (.loc 3 rfl rfl) .int) (WA.nil fun vs rv => WV.call0 fun hbC G' _ kr => opened_sp G' (r'.le (by decide)) (things_of hrs kr) H.t rv fun s S e1 e2 => ⟨1, _, rfl, by rw [hls]; omega, WF.nil (WF.nil (WF.nil ⟨_, List.Sublist.refl _, ?_⟩))⟩)))))))
    refine k T rs (ss ++ [s]) _ (H.ses S (by omega) (by omega) h3) ?_
    have : lawL w tl sl T rs (ss ++ [s]) = (tl, isList (rs.map AV.ref)) :: (sl, isList ((ss.map fun s => AV.ref s.tup) ++ [.ref s.tup])) :: (thE rs T ++ ss.flatMap (Ses.led w) ++ s.led w) := by
      unfold lawL
      rw [List.map_append, List.flatMap_append, List.flatMap_singleton, List.append_assoc]; rfl
    rw [this]
    exact Ent.refl
  refine WF.cons (WF.ifB (Tt.cmp Op2.eqI (Pu.bin (Op2.fmod (by decide)) (.loc 2 rfl rfl) .int) .int) (fun e => ?_) fun _ => ?_)
  · have v1 := Int.fmod_nonneg_of_pos (q.fdiv T.length) (b := (i : Int) + 1) (by omega)
    have v2 := Int.fmod_lt_of_pos (q.fdiv T.length) (b := (i : Int) + 1) (by omega)
    refine WF.cons (WF.asgI (Pu.wv (Pu.bin Op2.sub (Pu.bin (Op2.fmod (b := (i : Int) + 1) (by omega)) (Pu.bin (Op2.fdiv ne dv) (.loc 3 rfl rfl) (.loc 4 rfl rfl)) (Pu.bin Op2.add (ixs rfl rfl) .int)) .int) ⟨.ref rs[i], .int 0, Pu.item (.loc 0 rfl rfl) (ixs rfl rfl) (In.led 0 rfl).w (by omega) (by omega) eri, .int, fun ux uy u rx ry ru => ?_⟩))
    cases rx
    obtain ⟨t, rfl⟩ := ry
    refine WU.setItem (j := i + 2) eL (by decide) (by show (0 : Int) < 6; decide) (by show 6 ≤ 1000; decide) ru (WF.nil (WF.nil (WF.nil (WF.nil ⟨_, List.Sublist.refl _, ?_⟩))))
    refine k (T.set i { T[i] with up := (q.fdiv T.length).fmod ((i : Int) + 1) - 1 }) rs ss _ (H.set et rfl ⟨(H.t.ok _ (List.getElem_mem hi)).mode, (H.t.ok _ (List.getElem_mem hi)).sh⟩ (by show -1 ≤ _ - 1; omega) (by show _ - 1 < _; omega)) ?_
    rw [← eLs]
    exact Ent.refl
  · refine WF.cons (WF.asgI (Pu.wv (Pu.of (WV.callN (f := 191) (.glob (fun _ => rfl) rfl rfl) (fun _ => by kernel_rfl) (WA.cons (Pu.wv (Pu.bin (Op2.fdiv ne dv) (.loc 3 rfl rfl) (.loc 4 rfl rfl)) (WA.nil fun vs rv => WV.call0 fun hbC G' _ _ => mode_sp G' (r'.le (by decide)) rv ⟨rfl, rfl⟩))))) ⟨.ref rs[i], .int 1, Pu.item (.loc 0 rfl rfl) (ixs rfl rfl) (In.led 0 rfl).w (by omega) (by omega) eri, .int, fun ux uy u rx ry ru => ?_⟩))
    cases rx
    obtain ⟨t, rfl⟩ := ry
    refine WU.setItem (j := i + 2) eL (by decide) (by show (1 : Int) < 6; decide) (by show 6 ≤ 1000; decide) ru ?_
    generalize hM : modeF (q.fdiv T.length) = M
    have hM0 : 0 ≤ M := hM ▸ modeF_nonneg _
    show WF _ ⟨_, (lawL w tl sl T rs ss).set (i + 2) (rs[i], isListW ({ T[i] with mode := M } : Th).avs)⟩ _ _
    rw [eLs]
    have et' : (T.set i { T[i] with mode := M })[i]? = some { T[i] with mode := M } := List.getElem?_set_self hi
    have eL' : (lawL w tl sl (T.set i { T[i] with mode := M }) rs ss)[i + 2]? = some (rs[i], isListW ({ T[i] with mode := M } : Th).avs) := by
      show (thE rs _ ++ ss.flatMap (Ses.led w))[i]? = _
      have := thE_get er et'
      rw [List.getElem?_append_left (List.getElem?_eq_some_iff.mp this).1]; exact this
    refine WF.cons (WF.asgI (Pu.wv (Pu.of (WV.callN (f := 174) (.glob (fun _ => rfl) rfl rfl) (fun _ => by kernel_rfl) (WA.cons (Pu.wv (Pu.item (Pu.item (.loc 0 rfl rfl) (ixs rfl rfl) (In.led 0 rfl).w (by omega) (by omega) eri) .int (In.led (i + 2) eL') (by decide) (by decide) rfl) (WA.nil fun vs rv => WV.call0 fun hbC G' _ _ => filemode_sp G' (r'.le (by decide)) rv ⟨rfl, rfl⟩))))) ⟨.ref rs[i], .int 5, Pu.item (.loc 0 rfl rfl) (ixs rfl rfl) (In.led 0 rfl).w (by omega) (by omega) eri, .int, fun ux uy u rx ry ru => ?_⟩))
    cases rx
    obtain ⟨t', rfl⟩ := ry
    refine WU.setItem (j := i + 2) eL' (by decide) (by show (5 : Int) < 6; decide) (by show 6 ≤ 1000; decide) ru (WF.nil (WF.nil (WF.nil (WF.nil ⟨_, List.Sublist.refl _, ?_⟩))))
    have up := H.t.up.2 i _ et
    refine k (T.set i { T[i] with mode := M, sh := fmF M }) rs ss _ (H.set et rfl ⟨hM0, rfl⟩ up.1 up.2) ?_
    have e2 : (lawL w tl sl (T.set i { T[i] with mode := M }) rs ss).set (i + 2) (rs[i], isListW ({ T[i] with mode := M, sh := fmF M } : Th).avs) = lawL w tl sl (T.set i { T[i] with mode := M, sh := fmF M }) rs ss := by
      rw [← eLs { T[i] with mode := M }, List.set_set]; exact eLs _
    rw [← e2]
    exact Ent.refl
section
variable {c : Cx} {st : AS}
/-- a slice of whatever a list's expression makes -/
theorem slice_any {w : World} {A : Around} {s : Shared} {env : Env} {value : Expr} {lower upper : Option Expr} {p pos : Pos} {Q : Value → Shared → Prop}
    (h : wpAny (model Pg w) A (eval value env) (fun o s₁ => wpAny (model Pg w) A (eval (.Slice lower upper none p) env) (fun i s₂ => s₂.TypeIs o "list" ∧ wpAny (model Pg w) A (getItem o i) Q NoE s₂) NoE s₁) NoE s) :
    wpAny (model Pg w) A (eval (.Subscript value (.Slice lower upper none p) pos) env) Q NoE s := by
  rw [eval_Subscript]
  refine wpAny_bind (wpAny_mono h (fun o s₁ h₁ => wpAny_bind (wpAny_holding (wpAny_mono h₁ (fun i s₂ h₂ => wpAny_bind (wpAny_standAt ?_)) fun _ _ x => x))) fun _ _ x => x)
  have fin : wpAny (model Pg w) A (operate [i, o] (getItem o i)) (fun r s₃ => wpAny (model Pg w) A (letTemporaryGo value o r >>= fun _ => pure r) Q NoE s₃) NoE s₂ :=
    wpAny_operating (wpAny_mono h₂.2 (fun r s₃ h₃ => wpAny_bind (wpAny_letTemporaryGo (wpAny_pure h₃))) fun _ _ x => x)
  first
    | (refine wpAny_bind ?_
       rw [getitemInPython_of_ne h₂.1.not_modules]
       refine wpAny_bind (wpAny_specialOf h₂.1 slot_list_getitem.lookup ?_)
       first
         | exact wpAny_pure (wpAny_bind fin)
         | exact wpAny_bind (wpAny_pure (wpAny_bind fin))
         | exact wpAny_bind fin)
    | (refine wpAny_bind (wpAny_specialOf h₂.1 slot_list_getitem.lookup ?_)
       first
         | exact wpAny_bind (wpAny_pure (wpAny_bind fin))
         | exact wpAny_bind fin)
theorem WV.lsliceV {value hi : Expr} {p pos : Pos} {R : AV → AS → Prop} (h : WV c st (eval value c.env) fun a st₁ => ∃ l xs n, a = .ref l ∧ Pu c st₁ hi (.int (n : Nat)) ∧ In c st₁ l (isListW xs) ∧ xs.length ≤ 1000 ∧ ∀ b, R (.ref b) (st₁.new b (isList (xs.take n)))) :
    WV c st (eval (.Subscript value (.Slice Option.none (some hi) Option.none p) pos) c.env) R := ⟨fun s hs =>
  slice_any (h.run hs fun o s₁ a st₁ ro q₁ z => wpAny_Slice (by
    obtain ⟨l, xs, n, rfl, h2, b, hz, k⟩ := z
    cases ro
    rw [evalPart_none]
    refine wpAny_pure (h2.run q₁ fun vu s₂ ru q₂ => ?_)
    obtain ⟨tu, rfl⟩ := ru
    refine wpAny_pure ?_
    have q₃ := q₂.grow (h' := s₂.heap.push { cls := .type "slice", data := .fields #[.none, .int n tu, .none] }) fun b ob e => Heap.get?_push_of_some _ e
    obtain ⟨vs, il, rv⟩ := (b _ q₃.hp).isL
    refine ⟨il.typeIs (s := { s₂ with heap := s₂.heap.push { cls := .type "slice", data := .fields #[.none, .int n tu, .none] } }), wpAny_getItem_list_slice (lo := none) (hi := some n) (st := none) il ⟨_, Heap.get?_push_size _ rfl, rfl, rfl⟩ (by constructor) (by constructor) (by constructor) (fun z => nomatch z) ?_ (by rw [rv.size]; exact small_fits hz)⟩
    rw [slicePick_upto']
    exact ⟨.ref _, _, rfl, q₃.push rfl ⟨_, _, rfl, rv.take n⟩, k _⟩))⟩
/-- a list, or another -/
theorem WV.orL {e f : Expr} {p : Pos} {l : Addr} {xs : List AV} {R : AV → AS → Prop} (he : Pu c st e (.ref l)) (b : In c st l (isListW xs)) (hz : xs.length ≤ 1000) (h1 : xs.isEmpty = false → R (.ref l) st) (h2 : xs.isEmpty = true → WV c st (eval f c.env) R) : WV c st (eval (.BoolOp .Or [e, f] p) c.env) R := ⟨fun s hs =>
  BoolOp_or (he.run hs fun u s₁ r q => by
    cases r
    refine Tv.list q b hz fun s' q' => ?_
    cases hx : xs.isEmpty with
    | false => rw [if_pos (show (!false) = true from rfl)]; exact ⟨.ref l, st, rfl, q', h1 hx⟩
    | true => rw [if_neg (by decide)]; exact BoolOp_one ((h2 hx).go s' q'))⟩
theorem WB.not {e : Expr} {p : Pos} {R : Bool → AS → Prop} (h : WB c st (PySem.isTrue e c.env (eval e c.env)) fun b st₁ => R (!b) st₁) : WB c st (PySem.isTrue (.UnaryOp .Not e p) c.env (eval (.UnaryOp .Not e p) c.env)) R :=
  ⟨fun s hs => wpAny_isTrue_Not (h.run hs fun u s₁ b st₁ r q z => ⟨!b, st₁, by rw [r], q, z⟩)⟩
theorem WB.plain {e : Expr} {R : Bool → AS → Prop} (h : WV c st (eval e c.env) fun v st₁ => ∃ b, v = .bool b ∧ R b st₁) (hq : PySem.isTrue e c.env (eval e c.env) = (do let v ← eval e c.env; standAt e.pos; holding [v] (truthy v)) := by rfl) : WB c st (PySem.isTrue e c.env (eval e c.env)) R :=
  ⟨fun s hs => isTrue_plain (h.run hs fun u s₁ v st₁ r q z => by
    obtain ⟨b, rfl, k⟩ := z
    cases r
    exact wpAny_truthy_bool ⟨b, st₁, rfl, q, k⟩) hq⟩
end
/-- the part of a session that stands -/
def Ses.frz (w : World) (s : Ses) : List (Addr × OP) := (s.lk, isList (s.lac.map AV.str)) :: (s.sh, isList (s.chs.map AV.ref)) :: (chE s.chs s.cs ++ [(s.dx, isAttrs (attr3 s.ms s.ds s.ig)), (s.rd, isInst s.dx), (s.ms, isSSet w s.ys), (s.ds, isList (s.dl.map AV.str)), (s.tup, isTup [.ref s.rd, .ref s.lk, .ref s.sh, .ref s.kp])])
theorem perm_y {α : Type} (c : List α) (lk sh dx rd ms ig ds kp tup : α) : ((lk :: sh :: (c ++ [dx, rd, ms, ds, tup])) ++ [kp, ig]).Perm (lk :: sh :: (c ++ [dx, rd, ms, ig, ds, kp, tup])) := by
  show (lk :: sh :: (c ++ [dx, rd, ms, ds, tup] ++ [kp, ig])).Perm _
  rw [List.append_assoc]
  refine ((List.Perm.append_left c ?_).cons _).cons _
  refine .cons _ (.cons _ (.cons _ ?_))
  show [ds, tup, kp, ig].Perm [ig, ds, kp, tup]
  exact ((List.perm_append_comm (l₁ := [ds, tup, kp]) (l₂ := [ig])).trans (.cons _ (.cons _ (.swap _ _ _))))
theorem Ses.perm (w : World) (s : Ses) : (s.frz w ++ [(s.kp, isDict w s.kp s.n2 s.m2), (s.ig, isDict w s.ig s.n1 s.m1)]).Perm (s.led w) := perm_y (chE s.chs s.cs) _ _ _ _ _ _ _ _ _
theorem chE_mem {chs : List Addr} {cs : List (List Int)} {k : Nat} {a : Addr} {c : List Int} (e : chs[k]? = some a) (e' : cs[k]? = some c) : (a, isList (c.map AV.int)) ∈ chE chs cs := List.mem_map.mpr ⟨(a, c), List.mem_of_getElem? (zip_at e e'), rfl⟩
theorem sesB_of {w : World} {h : Heap} {s : Ses} (k : ∀ p ∈ s.frz w, Bs h p.1 p.2) : SesB w h s :=
  ⟨⟨k (s.rd, _) (.tail _ (.tail _ (List.mem_append_right _ (.tail _ (.head _))))), k (s.dx, _) (.tail _ (.tail _ (List.mem_append_right _ (.head _)))), k (s.ms, _) (.tail _ (.tail _ (List.mem_append_right _ (.tail _ (.tail _ (.head _)))))), listW (k (s.ds, _) (.tail _ (.tail _ (List.mem_append_right _ (.tail _ (.tail _ (.tail _ (.head _))))))))⟩,
    (k (s.tup, _) (.tail _ (.tail _ (List.mem_append_right _ (.tail _ (.tail _ (.tail _ (.tail _ (.head _))))))))).imp tupW, listW (k (s.lk, _) (.head _)), listW (k (s.sh, _) (.tail _ (.head _))), fun i a c e e' => listW (k (a, _) (.tail _ (.tail _ (List.mem_append_left _ (chE_mem e e')))))⟩
/-- the things and the sessions -/
def qL (w : World) (tl : Addr) (T : List Th) (rs : List Addr) (ss : List Ses) : List (Addr × OP) := (tl, isList (rs.map AV.ref)) :: (thE rs T ++ ss.flatMap (Ses.led w))
theorem qL_things {w : World} {tl : Addr} {T : List Th} {rs : List Addr} {ss : List Ses} {h : Heap} (hl : rs.length = T.length) (k : ∀ p ∈ (tl, isList (rs.map AV.ref)) :: thE rs T, Bs h p.1 p.2) : Things h tl rs T :=
  ⟨listW (k (tl, _) (.head _)), hl, fun i r t e e' => k (r, isListW t.avs) (.tail _ (List.mem_of_getElem? (thE_get e e')))⟩
/-- one session is taken out -/
theorem qL_perm {w : World} {tl : Addr} {T : List Th} {rs : List Addr} {ss : List Ses} {m : Nat} {s : Ses} (e : ss[m]? = some s) (s' : Ses) (hf : s'.frz w = s.frz w) :
    ((((tl, isList (rs.map AV.ref)) :: thE rs T) ++ (s.frz w ++ ((ss.take m).flatMap (Ses.led w) ++ (ss.drop (m + 1)).flatMap (Ses.led w)))) ++ [(s'.kp, isDict w s'.kp s'.n2 s'.m2), (s'.ig, isDict w s'.ig s'.n1 s'.m1)]).Perm (qL w tl T rs (ss.set m s')) := by
  have hm := (List.getElem?_eq_some_iff.mp e).1
  have e1 : ss.set m s' = ss.take m ++ s' :: ss.drop (m + 1) := List.set_eq_take_append_cons_drop .. |>.trans (if_pos hm)
  unfold qL
  rw [e1, List.flatMap_append, List.flatMap_cons]
  show (_ :: (thE rs T ++ _ ++ _)).Perm _
  refine .cons _ ?_
  rw [List.append_assoc]
  refine List.Perm.append_left _ ?_
  rw [← hf]
  generalize (ss.take m).flatMap (Ses.led w) = X
  generalize (ss.drop (m + 1)).flatMap (Ses.led w) = Y
  have h1 := s'.perm w
  generalize s'.frz w = F at h1 ⊢
  generalize [(s'.kp, isDict w s'.kp s'.n2 s'.m2), (s'.ig, isDict w s'.ig s'.n1 s'.m1)] = K at h1 ⊢
  refine List.Perm.trans ?_ (List.Perm.append_left X (h1.append_right Y))
  rw [List.append_assoc, List.append_assoc, List.append_assoc]
  refine (List.perm_append_comm_assoc F X _).trans (List.Perm.append_left X (List.Perm.append_left F ?_))
  exact List.perm_append_comm
/-- if not _law_right(session, things, i, letters) -/
theorem ask {c : Cx} {vs : List (Option AV)} {tl : Addr} {T : List Th} {rs : List Addr} {ss : List Ses} {m i : Nat} {s : Ses} {lets : Str} {R : Bool → AS → Prop} {x : Str} {np pos p : Pos} {e1 e2 e3 e4 : Expr} (hT : TOk T) (hrs : rs.length = T.length) (e : ss[m]? = some s) (S : SesOk (namesT T) s) (hb1 : s.n1 ≤ 900) (hb2 : s.n2 ≤ 900) (hi : i < T.length)
    (hl : lets.cps.size ≤ 3) (hlt : ∀ k, k < lets.cps.size → chr lets k = lt k) (rm : Rm c.A 4) (hf : Pu c ⟨vs, qL c.w tl T rs ss⟩ (.Name x np) (.ref 215)) (h1 : Pu c ⟨vs, qL c.w tl T rs ss⟩ e1 (.ref s.tup)) (h2 : Pu c ⟨vs, qL c.w tl T rs ss⟩ e2 (.ref tl)) (h3 : Pu c ⟨vs, qL c.w tl T rs ss⟩ e3 (.int i)) (h4 : Pu c ⟨vs, qL c.w tl T rs ss⟩ e4 (.str lets))
    (k : ∀ s' nw, SesOk (namesT T) s' → s'.tup = s.tup → s'.n1 ≤ s.n1 + 3 → s'.n2 ≤ s.n2 + 3 → Ent nw (qL c.w tl T rs (ss.set m s')) → R false ⟨vs, nw⟩)
    (s1 : starEach [e1, e2, e3, e4] c.env = (false, eval e1 c.env) :: starEach [e2, e3, e4] c.env := by rfl) (s2 : starEach [e2, e3, e4] c.env = (false, eval e2 c.env) :: starEach [e3, e4] c.env := by rfl) (s3 : starEach [e3, e4] c.env = (false, eval e3 c.env) :: starEach [e4] c.env := by rfl) (s4 : starEach [e4] c.env = (false, eval e4 c.env) :: starEach [] c.env := by rfl) (hp : (backTo pos (starEach [e2, e3, e4] c.env)).any (·.1) = false := by rfl) :
    WB c ⟨vs, qL c.w tl T rs ss⟩ (PySem.isTrue (.UnaryOp .Not (.Call (.Name x np) [e1, e2, e3, e4] [] pos) p) c.env (eval (.UnaryOp .Not (.Call (.Name x np) [e1, e2, e3, e4] [] pos) p) c.env)) R := by
  refine WB.not (WB.plain (WV.callN hf (fun _ => by kernel_rfl) (WA.cons (h1.wv (WA.cons (h2.wv (WA.cons (h3.wv (WA.cons (h4.wv (WA.nil fun vs' rv => ?_)) s4)) s3)) s2)) s1) s1 hp))
  have pm := qL_perm (w := c.w) (tl := tl) (T := T) (rs := rs) e s rfl
  rw [set_self e] at pm
  refine WV.callG (st := ⟨vs, qL c.w tl T rs ss⟩) pm fun hbC G' kp kr => ?_
  refine right_sp G' rm (sesB_of fun p hp => kr p (List.mem_append_right _ (List.mem_append_left _ hp))) (qL_things (w := c.w) (ss := ss) hrs fun p hp => kr p (List.mem_append_left _ hp)) hT.up hT.nm S hi hl hlt hb1 hb2 rv fun n1 m1 n2 m2 k1 k2 S' => ⟨true, rfl, ?_⟩
  exact k (s.put n1 m1 n2 m2) _ S' rfl k1 k2 (Ent.perm (qL_perm e (s.put n1 m1 n2 m2) rfl).symm)
def T0 : List Th := [mkTh 0 (-1) 16872 0 0, mkTh 1 0 17865 1 65, mkTh 2 1 35232 2 258, mkTh 3 (-1) 33668 0 7]
theorem T0_nm : NmOk T0 := fun k t e => by
  match k, e with
  | 0, e => cases e; exact ⟨0, rfl⟩
  | 1, e => cases e; exact ⟨65, rfl⟩
  | 2, e => cases e; exact ⟨258, rfl⟩
  | 3, e => cases e; exact ⟨7, rfl⟩
theorem T0_up : UpOk T0 := ⟨by decide, fun k t e => by
  match k, e with
  | 0, e => cases e; exact ⟨Int.le_refl _, by show (-1 : Int) < 0; decide⟩
  | 1, e => cases e; exact ⟨by show (-1 : Int) ≤ 0; decide, by show (0 : Int) < 1; decide⟩
  | 2, e => cases e; exact ⟨by show (-1 : Int) ≤ 1; decide, by show (1 : Int) < 2; decide⟩
  | 3, e => cases e; exact ⟨Int.le_refl _, by show (-1 : Int) < 3; decide⟩⟩
theorem T0_ok : TOk T0 := ⟨T0_up, fun t ht => by
  rcases List.mem_cons.mp ht with rfl | ht
  · exact ⟨by show (0 : Int) ≤ 16872; decide, rfl⟩
  rcases List.mem_cons.mp ht with rfl | ht
  · exact ⟨by show (0 : Int) ≤ 17865; decide, rfl⟩
  rcases List.mem_cons.mp ht with rfl | ht
  · exact ⟨by show (0 : Int) ≤ 35232; decide, rfl⟩
  · rw [List.mem_singleton.mp ht]; exact ⟨by show (0 : Int) ≤ 33668; decide, rfl⟩, T0_nm.nok (by decide)⟩
abbrev lEnv (f : Addr) (cdv : Value) (L : Addr) : Env := envOfC (Str.ofString "law") (scopeOf (fnAt 52)) L f cdv
abbrev lCx (w : World) (A : Around) (hb : Heap) (g : Array GenState) (o : OsState) (f : Addr) (cdv : Value) (L : Addr) : Cx := ⟨w, A.deeper (lEnv f cdv L), 10, hb, g, o, lEnv f cdv L, [Str.ofString "script", Str.ofString "sessions", Str.ofString "n", Str.ofString "session", Str.ofString "late", Str.ofString "letters", Str.ofString "i"]⟩
abbrev lBody : List Stmt := bodyOf (fnAt 52)
theorem ent4 (c tl : Addr × OP) (t0 t1 t2 t3 : Addr) (a0 a1 a2 a3 : List AV) : Ent [c, (t0, isList a0), (t1, isList a1), (t2, isList a2), (t3, isList a3), tl] [c, tl, (t0, isListW a0), (t1, isListW a1), (t2, isListW a2), (t3, isListW a3)] := by
  refine Ent.trans (Ent.perm (.cons c (List.perm_append_comm (l₁ := [tl]) (l₂ := [(t0, isList a0), (t1, isList a1), (t2, isList a2), (t3, isList a3)])))) ?_
  refine Ent.trans (Ent.weak (b := t0) (x := [c, tl]) (y := [(t1, isList a1), (t2, isList a2), (t3, isList a3)]) listWo) ?_
  refine Ent.trans (Ent.weak (b := t0) (x := [c, tl, (t0, isListW a0)]) (y := [(t2, isList a2), (t3, isList a3)]) listWo) ?_
  refine Ent.trans (Ent.weak (b := t0) (x := [c, tl, (t0, isListW a0), (t1, isListW a1)]) (y := [(t3, isList a3)]) listWo) ?_
  exact Ent.weak (b := t0) (x := [c, tl, (t0, isListW a0), (t1, isListW a1), (t2, isListW a2)]) (y := []) listWo
/-- the things, the first session -/
theorem law_A {w : World} {A : Around} {hb : Heap} {g : Array GenState} {o : OsState} {f : Addr} {cdv : Value} {L l : Addr} {Q : AF → AS → Prop} (G : Gr w hb) (r : Rm (A.deeper (lEnv f cdv L)) 11)
    (k : ∀ tl sl rs s, LOk 1 T0 rs [s] → WF (lCx w A hb g o f cdv L) ⟨[some (.ref l), some (.ref sl), none, none, none, none, none], (L + 1, isCell (some (.ref tl))) :: lawL w tl sl T0 rs [s]⟩ (execs (lBody.drop 3) (lEnv f cdv L)) Q) :
    WF (lCx w A hb g o f cdv L) ⟨[some (.ref l), none, none, none, none, none, none], [(L + 1, isCell none)]⟩ (execs lBody (lEnv f cdv L)) Q := by
  refine WF.cons (WF.asg (.cel 0 rfl rfl) (WV.list (WA.cons (WV.callN (f := 198) (.glob (fun _ => rfl) rfl rfl) (fun _ => by kernel_rfl) (WA.cons (Pu.wv .int (WA.cons (Pu.wv (Pu.neg .int) (WA.cons (Pu.wv .int (WA.cons (Pu.wv .int (WA.cons (Pu.wv .int (WA.nil fun vs rv => WV.call0 fun hbC G' _ _ => thing_sp (place := 0) G' (r.le (by decide)) (by decide) rv fun t0 => ?_)))))))))))))))
  refine WA.cons (WV.callN (f := 198) (.glob (fun _ => rfl) rfl rfl) (fun _ => by kernel_rfl) (WA.cons (Pu.wv .int (WA.cons (Pu.wv .int (WA.cons (Pu.wv .int (WA.cons (Pu.wv .int (WA.cons (Pu.wv .int (WA.nil fun vs rv => WV.call0 fun hbC G' _ _ => thing_sp (place := 1) G' (r.le (by decide)) (by decide) rv fun t1 => WA.nil ⟨Nat.le_of_ble_eq_true rfl, fun a => ⟨⟨_, rfl⟩, ?_⟩⟩))))))))))))
  refine WF.cons (WF.asg (.cel 0 rfl rfl) (WV.bin (Pu.wv (.cel 0 rfl rfl rfl) (WV.list (WA.cons (WV.callN (f := 198) (.glob (fun _ => rfl) rfl rfl) (fun _ => by kernel_rfl) (WA.cons (Pu.wv .int (WA.cons (Pu.wv .int (WA.cons (Pu.wv .int (WA.cons (Pu.wv .int (WA.cons (Pu.wv .int (WA.nil fun vs rv => WV.call0 fun hbC G' _ _ => thing_sp (place := 2) G' (r.le (by decide)) (by decide) rv fun t2 => ?_)))))))))))))))))
  refine WA.cons (WV.callN (f := 198) (.glob (fun _ => rfl) rfl rfl) (fun _ => by kernel_rfl) (WA.cons (Pu.wv .int (WA.cons (Pu.wv (Pu.neg .int) (WA.cons (Pu.wv .int (WA.cons (Pu.wv .int (WA.cons (Pu.wv .int (WA.nil fun vs rv => WV.call0 fun hbC G' _ _ => thing_sp (place := 3) G' (r.le (by decide)) (by decide) rv fun t3 => WA.nil ⟨Nat.le_of_ble_eq_true rfl, fun b va vb ra rb => ?_⟩))))))))))))
  cases ra; cases rb
  refine WV.cat (xs := [.ref t0, .ref t1]) (ys := [.ref t2, .ref t3]) (In.led 3 rfl) (In.led 6 rfl) (Nat.le_of_ble_eq_true rfl) fun tl => ⟨⟨_, rfl⟩, ?_⟩
  refine WF.ent (L := (L + 1, isCell (some (.ref tl))) :: (tl, isList ([t0, t1, t2, t3].map AV.ref)) :: thE [t0, t1, t2, t3] T0) ?_ ?_
  · refine Ent.trans (Ent.sub (b := [(L + 1, isCell (some (.ref tl))), (t0, isList (mkTh 0 (-1) 16872 0 0).avs), (t1, isList (mkTh 1 0 17865 1 65).avs), (t2, isList (mkTh 2 1 35232 2 258).avs), (t3, isList (mkTh 3 (-1) 33668 0 7).avs), (tl, isList ([t0, t1, t2, t3].map AV.ref))]) ?_) (ent4 _ _ _ _ _ _ _ _ _ _)
    exact .cons_cons _ (.cons_cons _ (.cons_cons _ (.cons _ (.cons_cons _ (.cons_cons _ (.cons _ (.cons_cons _ .slnil)))))))
  refine WF.cons (WF.asg (.loc 1 rfl) (WV.list (WA.cons (WV.callN (f := 210) (.glob (fun _ => rfl) rfl rfl) (fun _ => by kernel_rfl) (WA.cons (Pu.wv (.cel 0 rfl rfl rfl) (WA.cons (Pu.wv .int (WA.nil fun vs rv => WV.call0 fun hbC G' kp kr => opened_sp (rs := [t0, t1, t2, t3]) G' (r.le (by decide)) (qL_things (w := w) (ss := []) rfl fun p hp => kr p (.tail _ hp)) T0_ok rv fun s S e1 e2 => WA.nil ⟨Nat.le_of_ble_eq_true rfl, fun sl => ⟨trivial, ?_⟩⟩)))))))))
  refine WF.ent (L := (L + 1, isCell (some (.ref tl))) :: lawL w tl sl T0 [t0, t1, t2, t3] [s]) (Ent.perm ?_) (k tl sl [t0, t1, t2, t3] s ⟨T0_ok, T0_nm, .inl rfl, rfl, Nat.le_of_ble_eq_true rfl, fun u hu => by rw [List.mem_singleton.mp hu]; exact ⟨S, by omega, by omega⟩⟩)
  unfold lawL
  rw [List.flatMap_singleton]
  show (_ :: _ :: _ :: _).Perm (_ :: _ :: (thE [t0, t1, t2, t3] T0 ++ s.led w ++ [(sl, isList [.ref s.tup])]))
  exact .cons _ (.cons _ (List.perm_append_comm (l₁ := [(sl, isList [.ref s.tup])]) (l₂ := thE [t0, t1, t2, t3] T0 ++ s.led w)))
theorem LOk.mono {B B' : Nat} {T : List Th} {rs : List Addr} {ss : List Ses} (H : LOk B T rs ss) (h : B ≤ B') : LOk B' T rs ss :=
  ⟨H.t, H.nm, H.l4, H.rs, H.l3, fun s hs => ⟨(H.ss s hs).1, Nat.le_trans (H.ss s hs).2.1 h, Nat.le_trans (H.ss s hs).2.2 h⟩⟩
theorem mem_set {α : Type} {l : List α} {m : Nat} {a b : α} (h : b ∈ l.set m a) : b = a ∨ b ∈ l := by
  obtain ⟨i, hi⟩ := List.getElem?_of_mem h
  rw [List.getElem?_set] at hi
  split at hi
  · split at hi
    · cases hi; exact .inl rfl
    · cases hi
  · exact .inr (List.mem_of_getElem? hi)
theorem LOk.put {B : Nat} {T : List Th} {rs : List Addr} {ss : List Ses} (H : LOk B T rs ss) {m : Nat} {s s' : Ses} (e : ss[m]? = some s) (S : SesOk (namesT T) s') (h1 : s'.n1 ≤ s.n1 + 3) (h2 : s'.n2 ≤ s.n2 + 3) : LOk (B + 3) T rs (ss.set m s') := by
  have hs := H.ss s (List.mem_of_getElem? e)
  refine ⟨H.t, H.nm, H.l4, H.rs, by rw [List.length_set]; exact H.l3, fun u hu => ?_⟩
  rcases mem_set hu with rfl | h
  · exact ⟨S, by omega, by omega⟩
  · have := H.ss u h
    exact ⟨this.1, by omega, by omega⟩
theorem tups_set {ss ss₀ : List Ses} {m : Nat} {s s' : Ses} (e : ss[m]? = some s) (h : s'.tup = s.tup) (hm : ss.map (fun s => AV.ref s.tup) = ss₀.map fun s => AV.ref s.tup) : (ss.set m s').map (fun s => AV.ref s.tup) = ss₀.map fun s => AV.ref s.tup := by
  rw [List.map_set, ← hm]
  exact set_self (by rw [List.getElem?_map, e, h]; rfl)
abbrev tupsV (ss : List Ses) : List AV := ss.map fun s => AV.ref s.tup
theorem law_swap (w : World) (tl sl : Addr) (T : List Th) (rs : List Addr) (ss : List Ses) : ([(sl, isList (tupsV ss))] ++ qL w tl T rs ss).Perm (lawL w tl sl T rs ss) := List.Perm.swap _ _ _
abbrev lVs (l sl : Addr) (n s a b i : Option AV) : List (Option AV) := [some (.ref l), some (.ref sl), n, s, a, b, i]
/-- each number of the script -/
theorem law_B1 {w : World} {A : Around} {hb : Heap} {g : Array GenState} {o : OsState} {f : Addr} {cdv : Value} {L l tl sl : Addr} {rs₀ : List Addr} {s₀ : Ses} {ms : List Int} {rest : List (Addr × OP)} {pn : Pos} {Q : AF → AS → Prop} (G : Gr w hb) (r : Rm (A.deeper (lEnv f cdv L)) 11) (hm : ms.length ≤ 5) (hr : (L + 1, isCell (some (.ref tl))) ∈ rest) (hE : ∀ X, Ent (rest ++ X) ((L + 1, isCell (some (.ref tl))) :: X)) (H : LOk 1 T0 rs₀ [s₀])
    (k : ∀ T rs ss, LOk 46 T rs ss → WF (lCx w A hb g o f cdv L) ⟨lVs l sl none none none none none, (L + 1, isCell (some (.ref tl))) :: lawL w tl sl T rs ss⟩ (execs (lBody.drop 4) (lEnv f cdv L)) Q) :
    ∃ Inv, Inv 0 ⟨lVs l sl none none none none none, lawL w tl sl T0 rs₀ [s₀]⟩ ∧ ForT (lCx w A hb g o f cdv L) (.Name (Str.ofString "n") pn) (loopBody (nthS lBody 3)) rest (ms.map AV.int).length (ItemV (ms.map AV.int)) Inv (Then (lCx w A hb g o f cdv L) (lBody.drop 4) Q) ∧
      ∀ st', Inv (ms.map AV.int).length st' → WF (lCx w A hb g o f cdv L) ⟨st'.vs, rest ++ st'.nw⟩ (execs [] (lEnv f cdv L)) (Then (lCx w A hb g o f cdv L) (lBody.drop 4) Q) := by
  refine ⟨fun j st' => ∃ T rs ss, LOk (1 + 9 * j) T rs ss ∧ st' = ⟨lVs l sl none none none none none, lawL w tl sl T rs ss⟩, ⟨T0, rs₀, [s₀], H, rfl⟩, ForT.one (fun _ => Tg.loc 2 rfl) (fun j a => j < 5 ∧ ∃ n, a = .int n) (fun j v h hv => ?_) (fun hb' k1 k2 j st' a hj hI hA => ⟨trivial, ?_⟩), fun st' hI => WF.nil ?_⟩
  · obtain ⟨a, ea, ra⟩ := hv
    rw [List.getElem?_map] at ea
    obtain ⟨n, en, rfl⟩ := Option.map_eq_some_iff.mp ea
    have := (List.getElem?_eq_some_iff.mp en).1
    exact ⟨.int n, ⟨by omega, n, rfl⟩, ra⟩
  · obtain ⟨T₁, rs₁, ss₁, H₁, rfl⟩ := hI
    obtain ⟨hj5, n, rfl⟩ := hA
    have hc := k2 _ hr
    refine WF.cons (WF.expr (WV.callN (f := 222) (.glob (fun _ => rfl) rfl rfl) (fun _ => by kernel_rfl) (WA.cons (Pu.wv (.celB (a := L + 1) rfl hc rfl) (WA.cons (Pu.wv (.loc 1 rfl rfl) (WA.cons (Pu.wv (.loc 2 rfl rfl) (WA.nil fun vs rv => WV.callG (nwM := lawL w tl sl T₁ rs₁ ss₁) (rest := []) (List.Perm.refl _) fun hbC G' kp kr => deed_sp G' (r.le (by decide)) (by omega) H₁ rv fun T rs ss nw' H' E' => ?_)))))))))
    refine WF.ent (nw := nw') E' ?_
    have hlr : (rs.map AV.ref).length = T.length := by rw [List.length_map, H'.rs]
    have h5 := H'.t.up.1
    have h4 := H'.l4
    have h3 := H'.l3
    obtain ⟨i, ei, hi⟩ := fmod_nat (n.fdiv 4) (n := T.length) (by omega)
    refine WF.cons (WF.for (Src.list (Pu.wv (.loc 1 rfl rfl) ⟨sl, _, [(sl, isList (tupsV ss))], qL w tl T rs ss, rfl, law_swap w tl sl T rs ss, .inr ⟨_, .head _, listWo⟩, fun m st' => ∃ ss', LOk (1 + 9 * j + 3 * m) T rs ss' ∧ tupsV ss' = tupsV ss ∧ st' = ⟨lVs l sl (some (.int n)) none none none none, qL w tl T rs ss'⟩, ⟨ss, H', rfl, rfl⟩,
      ForT.one (fun _ => Tg.loc 3 rfl) (fun m a => (tupsV ss)[m]? = some a) (fun m v h hv => hv) (fun hb'' k1' k2' m st' a hm' hI hA => ⟨trivial, ?_⟩), fun st' hI => WF.nil ?_⟩)))
    · obtain ⟨ss', H2, et, rfl⟩ := hI
      rw [← et, List.getElem?_map] at hA
      obtain ⟨s, es, rfl⟩ := Option.map_eq_some_iff.mp hA
      have hs := H2.ss s (List.mem_of_getElem? es)
      have hml : m < 3 := by rw [List.length_map] at hm'; omega
      refine WF.cons (WF.iff (ask (i := i) (lets := rwx) H2.t H2.rs es hs.1 (by omega) (by omega) hi (by rw [rwx_size]; decide) (fun _ _ => rfl) (r.le (by decide)) (.glob (fun _ => rfl) rfl rfl) (.loc 3 rfl rfl) (.celB (a := L + 1) rfl (hc.up k1') rfl) (ei ▸ Pu.bin (Op2.fmod (b := (T.length : Int)) (by omega)) (Pu.bin (Op2.fdivS 4) (.loc 2 rfl rfl) .int) (Pu.lenN hlr (.blt (fun _ => rfl) rfl (by decide) rfl) (.celB (a := L + 1) rfl (hc.up k1') rfl) (In.led 0 rfl).w (by omega))) .str fun s' nw S' e' b1 b2 E => WF.ent E (WF.nil (WF.nil ⟨_, .keep (.keep (.keep (.drop (.keep (.keep (.keep (.nil (List.Sublist.refl _)))))))), ss'.set m s', (H2.put es S' b1 b2).mono (by omega), tups_set es e' et, rfl⟩))))
    · obtain ⟨ss', H2, et, rfl⟩ := hI
      rw [List.length_map] at H2
      rw [← et]
      exact WF.perm (law_swap w tl sl T rs ss').symm (WF.nil ⟨_, .keep (.keep (.drop (.keep (.keep (.keep (.keep (.nil (List.Sublist.refl _)))))))), T, rs, ss', H2.mono (by omega), rfl⟩)
  · obtain ⟨T, rs, ss, H', rfl⟩ := hI
    rw [List.length_map] at H'
    exact WF.ent (hE _) (k T rs ss (H'.mono (by omega)))
theorem law_B {w : World} {A : Around} {hb : Heap} {g : Array GenState} {o : OsState} {f : Addr} {cdv : Value} {L l tl sl : Addr} {rs₀ : List Addr} {s₀ : Ses} {ns : List Int} {Q : AF → AS → Prop} (G : Gr w hb) (r : Rm (A.deeper (lEnv f cdv L)) 11) (hl : Bs hb l (isListW (ns.map AV.int))) (hz : ns.length ≤ 1000) (H : LOk 1 T0 rs₀ [s₀])
    (k : ∀ T rs ss, LOk 46 T rs ss → WF (lCx w A hb g o f cdv L) ⟨lVs l sl none none none none none, (L + 1, isCell (some (.ref tl))) :: lawL w tl sl T rs ss⟩ (execs (lBody.drop 4) (lEnv f cdv L)) Q) :
    WF (lCx w A hb g o f cdv L) ⟨lVs l sl none none none none none, (L + 1, isCell (some (.ref tl))) :: lawL w tl sl T0 rs₀ [s₀]⟩ (execs (lBody.drop 3) (lEnv f cdv L)) Q := by
  have hz' : (ns.map AV.int).length ≤ 1000 := by rw [List.length_map]; exact hz
  refine WF.cons (WF.for (Src.list (WV.lsliceV (WV.orL (.loc 0 rfl rfl) (.base hl) hz' (fun e => ⟨l, _, 5, rfl, .int, .base hl, hz', fun b => ?_⟩) fun e => WV.list (WA.lits (as := [25, 10, 13, 30, 451].map AV.int) rfl ⟨Nat.le_of_ble_eq_true rfl, fun a => ⟨a, _, 5, rfl, .int, (In.mem mem_last).w, Nat.le_of_ble_eq_true rfl, fun b => ?_⟩⟩)))))
  · rw [← List.map_take]
    exact ⟨b, _, (L + 1, isCell (some (.ref tl))) :: [(b, isList ((ns.take 5).map AV.int))], lawL w tl sl T0 rs₀ [s₀], rfl, .cons _ List.perm_append_comm, .inr ⟨_, .tail _ (.head _), listWo⟩, law_B1 G r (by rw [List.length_take]; omega) (.head _) (fun X => Ent.sub (.cons_cons _ (.cons _ (List.Sublist.refl _)))) H k⟩
  · rw [← List.map_take]
    refine ⟨b, _, (L + 1, isCell (some (.ref tl))) :: [(a, isList ([25, 10, 13, 30, 451].map AV.int)), (b, isList (([25, 10, 13, 30, 451].take 5).map AV.int))], lawL w tl sl T0 rs₀ [s₀], rfl, ?_, .inr ⟨_, .tail _ (.tail _ (.head _)), listWo⟩, law_B1 G r (by decide) (.head _) (fun X => Ent.sub (.cons_cons _ (.cons _ (.cons _ (List.Sublist.refl _))))) H k⟩
    show (_ :: (_ ++ lawL w tl sl T0 rs₀ [s₀])).Perm (_ :: ((lawL w tl sl T0 rs₀ [s₀] ++ [_]) ++ [_]))
    rw [List.append_assoc]
    exact .cons _ List.perm_append_comm
/-- a comprehension that makes something at each turn -/
theorem CompT.mk1 {c : Cx} {scope : Scope} {cl : List (Str × Addr)} {x : Str} {px : Pos} {elt : Expr} {rest : List (Addr × OP)} {n : Nat} {Val : Nat → Value → Heap → Prop} {Inv : Nat → List AV → List (Addr × OP) → Prop} (a : Nat → AV) (hA : ∀ k v h, k < n → Val k v h → (a k).is v)
    (h : ∀ hb C, (∀ b ob, c.hb.get? b = some ob → hb.get? b = some ob) → (∀ p ∈ rest, Bs hb p.1 p.2) → ∀ k D ys ex, k < n → Inv k ys ex → WV (c.comp scope cl [x] hb C) ⟨[some (a k)], (D, isList ys) :: ex⟩ (eval elt (compEnvC scope cl C c.env)) fun y st₃ => ∃ ex', ((D, isList ys) :: ex').Sublist st₃.nw ∧ Inv (k + 1) (ys ++ [y]) ex') :
    CompT c scope cl [x] (.Name x px) [] elt rest n Val Inv := fun hb C k1 k2 k D ys ex v s₁ hk hI hV q =>
  W.run (c := c.comp scope cl [x] hb C) ((Tg.loc (c := c.comp scope cl [x] hb C) (x := x) (p := px) 0 rfl).go ⟨[none], (D, isList ys) :: ex⟩ (a k) v (fun _ st₁ => st₁ = ⟨[some (a k)], (D, isList ys) :: ex⟩) (hA k v _ hk hV) trivial rfl) (q.nones 1) fun _ s₂ _ st₁ _ q₁ e => by
    subst e
    exact ⟨_, q₁, WB.ifs0 (c := c.comp scope cl [x] hb C) (h hb C k1 k2 k D ys ex hk hI)⟩
def tupE (as : List Addr) (its : List (Ses × Str)) : List (Addr × OP) := (as.zip its).map fun q => (q.1, isTup [.ref q.2.1.tup, .str q.2.2])
theorem tupE_snoc {as : List Addr} {its : List (Ses × Str)} (h : as.length = its.length) {a : Addr} {s : Ses} {x : Str} : tupE (as ++ [a]) (its ++ [(s, x)]) = tupE as its ++ [(a, isTup [.ref s.tup, .str x])] := by
  unfold tupE
  rw [List.zip_append h, List.map_append]; rfl
theorem tupE_app {as bs : List Addr} {its jts : List (Ses × Str)} (h : as.length = its.length) : tupE (as ++ bs) (its ++ jts) = tupE as its ++ tupE bs jts := by
  unfold tupE
  rw [List.zip_append h, List.map_append]
theorem tupE_get {as : List Addr} {its : List (Ses × Str)} {m : Nat} {a : Addr} {s : Ses} {x : Str} (e : as[m]? = some a) (e' : its[m]? = some (s, x)) : (a, isTup [.ref s.tup, .str x]) ∈ tupE as its := List.mem_map.mpr ⟨(a, s, x), List.mem_of_getElem? (zip_at e e'), rfl⟩
abbrev withR (ss : List Ses) : List (Ses × Str) := ss.map fun s => (s, Str.ofString "r")
abbrev withX (ss : List Ses) : List (Ses × Str) := ss.map fun s => (s, rwx)
def newE (w : World) (as : List Addr) (ns : List Ses) : List (Addr × OP) := (as.zip ns).flatMap fun q => q.2.led w ++ [(q.1, isTup [.ref q.2.tup, .str rwx])]
theorem newE_snoc {w : World} {as : List Addr} {ns : List Ses} (h : as.length = ns.length) {a : Addr} {s : Ses} : newE w (as ++ [a]) (ns ++ [s]) = newE w as ns ++ (s.led w ++ [(a, isTup [.ref s.tup, .str rwx])]) := by
  unfold newE
  rw [List.zip_append h, List.flatMap_append]
  exact congrArg _ (List.flatMap_singleton ..)
theorem newE_perm {w : World} : ∀ {as : List Addr} {ns : List Ses}, as.length = ns.length → (tupE as (withX ns) ++ ns.flatMap (Ses.led w)).Perm (newE w as ns)
  | [], [], _ => .refl _
  | a :: as, s :: ns, h => by
    have ih := newE_perm (w := w) (as := as) (ns := ns) (Nat.succ.inj h)
    show ((a, isTup [.ref s.tup, .str rwx]) :: (tupE as (withX ns) ++ (s.led w ++ ns.flatMap (Ses.led w)))).Perm ((s.led w ++ [(a, isTup [.ref s.tup, .str rwx])]) ++ newE w as ns)
    rw [List.append_assoc]
    refine List.Perm.trans ?_ (List.Perm.append_left (s.led w) (List.Perm.cons _ ih))
    refine List.Perm.trans (.cons _ (List.perm_append_comm_assoc (tupE as (withX ns)) (s.led w) (ns.flatMap (Ses.led w)))) ?_
    exact (List.perm_middle (l₁ := s.led w)).symm
theorem perm_z {α : Type} (LA c t : α) (TH S U1 U2 N NE : List α) (h : (U2 ++ N).Perm NE) : ((LA :: c :: (U1 ++ U2)) ++ (t :: (TH ++ (S ++ N)))).Perm ((c :: t :: (TH ++ S)) ++ U1 ++ NE ++ [LA]) := by
  refine List.Perm.trans ?_ (List.perm_append_comm (l₁ := [LA]) (l₂ := (c :: t :: (TH ++ S)) ++ U1 ++ NE))
  show (LA :: c :: ((U1 ++ U2) ++ (t :: (TH ++ (S ++ N))))).Perm (LA :: c :: (t :: (TH ++ S) ++ U1 ++ NE))
  refine .cons _ (.cons _ ?_)
  refine List.Perm.trans List.perm_append_comm ?_
  show (t :: (TH ++ (S ++ N) ++ (U1 ++ U2))).Perm (t :: (TH ++ S ++ U1 ++ NE))
  refine .cons _ ?_
  rw [List.append_assoc TH, List.append_assoc S, List.append_assoc (TH ++ S), List.append_assoc TH]
  refine List.Perm.append_left _ (List.Perm.append_left _ ?_)
  refine List.Perm.trans (List.perm_append_comm_assoc N U1 U2) (List.Perm.append_left _ ?_)
  exact List.Perm.trans List.perm_append_comm h
theorem sub_z {α : Type} (LA c t s D D2 : α) (TH S U1 NE : List α) : ((c :: t :: (TH ++ S)) ++ U1 ++ NE ++ [LA]).Sublist (((c :: t :: s :: (TH ++ S)) ++ (D :: U1)) ++ (D2 :: NE) ++ [LA]) :=
  List.Sublist.append (List.Sublist.append (List.Sublist.append (.cons_cons _ (.cons_cons _ (.cons _ (List.Sublist.refl _)))) (.cons _ (List.Sublist.refl _))) (.cons _ (List.Sublist.refl _))) (List.Sublist.refl _)
/-- what is asked in the end -/
theorem law_C {w : World} {A : Around} {hb : Heap} {g : Array GenState} {o : OsState} {f : Addr} {cdv : Value} {L l tl sl : Addr} {T : List Th} {rs : List Addr} {ss : List Ses} {Q : AF → AS → Prop} (G : Gr w hb) (r : Rm (A.deeper (lEnv f cdv L)) 11) (H : LOk 46 T rs ss)
    (k : ∀ la as ns, as.length = (withR ss ++ withX ns).length → ns.length = 3 → (∀ s ∈ ns, SesOk (namesT T) s ∧ s.n1 = 1 ∧ s.n2 = 0) → WF (lCx w A hb g o f cdv L) ⟨lVs l sl none none (some (.ref la)) none none, ((la, isList (as.map AV.ref)) :: (L + 1, isCell (some (.ref tl))) :: tupE as (withR ss ++ withX ns)) ++ qL w tl T rs (ss ++ ns)⟩ (execs (lBody.drop 5) (lEnv f cdv L)) Q) :
    WF (lCx w A hb g o f cdv L) ⟨lVs l sl none none none none none, (L + 1, isCell (some (.ref tl))) :: lawL w tl sl T rs ss⟩ (execs (lBody.drop 4) (lEnv f cdv L)) Q := by
  have h3 := H.l3
  have hsl : (tupsV ss).length = ss.length := List.length_map ..
  refine WF.cons (WF.asg (.loc 4 rfl) (WV.bin (WV.comp (cl := []) (vars := [Str.ofString "session"]) rfl rfl (Src.list (Pu.wv (.loc 1 rfl rfl) ⟨sl, _, _, [], rfl, perm0, .inr ⟨_, .tail _ (.tail _ (.head _)), listWo⟩, rfl, fun k ys ex => ∃ as, as.length = k ∧ k ≤ 3 ∧ ys = as.map AV.ref ∧ ex = tupE as (withR (ss.take k)), fun k ys ex hI => ?_, CompT.mk1 (fun k => (tupsV ss).getD k .none) (fun k v h hk hv => ?_) (fun hb' C k1 k2 k D ys ex hk hI => ?_), ⟨[], rfl, Nat.zero_le _, rfl, rfl⟩, fun D ys ex hI => ?_⟩)))))
  · obtain ⟨as, h1, h2, rfl, _⟩ := hI
    rw [List.length_map]; omega
  · obtain ⟨a, ea, ra⟩ := hv
    rw [List.getD_eq_getElem?_getD, ea]; exact ra
  · obtain ⟨as, h1, h2, rfl, rfl⟩ := hI
    have hk' : k < ss.length := by rw [← hsl]; exact hk
    have ek := List.getElem?_eq_getElem hk'
    have eg : (tupsV ss).getD k .none = .ref (ss[k]).tup := by rw [List.getD_eq_getElem?_getD, List.getElem?_map, ek]; rfl
    rw [eg]
    refine WV.tup (WA.cons (Pu.wv (.loc 0 rfl rfl) (WA.cons (Pu.wv .str (WA.nil ⟨Nat.le_of_ble_eq_true rfl, fun t => ⟨tupE as (withR (ss.take k)) ++ [(t, isTup [.ref (ss[k]).tup, .str (Str.ofString "r")])], List.Sublist.refl _, as ++ [t], by rw [List.length_append, h1]; rfl, by omega, by rw [List.map_append]; rfl, ?_⟩⟩)))))
    rw [List.take_add_one, ek]
    show _ = tupE (as ++ [t]) ((ss.take k ++ [ss[k]]).map fun s => (s, Str.ofString "r"))
    rw [List.map_append]
    exact (tupE_snoc (by rw [List.length_map, List.length_take]; omega)).symm
  · obtain ⟨as1, h1, h2, rfl, rfl⟩ := hI
    rw [hsl] at h1
    rw [hsl, List.take_of_length_le (Nat.le_refl _)]
    refine WV.comp (cl := [(Str.ofString "things", L + 1)]) (vars := [Str.ofString "person"]) rfl rfl (Src.range (n := 3) (.blt (fun _ => rfl) rfl (by decide) rfl) .int (by decide) (nwM := []) perm0 ⟨rfl, fun k ys ex => ∃ as ns, as.length = k ∧ ns.length = k ∧ k ≤ 3 ∧ ys = as.map AV.ref ∧ (∀ s ∈ ns, SesOk (namesT T) s ∧ s.n1 = 1 ∧ s.n2 = 0) ∧ ex = newE w as ns, fun k ys ex hI => ?_, CompT.mk1 (fun k => .int k) (fun k v h hk hv => hv) (fun hb' C k1 k2 k D2 ys ex hk hI => ?_), ⟨[], [], rfl, rfl, Nat.zero_le _, rfl, (fun s hs => nomatch hs), rfl⟩, fun D2 ys ex hI => ?_⟩)
    · obtain ⟨as, ns, h1, _, h2, rfl, _⟩ := hI
      rw [List.length_map]; omega
    · obtain ⟨as, ns, g1, g2, g3, rfl, g4, rfl⟩ := hI
      have hTh : Things hb' tl rs T := things_of H.rs (sl := sl) (ss := ss) (w := w) fun p hp => k2 p (.tail _ (List.mem_append_left _ hp))
      refine WV.tup (WA.cons (WV.callN (f := 210) (.glob (fun _ => rfl) rfl rfl) (fun _ => by kernel_rfl) (WA.cons (Pu.wv (.celB (a := L + 1) rfl (k2 _ (.head _)) rfl) (WA.cons (Pu.wv (.loc 0 rfl rfl) (WA.nil fun vs rv => WV.call0 fun hbC G' kp kr => opened_sp G' (r.le (by decide)) (hTh.keeps kp) H.t rv fun s S e1 e2 => WA.cons (Pu.wv .str (WA.nil ⟨Nat.le_of_ble_eq_true rfl, fun t => ⟨newE w as ns ++ (s.led w ++ [(t, isTup [.ref s.tup, .str rwx])]), ?_, as ++ [t], ns ++ [s], by rw [List.length_append, g1]; rfl, by rw [List.length_append, g2]; rfl, by omega, by rw [List.map_append]; rfl, fun u hu => ?_, (newE_snoc (g1.trans g2.symm)).symm⟩⟩)))))))))
      · show List.Sublist _ (((D2, isList (as.map AV.ref)) :: newE w as ns ++ s.led w) ++ [(t, isTup [.ref s.tup, .str rwx])])
        rw [← List.append_assoc]
        exact List.Sublist.refl _
      · rcases List.mem_append.mp hu with h | h
        · exact g4 u h
        · rw [List.mem_singleton.mp h]; exact ⟨S, e1, e2⟩
    · obtain ⟨as, ns, g1, g2, g3, rfl, g4, rfl⟩ := hI
      intro va vb ra rb
      cases ra; cases rb
      refine WV.cat (xs := as1.map AV.ref) (ys := as.map AV.ref) (In.mem (List.mem_append_left _ (List.mem_append_right _ (.head _)))) (In.mem (List.mem_append_right _ (.head _))) (by rw [List.length_map, List.length_map]; omega) fun la => ⟨trivial, ?_⟩
      have hlen : (as1 ++ as).length = (withR ss ++ withX ns).length := by rw [List.length_append, List.length_append, List.length_map, List.length_map]; omega
      refine WF.ent (L := ((la, isList ((as1 ++ as).map AV.ref)) :: (L + 1, isCell (some (.ref tl))) :: tupE (as1 ++ as) (withR ss ++ withX ns)) ++ qL w tl T rs (ss ++ ns)) ?_ (k la (as1 ++ as) ns hlen g2 g4)
      rw [tupE_app (by rw [List.length_map]; omega), List.map_append]
      unfold qL
      rw [List.flatMap_append]
      exact Ent.trans (Ent.sub (sub_z _ _ _ _ _ _ _ _ _ _)) (Ent.perm (perm_z _ _ _ _ _ _ _ _ _ (newE_perm (g1.trans g2.symm))))
def QOk (B : Nat) (T : List Th) (ss : List Ses) : Prop := ∀ s ∈ ss, SesOk (namesT T) s ∧ s.n1 ≤ B ∧ s.n2 ≤ B
theorem QOk.put {B B' : Nat} {T : List Th} {ss : List Ses} (H : QOk B T ss) {m : Nat} {s s' : Ses} (e : ss[m]? = some s) (S : SesOk (namesT T) s') (h1 : s'.n1 ≤ s.n1 + 3) (h2 : s'.n2 ≤ s.n2 + 3) (hB : B + 3 ≤ B') : QOk B' T (ss.set m s') := fun u hu => by
  have hs := H s (List.mem_of_getElem? e)
  rcases mem_set hu with rfl | h
  · exact ⟨S, by omega, by omega⟩
  · have := H u h
    exact ⟨this.1, by omega, by omega⟩
/-- what may be asked of a session -/
structure ItOk (T : List Th) (q : Ses × Str) : Prop where
  s : SesOk (namesT T) q.1
  b1 : q.1.n1 ≤ 46
  b2 : q.1.n2 ≤ 46
  le : q.2.cps.size ≤ 3
  lt : ∀ k, k < q.2.cps.size → chr q.2 k = lt k
theorem law_D {w : World} {A : Around} {hb : Heap} {g : Array GenState} {o : OsState} {f : Addr} {cdv : Value} {L l tl sl la : Addr} {T : List Th} {rs as : List Addr} {its : List (Ses × Str)} {Q : AF → AS → Prop} (G : Gr w hb) (r : Rm (A.deeper (lEnv f cdv L)) 11) (hT : TOk T) (hrs : rs.length = T.length) (hl : as.length = its.length) (h6 : its.length ≤ 6) (hq : ∀ q ∈ its, ItOk T q) (k : ∀ st', Q (.ret (.bool true)) st') :
    WF (lCx w A hb g o f cdv L) ⟨lVs l sl none none (some (.ref la)) none none, ((la, isList (as.map AV.ref)) :: (L + 1, isCell (some (.ref tl))) :: tupE as its) ++ qL w tl T rs (its.map (·.1))⟩ (execs (lBody.drop 5) (lEnv f cdv L)) Q := by
  have h5 := hT.up.1
  have hlr : (rs.map AV.ref).length = T.length := by rw [List.length_map, hrs]
  refine WF.cons (WF.for (Src.list (Pu.wv (.loc 4 rfl rfl) ⟨la, _, (la, isList (as.map AV.ref)) :: (L + 1, isCell (some (.ref tl))) :: tupE as its, qL w tl T rs (its.map (·.1)), rfl, List.Perm.refl _, .inr ⟨_, .head _, listWo⟩, fun m st' => ∃ ss', QOk (46 + 15 * m) T ss' ∧ tupsV ss' = tupsV (its.map (·.1)) ∧ st' = ⟨lVs l sl none none (some (.ref la)) none none, qL w tl T rs ss'⟩, ⟨_, fun s hs => ?_, rfl, rfl⟩,
    ForT.tup (P := fun m as' => ∃ q, its[m]? = some q ∧ as' = [.ref q.1.tup, .str q.2]) (fun m v h kr kp hv => ?_) (fun hb' k1 k2 m st' as' hm hI hP => ?_), fun st' hI => WF.nil ?_⟩)))
  · obtain ⟨q, h, rfl⟩ := List.mem_map.mp hs
    exact ⟨(hq q h).s, (hq q h).b1, (hq q h).b2⟩
  · obtain ⟨a, ea, ra⟩ := hv
    rw [List.getElem?_map] at ea
    obtain ⟨t, et, rfl⟩ := Option.map_eq_some_iff.mp ea
    cases ra
    have hm := (List.getElem?_eq_some_iff.mp et).1
    have eq := List.getElem?_eq_getElem (hl ▸ hm)
    obtain ⟨vs, il, rv⟩ := ((kr (t, _) (.tail _ (.tail _ (tupE_get et eq)))).imp tupW).isT
    exact ⟨t, vs, _, rfl, il, rv, _, eq, rfl⟩
  · obtain ⟨ss, H, et, rfl⟩ := hI
    obtain ⟨q, eq, rfl⟩ := hP
    have hqo := hq q (List.mem_of_getElem? eq)
    have hm6 : m < 6 := by have := (List.getElem?_eq_some_iff.mp eq).1; omega
    have hc := k2 (L + 1, _) (.tail _ (.head _))
    refine ⟨_, Tgs.cons (.loc 3 rfl) trivial (Tgs.cons (.loc 5 rfl) trivial .nil), ?_⟩
    refine WF.cons (WF.for (Src.range (n := T.length) (rest := []) (.blt (fun _ => rfl) rfl (by decide) rfl) (Pu.lenN hlr (.blt (fun _ => rfl) rfl (by decide) rfl) (.celB (a := L + 1) rfl hc rfl) (In.led 0 rfl).w (by omega)) (by omega) (List.Perm.refl _) ⟨fun j st' => ∃ ss', QOk (46 + 15 * m + 3 * j) T ss' ∧ tupsV ss' = tupsV (its.map (·.1)) ∧ st' = ⟨lVs l sl none (some (.ref q.1.tup)) (some (.ref la)) (some (.str q.2)) none, qL w tl T rs ss'⟩, ⟨ss, H, et, rfl⟩,
      ForT.one (fun _ => Tg.loc 6 rfl) (fun j a => a = .int j) (fun j v h hv => ⟨_, rfl, hv⟩) (fun hb'' k1' k2' j st' a hj hI hA => ⟨trivial, ?_⟩), fun st' hI => WF.nil ?_⟩))
    · obtain ⟨ss', H2, et', rfl⟩ := hI
      subst hA
      obtain ⟨s, es, e1⟩ : ∃ s, ss'[m]? = some s ∧ s.tup = q.1.tup := by
        have h1 : (tupsV ss')[m]? = some (.ref q.1.tup) := by rw [et', List.getElem?_map, List.getElem?_map, eq]; rfl
        rw [List.getElem?_map] at h1
        obtain ⟨s, es, e2⟩ := Option.map_eq_some_iff.mp h1
        exact ⟨s, es, congrArg (fun a => match a with | AV.ref x => x | _ => 0) e2⟩
      have hs := H2 s (List.mem_of_getElem? es)
      rw [← e1]
      refine WF.cons (WF.iff (ask (i := j) (lets := q.2) hT hrs es hs.1 (by omega) (by omega) hj hqo.le hqo.lt (r.le (by decide)) (.glob (fun _ => rfl) rfl rfl) (.loc 3 rfl rfl) (.celB (a := L + 1) rfl (hc.up k1') rfl) (.loc 6 rfl rfl) (.loc 5 rfl rfl) fun s' nw S' e' b1 b2 E => WF.ent E (WF.nil (WF.nil ⟨_, .keep (.keep (.keep (.keep (.keep (.keep (.drop (.nil (List.Sublist.refl _)))))))), ss'.set m s', H2.put es S' b1 b2 (by omega), tups_set es e' et', rfl⟩))))
    · obtain ⟨ss', H2, et', rfl⟩ := hI
      exact WF.nil ⟨_, .keep (.keep (.keep (.drop (.keep (.drop (.keep (.nil (List.Sublist.refl _)))))))), ss', fun s hs => ⟨(H2 s hs).1, by have := (H2 s hs).2.1; omega, by have := (H2 s hs).2.2; omega⟩, et', rfl⟩
  · obtain ⟨ss, H, et, rfl⟩ := hI
    exact WF.cons (WF.ret (Pu.wv .bool (k _)))
theorem r_ok : (Str.ofString "r").cps.size ≤ 3 ∧ ∀ k, k < (Str.ofString "r").cps.size → chr (Str.ofString "r") k = lt k := by
  have e : (Str.ofString "r").cps.size = 1 := by decide +kernel
  rw [e]
  refine ⟨by decide, fun k hk => ?_⟩
  obtain rfl : k = 0 := by omega
  decide +kernel
/-- the law -/
theorem law_sp {w : World} {A : Around} {hb : Heap} {R : AV → List (Addr × OP) → Prop} {f l : Addr} {ob : Obj} {doc pm cdv ct : Value} {an : Option Addr} {ns : List Int} (G : Gr w hb) (r : Rm A 12) (ho : hb.get? f = some ob) (hod : ob.data = .func (fnOf (Str.ofString "law") (Str.ofString "law") (parOf (fnAt 52)) lBody (scopeOf (fnAt 52)) .none .none doc pm an cdv ct)) (hcd : hb.CodeRec cdv (Str.ofString "law"))
    (hl : Bs hb l (isListW (ns.map AV.int))) (hz : ns.length ≤ 1000) (k : R (.bool true) []) : SpC w A hb [] (.call (.ref f) ⟨[.ref l], []⟩) R := by
  refine' SpC.defB (n := 10) (ps := [Str.ofString "script"]) (vars := [Str.ofString "script", Str.ofString "sessions", Str.ofString "n", Str.ofString "session", Str.ofString "late", Str.ofString "letters", Str.ofString "i"]) (avs := [.ref l]) (pos' := [.ref l]) [some (.ref l), none, none, none, none, none, none] (fun L => [(L + 1, isCell none)]) G r ho hod hcd ?hbind (.cons rfl .nil) ?hok ?hvs ?hent (fun L g o => ?h)
  case hok => exact rfl
  case hvs => exact rfl
  case hent => exact fun _ => rfl
  case hbind => exact fun _ _ => BindsTo.of_eq rfl
  have r' := r.deeper (lEnv f cdv L)
  refine law_A G r' fun tl sl rs s H => ?_
  refine law_B G r' hl hz H fun T rs ss H' => ?_
  refine law_C G r' H' fun la as ns' h1 h2 h3 => ?_
  have e : (withR ss ++ withX ns').map (·.1) = ss ++ ns' := by
    rw [List.map_append, List.map_map, List.map_map]
    exact congr (congrArg _ (List.map_id _)) (List.map_id _)
  rw [← e]
  refine law_D G r' H'.t H'.rs h1 ?_ (fun q hq => ?_) fun st' => ⟨[], List.nil_sublist _, k⟩
  · rw [List.length_append, List.length_map, List.length_map]
    have := H'.l3
    omega
  · rcases List.mem_append.mp hq with h | h
    · obtain ⟨u, hu, rfl⟩ := List.mem_map.mp h
      have := H'.ss u hu
      exact ⟨this.1, this.2.1, this.2.2, r_ok.1, r_ok.2⟩
    · obtain ⟨u, hu, rfl⟩ := List.mem_map.mp h
      have := h3 u hu
      exact ⟨this.1, by show u.n1 ≤ 46; omega, by show u.n2 ≤ 46; omega, by show rwx.cps.size ≤ 3; rw [rwx_size]; decide, fun _ _ => rfl⟩
theorem rm_caller : Rm callerA 12 := ⟨rfl, by decide +kernel, by decide +kernel⟩
theorem ints_of {R : WRecords} : ∀ {xs : List WData}, WShape.hasItems R xs .int = true → ∃ ns : List Int, xs = ns.map WData.int
  | [], _ => ⟨[], rfl⟩
  | x :: xs, h => by
    rw [WShape.hasItems, Bool.and_eq_true_iff] at h
    obtain ⟨ns, rfl⟩ := ints_of h.2
    cases x with
    | int i => exact ⟨i :: ns, rfl⟩
    | _ => exact absurd h.1 (by simp [WShape.has, WShape.arms])
theorem reads_ints {R : WRecords} {cl : Str → Option Addr} {h : Heap} : ∀ {ns : List Int} {vs : List Value} {as : List Addr}, ReadsAllW R cl h vs (ns.map WData.int) as → AVs (ns.map AV.int) vs
  | [], _, _, .nil => .nil
  | n :: ns, _, _, .cons r rs => by
    cases r with
    | int i t => exact .cons ⟨t, rfl⟩ (reads_ints rs)
theorem most_of {R : WRecords} {xs : List WData} (h : WTm.holds R (PySem.Challenge.rw_om0045_01.row.pre) { args := [.list xs] } = true) : xs.length ≤ 63 := by
  have h1 := (holds_andW (show WTm.holds R (.and (.not (.lt (.lit (.int 63)) (.len (.arg 0)))) (.lit (.bool true))) { args := [.list xs] } = true from h)).1
  simp only [WTm.holds, WTm.value, less?, Num.less?, List.getElem?_cons_zero, Option.map_some] at h1
  by_cases hx : (63 : Int) < xs.length
  · simp [hx] at h1
  · omega
set_option maxHeartbeats 4000000 in
theorem law_walk {q : Program} {loose : List Str} {XP : (Str → Option Value) → Heap → Prop} {as : List Addr} {e : ∀ P, as = (Kx P).map (·.1)} {d : DefRec} (hn : d.name = Str.ofString "law") (hp : d.params = parOf (fnAt 52)) (hb : d.body = lBody) (hs : d.scope = scopeOf (fnAt 52)) :
    WalkO q loose XP (kHook Kx as e).says PySem.Challenge.rw_om0045_01.row.toRowW d [] (fun f vs => call f vs) := by
  intro w s₀ s₁ mg mb G Y fa o pm cd doc dV kV ho hd hcd hD hmg hg args vals as hpre hlay hrd hwl hlo
  have KX := kIn_of Y
  have Gr1 : Gr w s₁.heap := ⟨KX, _, _, _, _, topRead_of G.T⟩
  have hsh : WShape.hasAll [] args [.list .int] = true := (pre_splitW hpre).1
  have hcond := (pre_splitW hpre).2
  have eD : dV = .none := by
    rcases hD.pos with h | h
    · exact h.2
    · exact absurd (by rw [hp]; rfl) h.1
  have eK : kV = .none := by
    rcases hD.kw with h | h
    · exact h.2
    · exact absurd rfl h.1
  subst eD eK
  rw [hn, hp, hb, hs] at hd
  rw [hn] at hcd
  obtain ⟨ns, rfl⟩ : ∃ ns : List Int, args = [.list (ns.map WData.int)] := by
    match args, hsh with
    | [], h => exact absurd h (by simp [WShape.hasAll])
    | [x], h =>
      rw [WShape.hasAll, Bool.and_eq_true_iff] at h
      cases x with
      | list xs =>
        have h1 : WShape.hasItems [] xs .int = true := by simpa [WShape.has, WShape.arms] using h.1
        obtain ⟨ns, rfl⟩ := ints_of h1
        exact ⟨ns, rfl⟩
      | _ => exact absurd h.1 (by simp [WShape.has, WShape.arms])
    | x :: y :: r, h => exact absurd h (by simp [WShape.hasAll])
  have hlen := most_of hcond
  rw [List.length_map] at hlen
  cases hrd with
  | cons h1 h2 =>
    cases h2 with
    | nil =>
      cases h1 with
      | @list l ol vs n xs as' hl hcl hdl hr =>
        have hL : Bs s₁.heap l (isListW (ns.map AV.int)) := ⟨ol, hl, vs, n, hcl, hdl, reads_ints hr⟩
        have S := law_sp (R := fun av nw => av = .bool true) Gr1 rm_caller ho hd hcd hL (by omega) rfl
        refine wpAny_mono (S.sp.go s₁ ⟨fun b o e => e, (fun p hp => nomatch hp), List.nodup_nil⟩) (fun v s' x => ?_) fun _ _ x => x.elim
        obtain ⟨av, nw', ra, H', eg, eo, rfl⟩ := x
        cases ra
        refine GoodW.toG ⟨.inl ⟨.bool true, .bool true, [], rfl, ?_, .bool true, ?_, fun _ => ⟨List.nodup_nil, (fun a ha => nomatch ha)⟩⟩, H'.keep, eo, eg.trans hg⟩
        · intro cls; rfl
        · first | rfl | (show (WShape.has [] (.bool true) .bool && WTm.holds [] (.eq .res (.lit (.bool true))) _) = true; simp [WShape.has, WShape.arms, WTm.holds, WTm.value, same_self])
end Mine
namespace Mine
noncomputable def head.tw4648196907330241690 := Kx
theorem head.te4648196907330241690 : Kx = head.tw4648196907330241690 := rfl
def head.tw453045470638271465 := PySem.Challenge.pw_om0045_01
theorem head.te453045470638271465 : PySem.Challenge.pw_om0045_01 = head.tw453045470638271465 := rfl
def head.tw6973584914630602586 : Unit := ()
def head.tw11967168570829163798 : Unit := ()
def head.tw9224727606216920406 : Unit := ()
def head.tw11041032747693170624 : Unit := ()
def head.tw6594077403890362655 : Unit := ()
def head.tw18273026795586528983 : Unit := ()
def head.tw5545290222666719245 : Unit := ()
def head.tw2418714467272084401 : Unit := ()
def head.tw8997269238129315039 : Unit := ()
def head.tw14956133685725647455 : Unit := ()
def head.tw10786079294511566085 : Unit := ()
def head.tw15539854500240908086 : Unit := ()
def head.tw18416563613846182222 : Unit := ()
def head.tw12147184966966947637 : Unit := ()
def head.tw16977501473774887275 : Unit := ()
def head.tw5684777059553021320 : Unit := ()
def head.tw10875119458065257276 : Unit := ()
def head.tw4975070653579243887 : Unit := ()
def head.tw262713603470380999 : Unit := ()
def head.tw3973953319845086491 : Unit := ()
def head.tw13955511503576765797 : Unit := ()
def head.tw69809265629811306 : Unit := ()
def head.tw10261356005730403935 : Unit := ()
def head.tw7661765248129044261 : Unit := ()
def head.tw15468718075485040107 : Unit := ()
def head.tw12604462930493870256 : Unit := ()
def head.tw4415685298772064003 : Unit := ()
def head.tw11770459041652445329 : Unit := ()
def head.tw14877080517539528568 : Unit := ()
def head.tw8534208459206503383 : Unit := ()
def head.tw4009957668330374740 : Unit := ()
def head.tw13896987355042952010 : Unit := ()
def head.tw9716329373054682134 : Unit := ()
def head.tw8101760021730824546 : Unit := ()
def head.tw10010264046613662565 : Unit := ()
def head.tw2340069552987342377 : Unit := ()
def head.tw12310735299239354703 : Unit := ()
def head.tw10079960370226730655 : Unit := ()
def head.tw4023466491090337370 : Unit := ()
def head.tw979317532335493378 : Unit := ()
def head.tw2260579728952749127 : Unit := ()
def head.tw17197444120159719569 : Unit := ()
def head.tw10015159338476511836 : Unit := ()
def head.tw5764021196749891206 : Unit := ()
def head.tw8535708456716222715 : Unit := ()
def head.tw15149402430504572791 : Unit := ()
def head.tw11105056867450500199 : Unit := ()
set_option maxRecDepth 100000 in
set_option maxHeartbeats 8000000 in
set_option Elab.async true in
theorem head : PySem.Challenge.rw_om0045_01.Holds := by
  w_on; o_law; o_head (kHook Mine.Kx [2, 3, 64, 68, 69, 75, 76, 78, 79, 89, 90, 96, 97, 98, 104, 105, 106, 112, 113, 119, 120, 126, 127, 133, 134, 135, 136, 137, 138, 139, 140, 141, 142, 143, 144, 145, 146, 147, 148, 149, 150, 151, 152, 153, 154, 155, 156, 157, 158, 159, 160, 161, 162, 163, 164, 165, 166, 167, 173, 174, 178, 179, 183, 184, 190, 191, 197, 198, 204, 205, 209, 210, 214, 215, 221, 222] (fun _ => by kernel_rfl)); (case hw => w_witness2)
  exact law_walk rfl rfl rfl rfl
end Mine
theorem PySem.Challenge.cw_om0045_01_holds : PySem.Challenge.rw_om0045_01.Holds :=
  Mine.head
