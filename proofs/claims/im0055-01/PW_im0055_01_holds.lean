import PyProof.Rows.All
import Wide.All
import OpenK.AllK
import Wide.FinOn
import PySem.Challenge.RW_im0055_01
set_option Elab.async false
set_option maxRecDepth 100000
set_option maxHeartbeats 8000000
set_option compiler.extract_closed false
set_option pp.maxSteps 2500
set_option linter.all false
namespace Mine
open PySem PySem.W PySem.Calls PyProof.Rows
section
open PySem PySem.W
def nth : List Stmt → Nat → Stmt
  | [], _ => .Pass ⟨0, 0, 0, 0⟩
  | s :: _, 0 => s
  | _ :: r, n + 1 => nth r n
/-- the body of a class -/
def cb : Stmt → List Stmt
  | .ClassDef _ _ _ b _ _ _ _ _ _ _ => b
  | _ => []
def fName : Stmt → Str
  | .FunctionDef n _ _ _ _ _ _ _ _ _ => n
  | _ => Str.empty
def fArgs : Stmt → Arguments
  | .FunctionDef _ a _ _ _ _ _ _ _ _ => a
  | _ => ⟨[], [], none, [], [], none, []⟩
def fBody : Stmt → List Stmt
  | .FunctionDef _ _ b _ _ _ _ _ _ _ => b
  | _ => []
def fScope : Stmt → Scope
  | .FunctionDef _ _ _ _ _ _ s _ _ _ => s
  | _ => ⟨.function, [], false, false, []⟩
def fLine : Stmt → Nat
  | .FunctionDef _ _ _ _ _ _ _ _ _ p => p.line
  | _ => 0
def isLoc : NameKind → Bool
  | .local => true
  | _ => false
def fLocs (st : Stmt) : List Str := ((fScope st).names.filter fun x => isLoc x.2).map (·.1)
def en (P : Params) (n : String) (t : Nat) (v : Value) : DictEntry := ⟨PyData.keyHash P (Str.ofString n), .str (Str.ofString n) t, v⟩
def nameVs : List Str → Nat → List Value
  | [], _ => []
  | s :: r, t => .str s t :: nameVs r (t + 1)
abbrev tupO (vs : List Value) : Obj := { cls := .type "tuple", data := .seq vs.toArray 0 }
abbrev file1 : Str := Str.ofString "/claim/cut.py"
abbrev int0 (n : Nat) : Value := .int (Int.ofNat n) 0
/-- what a def lays: its bare record, its code, the function; b: the address of the first; t: the token of its name -/
abbrev bareF (q : String) (st : Stmt) : Obj := ⟨.none, none, .func (FuncData.mk (fName st) (Str.ofString q) (fArgs st) (.stmts (fBody st)) (fScope st) 0 [] .none .none .none .none none .none .none 0), #[]⟩
abbrev codeF (b1 b2 : Nat) (w1 w2 w3 : Value) (q : String) (t tk : Nat) (st : Stmt) : Obj :=
  ⟨.type "code", none, .fields [.str (fName st) t, .str (Str.ofString q) (t + 1), .str file1 (t + 2), int0 (fLine st), int0 (fArgs st).args.length, int0 0, int0 0, int0 (bif (fScope st).isGenerator then 35 else 3), .ref b1, .bool true, int0 181, .ref b2, .none, w1, w2, w3, int0 tk, int0 (fLine st), .str file1 (tk + 1)].toArray, #[]⟩
abbrev funF (c : Nat) (md : String) (mt : Nat) (q : String) (d : Value) (st : Stmt) : Obj :=
  ⟨.type "function", none, .func (fnOf (fName st) (Str.ofString q) (fArgs st) (fBody st) (fScope st) d .none .none (.str (Str.ofString md) mt) none (.ref c) .none), #[]⟩
def pack7 (b t : Nat) (md : String) (mt : Nat) (q : String) (d : Value) (st : Stmt) : List Obj :=
  [tupO [], ⟨.none, none, .fields #[], #[]⟩, tupO (nameVs (fLocs st) (t + 3)), tupO [], bareF q st, codeF b (b + 1) (.ref (b + 2)) (.ref (b + 3)) (.ref (b + 4)) q t (t + 3 + (fLocs st).length) st, funF (b + 5) md mt q d st]
def pack5 (b t : Nat) (md : String) (mt : Nat) (q : String) (d : Value) (st : Stmt) : List Obj :=
  [tupO [], ⟨.none, none, .fields #[], #[]⟩, bareF q st, codeF b (b + 1) .none .none (.ref (b + 2)) q t (t + 3) st, funF (b + 3) md mt q d st]
/-- a function's object, its parts read out of the text -/
abbrev mkFun (c : Nat) (md : String) (mt : Nat) (q : String) (d : Value) (n : String) {st : Stmt} {a : Arguments} {b : List Stmt} {s : Scope} (_ : fArgs st = a) (_ : fBody st = b) (_ : fScope st = s) : Obj :=
  ⟨.type "function", none, .func (fnOf (Str.ofString n) (Str.ofString q) a b s d .none .none (.str (Str.ofString md) mt) none (.ref c) .none), #[]⟩
def flat : List (List Obj) → List Obj
  | [] => []
  | l :: r => l ++ flat r
def cut3 : List Obj → Nat → Obj → List Obj
  | [], _, _ => []
  | _ :: r, 0, o => o :: r
  | x :: r, n + 1, o => x :: cut3 r n o
mutual
def odds : List Obj → List Obj
  | [] => []
  | _ :: r => evens r
def evens : List Obj → List Obj
  | [] => []
  | x :: r => x :: odds r
end
def bt : Nat → List Obj → BT
  | 0, _ => .nil
  | _ + 1, [] => .nil
  | n + 1, o :: r => .node o (bt n (evens r)) (bt n (odds r))
end
section
open PySem PySem.W PyProof.Rows
abbrev r1 := PySem.Challenge.rw_im0055_01
theorem sd_a : namesResolve r1.row.prog = true := by
  rw [PySem.W.Fast.te8377067652309620493]
  kernel_rfl
theorem nr_app (lk : Look) : ∀ (a b : List Stmt), noRoadLSs lk (a ++ b) = (noRoadLSs lk a && noRoadLSs lk b)
  | [], _ => by simp [noRoadLSs]
  | s :: a, b => by show (noRoadLS lk s && noRoadLSs lk (a ++ b)) = (noRoadLS lk s && noRoadLSs lk a && noRoadLSs lk b); rw [nr_app lk a b, Bool.and_assoc]
theorem ro_a : readsOut r1.row.prog r1.row.prog.main.body "vars" = false := by
  rw [PySem.W.Fast.te13343964577679436407]
  kernel_rfl
theorem ro_b : readsOut r1.row.prog r1.row.prog.main.body "dir" = false := by
  rw [PySem.W.Fast.te13343964577679436407]
  kernel_rfl
theorem ro_c : readsOut r1.row.prog r1.row.prog.main.body "locals" = false := by
  rw [PySem.W.Fast.te13343964577679436407]
  kernel_rfl
theorem sd_b1 : (["vars", "dir", "locals"] : List Str).filter (readsOut r1.row.prog r1.row.prog.main.body) = [] := by
  refine List.filter_eq_nil_iff.mpr fun a ha => ?_
  rcases List.mem_cons.mp ha with rfl | ha
  · exact fun h => Bool.noConfusion (ro_a.symm.trans h)
  rcases List.mem_cons.mp ha with rfl | ha
  · exact fun h => Bool.noConfusion (ro_b.symm.trans h)
  rw [List.mem_singleton.mp ha]
  exact fun h => Bool.noConfusion (ro_c.symm.trans h)
theorem sd_b2 : (!(importedModules r1.row.prog.main.body).all cThrough.contains) = false := by kernel_rfl
theorem nr_1 : noRoadLSs { strict := false, foot := none, bare := [] } (r1.row.prog.main.body.take 21) = true := by
  rw [PySem.W.Fast.te8326940854005059898]
  kernel_rfl
theorem nr_2 : noRoadLSs { strict := false, foot := none, bare := [] } (r1.row.prog.main.body.drop 21) = true := by
  rw [PySem.W.Fast.te8326940854005059898]
  kernel_rfl
theorem sd_b : noRoadLSs { strict := !(importedModules r1.row.prog.main.body).all cThrough.contains, foot := none, bare := (["vars", "dir", "locals"] : List Str).filter (readsOut r1.row.prog r1.row.prog.main.body) } r1.row.prog.main.body = true := by
  rw [sd_b1, sd_b2]
  have e := nr_app { strict := false, foot := none, bare := [] } (r1.row.prog.main.body.take 21) (r1.row.prog.main.body.drop 21)
  rw [List.take_append_drop, nr_1, nr_2] at e
  exact e
theorem sd_c : (namesMeet r1.row.prog r1.row.prog.main.body fun _ n => attrL n) = true := by
  rw [PySem.W.Fast.te17119622794617984870, PySem.W.Fast.te17868728402115742887]
  kernel_rfl
theorem sd_d : (namesMeet r1.prog r1.above fun _ n => !r1.own.contains n) = true := by
  rw [PySem.W.Fast.te17119622794617984870, PySem.W.Fast.te10792542408131684335]
  kernel_rfl
theorem sd_e : (r1.row.prog.boundNames.all fun n => !worldNames.contains n) = true := by kernel_rfl
theorem sd_f : (sreFenced r1.row.prog.main && ((moduleNames r1.row.prog.main.body).isEmpty || lookedIntoSs (moduleNames r1.row.prog.main.body) r1.row.prog.main.body)) = true := by kernel_rfl
theorem said1 : OpenLaw.wellSaid r1 = true := by
  unfold OpenLaw.wellSaid
  iterate 18 refine look_both ?_ ?_
  unfold OpenRow.wellSaid
  iterate 2 refine look_both ?_ ?_
  unfold OpenRow.partSaid
  iterate 12 refine look_both ?_ ?_
  unfold looksOpen
  iterate 5 refine look_both ?_ ?_
  · exact sd_f
  · exact sd_a
  · exact sd_e
  · exact sd_b
  · exact sd_c
  rotate_left 31
  exact sd_d
  all_goals try rw [PySem.W.Fast.te8326940854005059898]
  all_goals try rw [PySem.W.Fast.te17119622794617984870]
  all_goals kernel_rfl
end
section
open PySem PySem.W PyProof.Rows
noncomputable abbrev p1 : Program := PySem.Challenge.rw_im0055_01.row.prog
noncomputable def d1 (i j : Nat) (c : Bool) : Stmt := match c with | true => nth (cb (nth p1.main.body i)) j | false => nth p1.main.body i
noncomputable def x1_2 (P : Params) : Obj := ⟨.none, none, (.dict [].toArray 0), [].toArray⟩
noncomputable def x1_3 (P : Params) : Obj := ⟨.type "dict", none, (.dict [en P "__name__" 165 (.str "law_im0055_01" 1444), en P "__doc__" 166 (.none), en P "__package__" 167 (.none), en P "__loader__" 168 (.builtin "__main__.__loader__#opaque"), en P "__spec__" 169 (.none), en P "__annotations__" 170 (.ref 6), en P "__builtins__" 171 (.ref 4), en P "__file__" 173 (.str "/claim/cut.py" 172), en P "__cached__" 174 (.none), en P "_wall" 193 (.ref 21), en P "EOF" 196 (.none), en P "spaceCharacters" 202 (.ref 22), en P "asciiLetters" 256 (.ref 27), en P "digits" 268 (.ref 32), en P "hexDigits" 292 (.ref 37), en P "asciiLower" 298 (.ref 42), en P "entities" 428 (.ref 43), en P "replacementCharacters" 531 (.ref 46), en P "tokenTypes" 556 (.ref 48), en P "tagTokenTypes" 563 (.ref 49), en P "Text" 604 (.ref 73), en P "_is_invalid" 611 (.ref 84), en P "HTMLUnicodeInputStream" 737 (.ref 166), en P "bisect_left" 751 (.ref 178), en P "Trie" 826 (.ref 230), en P "entitiesTrie" 843 (.ref 236), en P "HTMLTokenizer" 1443 (.ref 762), en P "_law_EDGES" 1451 (.ref 773), en P "_law_OLD" 1453 (.str "€‚ƒ„…†‡ˆ‰Š‹ŒŽ‘’“”•–—˜™š›œžŸ" 1452), en P "_law_BEHIND" 1474 (.ref 774), en P "_law_MORE" 1485 (.ref 775), en P "_law_SIGNS" 1491 (.ref 784), en P "_law_code" 1499 (.ref 791), en P "_law_written" 1509 (.ref 798), en P "_law_sign" 1516 (.ref 805), en P "_law_place" 1524 (.ref 812), en P "law" 1547 (.ref 819)].toArray 37), [].toArray⟩
noncomputable def x1_32 (P : Params) : Obj := ⟨.type "tuple", none, (.seq [.str "0" 258, .str "1" 259, .str "2" 260, .str "3" 261, .str "4" 262, .str "5" 263, .str "6" 264, .str "7" 265, .str "8" 266, .str "9" 267].toArray 0), [].toArray⟩
noncomputable def x1_37 (P : Params) : Obj := ⟨.type "tuple", none, (.seq [.str "0" 270, .str "1" 271, .str "2" 272, .str "3" 273, .str "4" 274, .str "5" 275, .str "6" 276, .str "7" 277, .str "8" 278, .str "9" 279, .str "a" 280, .str "b" 281, .str "c" 282, .str "d" 283, .str "e" 284, .str "f" 285, .str "A" 286, .str "B" 287, .str "C" 288, .str "D" 289, .str "E" 290, .str "F" 291].toArray 0), [].toArray⟩
noncomputable def x1_46 (P : Params) : Obj := ⟨.type "dict", none, (.dict [⟨0, .int 0 429, .str "�" 430⟩, ⟨13, .int 13 432, .str "\x0d" 433⟩, ⟨128, .int 128 435, .str "€" 436⟩, ⟨129, .int 129 438, .str "" 439⟩, ⟨130, .int 130 441, .str "‚" 442⟩, ⟨131, .int 131 444, .str "ƒ" 445⟩, ⟨132, .int 132 447, .str "„" 448⟩, ⟨133, .int 133 450, .str "…" 451⟩, ⟨134, .int 134 453, .str "†" 454⟩, ⟨135, .int 135 456, .str "‡" 457⟩, ⟨136, .int 136 459, .str "ˆ" 460⟩, ⟨137, .int 137 462, .str "‰" 463⟩, ⟨138, .int 138 465, .str "Š" 466⟩, ⟨139, .int 139 468, .str "‹" 469⟩, ⟨140, .int 140 471, .str "Œ" 472⟩, ⟨141, .int 141 474, .str "" 475⟩, ⟨142, .int 142 477, .str "Ž" 478⟩, ⟨143, .int 143 480, .str "" 481⟩, ⟨144, .int 144 483, .str "" 484⟩, ⟨145, .int 145 486, .str "‘" 487⟩, ⟨146, .int 146 489, .str "’" 490⟩, ⟨147, .int 147 492, .str "“" 493⟩, ⟨148, .int 148 495, .str "”" 496⟩, ⟨149, .int 149 498, .str "•" 499⟩, ⟨150, .int 150 501, .str "–" 502⟩, ⟨151, .int 151 504, .str "—" 505⟩, ⟨152, .int 152 507, .str "˜" 508⟩, ⟨153, .int 153 510, .str "™" 511⟩, ⟨154, .int 154 513, .str "š" 514⟩, ⟨155, .int 155 516, .str "›" 517⟩, ⟨156, .int 156 519, .str "œ" 520⟩, ⟨157, .int 157 522, .str "" 523⟩, ⟨158, .int 158 525, .str "ž" 526⟩, ⟨159, .int 159 528, .str "Ÿ" 529⟩].toArray 34), [].toArray⟩
noncomputable def x1_48 (P : Params) : Obj := ⟨.type "dict", none, (.dict [en P "Doctype" 532 (.int 0 533), en P "Characters" 534 (.int 1 535), en P "SpaceCharacters" 536 (.int 2 537), en P "StartTag" 538 (.int 3 539), en P "EndTag" 540 (.int 4 541), en P "EmptyTag" 542 (.int 5 543), en P "Comment" 544 (.int 6 545), en P "ParseError" 546 (.int 7 547)].toArray 8), [].toArray⟩
noncomputable def x1_72 (P : Params) : Obj := ⟨.type "dict", none, (.dict [en P "__module__" 573 (.str "html5lib._inputstream" 564), en P "__firstlineno__" 577 (.int 17 576), en P "__init__" 585 (.ref 63), en P "read" 594 (.ref 70), en P "__static_attributes__" 597 (.ref 71), en P "__dict__" 599 (.ref 74), en P "__weakref__" 601 (.ref 75), en P "__doc__" 602 (.none)].toArray 4), [].toArray⟩
noncomputable def x1_73 (P : Params) : Obj := ⟨.type "type", none, (.cls { name := "Text", bases := [.type "object"], mro := [.ref 73, .type "object"], ns := 72, qualname := "Text", hasDict := true, slotNames := [], subclasses := [], abstract := false, collection := none, hasDel := false }), [(some (.ref 50)), none, (some (.str "Text" 566)), (some (.str "Text" 574)), (some (.builtin "object.__new__")), (some (.bool true))].toArray⟩
noncomputable def x1_134 (P : Params) : Obj := ⟨.type "tuple", none, (.seq [.none].toArray 0), [].toArray⟩
noncomputable def x1_165 (P : Params) : Obj := ⟨.type "dict", none, (.dict [en P "__module__" 619 (.str "html5lib._inputstream" 564), en P "__firstlineno__" 623 (.int 29 622), en P "_defaultChunkSize" 625 (.int 10240 624), en P "__init__" 633 (.ref 98), en P "reset" 640 (.ref 105), en P "openStream" 649 (.ref 112), en P "_position" 662 (.ref 119), en P "position" 671 (.ref 126), en P "char" 680 (.ref 133), en P "readChunk" 690 (.ref 141), en P "characterErrorsUCS4" 699 (.ref 148), en P "charsUntil" 711 (.ref 156), en P "unget" 719 (.ref 163), en P "__static_attributes__" 730 (.ref 164), en P "__dict__" 732 (.ref 167), en P "__weakref__" 734 (.ref 168), en P "__doc__" 735 (.none)].toArray 4), [].toArray⟩
noncomputable def x1_166 (P : Params) : Obj := ⟨.type "type", none, (.cls { name := "HTMLUnicodeInputStream", bases := [.type "object"], mro := [.ref 166, .type "object"], ns := 165, qualname := "HTMLUnicodeInputStream", hasDict := true, slotNames := [], subclasses := [], abstract := false, collection := none, hasDel := false }), [(some (.ref 85)), none, (some (.str "HTMLUnicodeInputStream" 612)), (some (.str "HTMLUnicodeInputStream" 620)), (some (.builtin "object.__new__")), (some (.bool true))].toArray⟩
noncomputable def x1_254 (P : Params) : Obj := ⟨.type "tuple", none, (.seq [.none].toArray 0), [].toArray⟩
noncomputable def x1_761 (P : Params) : Obj := ⟨.type "dict", none, (.dict [en P "__module__" 851 (.str "html5lib._tokenizer" 827), en P "__firstlineno__" 855 (.int 182 854), en P "__init__" 864 (.ref 261), en P "__iter__" 871 (.ref 268), en P "consumeNumberEntity" 886 (.ref 275), en P "consumeEntity" 901 (.ref 283), en P "processEntityInAttribute" 909 (.ref 290), en P "emitCurrentToken" 919 (.ref 297), en P "dataState" 928 (.ref 304), en P "entityDataState" 935 (.ref 311), en P "rcdataState" 942 (.ref 318), en P "characterReferenceInRcdata" 949 (.ref 325), en P "rawtextState" 956 (.ref 332), en P "scriptDataState" 963 (.ref 339), en P "plaintextState" 970 (.ref 346), en P "tagOpenState" 978 (.ref 353), en P "closeTagOpenState" 986 (.ref 360), en P "tagNameState" 994 (.ref 367), en P "rcdataLessThanSignState" 1001 (.ref 374), en P "rcdataEndTagOpenState" 1008 (.ref 381), en P "rcdataEndTagNameState" 1015 (.ref 388), en P "rawtextLessThanSignState" 1022 (.ref 395), en P "rawtextEndTagOpenState" 1029 (.ref 402), en P "rawtextEndTagNameState" 1036 (.ref 409), en P "scriptDataLessThanSignState" 1043 (.ref 416), en P "scriptDataEndTagOpenState" 1050 (.ref 423), en P "scriptDataEndTagNameState" 1057 (.ref 430), en P "scriptDataEscapeStartState" 1064 (.ref 437), en P "scriptDataEscapeStartDashState" 1071 (.ref 444), en P "scriptDataEscapedState" 1078 (.ref 451), en P "scriptDataEscapedDashState" 1085 (.ref 458), en P "scriptDataEscapedDashDashState" 1092 (.ref 465), en P "scriptDataEscapedLessThanSignState" 1099 (.ref 472), en P "scriptDataEscapedEndTagOpenState" 1106 (.ref 479), en P "scriptDataEscapedEndTagNameState" 1113 (.ref 486), en P "scriptDataDoubleEscapeStartState" 1120 (.ref 493), en P "scriptDataDoubleEscapedState" 1127 (.ref 500), en P "scriptDataDoubleEscapedDashState" 1134 (.ref 507), en P "scriptDataDoubleEscapedDashDashState" 1141 (.ref 514), en P "scriptDataDoubleEscapedLessThanSignState" 1148 (.ref 521), en P "scriptDataDoubleEscapeEndState" 1155 (.ref 528), en P "beforeAttributeNameState" 1163 (.ref 535), en P "attributeNameState" 1175 (.ref 542), en P "afterAttributeNameState" 1183 (.ref 549), en P "beforeAttributeValueState" 1191 (.ref 556), en P "attributeValueDoubleQuotedState" 1199 (.ref 563), en P "attributeValueSingleQuotedState" 1207 (.ref 570), en P "attributeValueUnQuotedState" 1215 (.ref 577), en P "afterAttributeValueState" 1223 (.ref 584), en P "selfClosingStartTagState" 1231 (.ref 591), en P "bogusCommentState" 1239 (.ref 598), en P "markupDeclarationOpenState" 1249 (.ref 605), en P "commentStartState" 1257 (.ref 612), en P "commentStartDashState" 1265 (.ref 619), en P "commentState" 1273 (.ref 626), en P "commentEndDashState" 1281 (.ref 633), en P "commentEndState" 1289 (.ref 640), en P "commentEndBangState" 1297 (.ref 647), en P "doctypeState" 1305 (.ref 654), en P "beforeDoctypeNameState" 1313 (.ref 661), en P "doctypeNameState" 1321 (.ref 668), en P "afterDoctypeNameState" 1331 (.ref 675), en P "afterDoctypePublicKeywordState" 1339 (.ref 682), en P "beforeDoctypePublicIdentifierState" 1347 (.ref 689), en P "doctypePublicIdentifierDoubleQuotedState" 1355 (.ref 696), en P "doctypePublicIdentifierSingleQuotedState" 1363 (.ref 703), en P "afterDoctypePublicIdentifierState" 1371 (.ref 710), en P "betweenDoctypePublicAndSystemIdentifiersState" 1379 (.ref 717), en P "afterDoctypeSystemKeywordState" 1387 (.ref 724), en P "beforeDoctypeSystemIdentifierState" 1395 (.ref 731), en P "doctypeSystemIdentifierDoubleQuotedState" 1403 (.ref 738), en P "doctypeSystemIdentifierSingleQuotedState" 1411 (.ref 745), en P "afterDoctypeSystemIdentifierState" 1419 (.ref 752), en P "bogusDoctypeState" 1427 (.ref 759), en P "__static_attributes__" 1436 (.ref 760), en P "__dict__" 1438 (.ref 763), en P "__weakref__" 1440 (.ref 764), en P "__doc__" 1441 (.none)].toArray 4), [].toArray⟩
noncomputable def x1_762 (P : Params) : Obj := ⟨.type "type", none, (.cls { name := "HTMLTokenizer", bases := [.type "object"], mro := [.ref 762, .type "object"], ns := 761, qualname := "HTMLTokenizer", hasDict := true, slotNames := [], subclasses := [], abstract := false, collection := none, hasDel := false }), [(some (.ref 247)), none, (some (.str "HTMLTokenizer" 844)), (some (.str "HTMLTokenizer" 852)), (some (.builtin "object.__new__")), (some (.bool true))].toArray⟩
noncomputable def x1_774 (P : Params) : Obj := ⟨.type "list", none, (.seq [.str ";" 1454, .str " " 1455, .str ";;" 1456, .str "/" 1457, .str ";0" 1458, .str ":" 1459, .str ";a" 1460, .str "@" 1461, .str ";" 1462, .str "G" 1463, .str "_" 1464, .str ";F" 1465, .str "`" 1466, .str "５" 1467, .str ";" 1468, .str "٥" 1469, .str "&" 1470, .str ";" 1471, .str "\n" 1472, .str "x" 1473].toArray 0), [].toArray⟩
noncomputable def x1_775 (P : Params) : Obj := ⟨.type "dict", none, (.dict [⟨10, .int 10 1475, .ref 776⟩, ⟨16, .int 16 1479, .ref 777⟩].toArray 2), [].toArray⟩
noncomputable def x1_776 (P : Params) : Obj := ⟨.type "list", none, (.seq [.str "a" 1476, .str "e" 1477, .str "F" 1478].toArray 0), [].toArray⟩
noncomputable def x1_777 (P : Params) : Obj := ⟨.type "list", none, (.seq [.str "g" 1480, .str "-" 1481, .str "." 1482].toArray 0), [].toArray⟩
noncomputable def o1_0 (P : Params) : List (List Obj) := [
  [⟨.type "dict", none, (.dict [en P "__name__" 1 (.str "builtins" 160), en P "__doc__" 2 (.builtin "builtins.__doc__:str#opaque"), en P "__package__" 3 (.builtin "builtins.__package__:str#opaque"), en P "__loader__" 4 (.builtin "builtins.__loader__:shared#opaque"), en P "__spec__" 5 (.builtin "builtins.__spec__#opaque"), en P "__build_class__" 6 (.builtin "__build_class__"), en P "__import__" 7 (.builtin "__import__"), en P "abs" 8 (.builtin "abs"), en P "all" 9 (.builtin "all"), en P "any" 10 (.builtin "any"), en P "ascii" 11 (.builtin "ascii"), en P "bin" 12 (.builtin "bin"), en P "breakpoint" 13 (.builtin "breakpoint"), en P "callable" 14 (.builtin "callable"), en P "chr" 15 (.builtin "chr"), en P "compile" 16 (.builtin "compile"), en P "delattr" 17 (.builtin "delattr"), en P "dir" 18 (.builtin "dir"), en P "divmod" 19 (.builtin "divmod"), en P "eval" 20 (.builtin "eval"), en P "exec" 21 (.builtin "exec"), en P "format" 22 (.builtin "format"), en P "getattr" 23 (.builtin "getattr"), en P "globals" 24 (.builtin "globals"), en P "hasattr" 25 (.builtin "hasattr"), en P "hash" 26 (.builtin "hash"), en P "hex" 27 (.builtin "hex"), en P "id" 28 (.builtin "id"), en P "input" 29 (.builtin "input"), en P "isinstance" 30 (.builtin "isinstance"), en P "issubclass" 31 (.builtin "issubclass"), en P "iter" 32 (.builtin "iter"), en P "aiter" 33 (.builtin "aiter"), en P "len" 34 (.builtin "len"), en P "locals" 35 (.builtin "locals"), en P "max" 36 (.builtin "max"), en P "min" 37 (.builtin "min"), en P "next" 38 (.builtin "next"), en P "anext" 39 (.builtin "anext"), en P "oct" 40 (.builtin "oct"), en P "ord" 41 (.builtin "ord"), en P "pow" 42 (.builtin "pow"), en P "print" 43 (.builtin "print"), en P "repr" 44 (.builtin "repr"), en P "round" 45 (.builtin "round"), en P "setattr" 46 (.builtin "setattr"), en P "sorted" 47 (.builtin "sorted"), en P "sum" 48 (.builtin "sum"), en P "vars" 49 (.builtin "vars"), en P "None" 50 (.none), en P "Ellipsis" 51 (.ellipsis), en P "NotImplemented" 52 (.notImplemented), en P "False" 53 (.bool false), en P "True" 54 (.bool true), en P "bool" 55 (.type "bool"), en P "memoryview" 56 (.type "memoryview"), en P "bytearray" 57 (.type "bytearray"), en P "bytes" 58 (.type "bytes"), en P "classmethod" 59 (.type "classmethod"), en P "complex" 60 (.type "complex"), en P "dict" 61 (.type "dict"), en P "enumerate" 62 (.type "enumerate"), en P "filter" 63 (.type "filter"), en P "float" 64 (.type "float"), en P "frozenset" 65 (.type "frozenset"), en P "property" 66 (.type "property"), en P "int" 67 (.type "int"), en P "list" 68 (.type "list"), en P "map" 69 (.type "map"), en P "object" 70 (.type "object"), en P "range" 71 (.type "range"), en P "reversed" 72 (.type "reversed"), en P "set" 73 (.type "set"), en P "slice" 74 (.type "slice"), en P "staticmethod" 75 (.type "staticmethod"), en P "str" 76 (.type "str"), en P "super" 77 (.type "super"), en P "tuple" 78 (.type "tuple"), en P "type" 79 (.type "type"), en P "zip" 80 (.type "zip"), en P "__debug__" 81 (.bool true), en P "BaseException" 82 (.type "BaseException"), en P "BaseExceptionGroup" 83 (.type "BaseExceptionGroup"), en P "Exception" 84 (.type "Exception"), en P "GeneratorExit" 85 (.type "GeneratorExit"), en P "KeyboardInterrupt" 86 (.type "KeyboardInterrupt"), en P "SystemExit" 87 (.type "SystemExit"), en P "ArithmeticError" 88 (.type "ArithmeticError"), en P "AssertionError" 89 (.type "AssertionError"), en P "AttributeError" 90 (.type "AttributeError"), en P "BufferError" 91 (.type "BufferError"), en P "EOFError" 92 (.type "EOFError"), en P "ImportError" 93 (.type "ImportError"), en P "LookupError" 94 (.type "LookupError"), en P "MemoryError" 95 (.type "MemoryError"), en P "NameError" 96 (.type "NameError"), en P "OSError" 97 (.type "OSError"), en P "ReferenceError" 98 (.type "ReferenceError"), en P "RuntimeError" 99 (.type "RuntimeError"), en P "StopAsyncIteration" 100 (.type "StopAsyncIteration"), en P "StopIteration" 101 (.type "StopIteration"), en P "SyntaxError" 102 (.type "SyntaxError"), en P "SystemError" 103 (.type "SystemError"), en P "TypeError" 104 (.type "TypeError"), en P "ValueError" 105 (.type "ValueError"), en P "Warning" 106 (.type "Warning"), en P "FloatingPointError" 107 (.type "FloatingPointError"), en P "OverflowError" 108 (.type "OverflowError"), en P "ZeroDivisionError" 109 (.type "ZeroDivisionError"), en P "BytesWarning" 110 (.type "BytesWarning"), en P "DeprecationWarning" 111 (.type "DeprecationWarning"), en P "EncodingWarning" 112 (.type "EncodingWarning"), en P "FutureWarning" 113 (.type "FutureWarning"), en P "ImportWarning" 114 (.type "ImportWarning"), en P "PendingDeprecationWarning" 115 (.type "PendingDeprecationWarning"), en P "ResourceWarning" 116 (.type "ResourceWarning"), en P "RuntimeWarning" 117 (.type "RuntimeWarning"), en P "SyntaxWarning" 118 (.type "SyntaxWarning"), en P "UnicodeWarning" 119 (.type "UnicodeWarning"), en P "UserWarning" 120 (.type "UserWarning"), en P "BlockingIOError" 121 (.type "BlockingIOError"), en P "ChildProcessError" 122 (.type "ChildProcessError"), en P "ConnectionError" 123 (.type "ConnectionError"), en P "FileExistsError" 124 (.type "FileExistsError"), en P "FileNotFoundError" 125 (.type "FileNotFoundError"), en P "InterruptedError" 126 (.type "InterruptedError"), en P "IsADirectoryError" 127 (.type "IsADirectoryError"), en P "NotADirectoryError" 128 (.type "NotADirectoryError"), en P "PermissionError" 129 (.type "PermissionError"), en P "ProcessLookupError" 130 (.type "ProcessLookupError"), en P "TimeoutError" 131 (.type "TimeoutError"), en P "IndentationError" 132 (.type "IndentationError"), en P "_IncompleteInputError" 133 (.type "_IncompleteInputError"), en P "IndexError" 134 (.type "IndexError"), en P "KeyError" 135 (.type "KeyError"), en P "ModuleNotFoundError" 136 (.type "ModuleNotFoundError"), en P "NotImplementedError" 137 (.type "NotImplementedError"), en P "PythonFinalizationError" 138 (.type "PythonFinalizationError"), en P "RecursionError" 139 (.type "RecursionError"), en P "UnboundLocalError" 140 (.type "UnboundLocalError"), en P "UnicodeError" 141 (.type "UnicodeError"), en P "BrokenPipeError" 142 (.type "BrokenPipeError"), en P "ConnectionAbortedError" 143 (.type "ConnectionAbortedError"), en P "ConnectionRefusedError" 144 (.type "ConnectionRefusedError"), en P "ConnectionResetError" 145 (.type "ConnectionResetError"), en P "TabError" 146 (.type "TabError"), en P "UnicodeDecodeError" 147 (.type "UnicodeDecodeError"), en P "UnicodeEncodeError" 148 (.type "UnicodeEncodeError"), en P "UnicodeTranslateError" 149 (.type "UnicodeTranslateError"), en P "ExceptionGroup" 150 (.type "ExceptionGroup"), en P "EnvironmentError" 151 (.type "OSError"), en P "IOError" 152 (.type "OSError"), en P "open" 153 (.builtin "open"), en P "quit" 154 (.builtin "builtins.quit#opaque"), en P "exit" 155 (.builtin "builtins.exit#opaque"), en P "copyright" 156 (.builtin "builtins.copyright#opaque"), en P "credits" 157 (.builtin "builtins.credits#opaque"), en P "license" 158 (.builtin "builtins.license#opaque"), en P "help" 159 (.builtin "builtins.help#opaque")].toArray 159), [].toArray⟩],
  [⟨.type "dict", none, (.dict [en P "builtins" 162 (.ref 4), en P "__main__" 163 (.ref 5)].toArray 2), [].toArray⟩],
  [x1_2 P],
  [x1_3 P],
  [⟨.type "module", (some (0)), .plain, [].toArray⟩],
  [⟨.type "module", (some (3)), .plain, [].toArray⟩],
  [⟨.type "dict", none, (.dict [].toArray 0), [].toArray⟩],
  [⟨.type "tuple", none, (.seq [].toArray 0), [].toArray⟩],
  [⟨.none, none, (.fields [].toArray), [].toArray⟩],
  [⟨.type "code", none, (.fields [.str "<module>" 176, .str "<module>" 177, .str "/claim/cut.py" 178, .int 1 0, .int 0 0, .int 0 0, .int 0 0, .int 0 0, .ref 7, .bool false, .int 175 0, .ref 8, .none, .none, .none, .none, .int 179 0, .int 1 0, .str "/claim/cut.py" 180].toArray), [].toArray⟩],
  [⟨.type "frame", none, .plain, [(some (.ref 9)), (some (.ref 3)), (some (.ref 3)), none, (some (.str "__main__" 164)), none, (some (.ref 0))].toArray⟩],
  [⟨.type "tuple", none, (.seq [].toArray 0), [].toArray⟩],
  [⟨.none, none, (.fields [.int 1 0, .int 0 0, .ref 20, .int 10 0, .int 0 0, .ref 41, .int 17 0, .int 0 0, .ref 55, .int 27 0, .int 0 0, .ref 83, .int 29 0, .int 0 0, .ref 90, .int 134 0, .int 0 0, .ref 177, .int 144 0, .int 0 0, .ref 184, .int 182 0, .int 0 0, .ref 252, .int 1186 0, .int 0 0, .ref 772, .int 1191 0, .int 0 0, .ref 783, .int 1193 0, .int 0 0, .ref 790, .int 1204 0, .int 0 0, .ref 797, .int 1211 0, .int 0 0, .ref 804, .int 1219 0, .int 0 0, .ref 811, .int 1222 0, .int 0 0, .ref 818].toArray), [].toArray⟩],
  [⟨.type "code", none, (.fields [.str "<module>" 182, .str "<module>" 183, .str "/claim/cut.py" 184, .int 1 0, .int 0 0, .int 0 0, .int 0 0, .int 0 0, .ref 11, .bool false, .int 181 0, .ref 12, .none, .none, .none, .none, .int 185 0, .int 1 0, .str "/claim/cut.py" 186].toArray), [].toArray⟩],
  [⟨.type "frame", none, .plain, [(some (.ref 13)), (some (.ref 3)), (some (.ref 3)), none, (some (.str "__main__" 164)), none, (some (.ref 0))].toArray⟩],
  pack7 15 187 "__main__" 164 "_wall" (.none) (d1 0 0 false),
  [⟨.type "tuple", none, (.seq [.str "\t" 197, .str "\n" 198, .str "\x0c" 199, .str " " 200, .str "\x0d" 201].toArray 0), [].toArray⟩],
  [⟨.type "list", none, (.seq [.str "a" 204, .str "b" 205, .str "c" 206, .str "d" 207, .str "e" 208, .str "f" 209, .str "g" 210, .str "h" 211, .str "i" 212, .str "j" 213, .str "k" 214, .str "l" 215, .str "m" 216, .str "n" 217, .str "o" 218, .str "p" 219, .str "q" 220, .str "r" 221, .str "s" 222, .str "t" 223, .str "u" 224, .str "v" 225, .str "w" 226, .str "x" 227, .str "y" 228, .str "z" 229, .str "A" 230, .str "B" 231, .str "C" 232, .str "D" 233, .str "E" 234, .str "F" 235, .str "G" 236, .str "H" 237, .str "I" 238, .str "J" 239, .str "K" 240, .str "L" 241, .str "M" 242, .str "N" 243, .str "O" 244, .str "P" 245, .str "Q" 246, .str "R" 247, .str "S" 248, .str "T" 249, .str "U" 250, .str "V" 251, .str "W" 252, .str "X" 253, .str "Y" 254, .str "Z" 255].toArray 52), [].toArray⟩],
  [⟨.type "str_ascii_iterator", none, (.fields [.none, .int 52 0].toArray), [].toArray⟩],
  [⟨.type "tuple", none, (.seq [].toArray 0), [].toArray⟩],
  [⟨.type "StopIteration", none, (.fields [.ref 25, .none, .none, .none, .bool false, .none].toArray), [].toArray⟩],
  [⟨.type "tuple", none, (.seq [.str "a" 204, .str "b" 205, .str "c" 206, .str "d" 207, .str "e" 208, .str "f" 209, .str "g" 210, .str "h" 211, .str "i" 212, .str "j" 213, .str "k" 214, .str "l" 215, .str "m" 216, .str "n" 217, .str "o" 218, .str "p" 219, .str "q" 220, .str "r" 221, .str "s" 222, .str "t" 223, .str "u" 224, .str "v" 225, .str "w" 226, .str "x" 227, .str "y" 228, .str "z" 229, .str "A" 230, .str "B" 231, .str "C" 232, .str "D" 233, .str "E" 234, .str "F" 235, .str "G" 236, .str "H" 237, .str "I" 238, .str "J" 239, .str "K" 240, .str "L" 241, .str "M" 242, .str "N" 243, .str "O" 244, .str "P" 245, .str "Q" 246, .str "R" 247, .str "S" 248, .str "T" 249, .str "U" 250, .str "V" 251, .str "W" 252, .str "X" 253, .str "Y" 254, .str "Z" 255].toArray 0), [].toArray⟩],
  [⟨.type "list", none, (.seq [.str "0" 258, .str "1" 259, .str "2" 260, .str "3" 261, .str "4" 262, .str "5" 263, .str "6" 264, .str "7" 265, .str "8" 266, .str "9" 267].toArray 10), [].toArray⟩],
  [⟨.type "str_ascii_iterator", none, (.fields [.none, .int 10 0].toArray), [].toArray⟩],
  [⟨.type "tuple", none, (.seq [].toArray 0), [].toArray⟩],
  [⟨.type "StopIteration", none, (.fields [.ref 30, .none, .none, .none, .bool false, .none].toArray), [].toArray⟩],
  [x1_32 P],
  [⟨.type "list", none, (.seq [.str "0" 270, .str "1" 271, .str "2" 272, .str "3" 273, .str "4" 274, .str "5" 275, .str "6" 276, .str "7" 277, .str "8" 278, .str "9" 279, .str "a" 280, .str "b" 281, .str "c" 282, .str "d" 283, .str "e" 284, .str "f" 285, .str "A" 286, .str "B" 287, .str "C" 288, .str "D" 289, .str "E" 290, .str "F" 291].toArray 22), [].toArray⟩],
  [⟨.type "str_ascii_iterator", none, (.fields [.none, .int 22 0].toArray), [].toArray⟩],
  [⟨.type "tuple", none, (.seq [].toArray 0), [].toArray⟩],
  [⟨.type "StopIteration", none, (.fields [.ref 35, .none, .none, .none, .bool false, .none].toArray), [].toArray⟩],
  [x1_37 P],
  pack5 38 293 "html5lib.constants" 194 "asciiLower" (.none) (d1 7 0 false),
  [⟨.type "dict", none, (.dict [en P "AMP" 299 (.str "&" 300), en P "AMP;" 302 (.str "&" 303), en P "Eacute" 305 (.str "É" 306), en P "Eacute;" 308 (.str "É" 309), en P "Mopf;" 311 (.str "𝕄" 312), en P "ac;" 314 (.str "∾" 315), en P "acE;" 317 (.str "∾̳" 318), en P "acute" 320 (.str "´" 321), en P "acute;" 323 (.str "´" 324), en P "amp" 326 (.str "&" 327), en P "amp;" 329 (.str "&" 330), en P "ang;" 332 (.str "∠" 333), en P "angle;" 335 (.str "∠" 336), en P "bne;" 338 (.str "=⃥" 339), en P "copy" 341 (.str "©" 342), en P "copy;" 344 (.str "©" 345), en P "eacute" 347 (.str "é" 348), en P "eacute;" 350 (.str "é" 351), en P "frac12" 353 (.str "½" 354), en P "frac12;" 356 (.str "½" 357), en P "gt" 359 (.str ">" 360), en P "gt;" 362 (.str ">" 363), en P "lt" 365 (.str "<" 366), en P "lt;" 368 (.str "<" 369), en P "nbsp" 371 (.str " " 372), en P "nbsp;" 374 (.str " " 375), en P "not" 377 (.str "¬" 378), en P "not;" 380 (.str "¬" 381), en P "notin;" 383 (.str "∉" 384), en P "notni;" 386 (.str "∌" 387), en P "para" 389 (.str "¶" 390), en P "para;" 392 (.str "¶" 393), en P "parallel;" 395 (.str "∥" 396), en P "quot" 398 (.str "\"" 399), en P "quot;" 401 (.str "\"" 402), en P "sup1" 403 (.str "¹" 404), en P "sup1;" 405 (.str "¹" 406), en P "sup2" 407 (.str "²" 408), en P "sup2;" 409 (.str "²" 410), en P "sup;" 411 (.str "⊃" 412), en P "times" 413 (.str "×" 414), en P "times;" 415 (.str "×" 416), en P "timesb;" 417 (.str "⊠" 418)].toArray 43), [].toArray⟩],
  [⟨.type "dict", none, (.dict [en P "eacute;" 350 (.str "é" 351), en P "frac12" 353 (.str "½" 354), en P "frac12;" 356 (.str "½" 357), en P "gt" 359 (.str ">" 360), en P "gt;" 362 (.str ">" 363), en P "lt" 365 (.str "<" 366), en P "lt;" 368 (.str "<" 369), en P "nbsp" 371 (.str " " 372), en P "nbsp;" 374 (.str " " 375), en P "not" 377 (.str "¬" 378), en P "not;" 380 (.str "¬" 381), en P "notin;" 383 (.str "∉" 384), en P "notni;" 386 (.str "∌" 387), en P "para" 389 (.str "¶" 390), en P "para;" 392 (.str "¶" 393), en P "parallel;" 395 (.str "∥" 396), en P "quot" 398 (.str "\"" 399)].toArray 17), [].toArray⟩],
  [⟨.type "dict", none, (.dict [en P "quot;" 401 (.str "\"" 402), en P "sup1" 403 (.str "¹" 404), en P "sup1;" 405 (.str "¹" 406), en P "sup2" 407 (.str "²" 408), en P "sup2;" 409 (.str "²" 410), en P "sup;" 411 (.str "⊃" 412), en P "times" 413 (.str "×" 414), en P "times;" 415 (.str "×" 416), en P "timesb;" 417 (.str "⊠" 418)].toArray 9), [].toArray⟩],
  [x1_46 P],
  [⟨.type "dict", none, (.dict [⟨143, .int 143 480, .str "" 481⟩, ⟨144, .int 144 483, .str "" 484⟩, ⟨145, .int 145 486, .str "‘" 487⟩, ⟨146, .int 146 489, .str "’" 490⟩, ⟨147, .int 147 492, .str "“" 493⟩, ⟨148, .int 148 495, .str "”" 496⟩, ⟨149, .int 149 498, .str "•" 499⟩, ⟨150, .int 150 501, .str "–" 502⟩, ⟨151, .int 151 504, .str "—" 505⟩, ⟨152, .int 152 507, .str "˜" 508⟩, ⟨153, .int 153 510, .str "™" 511⟩, ⟨154, .int 154 513, .str "š" 514⟩, ⟨155, .int 155 516, .str "›" 517⟩, ⟨156, .int 156 519, .str "œ" 520⟩, ⟨157, .int 157 522, .str "" 523⟩, ⟨158, .int 158 525, .str "ž" 526⟩, ⟨159, .int 159 528, .str "Ÿ" 529⟩].toArray 17), [].toArray⟩],
  [x1_48 P],
  [⟨.type "tuple", none, (.seq [.int 3 539, .int 4 541, .int 5 543].toArray 0), [].toArray⟩],
  [⟨.type "tuple", none, (.seq [.type "object"].toArray 0), [].toArray⟩],
  [⟨.type "builtin_function_or_method", none, (.fields [.builtin "type.__prepare__", .type "type"].toArray), [].toArray⟩],
  [⟨.type "dict", none, (.dict [en P "__module__" 573 (.str "html5lib._inputstream" 564), en P "__qualname__" 575 (.str "Text" 574), en P "__firstlineno__" 577 (.int 17 576), en P "__init__" 585 (.ref 63), en P "read" 594 (.ref 70), en P "__static_attributes__" 597 (.ref 71)].toArray 6), [].toArray⟩],
  [⟨.type "tuple", none, (.seq [].toArray 0), [].toArray⟩],
  [⟨.none, none, (.fields [.int 19 0, .int 4 0, .ref 62, .int 23 0, .int 4 0, .ref 69].toArray), [].toArray⟩],
  [⟨.type "code", none, (.fields [.str "Text" 568, .str "Text" 569, .str "/claim/cut.py" 570, .int 17 0, .int 0 0, .int 0 0, .int 0 0, .int 0 0, .ref 53, .bool false, .int 181 0, .ref 54, .none, .none, .none, .none, .int 571 0, .int 17 0, .str "/claim/cut.py" 572].toArray), [].toArray⟩],
  [⟨.type "frame", none, .plain, [(some (.ref 55)), (some (.ref 3)), (some (.ref 52)), none, (some (.str "html5lib._inputstream" 564)), none, (some (.ref 0))].toArray⟩],
  pack7 57 578 "html5lib._inputstream" 564 "Text.__init__" (.none) (d1 13 0 true),
  pack7 64 586 "html5lib._inputstream" 564 "Text.read" (.none) (d1 13 1 true),
  [⟨.type "tuple", none, (.seq [.str "place" 595, .str "text" 596].toArray 0), [].toArray⟩],
  [x1_72 P],
  [x1_73 P],
  [⟨.type "getset_descriptor", none, (.fields [.str "__dict__" 598, .ref 73, .builtin "function.__dict__", .builtin "function.__dict__#set"].toArray), [].toArray⟩],
  [⟨.type "getset_descriptor", none, (.fields [.str "__weakref__" 600, .ref 73, .builtin "ExceptionGroup.__weakref__", .none].toArray), [].toArray⟩],
  [⟨.type "super", none, (.fields [.ref 73, .ref 73, .ref 73].toArray), [].toArray⟩],
  [⟨.type "builtin_function_or_method", none, (.fields [.builtin "object.__init_subclass__", .ref 73].toArray), [].toArray⟩],
  pack7 78 605 "html5lib._inputstream" 564 "_is_invalid" (.none) (d1 14 0 false),
  [⟨.type "tuple", none, (.seq [.type "object"].toArray 0), [].toArray⟩],
  [⟨.type "builtin_function_or_method", none, (.fields [.builtin "type.__prepare__", .type "type"].toArray), [].toArray⟩],
  [⟨.type "dict", none, (.dict [en P "__module__" 619 (.str "html5lib._inputstream" 564), en P "__qualname__" 621 (.str "HTMLUnicodeInputStream" 620), en P "__firstlineno__" 623 (.int 29 622), en P "_defaultChunkSize" 625 (.int 10240 624), en P "__init__" 633 (.ref 98), en P "reset" 640 (.ref 105), en P "openStream" 649 (.ref 112), en P "_position" 662 (.ref 119), en P "position" 671 (.ref 126), en P "char" 680 (.ref 133), en P "readChunk" 690 (.ref 141), en P "characterErrorsUCS4" 699 (.ref 148), en P "charsUntil" 711 (.ref 156), en P "unget" 719 (.ref 163), en P "__static_attributes__" 730 (.ref 164)].toArray 15), [].toArray⟩]]
noncomputable def o1_1 (P : Params) : List (List Obj) := [
  [⟨.type "tuple", none, (.seq [].toArray 0), [].toArray⟩],
  [⟨.none, none, (.fields [.int 32 0, .int 4 0, .ref 97, .int 38 0, .int 4 0, .ref 104, .int 47 0, .int 4 0, .ref 111, .int 51 0, .int 4 0, .ref 118, .int 62 0, .int 4 0, .ref 125, .int 66 0, .int 4 0, .ref 132, .int 75 0, .int 4 0, .ref 140, .int 101 0, .int 4 0, .ref 147, .int 106 0, .int 4 0, .ref 155, .int 125 0, .int 4 0, .ref 162].toArray), [].toArray⟩],
  [⟨.type "code", none, (.fields [.str "HTMLUnicodeInputStream" 614, .str "HTMLUnicodeInputStream" 615, .str "/claim/cut.py" 616, .int 29 0, .int 0 0, .int 0 0, .int 0 0, .int 0 0, .ref 88, .bool false, .int 181 0, .ref 89, .none, .none, .none, .none, .int 617 0, .int 29 0, .str "/claim/cut.py" 618].toArray), [].toArray⟩],
  [⟨.type "frame", none, .plain, [(some (.ref 90)), (some (.ref 3)), (some (.ref 87)), none, (some (.str "html5lib._inputstream" 564)), none, (some (.ref 0))].toArray⟩],
  pack7 92 626 "html5lib._inputstream" 564 "HTMLUnicodeInputStream.__init__" (.none) (d1 15 1 true),
  pack7 99 634 "html5lib._inputstream" 564 "HTMLUnicodeInputStream.reset" (.none) (d1 15 2 true),
  pack7 106 641 "html5lib._inputstream" 564 "HTMLUnicodeInputStream.openStream" (.none) (d1 15 3 true),
  pack7 113 650 "html5lib._inputstream" 564 "HTMLUnicodeInputStream._position" (.none) (d1 15 4 true),
  pack7 120 663 "html5lib._inputstream" 564 "HTMLUnicodeInputStream.position" (.none) (d1 15 5 true),
  pack7 127 672 "html5lib._inputstream" 564 "HTMLUnicodeInputStream.char" (.none) (d1 15 6 true),
  [x1_134 P],
  pack7 135 681 "html5lib._inputstream" 564 "HTMLUnicodeInputStream.readChunk" (.ref 134) (d1 15 7 true),
  pack7 142 691 "html5lib._inputstream" 564 "HTMLUnicodeInputStream.characterErrorsUCS4" (.none) (d1 15 8 true),
  [⟨.type "tuple", none, (.seq [.bool false].toArray 0), [].toArray⟩],
  pack7 150 700 "html5lib._inputstream" 564 "HTMLUnicodeInputStream.charsUntil" (.ref 149) (d1 15 9 true),
  pack7 157 712 "html5lib._inputstream" 564 "HTMLUnicodeInputStream.unget" (.none) (d1 15 10 true),
  [⟨.type "tuple", none, (.seq [.str "_bufferedCharacter" 720, .str "chunk" 721, .str "chunkOffset" 722, .str "chunkSize" 723, .str "dataStream" 724, .str "errors" 725, .str "newLines" 726, .str "prevNumCols" 727, .str "prevNumLines" 728, .str "reportCharacterErrors" 729].toArray 0), [].toArray⟩],
  [x1_165 P],
  [x1_166 P],
  [⟨.type "getset_descriptor", none, (.fields [.str "__dict__" 731, .ref 166, .builtin "function.__dict__", .builtin "function.__dict__#set"].toArray), [].toArray⟩],
  [⟨.type "getset_descriptor", none, (.fields [.str "__weakref__" 733, .ref 166, .builtin "ExceptionGroup.__weakref__", .none].toArray), [].toArray⟩],
  [⟨.type "super", none, (.fields [.ref 166, .ref 166, .ref 166].toArray), [].toArray⟩],
  [⟨.type "builtin_function_or_method", none, (.fields [.builtin "object.__init_subclass__", .ref 166].toArray), [].toArray⟩],
  [⟨.type "tuple", none, (.seq [.int 0 740, .none].toArray 0), [].toArray⟩],
  pack7 172 741 "html5lib._trie.py" 738 "bisect_left" (.ref 171) (d1 17 0 false),
  [⟨.type "tuple", none, (.seq [.type "object"].toArray 0), [].toArray⟩],
  [⟨.type "builtin_function_or_method", none, (.fields [.builtin "type.__prepare__", .type "type"].toArray), [].toArray⟩],
  [⟨.type "dict", none, (.dict [en P "__module__" 759 (.str "html5lib._trie.py" 738), en P "__qualname__" 761 (.str "Trie" 760), en P "__firstlineno__" 763 (.int 144 762), en P "__init__" 771 (.ref 192), en P "__contains__" 779 (.ref 199), en P "__len__" 786 (.ref 206), en P "__getitem__" 794 (.ref 213), en P "has_keys_with_prefix" 805 (.ref 220), en P "longest_prefix" 814 (.ref 227), en P "__static_attributes__" 819 (.ref 228)].toArray 10), [].toArray⟩],
  [⟨.type "tuple", none, (.seq [].toArray 0), [].toArray⟩],
  [⟨.none, none, (.fields [.int 146 0, .int 4 0, .ref 191, .int 152 0, .int 4 0, .ref 198, .int 155 0, .int 4 0, .ref 205, .int 158 0, .int 4 0, .ref 212, .int 161 0, .int 4 0, .ref 219, .int 173 0, .int 4 0, .ref 226].toArray), [].toArray⟩],
  [⟨.type "code", none, (.fields [.str "Trie" 754, .str "Trie" 755, .str "/claim/cut.py" 756, .int 144 0, .int 0 0, .int 0 0, .int 0 0, .int 0 0, .ref 182, .bool false, .int 181 0, .ref 183, .none, .none, .none, .none, .int 757 0, .int 144 0, .str "/claim/cut.py" 758].toArray), [].toArray⟩],
  [⟨.type "frame", none, .plain, [(some (.ref 184)), (some (.ref 3)), (some (.ref 181)), none, (some (.str "html5lib._trie.py" 738)), none, (some (.ref 0))].toArray⟩],
  pack7 186 764 "html5lib._trie.py" 738 "Trie.__init__" (.none) (d1 18 0 true),
  pack7 193 772 "html5lib._trie.py" 738 "Trie.__contains__" (.none) (d1 18 1 true),
  pack7 200 780 "html5lib._trie.py" 738 "Trie.__len__" (.none) (d1 18 2 true),
  pack7 207 787 "html5lib._trie.py" 738 "Trie.__getitem__" (.none) (d1 18 3 true),
  pack7 214 795 "html5lib._trie.py" 738 "Trie.has_keys_with_prefix" (.none) (d1 18 4 true),
  pack7 221 806 "html5lib._trie.py" 738 "Trie.longest_prefix" (.none) (d1 18 5 true),
  [⟨.type "tuple", none, (.seq [.str "_cachepoints" 815, .str "_cachestr" 816, .str "_data" 817, .str "_keys" 818].toArray 0), [].toArray⟩],
  [⟨.type "dict", none, (.dict [en P "__module__" 759 (.str "html5lib._trie.py" 738), en P "__firstlineno__" 763 (.int 144 762), en P "__init__" 771 (.ref 192), en P "__contains__" 779 (.ref 199), en P "__len__" 786 (.ref 206), en P "__getitem__" 794 (.ref 213), en P "has_keys_with_prefix" 805 (.ref 220), en P "longest_prefix" 814 (.ref 227), en P "__static_attributes__" 819 (.ref 228), en P "__dict__" 821 (.ref 231), en P "__weakref__" 823 (.ref 232), en P "__doc__" 824 (.none)].toArray 4), [].toArray⟩],
  [⟨.type "type", none, (.cls { name := "Trie", bases := [.type "object"], mro := [.ref 230, .type "object"], ns := 229, qualname := "Trie", hasDict := true, slotNames := [], subclasses := [], abstract := false, collection := none, hasDel := false }), [(some (.ref 179)), none, (some (.str "Trie" 752)), (some (.str "Trie" 760)), (some (.builtin "object.__new__")), (some (.bool true))].toArray⟩],
  [⟨.type "getset_descriptor", none, (.fields [.str "__dict__" 820, .ref 230, .builtin "function.__dict__", .builtin "function.__dict__#set"].toArray), [].toArray⟩],
  [⟨.type "getset_descriptor", none, (.fields [.str "__weakref__" 822, .ref 230, .builtin "ExceptionGroup.__weakref__", .none].toArray), [].toArray⟩],
  [⟨.type "super", none, (.fields [.ref 230, .ref 230, .ref 230].toArray), [].toArray⟩],
  [⟨.type "builtin_function_or_method", none, (.fields [.builtin "object.__init_subclass__", .ref 230].toArray), [].toArray⟩],
  [⟨.type "dict", none, (.dict [en P "_data" 832 (.ref 43), en P "_keys" 834 (.ref 243), en P "_cachestr" 837 (.str "" 835), en P "_cachepoints" 842 (.ref 246)].toArray 4), [].toArray⟩],
  [⟨.ref 230, (some (235)), .plain, [].toArray⟩],
  [⟨.type "frame", none, (.dict [en P "self" 829 (.ref 236), en P "data" 830 (.ref 43)].toArray 2), [].toArray⟩],
  [⟨.type "dict_keys", none, (.fields [.ref 43].toArray), [].toArray⟩],
  [⟨.type "list", none, (.seq [.str "AMP" 299, .str "AMP;" 302, .str "Eacute" 305, .str "Eacute;" 308, .str "Mopf;" 311, .str "ac;" 314, .str "acE;" 317, .str "acute" 320, .str "acute;" 323, .str "amp" 326, .str "amp;" 329, .str "ang;" 332, .str "angle;" 335, .str "bne;" 338, .str "copy" 341, .str "copy;" 344, .str "eacute" 347, .str "eacute;" 350, .str "frac12" 353, .str "frac12;" 356, .str "gt" 359, .str "gt;" 362, .str "lt" 365, .str "lt;" 368, .str "nbsp" 371, .str "nbsp;" 374, .str "not" 377, .str "not;" 380, .str "notin;" 383, .str "notni;" 386, .str "para" 389, .str "para;" 392, .str "parallel;" 395, .str "quot" 398, .str "quot;" 401, .str "sup1" 403, .str "sup1;" 405, .str "sup2" 407, .str "sup2;" 409, .str "sup;" 411, .str "times" 413, .str "times;" 415, .str "timesb;" 417].toArray 45), [].toArray⟩],
  [⟨.type "dict_keyiterator", none, (.fields [.none, .int 43 0, .int 43 0, .int 43 0].toArray), [].toArray⟩],
  [⟨.type "tuple", none, (.seq [].toArray 0), [].toArray⟩],
  [⟨.type "StopIteration", none, (.fields [.ref 241, .none, .none, .none, .bool false, .none].toArray), [].toArray⟩],
  [⟨.type "list", none, (.seq [.str "AMP" 299, .str "AMP;" 302, .str "Eacute" 305, .str "Eacute;" 308, .str "Mopf;" 311, .str "ac;" 314, .str "acE;" 317, .str "acute" 320, .str "acute;" 323, .str "amp" 326, .str "amp;" 329, .str "ang;" 332, .str "angle;" 335, .str "bne;" 338, .str "copy" 341, .str "copy;" 344, .str "eacute" 347, .str "eacute;" 350, .str "frac12" 353, .str "frac12;" 356, .str "gt" 359, .str "gt;" 362, .str "lt" 365, .str "lt;" 368, .str "nbsp" 371, .str "nbsp;" 374, .str "not" 377, .str "not;" 380, .str "notin;" 383, .str "notni;" 386, .str "para" 389, .str "para;" 392, .str "parallel;" 395, .str "quot" 398, .str "quot;" 401, .str "sup1" 403, .str "sup1;" 405, .str "sup2" 407, .str "sup2;" 409, .str "sup;" 411, .str "times" 413, .str "times;" 415, .str "timesb;" 417].toArray 2), [].toArray⟩],
  [⟨.type "tuple", none, (.seq [.str "AMP" 299, .str "AMP;" 302, .str "Eacute" 305, .str "Eacute;" 308, .str "Mopf;" 311, .str "ac;" 314, .str "acE;" 317, .str "acute" 320, .str "acute;" 323, .str "amp" 326, .str "amp;" 329, .str "ang;" 332, .str "angle;" 335, .str "bne;" 338, .str "copy" 341, .str "copy;" 344, .str "eacute" 347, .str "eacute;" 350, .str "frac12" 353, .str "frac12;" 356, .str "gt" 359, .str "gt;" 362, .str "lt" 365, .str "lt;" 368, .str "nbsp" 371, .str "nbsp;" 374, .str "not" 377, .str "not;" 380, .str "notin;" 383, .str "notni;" 386, .str "para" 389, .str "para;" 392, .str "parallel;" 395, .str "quot" 398, .str "quot;" 401, .str "sup1" 403, .str "sup1;" 405, .str "sup2" 407, .str "sup2;" 409, .str "sup;" 411, .str "times" 413, .str "times;" 415, .str "timesb;" 417].toArray 0), [].toArray⟩],
  [⟨.type "list", none, (.seq [].toArray 0), [].toArray⟩],
  [⟨.type "tuple", none, (.seq [.int 0 838, .int 43 840].toArray 0), [].toArray⟩],
  [⟨.type "tuple", none, (.seq [.type "object"].toArray 0), [].toArray⟩],
  [⟨.type "builtin_function_or_method", none, (.fields [.builtin "type.__prepare__", .type "type"].toArray), [].toArray⟩],
  [⟨.type "dict", none, (.dict [en P "__module__" 851 (.str "html5lib._tokenizer" 827), en P "__qualname__" 853 (.str "HTMLTokenizer" 852), en P "__firstlineno__" 855 (.int 182 854), en P "__init__" 864 (.ref 261), en P "__iter__" 871 (.ref 268), en P "consumeNumberEntity" 886 (.ref 275), en P "consumeEntity" 901 (.ref 283), en P "processEntityInAttribute" 909 (.ref 290), en P "emitCurrentToken" 919 (.ref 297), en P "dataState" 928 (.ref 304), en P "entityDataState" 935 (.ref 311), en P "rcdataState" 942 (.ref 318), en P "characterReferenceInRcdata" 949 (.ref 325), en P "rawtextState" 956 (.ref 332), en P "scriptDataState" 963 (.ref 339), en P "plaintextState" 970 (.ref 346), en P "tagOpenState" 978 (.ref 353), en P "closeTagOpenState" 986 (.ref 360), en P "tagNameState" 994 (.ref 367), en P "rcdataLessThanSignState" 1001 (.ref 374), en P "rcdataEndTagOpenState" 1008 (.ref 381), en P "rcdataEndTagNameState" 1015 (.ref 388), en P "rawtextLessThanSignState" 1022 (.ref 395), en P "rawtextEndTagOpenState" 1029 (.ref 402), en P "rawtextEndTagNameState" 1036 (.ref 409), en P "scriptDataLessThanSignState" 1043 (.ref 416), en P "scriptDataEndTagOpenState" 1050 (.ref 423), en P "scriptDataEndTagNameState" 1057 (.ref 430), en P "scriptDataEscapeStartState" 1064 (.ref 437), en P "scriptDataEscapeStartDashState" 1071 (.ref 444), en P "scriptDataEscapedState" 1078 (.ref 451), en P "scriptDataEscapedDashState" 1085 (.ref 458), en P "scriptDataEscapedDashDashState" 1092 (.ref 465), en P "scriptDataEscapedLessThanSignState" 1099 (.ref 472), en P "scriptDataEscapedEndTagOpenState" 1106 (.ref 479), en P "scriptDataEscapedEndTagNameState" 1113 (.ref 486), en P "scriptDataDoubleEscapeStartState" 1120 (.ref 493), en P "scriptDataDoubleEscapedState" 1127 (.ref 500), en P "scriptDataDoubleEscapedDashState" 1134 (.ref 507), en P "scriptDataDoubleEscapedDashDashState" 1141 (.ref 514), en P "scriptDataDoubleEscapedLessThanSignState" 1148 (.ref 521), en P "scriptDataDoubleEscapeEndState" 1155 (.ref 528), en P "beforeAttributeNameState" 1163 (.ref 535), en P "attributeNameState" 1175 (.ref 542), en P "afterAttributeNameState" 1183 (.ref 549), en P "beforeAttributeValueState" 1191 (.ref 556), en P "attributeValueDoubleQuotedState" 1199 (.ref 563), en P "attributeValueSingleQuotedState" 1207 (.ref 570), en P "attributeValueUnQuotedState" 1215 (.ref 577), en P "afterAttributeValueState" 1223 (.ref 584), en P "selfClosingStartTagState" 1231 (.ref 591), en P "bogusCommentState" 1239 (.ref 598), en P "markupDeclarationOpenState" 1249 (.ref 605), en P "commentStartState" 1257 (.ref 612), en P "commentStartDashState" 1265 (.ref 619), en P "commentState" 1273 (.ref 626), en P "commentEndDashState" 1281 (.ref 633), en P "commentEndState" 1289 (.ref 640), en P "commentEndBangState" 1297 (.ref 647), en P "doctypeState" 1305 (.ref 654), en P "beforeDoctypeNameState" 1313 (.ref 661), en P "doctypeNameState" 1321 (.ref 668), en P "afterDoctypeNameState" 1331 (.ref 675), en P "afterDoctypePublicKeywordState" 1339 (.ref 682), en P "beforeDoctypePublicIdentifierState" 1347 (.ref 689), en P "doctypePublicIdentifierDoubleQuotedState" 1355 (.ref 696), en P "doctypePublicIdentifierSingleQuotedState" 1363 (.ref 703), en P "afterDoctypePublicIdentifierState" 1371 (.ref 710), en P "betweenDoctypePublicAndSystemIdentifiersState" 1379 (.ref 717), en P "afterDoctypeSystemKeywordState" 1387 (.ref 724), en P "beforeDoctypeSystemIdentifierState" 1395 (.ref 731), en P "doctypeSystemIdentifierDoubleQuotedState" 1403 (.ref 738), en P "doctypeSystemIdentifierSingleQuotedState" 1411 (.ref 745), en P "afterDoctypeSystemIdentifierState" 1419 (.ref 752), en P "bogusDoctypeState" 1427 (.ref 759), en P "__static_attributes__" 1436 (.ref 760)].toArray 76), [].toArray⟩]]
noncomputable def o1_2 (P : Params) : List (List Obj) := [
  [⟨.type "tuple", none, (.seq [].toArray 0), [].toArray⟩],
  [⟨.none, none, (.fields [.int 184 0, .int 4 0, .ref 260, .int 193 0, .int 4 0, .ref 267, .int 201 0, .int 4 0, .ref 274, .int 232 0, .int 4 0, .ref 282, .int 283 0, .int 4 0, .ref 289, .int 286 0, .int 4 0, .ref 296, .int 304 0, .int 4 0, .ref 303, .int 322 0, .int 4 0, .ref 310, .int 327 0, .int 4 0, .ref 317, .int 330 0, .int 4 0, .ref 324, .int 333 0, .int 4 0, .ref 331, .int 336 0, .int 4 0, .ref 338, .int 339 0, .int 4 0, .ref 345, .int 342 0, .int 4 0, .ref 352, .int 366 0, .int 4 0, .ref 359, .int 384 0, .int 4 0, .ref 366, .int 402 0, .int 4 0, .ref 373, .int 405 0, .int 4 0, .ref 380, .int 408 0, .int 4 0, .ref 387, .int 411 0, .int 4 0, .ref 394, .int 414 0, .int 4 0, .ref 401, .int 417 0, .int 4 0, .ref 408, .int 420 0, .int 4 0, .ref 415, .int 423 0, .int 4 0, .ref 422, .int 426 0, .int 4 0, .ref 429, .int 429 0, .int 4 0, .ref 436, .int 432 0, .int 4 0, .ref 443, .int 435 0, .int 4 0, .ref 450, .int 438 0, .int 4 0, .ref 457, .int 441 0, .int 4 0, .ref 464, .int 444 0, .int 4 0, .ref 471, .int 447 0, .int 4 0, .ref 478, .int 450 0, .int 4 0, .ref 485, .int 453 0, .int 4 0, .ref 492, .int 456 0, .int 4 0, .ref 499, .int 459 0, .int 4 0, .ref 506, .int 462 0, .int 4 0, .ref 513, .int 465 0, .int 4 0, .ref 520, .int 468 0, .int 4 0, .ref 527, .int 471 0, .int 4 0, .ref 534, .int 498 0, .int 4 0, .ref 541, .int 537 0, .int 4 0, .ref 548, .int 566 0, .int 4 0, .ref 555, .int 596 0, .int 4 0, .ref 562, .int 612 0, .int 4 0, .ref 569, .int 628 0, .int 4 0, .ref 576, .int 649 0, .int 4 0, .ref 583, .int 667 0, .int 4 0, .ref 590, .int 682 0, .int 4 0, .ref 597, .int 690 0, .int 4 0, .ref 604, .int 715 0, .int 4 0, .ref 611, .int 735 0, .int 4 0, .ref 618, .int 755 0, .int 4 0, .ref 625, .int 770 0, .int 4 0, .ref 632, .int 787 0, .int 4 0, .ref 639, .int 812 0, .int 4 0, .ref 646, .int 833 0, .int 4 0, .ref 653, .int 848 0, .int 4 0, .ref 660, .int 871 0, .int 4 0, .ref 667, .int 894 0, .int 4 0, .ref 674, .int 934 0, .int 4 0, .ref 681, .int 952 0, .int 4 0, .ref 688, .int 978 0, .int 4 0, .ref 695, .int 999 0, .int 4 0, .ref 702, .int 1020 0, .int 4 0, .ref 709, .int 1046 0, .int 4 0, .ref 716, .int 1070 0, .int 4 0, .ref 723, .int 1088 0, .int 4 0, .ref 730, .int 1114 0, .int 4 0, .ref 737, .int 1135 0, .int 4 0, .ref 744, .int 1156 0, .int 4 0, .ref 751, .int 1173 0, .int 4 0, .ref 758].toArray), [].toArray⟩],
  [⟨.type "code", none, (.fields [.str "HTMLTokenizer" 846, .str "HTMLTokenizer" 847, .str "/claim/cut.py" 848, .int 182 0, .int 0 0, .int 0 0, .int 0 0, .int 0 0, .ref 250, .bool false, .int 181 0, .ref 251, .none, .none, .none, .none, .int 849 0, .int 182 0, .str "/claim/cut.py" 850].toArray), [].toArray⟩],
  [⟨.type "frame", none, .plain, [(some (.ref 252)), (some (.ref 3)), (some (.ref 249)), none, (some (.str "html5lib._tokenizer" 827)), none, (some (.ref 0))].toArray⟩],
  [x1_254 P],
  pack7 255 856 "html5lib._tokenizer" 827 "HTMLTokenizer.__init__" (.ref 254) (d1 21 0 true),
  pack7 262 865 "html5lib._tokenizer" 827 "HTMLTokenizer.__iter__" (.none) (d1 21 1 true),
  pack7 269 872 "html5lib._tokenizer" 827 "HTMLTokenizer.consumeNumberEntity" (.none) (d1 21 2 true),
  [⟨.type "tuple", none, (.seq [.none, .bool false].toArray 0), [].toArray⟩],
  pack7 277 887 "html5lib._tokenizer" 827 "HTMLTokenizer.consumeEntity" (.ref 276) (d1 21 3 true),
  pack7 284 902 "html5lib._tokenizer" 827 "HTMLTokenizer.processEntityInAttribute" (.none) (d1 21 4 true),
  pack7 291 910 "html5lib._tokenizer" 827 "HTMLTokenizer.emitCurrentToken" (.none) (d1 21 5 true),
  pack7 298 920 "html5lib._tokenizer" 827 "HTMLTokenizer.dataState" (.none) (d1 21 6 true),
  pack7 305 929 "html5lib._tokenizer" 827 "HTMLTokenizer.entityDataState" (.none) (d1 21 7 true),
  pack7 312 936 "html5lib._tokenizer" 827 "HTMLTokenizer.rcdataState" (.none) (d1 21 8 true),
  pack7 319 943 "html5lib._tokenizer" 827 "HTMLTokenizer.characterReferenceInRcdata" (.none) (d1 21 9 true),
  pack7 326 950 "html5lib._tokenizer" 827 "HTMLTokenizer.rawtextState" (.none) (d1 21 10 true),
  pack7 333 957 "html5lib._tokenizer" 827 "HTMLTokenizer.scriptDataState" (.none) (d1 21 11 true),
  pack7 340 964 "html5lib._tokenizer" 827 "HTMLTokenizer.plaintextState" (.none) (d1 21 12 true),
  pack7 347 971 "html5lib._tokenizer" 827 "HTMLTokenizer.tagOpenState" (.none) (d1 21 13 true),
  pack7 354 979 "html5lib._tokenizer" 827 "HTMLTokenizer.closeTagOpenState" (.none) (d1 21 14 true),
  pack7 361 987 "html5lib._tokenizer" 827 "HTMLTokenizer.tagNameState" (.none) (d1 21 15 true),
  pack7 368 995 "html5lib._tokenizer" 827 "HTMLTokenizer.rcdataLessThanSignState" (.none) (d1 21 16 true),
  pack7 375 1002 "html5lib._tokenizer" 827 "HTMLTokenizer.rcdataEndTagOpenState" (.none) (d1 21 17 true),
  pack7 382 1009 "html5lib._tokenizer" 827 "HTMLTokenizer.rcdataEndTagNameState" (.none) (d1 21 18 true),
  pack7 389 1016 "html5lib._tokenizer" 827 "HTMLTokenizer.rawtextLessThanSignState" (.none) (d1 21 19 true),
  pack7 396 1023 "html5lib._tokenizer" 827 "HTMLTokenizer.rawtextEndTagOpenState" (.none) (d1 21 20 true),
  pack7 403 1030 "html5lib._tokenizer" 827 "HTMLTokenizer.rawtextEndTagNameState" (.none) (d1 21 21 true),
  pack7 410 1037 "html5lib._tokenizer" 827 "HTMLTokenizer.scriptDataLessThanSignState" (.none) (d1 21 22 true),
  pack7 417 1044 "html5lib._tokenizer" 827 "HTMLTokenizer.scriptDataEndTagOpenState" (.none) (d1 21 23 true),
  pack7 424 1051 "html5lib._tokenizer" 827 "HTMLTokenizer.scriptDataEndTagNameState" (.none) (d1 21 24 true),
  pack7 431 1058 "html5lib._tokenizer" 827 "HTMLTokenizer.scriptDataEscapeStartState" (.none) (d1 21 25 true),
  pack7 438 1065 "html5lib._tokenizer" 827 "HTMLTokenizer.scriptDataEscapeStartDashState" (.none) (d1 21 26 true),
  pack7 445 1072 "html5lib._tokenizer" 827 "HTMLTokenizer.scriptDataEscapedState" (.none) (d1 21 27 true),
  pack7 452 1079 "html5lib._tokenizer" 827 "HTMLTokenizer.scriptDataEscapedDashState" (.none) (d1 21 28 true),
  pack7 459 1086 "html5lib._tokenizer" 827 "HTMLTokenizer.scriptDataEscapedDashDashState" (.none) (d1 21 29 true),
  pack7 466 1093 "html5lib._tokenizer" 827 "HTMLTokenizer.scriptDataEscapedLessThanSignState" (.none) (d1 21 30 true),
  pack7 473 1100 "html5lib._tokenizer" 827 "HTMLTokenizer.scriptDataEscapedEndTagOpenState" (.none) (d1 21 31 true),
  pack7 480 1107 "html5lib._tokenizer" 827 "HTMLTokenizer.scriptDataEscapedEndTagNameState" (.none) (d1 21 32 true),
  pack7 487 1114 "html5lib._tokenizer" 827 "HTMLTokenizer.scriptDataDoubleEscapeStartState" (.none) (d1 21 33 true),
  pack7 494 1121 "html5lib._tokenizer" 827 "HTMLTokenizer.scriptDataDoubleEscapedState" (.none) (d1 21 34 true),
  pack7 501 1128 "html5lib._tokenizer" 827 "HTMLTokenizer.scriptDataDoubleEscapedDashState" (.none) (d1 21 35 true),
  pack7 508 1135 "html5lib._tokenizer" 827 "HTMLTokenizer.scriptDataDoubleEscapedDashDashState" (.none) (d1 21 36 true),
  pack7 515 1142 "html5lib._tokenizer" 827 "HTMLTokenizer.scriptDataDoubleEscapedLessThanSignState" (.none) (d1 21 37 true),
  pack7 522 1149 "html5lib._tokenizer" 827 "HTMLTokenizer.scriptDataDoubleEscapeEndState" (.none) (d1 21 38 true),
  pack7 529 1156 "html5lib._tokenizer" 827 "HTMLTokenizer.beforeAttributeNameState" (.none) (d1 21 39 true),
  pack7 536 1164 "html5lib._tokenizer" 827 "HTMLTokenizer.attributeNameState" (.none) (d1 21 40 true),
  pack7 543 1176 "html5lib._tokenizer" 827 "HTMLTokenizer.afterAttributeNameState" (.none) (d1 21 41 true),
  pack7 550 1184 "html5lib._tokenizer" 827 "HTMLTokenizer.beforeAttributeValueState" (.none) (d1 21 42 true),
  pack7 557 1192 "html5lib._tokenizer" 827 "HTMLTokenizer.attributeValueDoubleQuotedState" (.none) (d1 21 43 true),
  pack7 564 1200 "html5lib._tokenizer" 827 "HTMLTokenizer.attributeValueSingleQuotedState" (.none) (d1 21 44 true),
  pack7 571 1208 "html5lib._tokenizer" 827 "HTMLTokenizer.attributeValueUnQuotedState" (.none) (d1 21 45 true),
  pack7 578 1216 "html5lib._tokenizer" 827 "HTMLTokenizer.afterAttributeValueState" (.none) (d1 21 46 true),
  pack7 585 1224 "html5lib._tokenizer" 827 "HTMLTokenizer.selfClosingStartTagState" (.none) (d1 21 47 true),
  pack7 592 1232 "html5lib._tokenizer" 827 "HTMLTokenizer.bogusCommentState" (.none) (d1 21 48 true),
  pack7 599 1240 "html5lib._tokenizer" 827 "HTMLTokenizer.markupDeclarationOpenState" (.none) (d1 21 49 true),
  pack7 606 1250 "html5lib._tokenizer" 827 "HTMLTokenizer.commentStartState" (.none) (d1 21 50 true),
  pack7 613 1258 "html5lib._tokenizer" 827 "HTMLTokenizer.commentStartDashState" (.none) (d1 21 51 true),
  pack7 620 1266 "html5lib._tokenizer" 827 "HTMLTokenizer.commentState" (.none) (d1 21 52 true),
  pack7 627 1274 "html5lib._tokenizer" 827 "HTMLTokenizer.commentEndDashState" (.none) (d1 21 53 true)]
noncomputable def o1_3 (P : Params) : List (List Obj) := [
  pack7 634 1282 "html5lib._tokenizer" 827 "HTMLTokenizer.commentEndState" (.none) (d1 21 54 true),
  pack7 641 1290 "html5lib._tokenizer" 827 "HTMLTokenizer.commentEndBangState" (.none) (d1 21 55 true),
  pack7 648 1298 "html5lib._tokenizer" 827 "HTMLTokenizer.doctypeState" (.none) (d1 21 56 true),
  pack7 655 1306 "html5lib._tokenizer" 827 "HTMLTokenizer.beforeDoctypeNameState" (.none) (d1 21 57 true),
  pack7 662 1314 "html5lib._tokenizer" 827 "HTMLTokenizer.doctypeNameState" (.none) (d1 21 58 true),
  pack7 669 1322 "html5lib._tokenizer" 827 "HTMLTokenizer.afterDoctypeNameState" (.none) (d1 21 59 true),
  pack7 676 1332 "html5lib._tokenizer" 827 "HTMLTokenizer.afterDoctypePublicKeywordState" (.none) (d1 21 60 true),
  pack7 683 1340 "html5lib._tokenizer" 827 "HTMLTokenizer.beforeDoctypePublicIdentifierState" (.none) (d1 21 61 true),
  pack7 690 1348 "html5lib._tokenizer" 827 "HTMLTokenizer.doctypePublicIdentifierDoubleQuotedState" (.none) (d1 21 62 true),
  pack7 697 1356 "html5lib._tokenizer" 827 "HTMLTokenizer.doctypePublicIdentifierSingleQuotedState" (.none) (d1 21 63 true),
  pack7 704 1364 "html5lib._tokenizer" 827 "HTMLTokenizer.afterDoctypePublicIdentifierState" (.none) (d1 21 64 true),
  pack7 711 1372 "html5lib._tokenizer" 827 "HTMLTokenizer.betweenDoctypePublicAndSystemIdentifiersState" (.none) (d1 21 65 true),
  pack7 718 1380 "html5lib._tokenizer" 827 "HTMLTokenizer.afterDoctypeSystemKeywordState" (.none) (d1 21 66 true),
  pack7 725 1388 "html5lib._tokenizer" 827 "HTMLTokenizer.beforeDoctypeSystemIdentifierState" (.none) (d1 21 67 true),
  pack7 732 1396 "html5lib._tokenizer" 827 "HTMLTokenizer.doctypeSystemIdentifierDoubleQuotedState" (.none) (d1 21 68 true),
  pack7 739 1404 "html5lib._tokenizer" 827 "HTMLTokenizer.doctypeSystemIdentifierSingleQuotedState" (.none) (d1 21 69 true),
  pack7 746 1412 "html5lib._tokenizer" 827 "HTMLTokenizer.afterDoctypeSystemIdentifierState" (.none) (d1 21 70 true),
  pack7 753 1420 "html5lib._tokenizer" 827 "HTMLTokenizer.bogusDoctypeState" (.none) (d1 21 71 true),
  [⟨.type "tuple", none, (.seq [.str "currentToken" 1428, .str "escape" 1429, .str "escapeFlag" 1430, .str "lastFourChars" 1431, .str "parser" 1432, .str "state" 1433, .str "stream" 1434, .str "tokenQueue" 1435].toArray 0), [].toArray⟩],
  [x1_761 P],
  [x1_762 P],
  [⟨.type "getset_descriptor", none, (.fields [.str "__dict__" 1437, .ref 762, .builtin "function.__dict__", .builtin "function.__dict__#set"].toArray), [].toArray⟩],
  [⟨.type "getset_descriptor", none, (.fields [.str "__weakref__" 1439, .ref 762, .builtin "ExceptionGroup.__weakref__", .none].toArray), [].toArray⟩],
  [⟨.type "super", none, (.fields [.ref 762, .ref 762, .ref 762].toArray), [].toArray⟩],
  [⟨.type "builtin_function_or_method", none, (.fields [.builtin "object.__init_subclass__", .ref 762].toArray), [].toArray⟩],
  pack7 767 1446 "law_im0055_01" 1444 "_law_EDGES" (.none) (d1 23 0 false),
  [x1_774 P],
  [x1_775 P],
  [x1_776 P],
  [x1_777 P],
  pack7 778 1486 "law_im0055_01" 1444 "_law_SIGNS" (.none) (d1 27 0 false),
  pack7 785 1492 "law_im0055_01" 1444 "_law_code" (.none) (d1 28 0 false),
  pack7 792 1500 "law_im0055_01" 1444 "_law_written" (.none) (d1 29 0 false),
  pack7 799 1510 "law_im0055_01" 1444 "_law_sign" (.none) (d1 30 0 false),
  pack7 806 1517 "law_im0055_01" 1444 "_law_place" (.none) (d1 31 0 false),
  pack7 813 1525 "law_im0055_01" 1444 "law" (.none) (d1 32 0 false)]
noncomputable def objs1 (P : Params) : List Obj := flat (o1_0 P) ++ (flat (o1_1 P) ++ (flat (o1_2 P) ++ (flat (o1_3 P))))
noncomputable def t1_0 (P : Params) : BT := bt 12 (cut3 (cut3 ((objs1 P).take 15) 3 ⟨.type "dict", none, (.dict [en P "__name__" 165 (.str "__main__" 164), en P "__doc__" 166 (.none), en P "__package__" 167 (.none), en P "__loader__" 168 (.builtin "__main__.__loader__#opaque"), en P "__spec__" 169 (.none), en P "__annotations__" 170 (.ref 6), en P "__builtins__" 171 (.ref 4), en P "__file__" 173 (.str "/claim/cut.py" 172), en P "__cached__" 174 (.none)].toArray 9), [].toArray⟩) 12 ⟨.none, none, (.fields [].toArray), [].toArray⟩)
noncomputable abbrev env1 : Env := { scope := p1.main.scope, locals := mainNs, globals := mainNs, cells := [], code := .ref 13, frame := some 14 }
noncomputable abbrev c1 : Code := .body (behindTheImports p1) env1
noncomputable abbrev B1 : List Frame := [topFrame ⟨0, 0, 0, 0⟩]
noncomputable abbrev s1_0 (w : World) (os : OsState) : SharedT := ⟨t1_0 w.params, 15, {}, #[], {}, 187, os⟩
-- pre 12 steps, block 0
noncomputable def t1_1 (P : Params) : BT := bt 12 (cut3 (cut3 ((objs1 P).take 50) 3 ⟨.type "dict", none, (.dict [en P "__name__" 165 (.str "html5lib.constants" 194), en P "__doc__" 166 (.none), en P "__package__" 167 (.none), en P "__loader__" 168 (.builtin "__main__.__loader__#opaque"), en P "__spec__" 169 (.none), en P "__annotations__" 170 (.ref 6), en P "__builtins__" 171 (.ref 4), en P "__file__" 173 (.str "/claim/cut.py" 172), en P "__cached__" 174 (.none), en P "_wall" 193 (.ref 21), en P "EOF" 196 (.none), en P "spaceCharacters" 202 (.ref 22), en P "asciiLetters" 256 (.ref 27), en P "digits" 268 (.ref 32), en P "hexDigits" 292 (.ref 37), en P "asciiLower" 298 (.ref 42), en P "entities" 428 (.ref 43), en P "replacementCharacters" 531 (.ref 46), en P "tokenTypes" 556 (.ref 48), en P "tagTokenTypes" 563 (.ref 49)].toArray 20), [].toArray⟩) 12 ⟨.none, none, (.fields [.int 1 0, .int 0 0, .ref 20, .int 10 0, .int 0 0, .ref 41].toArray), [].toArray⟩)
noncomputable abbrev s1_1 (w : World) (os : OsState) : SharedT := ⟨t1_1 w.params, 50, {}, #[], {}, 564, os⟩
noncomputable def l1_1 : List Stmt := (p1.main.body.drop 0).take 12
theorem g1_1false (w : World) : (fun os => segRunT treeTable p1 (w.withFollow "special-get-raises" false) 11 (some (.ref 6)) 1 3037 (s1_0 (w.withFollow "special-get-raises" false) os) (piecesOf l1_1 env1 c1 ⟨0, 0, 0, 0⟩ B1)) = fun os => some (.next, s1_1 (w.withFollow "special-get-raises" false) os, c1, ⟨15, 0, 15, 13⟩) := by
  rw [PySem.W.Fast.te10110043849684766642, PySem.W.Fast.te14364793385576792824]
  kernel_rfl
theorem g1_1true (w : World) : (fun os => segRunT treeTable p1 (w.withFollow "special-get-raises" true) 11 (some (.ref 6)) 1 3037 (s1_0 (w.withFollow "special-get-raises" true) os) (piecesOf l1_1 env1 c1 ⟨0, 0, 0, 0⟩ B1)) = fun os => some (.next, s1_1 (w.withFollow "special-get-raises" true) os, c1, ⟨15, 0, 15, 13⟩) := by
  rw [PySem.W.Fast.te10110043849684766642, PySem.W.Fast.te14364793385576792824]
  kernel_rfl
theorem g1_1 : ∀ w : World, (fun os => segRunT treeTable p1 w 11 (some (.ref 6)) 1 3037 (s1_0 w os) (piecesOf l1_1 env1 c1 ⟨0, 0, 0, 0⟩ B1)) = fun os => some (.next, s1_1 w os, c1, ⟨15, 0, 15, 13⟩) := byRow2 (P := fun w : World => (fun os => segRunT treeTable p1 w 11 (some (.ref 6)) 1 3037 (s1_0 w os) (piecesOf l1_1 env1 c1 ⟨0, 0, 0, 0⟩ B1)) = fun os => some (.next, s1_1 w os, c1, ⟨15, 0, 15, 13⟩)) "special-get-raises" g1_1false g1_1true
noncomputable def t1_2 (P : Params) : BT := bt 12 (cut3 (cut3 ((objs1 P).take 235) 3 ⟨.type "dict", none, (.dict [en P "__name__" 165 (.str "html5lib._tokenizer" 827), en P "__doc__" 166 (.none), en P "__package__" 167 (.none), en P "__loader__" 168 (.builtin "__main__.__loader__#opaque"), en P "__spec__" 169 (.none), en P "__annotations__" 170 (.ref 6), en P "__builtins__" 171 (.ref 4), en P "__file__" 173 (.str "/claim/cut.py" 172), en P "__cached__" 174 (.none), en P "_wall" 193 (.ref 21), en P "EOF" 196 (.none), en P "spaceCharacters" 202 (.ref 22), en P "asciiLetters" 256 (.ref 27), en P "digits" 268 (.ref 32), en P "hexDigits" 292 (.ref 37), en P "asciiLower" 298 (.ref 42), en P "entities" 428 (.ref 43), en P "replacementCharacters" 531 (.ref 46), en P "tokenTypes" 556 (.ref 48), en P "tagTokenTypes" 563 (.ref 49), en P "Text" 604 (.ref 73), en P "_is_invalid" 611 (.ref 84), en P "HTMLUnicodeInputStream" 737 (.ref 166), en P "bisect_left" 751 (.ref 178), en P "Trie" 826 (.ref 230)].toArray 25), [].toArray⟩) 12 ⟨.none, none, (.fields [.int 1 0, .int 0 0, .ref 20, .int 10 0, .int 0 0, .ref 41, .int 17 0, .int 0 0, .ref 55, .int 27 0, .int 0 0, .ref 83, .int 29 0, .int 0 0, .ref 90, .int 134 0, .int 0 0, .ref 177, .int 144 0, .int 0 0, .ref 184].toArray), [].toArray⟩)
noncomputable abbrev s1_2 (w : World) (os : OsState) : SharedT := ⟨t1_2 w.params, 235, {}, #[], {}, 829, os⟩
noncomputable def l1_2 : List Stmt := (p1.main.body.drop 12).take 8
theorem g1_2 (w : World) : (fun os => segRunT treeTable p1 w 11 (some (.ref 6)) 1 1293 (s1_1 w os) (piecesOf l1_2 env1 c1 ⟨15, 0, 15, 13⟩ B1)) = fun os => some (.next, s1_2 w os, c1, ⟨180, 0, 180, 8⟩) := by
  rw [PySem.W.Fast.te10110043849684766642, PySem.W.Fast.te14364793385576792824]
  kernel_rfl
noncomputable def t1_3 (P : Params) : BT := bt 12 (cut3 (cut3 ((objs1 P).take 247) 3 ⟨.type "dict", none, (.dict [en P "__name__" 165 (.str "html5lib._tokenizer" 827), en P "__doc__" 166 (.none), en P "__package__" 167 (.none), en P "__loader__" 168 (.builtin "__main__.__loader__#opaque"), en P "__spec__" 169 (.none), en P "__annotations__" 170 (.ref 6), en P "__builtins__" 171 (.ref 4), en P "__file__" 173 (.str "/claim/cut.py" 172), en P "__cached__" 174 (.none), en P "_wall" 193 (.ref 21), en P "EOF" 196 (.none), en P "spaceCharacters" 202 (.ref 22), en P "asciiLetters" 256 (.ref 27), en P "digits" 268 (.ref 32), en P "hexDigits" 292 (.ref 37), en P "asciiLower" 298 (.ref 42), en P "entities" 428 (.ref 43), en P "replacementCharacters" 531 (.ref 46), en P "tokenTypes" 556 (.ref 48), en P "tagTokenTypes" 563 (.ref 49), en P "Text" 604 (.ref 73), en P "_is_invalid" 611 (.ref 84), en P "HTMLUnicodeInputStream" 737 (.ref 166), en P "bisect_left" 751 (.ref 178), en P "Trie" 826 (.ref 230), en P "entitiesTrie" 843 (.ref 236)].toArray 26), [].toArray⟩) 12 ⟨.none, none, (.fields [.int 1 0, .int 0 0, .ref 20, .int 10 0, .int 0 0, .ref 41, .int 17 0, .int 0 0, .ref 55, .int 27 0, .int 0 0, .ref 83, .int 29 0, .int 0 0, .ref 90, .int 134 0, .int 0 0, .ref 177, .int 144 0, .int 0 0, .ref 184].toArray), [].toArray⟩)
noncomputable abbrev s1_3 (w : World) (os : OsState) : SharedT := ⟨t1_3 w.params, 247, {}, #[], {}, 844, os⟩
noncomputable def l1_3 : List Stmt := (p1.main.body.drop 20).take 1
theorem g1_3false (w : World) : (fun os => segRunT treeTable p1 (w.withFollow "special-get-raises" false) 11 (some (.ref 6)) 1 1239 (s1_2 (w.withFollow "special-get-raises" false) os) (piecesOf l1_3 env1 c1 ⟨180, 0, 180, 8⟩ B1)) = fun os => some (.next, s1_3 (w.withFollow "special-get-raises" false) os, c1, ⟨181, 0, 181, 12⟩) := by
  rw [PySem.W.Fast.te10110043849684766642, PySem.W.Fast.te14364793385576792824]
  kernel_rfl
theorem g1_3true (w : World) : (fun os => segRunT treeTable p1 (w.withFollow "special-get-raises" true) 11 (some (.ref 6)) 1 1239 (s1_2 (w.withFollow "special-get-raises" true) os) (piecesOf l1_3 env1 c1 ⟨180, 0, 180, 8⟩ B1)) = fun os => some (.next, s1_3 (w.withFollow "special-get-raises" true) os, c1, ⟨181, 0, 181, 12⟩) := by
  rw [PySem.W.Fast.te10110043849684766642, PySem.W.Fast.te14364793385576792824]
  kernel_rfl
theorem g1_3 : ∀ w : World, (fun os => segRunT treeTable p1 w 11 (some (.ref 6)) 1 1239 (s1_2 w os) (piecesOf l1_3 env1 c1 ⟨180, 0, 180, 8⟩ B1)) = fun os => some (.next, s1_3 w os, c1, ⟨181, 0, 181, 12⟩) := byRow2 (P := fun w : World => (fun os => segRunT treeTable p1 w 11 (some (.ref 6)) 1 1239 (s1_2 w os) (piecesOf l1_3 env1 c1 ⟨180, 0, 180, 8⟩ B1)) = fun os => some (.next, s1_3 w os, c1, ⟨181, 0, 181, 12⟩)) "special-get-raises" g1_3false g1_3true
noncomputable def t1_4 (P : Params) : BT := bt 12 (cut3 (cut3 ((objs1 P).take 775) 3 ⟨.type "dict", none, (.dict [en P "__name__" 165 (.str "law_im0055_01" 1444), en P "__doc__" 166 (.none), en P "__package__" 167 (.none), en P "__loader__" 168 (.builtin "__main__.__loader__#opaque"), en P "__spec__" 169 (.none), en P "__annotations__" 170 (.ref 6), en P "__builtins__" 171 (.ref 4), en P "__file__" 173 (.str "/claim/cut.py" 172), en P "__cached__" 174 (.none), en P "_wall" 193 (.ref 21), en P "EOF" 196 (.none), en P "spaceCharacters" 202 (.ref 22), en P "asciiLetters" 256 (.ref 27), en P "digits" 268 (.ref 32), en P "hexDigits" 292 (.ref 37), en P "asciiLower" 298 (.ref 42), en P "entities" 428 (.ref 43), en P "replacementCharacters" 531 (.ref 46), en P "tokenTypes" 556 (.ref 48), en P "tagTokenTypes" 563 (.ref 49), en P "Text" 604 (.ref 73), en P "_is_invalid" 611 (.ref 84), en P "HTMLUnicodeInputStream" 737 (.ref 166), en P "bisect_left" 751 (.ref 178), en P "Trie" 826 (.ref 230), en P "entitiesTrie" 843 (.ref 236), en P "HTMLTokenizer" 1443 (.ref 762), en P "_law_EDGES" 1451 (.ref 773), en P "_law_OLD" 1453 (.str "€‚ƒ„…†‡ˆ‰Š‹ŒŽ‘’“”•–—˜™š›œžŸ" 1452), en P "_law_BEHIND" 1474 (.ref 774)].toArray 30), [].toArray⟩) 12 ⟨.none, none, (.fields [.int 1 0, .int 0 0, .ref 20, .int 10 0, .int 0 0, .ref 41, .int 17 0, .int 0 0, .ref 55, .int 27 0, .int 0 0, .ref 83, .int 29 0, .int 0 0, .ref 90, .int 134 0, .int 0 0, .ref 177, .int 144 0, .int 0 0, .ref 184, .int 182 0, .int 0 0, .ref 252, .int 1186 0, .int 0 0, .ref 772].toArray), [].toArray⟩)
noncomputable abbrev s1_4 (w : World) (os : OsState) : SharedT := ⟨t1_4 w.params, 775, {}, #[], {}, 1475, os⟩
noncomputable def l1_4 : List Stmt := (p1.main.body.drop 21).take 5
theorem g1_4 (w : World) : (fun os => segRunT treeTable p1 w 11 (some (.ref 6)) 1 2580 (s1_3 w os) (piecesOf l1_4 env1 c1 ⟨181, 0, 181, 12⟩ B1)) = fun os => some (.next, s1_4 w os, c1, ⟨1189, 0, 1189, 11⟩) := by
  rw [PySem.W.Fast.te10110043849684766642, PySem.W.Fast.te14364793385576792824]
  kernel_rfl
noncomputable def t1_5 (P : Params) : BT := bt 12 (cut3 (cut3 ((objs1 P).take 778) 3 ⟨.type "dict", none, (.dict [en P "__name__" 165 (.str "law_im0055_01" 1444), en P "__doc__" 166 (.none), en P "__package__" 167 (.none), en P "__loader__" 168 (.builtin "__main__.__loader__#opaque"), en P "__spec__" 169 (.none), en P "__annotations__" 170 (.ref 6), en P "__builtins__" 171 (.ref 4), en P "__file__" 173 (.str "/claim/cut.py" 172), en P "__cached__" 174 (.none), en P "_wall" 193 (.ref 21), en P "EOF" 196 (.none), en P "spaceCharacters" 202 (.ref 22), en P "asciiLetters" 256 (.ref 27), en P "digits" 268 (.ref 32), en P "hexDigits" 292 (.ref 37), en P "asciiLower" 298 (.ref 42), en P "entities" 428 (.ref 43), en P "replacementCharacters" 531 (.ref 46), en P "tokenTypes" 556 (.ref 48), en P "tagTokenTypes" 563 (.ref 49), en P "Text" 604 (.ref 73), en P "_is_invalid" 611 (.ref 84), en P "HTMLUnicodeInputStream" 737 (.ref 166), en P "bisect_left" 751 (.ref 178), en P "Trie" 826 (.ref 230), en P "entitiesTrie" 843 (.ref 236), en P "HTMLTokenizer" 1443 (.ref 762), en P "_law_EDGES" 1451 (.ref 773), en P "_law_OLD" 1453 (.str "€‚ƒ„…†‡ˆ‰Š‹ŒŽ‘’“”•–—˜™š›œžŸ" 1452), en P "_law_BEHIND" 1474 (.ref 774), en P "_law_MORE" 1485 (.ref 775)].toArray 31), [].toArray⟩) 12 ⟨.none, none, (.fields [.int 1 0, .int 0 0, .ref 20, .int 10 0, .int 0 0, .ref 41, .int 17 0, .int 0 0, .ref 55, .int 27 0, .int 0 0, .ref 83, .int 29 0, .int 0 0, .ref 90, .int 134 0, .int 0 0, .ref 177, .int 144 0, .int 0 0, .ref 184, .int 182 0, .int 0 0, .ref 252, .int 1186 0, .int 0 0, .ref 772].toArray), [].toArray⟩)
noncomputable abbrev s1_5 (w : World) (os : OsState) : SharedT := ⟨t1_5 w.params, 778, {}, #[], {}, 1486, os⟩
noncomputable def l1_5 : List Stmt := (p1.main.body.drop 26).take 1
theorem g1_5false (w : World) : (fun os => segRunT treeTable p1 (w.withFollow "special-get-raises" false) 11 (some (.ref 6)) 1 45 (s1_4 (w.withFollow "special-get-raises" false) os) (piecesOf l1_5 env1 c1 ⟨1189, 0, 1189, 11⟩ B1)) = fun os => some (.next, s1_5 (w.withFollow "special-get-raises" false) os, c1, ⟨1190, 0, 1190, 9⟩) := by
  rw [PySem.W.Fast.te10110043849684766642, PySem.W.Fast.te14364793385576792824]
  kernel_rfl
theorem g1_5true (w : World) : (fun os => segRunT treeTable p1 (w.withFollow "special-get-raises" true) 11 (some (.ref 6)) 1 45 (s1_4 (w.withFollow "special-get-raises" true) os) (piecesOf l1_5 env1 c1 ⟨1189, 0, 1189, 11⟩ B1)) = fun os => some (.next, s1_5 (w.withFollow "special-get-raises" true) os, c1, ⟨1190, 0, 1190, 9⟩) := by
  rw [PySem.W.Fast.te10110043849684766642, PySem.W.Fast.te14364793385576792824]
  kernel_rfl
theorem g1_5 : ∀ w : World, (fun os => segRunT treeTable p1 w 11 (some (.ref 6)) 1 45 (s1_4 w os) (piecesOf l1_5 env1 c1 ⟨1189, 0, 1189, 11⟩ B1)) = fun os => some (.next, s1_5 w os, c1, ⟨1190, 0, 1190, 9⟩) := byRow2 (P := fun w : World => (fun os => segRunT treeTable p1 w 11 (some (.ref 6)) 1 45 (s1_4 w os) (piecesOf l1_5 env1 c1 ⟨1189, 0, 1189, 11⟩ B1)) = fun os => some (.next, s1_5 w os, c1, ⟨1190, 0, 1190, 9⟩)) "special-get-raises" g1_5false g1_5true
noncomputable def t1_6 (P : Params) : BT := bt 12 (cut3 (cut3 ((objs1 P).take 820) 3 ⟨.type "dict", none, (.dict [en P "__name__" 165 (.str "law_im0055_01" 1444), en P "__doc__" 166 (.none), en P "__package__" 167 (.none), en P "__loader__" 168 (.builtin "__main__.__loader__#opaque"), en P "__spec__" 169 (.none), en P "__annotations__" 170 (.ref 6), en P "__builtins__" 171 (.ref 4), en P "__file__" 173 (.str "/claim/cut.py" 172), en P "__cached__" 174 (.none), en P "_wall" 193 (.ref 21), en P "EOF" 196 (.none), en P "spaceCharacters" 202 (.ref 22), en P "asciiLetters" 256 (.ref 27), en P "digits" 268 (.ref 32), en P "hexDigits" 292 (.ref 37), en P "asciiLower" 298 (.ref 42), en P "entities" 428 (.ref 43), en P "replacementCharacters" 531 (.ref 46), en P "tokenTypes" 556 (.ref 48), en P "tagTokenTypes" 563 (.ref 49), en P "Text" 604 (.ref 73), en P "_is_invalid" 611 (.ref 84), en P "HTMLUnicodeInputStream" 737 (.ref 166), en P "bisect_left" 751 (.ref 178), en P "Trie" 826 (.ref 230), en P "entitiesTrie" 843 (.ref 236), en P "HTMLTokenizer" 1443 (.ref 762), en P "_law_EDGES" 1451 (.ref 773), en P "_law_OLD" 1453 (.str "€‚ƒ„…†‡ˆ‰Š‹ŒŽ‘’“”•–—˜™š›œžŸ" 1452), en P "_law_BEHIND" 1474 (.ref 774), en P "_law_MORE" 1485 (.ref 775), en P "_law_SIGNS" 1491 (.ref 784), en P "_law_code" 1499 (.ref 791), en P "_law_written" 1509 (.ref 798), en P "_law_sign" 1516 (.ref 805), en P "_law_place" 1524 (.ref 812), en P "law" 1547 (.ref 819)].toArray 37), [].toArray⟩) 12 ⟨.none, none, (.fields [.int 1 0, .int 0 0, .ref 20, .int 10 0, .int 0 0, .ref 41, .int 17 0, .int 0 0, .ref 55, .int 27 0, .int 0 0, .ref 83, .int 29 0, .int 0 0, .ref 90, .int 134 0, .int 0 0, .ref 177, .int 144 0, .int 0 0, .ref 184, .int 182 0, .int 0 0, .ref 252, .int 1186 0, .int 0 0, .ref 772, .int 1191 0, .int 0 0, .ref 783, .int 1193 0, .int 0 0, .ref 790, .int 1204 0, .int 0 0, .ref 797, .int 1211 0, .int 0 0, .ref 804, .int 1219 0, .int 0 0, .ref 811, .int 1222 0, .int 0 0, .ref 818].toArray), [].toArray⟩)
noncomputable abbrev s1_6 (w : World) (os : OsState) : SharedT := ⟨t1_6 w.params, 820, {}, #[], {}, 1548, os⟩
noncomputable def l1_6 : List Stmt := (p1.main.body.drop 27).take 6
theorem g1_6 (w : World) : (fun os => segRunT treeTable p1 w 11 (some (.ref 6)) 1 195 (s1_5 w os) (piecesOf l1_6 env1 c1 ⟨1190, 0, 1190, 9⟩ B1)) = fun os => some (.next, s1_6 w os, c1, ⟨1222, 0, 1259, 70⟩) := by
  rw [PySem.W.Fast.te10110043849684766642, PySem.W.Fast.te14364793385576792824]
  kernel_rfl
-- ends at ⟨1222, 0, 1259, 70⟩; fin 1; lens #[3037, 1293, 1239, 2580, 45, 195]

theorem pre1 (w : World) : (fun os => topGo treeTable p1 w 11 (some (.ref 6)) 12 ⟨boot_heap w.params, #[], boot_drawn, boot_toks, os⟩ (topStub p1)) = fun os => some ((s1_0 w os).abs, ⟨denote treeTable c1, c1, ⟨0, 0, 0, 0⟩, B1⟩) := by
  rw [PySem.W.Fast.te15667345088766844465, PySem.W.Fast.te14364793385576792824, PySem.W.Fast.te11892475500146522536]
  kernel_rfl
theorem blk1 (w : World) : (fun os => segRun treeTable p1 w 11 (some (.ref 6)) 1 1 (s1_0 w os).abs (blockOf (behindTheImports p1) env1 c1 ⟨0, 0, 0, 0⟩ B1)) = fun os => some (.next, (s1_0 w os).abs, c1, ⟨0, 0, 0, 0⟩) := by
  rw [PySem.W.Fast.te14374325043358763698, PySem.W.Fast.te14364793385576792824]
  kernel_rfl
noncomputable abbrev fin1 (P : Params) : Heap := absHeap (t1_6 P) 820 {}
noncomputable abbrev sf1 (w : World) (os : OsState) : Shared := ⟨fin1 w.params, #[], {}, 1548, os⟩
theorem end1 (w : World) : (fun os => topRun treeTable p1 w 11 (some (.ref 6)) 2 (s1_6 w os).abs ⟨doneF .next, c1, ⟨1222, 0, 1259, 70⟩, B1⟩) = fun os => some (sf1 w os) := by
  rw [PySem.W.Fast.te14082659384304107361, PySem.W.Fast.te14364793385576792824]
  kernel_rfl
theorem body1 : behindTheImports p1 = (l1_1 ++ (l1_2 ++ (l1_3 ++ (l1_4 ++ (l1_5 ++ (l1_6 ++ [])))))) := by kernel_rfl
theorem k1_6 (w : World) (os : OsState) : topRun treeTable p1 w 11 (some (.ref 6)) (195 + 2) (s1_5 w os).abs (restOf (l1_6 ++ []) env1 c1 ⟨1190, 0, 1190, 9⟩ B1) = some (sf1 w os) :=
  piece_app (segRun_of (congrFun (g1_6 w) os)) (piece_nil (congrFun (end1 w) os))
theorem k1_5 (w : World) (os : OsState) : topRun treeTable p1 w 11 (some (.ref 6)) (45 + (195 + 2)) (s1_4 w os).abs (restOf (l1_5 ++ (l1_6 ++ [])) env1 c1 ⟨1189, 0, 1189, 11⟩ B1) = some (sf1 w os) :=
  piece_app (segRun_of (congrFun (g1_5 w) os)) (k1_6 w os)
theorem k1_4 (w : World) (os : OsState) : topRun treeTable p1 w 11 (some (.ref 6)) (2580 + (45 + (195 + 2))) (s1_3 w os).abs (restOf (l1_4 ++ (l1_5 ++ (l1_6 ++ []))) env1 c1 ⟨181, 0, 181, 12⟩ B1) = some (sf1 w os) :=
  piece_app (segRun_of (congrFun (g1_4 w) os)) (k1_5 w os)
theorem k1_3 (w : World) (os : OsState) : topRun treeTable p1 w 11 (some (.ref 6)) (1239 + (2580 + (45 + (195 + 2)))) (s1_2 w os).abs (restOf (l1_3 ++ (l1_4 ++ (l1_5 ++ (l1_6 ++ [])))) env1 c1 ⟨180, 0, 180, 8⟩ B1) = some (sf1 w os) :=
  piece_app (segRun_of (congrFun (g1_3 w) os)) (k1_4 w os)
theorem k1_2 (w : World) (os : OsState) : topRun treeTable p1 w 11 (some (.ref 6)) (1293 + (1239 + (2580 + (45 + (195 + 2))))) (s1_1 w os).abs (restOf (l1_2 ++ (l1_3 ++ (l1_4 ++ (l1_5 ++ (l1_6 ++ []))))) env1 c1 ⟨15, 0, 15, 13⟩ B1) = some (sf1 w os) :=
  piece_app (segRun_of (congrFun (g1_2 w) os)) (k1_3 w os)
theorem k1_1 (w : World) (os : OsState) : topRun treeTable p1 w 11 (some (.ref 6)) (3037 + (1293 + (1239 + (2580 + (45 + (195 + 2)))))) (s1_0 w os).abs (restOf (l1_1 ++ (l1_2 ++ (l1_3 ++ (l1_4 ++ (l1_5 ++ (l1_6 ++ [])))))) env1 c1 ⟨0, 0, 0, 0⟩ B1) = some (sf1 w os) :=
  piece_app (segRun_of (congrFun (g1_1 w) os)) (k1_2 w os)
theorem k1_0 (w : World) (os : OsState) : topRun treeTable p1 w 11 (some (.ref 6)) (3037 + (1293 + (1239 + (2580 + (45 + (195 + 2)))))) (s1_0 w os).abs (restOf (behindTheImports p1) env1 c1 ⟨0, 0, 0, 0⟩ B1) = some (sf1 w os) := by
  have h := k1_1 w os
  rw [← body1] at h
  exact h
theorem run1 (w : World) (os : OsState) : topRun treeTable p1 w 11 (some (.ref 6)) (12 + (1 + (3037 + (1293 + (1239 + (2580 + (45 + (195 + 2)))))))) ⟨boot_heap w.params, #[], boot_drawn, boot_toks, os⟩ (topStub p1) = some (sf1 w os) :=
  go_top (congrFun (pre1 w) os) (piece_block (congrFun (blk1 w) os) (k1_0 w os))
end
section
open PySem PySem.W PyProof.Rows
noncomputable def f1_63 : Obj := mkFun 62 "html5lib._inputstream" 564 "Text.__init__" (.none) "__init__" (st := d1 13 0 true) (by conv => lhs; whnf) (by conv => lhs; whnf) (by conv => lhs; whnf)
noncomputable def f1_70 : Obj := mkFun 69 "html5lib._inputstream" 564 "Text.read" (.none) "read" (st := d1 13 1 true) (by conv => lhs; whnf) (by conv => lhs; whnf) (by conv => lhs; whnf)
noncomputable def f1_84 : Obj := mkFun 83 "html5lib._inputstream" 564 "_is_invalid" (.none) "_is_invalid" (st := d1 14 0 false) (by conv => lhs; whnf) (by conv => lhs; whnf) (by conv => lhs; whnf)
noncomputable def f1_98 : Obj := mkFun 97 "html5lib._inputstream" 564 "HTMLUnicodeInputStream.__init__" (.none) "__init__" (st := d1 15 1 true) (by conv => lhs; whnf) (by conv => lhs; whnf) (by conv => lhs; whnf)
noncomputable def f1_105 : Obj := mkFun 104 "html5lib._inputstream" 564 "HTMLUnicodeInputStream.reset" (.none) "reset" (st := d1 15 2 true) (by conv => lhs; whnf) (by conv => lhs; whnf) (by conv => lhs; whnf)
noncomputable def f1_112 : Obj := mkFun 111 "html5lib._inputstream" 564 "HTMLUnicodeInputStream.openStream" (.none) "openStream" (st := d1 15 3 true) (by conv => lhs; whnf) (by conv => lhs; whnf) (by conv => lhs; whnf)
noncomputable def f1_119 : Obj := mkFun 118 "html5lib._inputstream" 564 "HTMLUnicodeInputStream._position" (.none) "_position" (st := d1 15 4 true) (by conv => lhs; whnf) (by conv => lhs; whnf) (by conv => lhs; whnf)
noncomputable def f1_126 : Obj := mkFun 125 "html5lib._inputstream" 564 "HTMLUnicodeInputStream.position" (.none) "position" (st := d1 15 5 true) (by conv => lhs; whnf) (by conv => lhs; whnf) (by conv => lhs; whnf)
noncomputable def f1_133 : Obj := mkFun 132 "html5lib._inputstream" 564 "HTMLUnicodeInputStream.char" (.none) "char" (st := d1 15 6 true) (by conv => lhs; whnf) (by conv => lhs; whnf) (by conv => lhs; whnf)
noncomputable def f1_141 : Obj := mkFun 140 "html5lib._inputstream" 564 "HTMLUnicodeInputStream.readChunk" (.ref 134) "readChunk" (st := d1 15 7 true) (by conv => lhs; whnf) (by conv => lhs; whnf) (by conv => lhs; whnf)
noncomputable def f1_148 : Obj := mkFun 147 "html5lib._inputstream" 564 "HTMLUnicodeInputStream.characterErrorsUCS4" (.none) "characterErrorsUCS4" (st := d1 15 8 true) (by conv => lhs; whnf) (by conv => lhs; whnf) (by conv => lhs; whnf)
noncomputable def f1_163 : Obj := mkFun 162 "html5lib._inputstream" 564 "HTMLUnicodeInputStream.unget" (.none) "unget" (st := d1 15 10 true) (by conv => lhs; whnf) (by conv => lhs; whnf) (by conv => lhs; whnf)
noncomputable def f1_261 : Obj := mkFun 260 "html5lib._tokenizer" 827 "HTMLTokenizer.__init__" (.ref 254) "__init__" (st := d1 21 0 true) (by conv => lhs; whnf) (by conv => lhs; whnf) (by conv => lhs; whnf)
noncomputable def f1_275 : Obj := mkFun 274 "html5lib._tokenizer" 827 "HTMLTokenizer.consumeNumberEntity" (.none) "consumeNumberEntity" (st := d1 21 2 true) (by conv => lhs; whnf) (by conv => lhs; whnf) (by conv => lhs; whnf)
noncomputable def f1_304 : Obj := mkFun 303 "html5lib._tokenizer" 827 "HTMLTokenizer.dataState" (.none) "dataState" (st := d1 21 6 true) (by conv => lhs; whnf) (by conv => lhs; whnf) (by conv => lhs; whnf)
noncomputable def f1_773 : Obj := mkFun 772 "law_im0055_01" 1444 "_law_EDGES" (.none) "_law_EDGES" (st := d1 23 0 false) (by conv => lhs; whnf) (by conv => lhs; whnf) (by conv => lhs; whnf)
noncomputable def f1_784 : Obj := mkFun 783 "law_im0055_01" 1444 "_law_SIGNS" (.none) "_law_SIGNS" (st := d1 27 0 false) (by conv => lhs; whnf) (by conv => lhs; whnf) (by conv => lhs; whnf)
noncomputable def f1_791 : Obj := mkFun 790 "law_im0055_01" 1444 "_law_code" (.none) "_law_code" (st := d1 28 0 false) (by conv => lhs; whnf) (by conv => lhs; whnf) (by conv => lhs; whnf)
noncomputable def f1_798 : Obj := mkFun 797 "law_im0055_01" 1444 "_law_written" (.none) "_law_written" (st := d1 29 0 false) (by conv => lhs; whnf) (by conv => lhs; whnf) (by conv => lhs; whnf)
noncomputable def f1_805 : Obj := mkFun 804 "law_im0055_01" 1444 "_law_sign" (.none) "_law_sign" (st := d1 30 0 false) (by conv => lhs; whnf) (by conv => lhs; whnf) (by conv => lhs; whnf)
noncomputable def f1_812 : Obj := mkFun 811 "law_im0055_01" 1444 "_law_place" (.none) "_law_place" (st := d1 31 0 false) (by conv => lhs; whnf) (by conv => lhs; whnf) (by conv => lhs; whnf)
noncomputable def f1_819 : Obj := mkFun 818 "law_im0055_01" 1444 "law" (.none) "law" (st := d1 32 0 false) (by conv => lhs; whnf) (by conv => lhs; whnf) (by conv => lhs; whnf)
noncomputable def K1 (P : Params) : Frag :=
  (nat_lit 2, x1_2 P) ::
  (nat_lit 3, x1_3 P) ::
  (nat_lit 32, x1_32 P) ::
  (nat_lit 37, x1_37 P) ::
  (nat_lit 46, x1_46 P) ::
  (nat_lit 48, x1_48 P) ::
  (nat_lit 62, codeF 57 58 (.ref 59) (.ref 60) (.ref 61) "Text.__init__" 578 583 (d1 13 0 true)) ::
  (nat_lit 63, f1_63) ::
  (nat_lit 69, codeF 64 65 (.ref 66) (.ref 67) (.ref 68) "Text.read" 586 592 (d1 13 1 true)) ::
  (nat_lit 70, f1_70) ::
  (nat_lit 72, x1_72 P) ::
  (nat_lit 73, x1_73 P) ::
  (nat_lit 83, codeF 78 79 (.ref 80) (.ref 81) (.ref 82) "_is_invalid" 605 609 (d1 14 0 false)) ::
  (nat_lit 84, f1_84) ::
  (nat_lit 97, codeF 92 93 (.ref 94) (.ref 95) (.ref 96) "HTMLUnicodeInputStream.__init__" 626 631 (d1 15 1 true)) ::
  (nat_lit 98, f1_98) ::
  (nat_lit 104, codeF 99 100 (.ref 101) (.ref 102) (.ref 103) "HTMLUnicodeInputStream.reset" 634 638 (d1 15 2 true)) ::
  (nat_lit 105, f1_105) ::
  (nat_lit 111, codeF 106 107 (.ref 108) (.ref 109) (.ref 110) "HTMLUnicodeInputStream.openStream" 641 647 (d1 15 3 true)) ::
  (nat_lit 112, f1_112) ::
  (nat_lit 118, codeF 113 114 (.ref 115) (.ref 116) (.ref 117) "HTMLUnicodeInputStream._position" 650 660 (d1 15 4 true)) ::
  (nat_lit 119, f1_119) ::
  (nat_lit 125, codeF 120 121 (.ref 122) (.ref 123) (.ref 124) "HTMLUnicodeInputStream.position" 663 669 (d1 15 5 true)) ::
  (nat_lit 126, f1_126) ::
  (nat_lit 132, codeF 127 128 (.ref 129) (.ref 130) (.ref 131) "HTMLUnicodeInputStream.char" 672 678 (d1 15 6 true)) ::
  (nat_lit 133, f1_133) ::
  (nat_lit 134, x1_134 P) ::
  (nat_lit 140, codeF 135 136 (.ref 137) (.ref 138) (.ref 139) "HTMLUnicodeInputStream.readChunk" 681 688 (d1 15 7 true)) ::
  (nat_lit 141, f1_141) ::
  (nat_lit 147, codeF 142 143 (.ref 144) (.ref 145) (.ref 146) "HTMLUnicodeInputStream.characterErrorsUCS4" 691 697 (d1 15 8 true)) ::
  (nat_lit 148, f1_148) ::
  (nat_lit 162, codeF 157 158 (.ref 159) (.ref 160) (.ref 161) "HTMLUnicodeInputStream.unget" 712 717 (d1 15 10 true)) ::
  (nat_lit 163, f1_163) ::
  (nat_lit 165, x1_165 P) ::
  (nat_lit 166, x1_166 P) ::
  (nat_lit 254, x1_254 P) ::
  (nat_lit 260, codeF 255 256 (.ref 257) (.ref 258) (.ref 259) "HTMLTokenizer.__init__" 856 862 (d1 21 0 true)) ::
  (nat_lit 261, f1_261) ::
  (nat_lit 274, codeF 269 270 (.ref 271) (.ref 272) (.ref 273) "HTMLTokenizer.consumeNumberEntity" 872 884 (d1 21 2 true)) ::
  (nat_lit 275, f1_275) ::
  (nat_lit 303, codeF 298 299 (.ref 300) (.ref 301) (.ref 302) "HTMLTokenizer.dataState" 920 926 (d1 21 6 true)) ::
  (nat_lit 304, f1_304) ::
  (nat_lit 761, x1_761 P) ::
  (nat_lit 762, x1_762 P) ::
  (nat_lit 772, codeF 767 768 (.ref 769) (.ref 770) (.ref 771) "_law_EDGES" 1446 1449 (d1 23 0 false)) ::
  (nat_lit 773, f1_773) ::
  (nat_lit 774, x1_774 P) ::
  (nat_lit 775, x1_775 P) ::
  (nat_lit 776, x1_776 P) ::
  (nat_lit 777, x1_777 P) ::
  (nat_lit 783, codeF 778 779 (.ref 780) (.ref 781) (.ref 782) "_law_SIGNS" 1486 1489 (d1 27 0 false)) ::
  (nat_lit 784, f1_784) ::
  (nat_lit 790, codeF 785 786 (.ref 787) (.ref 788) (.ref 789) "_law_code" 1492 1497 (d1 28 0 false)) ::
  (nat_lit 791, f1_791) ::
  (nat_lit 797, codeF 792 793 (.ref 794) (.ref 795) (.ref 796) "_law_written" 1500 1507 (d1 29 0 false)) ::
  (nat_lit 798, f1_798) ::
  (nat_lit 804, codeF 799 800 (.ref 801) (.ref 802) (.ref 803) "_law_sign" 1510 1514 (d1 30 0 false)) ::
  (nat_lit 805, f1_805) ::
  (nat_lit 811, codeF 806 807 (.ref 808) (.ref 809) (.ref 810) "_law_place" 1517 1522 (d1 31 0 false)) ::
  (nat_lit 812, f1_812) ::
  (nat_lit 818, codeF 813 814 (.ref 815) (.ref 816) (.ref 817) "law" 1525 1545 (d1 32 0 false)) ::
  (nat_lit 819, f1_819) :: []
noncomputable def as1 : List Addr := [2, 3, 32, 37, 46, 48, 62, 63, 69, 70, 72, 73, 83, 84, 97, 98, 104, 105, 111, 112, 118, 119, 125, 126, 132, 133, 134, 140, 141, 147, 148, 162, 163, 165, 166, 254, 260, 261, 274, 275, 303, 304, 761, 762, 772, 773, 774, 775, 776, 777, 783, 784, 790, 791, 797, 798, 804, 805, 811, 812, 818, 819]

noncomputable def lw1 : Stmt := d1 32 0 false
noncomputable def q1 : Program := { p1 with main := { p1.main with body := [lw1] } }
noncomputable def loose1 : List Str := ["_wall", "EOF", "spaceCharacters", "asciiLetters", "digits", "hexDigits", "asciiLower", "entities", "replacementCharacters", "tokenTypes", "tagTokenTypes", "Text", "_is_invalid", "HTMLUnicodeInputStream", "bisect_left", "Trie", "entitiesTrie", "HTMLTokenizer", "_law_EDGES", "_law_OLD", "_law_BEHIND", "_law_MORE", "_law_SIGNS", "_law_code", "_law_written", "_law_sign", "_law_place"]
noncomputable def Xt1 : Shared → Bool := fun s => xlAt q1 [] s && recOk r1.row.toRowW.records s
theorem keys1 (P : Params) : as1 = (K1 P).map (·.1) := by kernel_rfl
noncomputable abbrev H1 : Hook := kHook K1 as1 keys1
theorem look1_a (w : World) (os : OsState) : (staticsOk (importedModules p1.main.body) (boot_heap w.params) (fin1 w.params) && namesBound p1 (fin1 w.params) && gensDone (sf1 w os) && laidKept (boot_heap w.params) (fin1 w.params)) = true := by kernel_rfl
theorem look1_b (w : World) (os : OsState) : openSeen q1 loose1 (importedModules p1.main.body) Xt1 true (sf1 w os) = openGood q1 loose1 := by
  rw [PySem.W.Fast.te4187177175401517315]
  kernel_rfl
theorem look1_c (w : World) (os : OsState) : as1.map (sf1 w os).heap.get? = (K1 w.params).map fun p => some p.2 := by kernel_rfl
end
section
open PySem PySem.W PyProof.Rows
theorem opn1 : opening p1 = plainProg p1.main.scope.names := by kernel_rfl
theorem fnc1 (s : Shared) : fenceModules? p1 s = some s := by kernel_rfl
theorem siz1 (w : World) : ((boot_heap w.params).isNs mainGlobals && (#[] : Array GenState).size == 0, (boot_heap w.params).objs.size, (boot_heap w.params).nsMap mainGlobals "__annotations__") = (true, 11, some (.ref 6)) := by
  rw [PySem.W.Fast.te8920871248978507458]
  kernel_rfl
theorem left1 : LeftO p1 q1 loose1 Xt1 H1.obs H1.val 20000 :=
  LeftO.of_pieces (boot_open opn1 (by decide) fnc1) siz1 run1 (by decide +kernel) fun w => funext fun os => Prod.ext (look1_a w os) (Prod.ext (look1_b w os) (look1_c w os))
noncomputable def dr1 : DefRec := ⟨"law", fArgs lw1, fBody lw1, fScope lw1, match lw1 with | .FunctionDef _ _ _ _ _ _ _ _ _ p => p | _ => ⟨0, 0, 0, 0⟩⟩
theorem dof1 : defOf q1 "law" = some (dr1, []) := by kernel_rfl
theorem thd1 : r1.row.prog.theDef "law" = some (dr1.params, dr1.body, dr1.scope) := by kernel_rfl
theorem oks1 : (chainsOk q1 && opensWell r1.row.prog && (frees r1.row.toRowW && r1.row.within.isEmpty)) = true := by kernel_rfl
theorem tabs1 : r1.row.prog.tablesWhole = true := by kernel_rfl
theorem hd1 (call : WalkO q1 loose1 (XL q1 []) H1.says r1.row.toRowW dr1 [] fun f vs => PySem.call f vs) : r1.Holds := by
  refine holds_law said1 fun ok => ?_
  refine holds_open (r := r1.row) (d := dr1) (kwd := []) (N := 20000) left1 H1.of H1.keeps (fun s e => xl_of s (Bool.and_eq_true_iff.mp e).1) XL.keeps dof1 thd1 (by rfl) (fun s e => recFacts_of (Bool.and_eq_true_iff.mp e).2) (by rfl) ok oks1 ⟨rfl, rfl, rfl, rfl, rfl, tabs1⟩ ?hw call
  case hw => w_witness2
end
section
open PySem PySem.W PySem.Calls PyProof.Rows
section
variable {prog : Program} {w : World} {A₀ A : Around} {s : Shared} {base h₀ : Heap} {outer : List Env} {L : Addr} {m : Str → Option Value} {env : Env} {P own : List (Addr × Obj)} {K : Frag}
  {R : Result → Shared → Prop} {name qual : Str} {params : Arguments} {body : List Stmt} {scope : Scope} {dV kV doc pm cdv ct oc : Value} {an od : Option Addr} {osl : Array (Option Value)} {f : Addr} {args : Args} {binds : List (Str × Value)}
def Stay (own : List (Addr × Obj)) (h : Heap) : Prop := ∀ p ∈ own, h.get? p.1 = some p.2
theorem stay_news {h : Heap} {news : List (Addr × Obj)} (N : News h₀ L h (P ++ own)) {h' : Heap} (N' : News h₀ L h' news) (S : Stay own h') : News h₀ L h' (news ++ own) := fun p hp => by
  rcases List.mem_append.mp hp with q | q
  · exact N' p q
  · exact ⟨S p q, (N p (List.mem_append_right _ q)).2⟩
theorem groundP (B : Below A₀ base outer h₀) (F : Fr h₀ L s.heap m) (N : News h₀ L s.heap (P ++ own)) (O : OwnOff own (P.map (·.1))) (hA : A.frames = some (env :: outer)) (hf : env.frame = some L) (hke : env.scope.kind = .function) :
    Fr h₀ L (hideAll s.heap (P.map (·.1))) m ∧ Below A base (env :: outer) (hideAll s.heap (P.map (·.1))) ∧ h₀.StaysIn (hideAll s.heap (P.map (·.1))) ∧ Stay own (hideAll s.heap (P.map (·.1))) ∧
      ∀ v s', LeaveK h₀ L m (hideAll s.heap (P.map (·.1))) (fun r s' => Stay own s'.heap → R r s') v s' → R (.ok (.ret v)) s' := by
  have NP : News h₀ L s.heap P := fun p hp => N p (List.mem_append_left _ hp)
  obtain ⟨a, b, c, d⟩ := groundX (R := fun r s' => Stay own s'.heap → R r s') B F NP hA hf hke
  have st : Stay own (hideAll s.heap (P.map (·.1))) := fun p hp => hideAll_get _ (N p (List.mem_append_right _ hp)).1 fun q => O p hp _ q rfl
  refine ⟨a, b, c, st, fun v s' hl => ?_⟩
  have k := d v s' hl
  obtain ⟨L', m', news', F', N', _⟩ := hl
  exact k fun p hp => F'.keep _ _ (st p hp)
/-- a call of a def that is shown a part of the ledger alone -/
theorem code_part {p : Program} {loose : List Str} {mean : ExcName → Option Value} {mg mb : Str → Option Value}
    (B : Below A₀ base outer h₀) (F : Fr h₀ L s.heap m) (X₀ : K.In h₀) (N : News h₀ L s.heap (P ++ own)) (O : OwnOff own (P.map (·.1))) (T : Top p loose mean mg mb h₀) (hA : A.frames = some (env :: outer)) (hf : env.frame = some L) (hke : env.scope.kind = .function)
    (ho : K.lookup f = some ⟨oc, od, .func (fnOf name qual params body scope dV kV doc pm an cdv ct), osl⟩) (hcd : codeIn K cdv qual = true) (hroom : A.depth < recursionLimit)
    (hbind : BindsTo s (fnOf name qual params body scope dV kV doc pm an cdv ct) args binds) (hloc : ∀ y ∈ binds, scope.names.lookup y.1 = some .local)
    (h : ∀ g L' h₁, Fr h₀ L g m → Fr g L' h₁ (fun y => binds.reverse.lookup y) → News g L' h₁ P → Below A base (env :: outer) g → K.In g → Top p loose mean mg mb g → Stay own g → (∀ p ∈ P, p.1 < L') →
      wpAny (model prog w) (A.deeper (envOf qual scope L' f cdv)) (execs body (envOf qual scope L' f cdv))
        (fun fl s' => LeaveK h₀ L m g (fun r s' => Stay own s'.heap → R r s') (match fl with | .ret v => v | _ => .none) s')
        (fun e s' => wpAny (model prog w) (A.deeper (envOf qual scope L' f cdv)) (leaving (envOf qual scope L' f cdv) e) (fun _ s'' => R (.error e) s'') (fun e' s'' => R (.error e') s'') s')
        { s with heap := h₁, toks := s.toks + binds.length })
    (hco : scope.isCoroutine = false) (hgen : scope.isGenerator = false) (hk : scope.kind = .function)
    (hcell : ∀ x ∈ scope.names, x.2 ≠ .cell) : codeAny (model prog w) A (.call (.ref f) args) R s := by
  obtain ⟨FG, BG, st, own', lv⟩ := groundP (R := R) B F N O hA hf hke
  refine codeAny_call_def (fd := fnX name qual params body scope [] dV kV doc pm an cdv ct) (body := body) (binds := binds) hroom ((X₀.keeps F.keep) _ _ ho) rfl (T.nolimit.keeps F.keep) (codeRec_of (X₀.keeps F.keep) hcd) rfl hbind hcell hloc (fun h₁ hns hk₁ => ?_) hco hgen hk
  exact wpAny_mono (h _ s.heap.objs.size h₁ FG ⟨hns, fun b o e => hk₁ b o (of_hideAll _ e), Nat.le_of_eq (hideAll_size _ _)⟩
    (fun p hp => ⟨hk₁ _ _ (N p (List.mem_append_left _ hp)).1, Nat.ne_of_lt (Heap.lt_size (N p (List.mem_append_left _ hp)).1), hideAll_none _ (List.mem_map_of_mem hp)⟩) BG (X₀.keeps st) (T.keeps st) own' (fun p hp => Heap.lt_size (N p (List.mem_append_left _ hp)).1)) (fun fl s' hl => lv _ _ hl) fun _ _ y => y
end
/-- one entry taken out of a ledger -/
inductive Pick (d : Addr) (o : Obj) : List (Addr × Obj) → List (Addr × Obj) → Prop
  | head {r} : (∀ p ∈ r, p.1 ≠ d) → Pick d o ((d, o) :: r) r
  | tail {p r r'} : p.1 ≠ d → Pick d o r r' → Pick d o (p :: r) (p :: r')
inductive Sel : List (Addr × Obj) → List (Addr × Obj) → List (Addr × Obj) → Prop
  | nil {l} : Sel [] l l
  | cons {d o P l l' own} : Pick d o l l' → Sel P l' own → Sel ((d, o) :: P) l own
theorem Pick.facts {d : Addr} {o : Obj} {l l' : List (Addr × Obj)} (h : Pick d o l l') : (d, o) ∈ l ∧ (∀ p ∈ l', p ∈ l) ∧ ∀ p ∈ l', p.1 ≠ d := by
  induction h with
  | head h => exact ⟨.head _, fun p hp => .tail _ hp, h⟩
  | tail h _ ih =>
    refine ⟨.tail _ ih.1, fun p hp => ?_, fun p hp => ?_⟩
    · rcases List.mem_cons.mp hp with rfl | hp
      · exact .head _
      · exact .tail _ (ih.2.1 p hp)
    · rcases List.mem_cons.mp hp with rfl | hp
      · exact h
      · exact ih.2.2 p hp
theorem Sel.facts {P l own : List (Addr × Obj)} (h : Sel P l own) : (∀ p ∈ P, p ∈ l) ∧ (∀ p ∈ own, p ∈ l) ∧ OwnOff own (P.map (·.1)) := by
  induction h with
  | nil => exact ⟨fun _ h => (nomatch h), fun _ h => h, fun _ _ _ h => (nomatch h)⟩
  | cons k _ ih =>
    obtain ⟨a, b, c⟩ := k.facts
    refine ⟨fun p hp => ?_, fun p hp => b p (ih.2.1 p hp), fun p hp x hx => ?_⟩
    · rcases List.mem_cons.mp hp with rfl | hp
      · exact a
      · exact b p (ih.1 p hp)
    · rcases List.mem_cons.mp hx with rfl | hx
      · exact c p (ih.2.1 p hp)
      · exact ih.2.2 p hp x hx
theorem Sel.nodup {P l own : List (Addr × Obj)} (h : Sel P l own) : (P.map (·.1)).Nodup := by
  induction h with
  | nil => exact List.nodup_nil
  | cons k r ih =>
    rw [List.map_cons, List.nodup_cons]
    refine ⟨fun hm => ?_, ih⟩
    obtain ⟨p, hp, e⟩ := List.mem_map.mp hm
    exact k.facts.2.2 p (r.facts.1 p hp) e
theorem Sel.news {h₀ h : Heap} {L : Addr} {P l own : List (Addr × Obj)} (S : Sel P l own) (N : News h₀ L h l) : News h₀ L h (P ++ own) := fun p hp =>
  N p ((List.mem_append.mp hp).elim (S.facts.1 p) (S.facts.2.1 p))

/-- two addresses told apart, out of omega's sight -/
def Dif (a b : Nat) : Prop := a ≠ b
theorem Dif.ne {a b : Addr} (h : Dif a b) : a ≠ b := h
theorem Dif.en {a b : Addr} (h : Dif b a) : a ≠ b := fun e => h e.symm
theorem Dif.mk {a b : Addr} (h : a ≠ b) : Dif a b := h
def NeAll (a : Nat) : List Nat → Prop
  | [] => True
  | b :: r => Dif a b ∧ NeAll a r
def Apart : List Nat → Prop
  | [] => True
  | a :: r => NeAll a r ∧ Apart r
theorem neAll_of {a : Addr} : ∀ {l : List Addr}, (∀ b ∈ l, a ≠ b) → NeAll a l
  | [], _ => trivial
  | _ :: _, h => ⟨h _ (.head _), neAll_of fun b hb => h b (.tail _ hb)⟩
theorem apart_of : ∀ {l : List Addr}, l.Nodup → Apart l
  | [], _ => trivial
  | _ :: _, h => ⟨neAll_of fun _ hb e => (List.nodup_cons.mp h).1 (e ▸ hb), apart_of (List.nodup_cons.mp h).2⟩
def OffN : List (Addr × Obj) → List Nat → Prop
  | [], _ => True
  | p :: r, l => NeAll p.1 l ∧ OffN r l
theorem offN_of : ∀ {own : List (Addr × Obj)} {l : List Addr}, OwnOff own l → OffN own l
  | [], _, _ => trivial
  | p :: _, _, h => ⟨neAll_of (h p (.head _)), offN_of fun q hq => h q (.tail _ hq)⟩
/-- a contract of a def: shown the part P of a ledger it gives a value and another part -/
def Spec (prog : Program) (w : World) (K : Frag) (q : Program) (f : Addr) (args : List Value) (P : List (Addr × Obj)) (dd uu : Nat) (post : Value → List (Addr × Obj) → Prop) : Prop :=
  ∀ (loose : List Str) (mean : ExcName → Option Value) (mg mb : Str → Option Value) (dp un : Nat) (gd : Option (List Code)) (cn : Str) (cs : Scope) (a : Addr) (ccd : Value) (cl : List (Str × Addr)) (outer : List Env) (A₀ : Around) (base h₀ : Heap) (L : Addr) (m : Str → Option Value) (s : Shared) (Q E : Value → Shared → Prop) (own : List (Addr × Obj)),
    Below A₀ base outer h₀ → Fr h₀ L s.heap m → K.In h₀ → News h₀ L s.heap (P ++ own) → OwnOff own (P.map (·.1)) → (P.map (·.1)).Nodup → Top q loose mean mg mb h₀ → cs.kind = .function → dp + dd < recursionLimit → un + uu < cLine →
    (∀ r P' h' tk, post r P' → Fr h₀ L h' m → News h₀ L h' (P' ++ own) → OwnOff own (P'.map (·.1)) → Q r { s with heap := h', toks := tk }) →
    codeAny (model prog w) (ktrTop dp un gd cn cs L a ccd cl outer) (.call (.ref f) ⟨args, []⟩) (fun r s' => match r with | .ok (.ret v) => Q v s' | .ok _ => False | .error e => E e s') s
theorem spec_use {prog : Program} {w : World} {K : Frag} {q : Program} {f : Addr} {args : List Value} {P news own : List (Addr × Obj)} {dd uu : Nat} {post : Value → List (Addr × Obj) → Prop}
    {loose : List Str} {mean : ExcName → Option Value} {mg mb : Str → Option Value} {dp un : Nat} {gd : Option (List Code)} {cn : Str} {cs : Scope} {a : Addr} {ccd : Value} {cl : List (Str × Addr)} {outer : List Env} {A₀ : Around} {base h₀ : Heap} {L : Addr} {m : Str → Option Value} {s : Shared} {Q E : Value → Shared → Prop}
    (S : Spec prog w K q f args P dd uu post) (Se : Sel P news own) (B : Below A₀ base outer h₀) (F : Fr h₀ L s.heap m) (X : K.In h₀) (N : News h₀ L s.heap news) (T : Top q loose mean mg mb h₀) (hk : cs.kind = .function) (hd : dp + dd < recursionLimit) (hu : un + uu < cLine)
    (k : ∀ r P' h' tk, post r P' → Fr h₀ L h' m → News h₀ L h' (P' ++ own) → OwnOff own (P'.map (·.1)) → Q r { s with heap := h', toks := tk }) :
    wpAny (model prog w) (ktrTop dp un gd cn cs L a ccd cl outer) (call (.ref f) args) Q E s :=
  wpAny_call (S loose mean mg mb dp un gd cn cs a ccd cl outer A₀ base h₀ L m s Q E own B F X (Se.news N) Se.facts.2.2 Se.nodup T hk hd hu k)
theorem spec_meth {prog : Program} {w : World} {K : Frag} {q : Program} {f x : Addr} {self : Value} {args : List Value} {P news own : List (Addr × Obj)} {dd uu : Nat} {post : Value → List (Addr × Obj) → Prop}
    {loose : List Str} {mean : ExcName → Option Value} {mg mb : Str → Option Value} {dp un : Nat} {gd : Option (List Code)} {cn : Str} {cs : Scope} {a : Addr} {ccd : Value} {cl : List (Str × Addr)} {outer : List Env} {A₀ : Around} {base h₀ : Heap} {L : Addr} {m : Str → Option Value} {s : Shared} {Q E : Value → Shared → Prop}
    (S : Spec prog w K q f (self :: args) P dd uu post) (Se : Sel P news own) (B : Below A₀ base outer h₀) (F : Fr h₀ L s.heap m) (X : K.In h₀) (N : News h₀ L s.heap news) (hx : (x, methodObj (.ref f) self) ∈ news) (T : Top q loose mean mg mb h₀) (hk : cs.kind = .function) (hd : dp + dd < recursionLimit) (hu : un + uu < cLine)
    (k : ∀ r P' h' tk, post r P' → Fr h₀ L h' m → News h₀ L h' (P' ++ own) → OwnOff own (P'.map (·.1)) → Q r { s with heap := h', toks := tk }) :
    wpAny (model prog w) (ktrTop dp un gd cn cs L a ccd cl outer) (call (.ref x) args) Q E s :=
  call_meth N hx (S loose mean mg mb dp un gd cn cs a ccd cl outer A₀ base h₀ L m s Q E own B F X (Se.news N) Se.facts.2.2 Se.nodup T hk hd hu k)
theorem noBool_method : typeLookup (.type "method") "__bool__" = pure none := by rw [typeLookup_type, builtinLookup_eq_fast]; kernel_rfl
theorem noLen_method : typeLookup (.type "method") "__len__" = pure none := by rw [typeLookup_type, builtinLookup_eq_fast]; kernel_rfl
theorem truthy_meth {prog : Program} {w : World} {A : Around} {s : Shared} {Q : Bool → Shared → Prop} {E : Value → Shared → Prop} {h₀ : Heap} {L x : Addr} {f self : Value} {news : List (Addr × Obj)} (N : News h₀ L s.heap news) (hx : (x, methodObj f self) ∈ news) (h : Q true s) :
    wpAny (model prog w) A (truthy (.ref x)) Q E s := by
  have hT : s.TypeIs (.ref x) "method" := ⟨_, (N _ hx).1, rfl⟩
  unfold truthy
  refine wpAny_bind (wpAny_callSpecial?_none (name := Str.ofString "__bool__") hT noBool_method ?_)
  refine wpAny_bind (wpAny_specialOf (name := Str.ofString "__len__") hT noLen_method ?_)
  exact wpAny_pure h
theorem News.tail {h₀ h : Heap} {L : Addr} {p : Addr × Obj} {r : List (Addr × Obj)} (N : News h₀ L h (p :: r)) : News h₀ L h r := fun q hq => N q (.tail _ hq)
theorem off_of {g h : Heap} {L : Addr} {P own : List (Addr × Obj)} (N : News g L h P) (S : Stay own g) : OwnOff own (P.map (·.1)) := fun p hp b hb e => by
  obtain ⟨q, hq, rfl⟩ := List.mem_map.mp hb
  have h1 := (N q hq).2.2
  rw [← e, S p hp] at h1
  cases h1
theorem spec_end {h₀ g h h' : Heap} {L L' : Addr} {m : Str → Option Value} {P P' own : List (Addr × Obj)} {s : Shared} {Q : Value → Shared → Prop} {post : Value → List (Addr × Obj) → Prop} {r : Value} {tk : Tok}
    (hret : ∀ r P' h' tk, post r P' → Fr h₀ L h' m → News h₀ L h' (P' ++ own) → OwnOff own (P'.map (·.1)) → Q r { s with heap := h', toks := tk }) (N : News h₀ L h (P ++ own)) (S : Stay own g)
    (N' : News g L' h' P') (F : Fr h₀ L h' m) (kN : News h₀ L h' P') (hS : Stay own h') (hp : post r P') : Q r { s with heap := h', toks := tk } :=
  hret r P' h' tk hp F (stay_news N kN hS) (off_of N' S)
theorem News.drop {h₀ h : Heap} {L : Addr} {P own : List (Addr × Obj)} (N : News h₀ L h (P ++ own)) : News h₀ L h own := fun p hp => N p (List.mem_append_right _ hp)
theorem spec_end0 {h₀ h h' : Heap} {L : Addr} {m : Str → Option Value} {P own : List (Addr × Obj)} {s : Shared} {Q : Value → Shared → Prop} {post : Value → List (Addr × Obj) → Prop} {r : Value} {tk : Tok}
    (hret : ∀ r P' h' tk, post r P' → Fr h₀ L h' m → News h₀ L h' (P' ++ own) → OwnOff own (P'.map (·.1)) → Q r { s with heap := h', toks := tk }) (N : News h₀ L h (P ++ own))
    (F : Fr h₀ L h' m) (hS : Stay own h') (hp : post r []) : Q r { s with heap := h', toks := tk } :=
  hret r [] h' tk hp F (stay_news N News.nil hS) fun _ _ _ h => nomatch h
end
section
open PySem PySem.W PyProof.Rows
open PySem.Builtin.Str PySem.StrLaws
/-- lines and columns of a list of signs -/
def lnOf (l : List Nat) : Nat := l.count 10
def clOf (l : List Nat) : Nat := (l.reverse.takeWhile (· != 10)).length
theorem lnOf_append (l m : List Nat) : lnOf (l ++ m) = lnOf l + lnOf m := List.count_append
theorem tw_all {p : Nat → Bool} : ∀ {l m : List Nat}, (∀ c ∈ l, p c = true) → (l ++ m).takeWhile p = l ++ m.takeWhile p
  | [], _, _ => rfl
  | a :: l, m, h => by
    rw [List.cons_append, List.takeWhile_cons, if_pos (h a (.head _)), tw_all fun c hc => h c (.tail _ hc)]
    rfl
theorem clOf_append_no {l m : List Nat} (h : ∀ c ∈ m, c ≠ 10) : clOf (l ++ m) = clOf l + m.length := by
  unfold clOf
  rw [List.reverse_append, tw_all fun c hc => by simpa using h c (List.mem_reverse.mp hc), List.length_append, List.length_reverse]
  omega
theorem clOf_after {l m : List Nat} (h : ∀ c ∈ m, c ≠ 10) : clOf (l ++ 10 :: m) = m.length := by
  have e : l ++ 10 :: m = (l ++ [10]) ++ m := by simp
  rw [e, clOf_append_no h]
  have : clOf (l ++ [10]) = 0 := by
    unfold clOf
    rw [List.reverse_append]
    rfl
  omega
theorem nl_is : (Str.ofString "\n" : Str) = ⟨#[10]⟩ := by decide +kernel
theorem at_one {x : Str} {hi i : Nat} (hh : hi ≤ x.length) : (i + (⟨#[10]⟩ : Str).length ≤ hi ∧ subAt x ⟨#[10]⟩ i = true) ↔ (i < hi ∧ x.cps.toList[i]? = some 10) := by
  rw [← subAt_one]
  have e : (⟨#[10]⟩ : Str).length = 1 := rfl
  rw [e]
  constructor
  · rintro ⟨a, b⟩; exact ⟨by omega, by omega, b⟩
  · rintro ⟨a, b, c⟩; exact ⟨by omega, c⟩
theorem occ_yields (x y : Str) (hi lim i : Nat) (st : Array Nat × Nat) : ∃ r, occBody x y hi lim i st = pure (ForInStep.yield r) := by
  unfold occBody
  split
  · exact ⟨_, rfl⟩
  · exact ⟨_, rfl⟩
theorem occ_snoc (x y : Str) (hi lim i : Nat) : ∀ (l : List Nat) (st : Array Nat × Nat), forIn (l ++ [i]) st (occBody x y hi lim) = (forIn l st (occBody x y hi lim)) >>= fun r => forIn [i] r (occBody x y hi lim)
  | [], st => by simp
  | a :: l, st => by
    obtain ⟨r, e⟩ := occ_yields x y hi lim a st
    rw [List.cons_append, List.forIn_cons, List.forIn_cons, e]
    simp only [pure_bind]
    exact occ_snoc x y hi lim i l r
theorem occ_run (x : Str) (hi : Nat) (hh : hi ≤ x.length) : ∀ k, ∃ a f, (forIn (List.range' 0 k) ((#[] : Array Nat), 0) (occBody x ⟨#[10]⟩ hi (x.length + 1))).run = (a, f) ∧ a.size = lnOf (x.cps.toList.take (min k hi)) ∧ f ≤ k
  | 0 => ⟨#[], 0, rfl, by simp [lnOf], Nat.le_refl _⟩
  | k + 1 => by
    obtain ⟨a, f, e, hs, hf⟩ := occ_run x hi hh k
    rw [List.range'_concat, occ_snoc]
    have e' : forIn (List.range' 0 k) ((#[] : Array Nat), 0) (occBody x ⟨#[10]⟩ hi (x.length + 1)) = pure (a, f) := e
    rw [e']
    simp only [pure_bind, List.forIn_cons, List.forIn_nil, Nat.one_mul, Nat.zero_add]
    have hsz : a.size ≤ x.length := by
      rw [hs]
      refine Nat.le_trans (List.count_le_length) ?_
      rw [List.length_take]
      have : x.cps.toList.length = x.length := by simp [Str.length]
      omega
    by_cases hc : k < hi ∧ x.cps.toList[k]? = some 10
    · have c1 := (at_one hh).mpr hc
      have hb : occBody x ⟨#[10]⟩ hi (x.length + 1) k (a, f) = pure (ForInStep.yield (a.push k, k + (⟨#[10]⟩ : Str).length)) := by
        unfold occBody
        rw [if_pos ⟨⟨⟨by show a.size < _; omega, hf⟩, c1.1⟩, c1.2⟩]
      rw [hb]
      refine ⟨a.push k, k + 1, rfl, ?_, Nat.le_refl _⟩
      rw [Array.size_push, hs]
      have m1 : min (k + 1) hi = k + 1 := by omega
      have m0 : min k hi = k := by omega
      rw [m1, m0, List.take_add_one, hc.2]
      simp [lnOf, List.count_append]
    · have hb : occBody x ⟨#[10]⟩ hi (x.length + 1) k (a, f) = pure (ForInStep.yield (a, f)) := by
        unfold occBody
        rw [if_neg fun h => hc ((at_one hh).mp ⟨h.1.2, h.2⟩)]
      rw [hb]
      refine ⟨a, f, rfl, ?_, Nat.le_succ_of_le hf⟩
      rw [hs]
      by_cases hk : k < hi
      · have m1 : min (k + 1) hi = k + 1 := by omega
        have m0 : min k hi = k := by omega
        rw [m1, m0, List.take_add_one]
        have hn : x.cps.toList[k]? ≠ some 10 := fun h => hc ⟨hk, h⟩
        cases ho : x.cps.toList[k]? with
        | none => simp
        | some c =>
          have : c ≠ 10 := fun h => hn (by rw [ho, h])
          simp [lnOf, List.count_append, List.count_singleton, this]
      · have m1 : min (k + 1) hi = hi := by omega
        have m0 : min k hi = hi := by omega
        rw [m1, m0]
theorem occ_count (x : Str) (hi : Nat) (hh : hi ≤ x.length) : (occurrences x "\n" 0 hi (x.length + 1)).length = lnOf (x.cps.toList.take hi) := by
  have e : (("\n" : String) : Str) = ⟨#[10]⟩ := nl_is
  rw [e, occ_eq]
  obtain ⟨a, f, e, hs, _⟩ := occ_run x hi hh (hi + 1 - 0)
  rw [e]
  show a.toList.length = _
  have m : min (hi + 1 - 0) hi = hi := by omega
  rw [m] at hs
  simpa using hs
theorem last_find (x : Str) (hi : Nat) (hh : hi ≤ x.length) : (lastOccurrence x "\n" 0 hi = none ∧ ∀ c ∈ x.cps.toList.take hi, c ≠ 10) ∨ ∃ k l m, lastOccurrence x "\n" 0 hi = some k ∧ x.cps.toList.take hi = l ++ 10 :: m ∧ l.length = k ∧ ∀ c ∈ m, c ≠ 10 := by
  have e : (("\n" : String) : Str) = ⟨#[10]⟩ := nl_is
  rw [e, last_eq]
  have key := last_run x ⟨#[10]⟩ hi (List.range' 0 (hi + 1 - 0)) [] none (fun _ h => nomatch h) (fun _ h => nomatch h) (by simpa using List.pairwise_lt_range' (s := 0) (n := hi + 1 - 0))
  have mem : ∀ i, i < hi → i ∈ [] ++ List.range' 0 (hi + 1 - 0) := fun i hi => by simp [List.mem_range']; omega
  have len : x.cps.toList.length = x.length := by simp [Str.length]
  cases hr : (forIn (List.range' 0 (hi + 1 - 0)) none (lastBody x ⟨#[10]⟩ hi)).run with
  | none =>
    rw [hr] at key
    refine .inl ⟨rfl, fun c hc e => ?_⟩
    obtain ⟨j, hj⟩ := List.getElem?_of_mem hc
    rw [List.getElem?_take] at hj
    by_cases h1 : j < hi
    · rw [if_pos h1] at hj
      exact key j (mem j h1) ((at_one hh).mpr ⟨h1, e ▸ hj⟩)
    · rw [if_neg h1] at hj; cases hj
  | some k =>
    rw [hr] at key
    obtain ⟨h1, h2⟩ := (at_one hh).mp key.1
    have h2' := h2
    obtain ⟨hk, he⟩ := List.getElem?_eq_some_iff.mp h2
    refine .inr ⟨k, (x.cps.toList.take hi).take k, (x.cps.toList.take hi).drop (k + 1), rfl, ?_, ?_, ?_⟩
    · have hlt : k < (x.cps.toList.take hi).length := by rw [List.length_take]; omega
      have e3 : (x.cps.toList.take hi)[k] = 10 := by rw [List.getElem_take]; exact he
      rw [← e3, ← List.drop_eq_getElem_cons hlt, List.take_append_drop]
    · rw [List.length_take, List.length_take]; omega
    · intro c hc e
      obtain ⟨j, hj⟩ := List.getElem?_of_mem hc
      rw [List.getElem?_drop, List.getElem?_take] at hj
      by_cases h3 : k + 1 + j < hi
      · rw [if_pos h3] at hj
        exact key.2 (k + 1 + j) (mem _ h3) (by omega) ((at_one hh).mpr ⟨h3, e ▸ hj⟩)
      · rw [if_neg h3] at hj; cases hj
end
section
open PySem PySem.W PySem.Calls PySem.NumText PyProof.Rows
def digVal (c : Nat) : Nat := (digit? c).getD 0
def numVal (base : Nat) (l : List Nat) : Nat := l.foldl (fun acc c => acc * base + digVal c) 0
structure Figs (base : Nat) (l : List Nat) : Prop where
  b : base = 10 ∨ base = 16
  ne : l ≠ []
  ok : ∀ c ∈ l, ∃ d, digit? c = some d ∧ d < base
  len : l.length ≤ 640
theorem fig_range {c d : Nat} (h : digit? c = some d) (hd : d < 16) : (48 ≤ c ∧ c ≤ 57) ∨ (97 ≤ c ∧ c ≤ 102) ∨ (65 ≤ c ∧ c ≤ 70) := by
  unfold digit? at h
  split at h
  · rename_i h1; simp only [Bool.and_eq_true, decide_eq_true_eq] at h1; exact .inl h1
  · split at h
    · rename_i h1; simp only [Bool.and_eq_true, decide_eq_true_eq] at h1; cases h; omega
    · split at h
      · rename_i h1; simp only [Bool.and_eq_true, decide_eq_true_eq] at h1; cases h; omega
      · cases h
theorem Figs.range {base : Nat} {l : List Nat} (F : Figs base l) : ∀ c ∈ l, (48 ≤ c ∧ c ≤ 57) ∨ (97 ≤ c ∧ c ≤ 102) ∨ (65 ≤ c ∧ c ≤ 70) := fun c hc => by
  obtain ⟨d, h1, h2⟩ := F.ok c hc
  exact fig_range h1 (by rcases F.b with e | e <;> omega)
theorem dropWhile_none {p : Nat → Bool} : ∀ {l : List Nat}, (∀ c ∈ l, p c = false) → l.dropWhile p = l
  | [], _ => rfl
  | a :: l, h => by rw [List.dropWhile_cons, if_neg (by rw [h a (.head _)]; exact Bool.false_ne_true)]
theorem takeWhile_all {p : Nat → Bool} : ∀ {l : List Nat}, (∀ c ∈ l, p c = true) → l.takeWhile p = l
  | [], _ => rfl
  | a :: l, h => by rw [List.takeWhile_cons, if_pos (h a (.head _)), takeWhile_all fun c hc => h c (.tail _ hc)]
theorem sign_none {l : List Nat} (h : ∀ c ∈ l, c ≠ 45 ∧ c ≠ 43) : sign l = (false, l) := by
  unfold sign
  split
  · exact absurd rfl (h 45 (.head _)).1
  · exact absurd rfl (h 43 (.head _)).2
  · rfl
theorem based_figs {base : Nat} {l : List Nat} (hb : base = 10 ∨ base = 16) (h : ∀ c ∈ l, c ≠ 120 ∧ c ≠ 88) : based base l = (base, false, l) := by
  have h0 : (base == 0) = false := by rcases hb with e | e <;> subst e <;> rfl
  unfold based
  split
  · rename_i p hp
    have hne : base ≠ p := by
      intro e
      subst e
      unfold prefix? at hp
      split at hp
      · rename_i c r
        have := h c (.tail _ (.head _))
        split at hp
        · rename_i h1
          simp only [Bool.or_eq_true, beq_iff_eq] at h1
          omega
        · split at hp
          · cases hp; rcases hb with e | e <;> cases e
          · split at hp
            · cases hp; rcases hb with e | e <;> cases e
            · cases hp
      · cases hp
    rw [h0, Bool.false_or, if_neg (by simpa using hne)]
  · rw [h0]
    rfl
theorem step_run {base : Nat} : ∀ {l : List Nat} (a : Array Nat) (f : Bool), (∀ c ∈ l, ∃ d, digit? c = some d ∧ d < base) → l.foldlM (NumText.step base) (a, f) = some (a ++ (l.map digVal).toArray, f || !l.isEmpty)
  | [], a, f, _ => by simp
  | c :: l, a, f, h => by
    obtain ⟨d, h1, h2⟩ := h c (.head _)
    have h95 : (c == 95) = false := by
      rw [beq_eq_false_iff_ne]; intro e; subst e
      have : digit? 95 = none := by decide
      rw [this] at h1; cases h1
    have hs : NumText.step base (a, f) c = some (a.push d, true) := by
      unfold NumText.step
      rw [h95, h1]
      simp only [Bool.false_eq_true, if_false]
      rw [if_pos h2]
    rw [List.foldlM_cons, hs]
    show l.foldlM (NumText.step base) (a.push d, true) = _
    rw [step_run (a.push d) true fun x hx => h x (.tail _ hx)]
    have hd : digVal c = d := by unfold digVal; rw [h1]; rfl
    simp [hd]
theorem fold_map (b : Nat) : ∀ (l : List Nat) (a : Nat), (l.map digVal).foldl (fun acc d => acc * b + d) a = l.foldl (fun acc c => acc * b + digVal c) a
  | [], _ => rfl
  | c :: l, a => by rw [List.map_cons, List.foldl_cons, List.foldl_cons]; exact fold_map b l _
theorem read_figs {base : Nat} {l : List Nat} (F : Figs base l) : (int_private% "readNumeral") 0 base l = (int_private% "Numeral.value") (numVal base l : Int) := by
  have hr := F.range
  have hb : l.dropWhile blank = l := dropWhile_none fun c hc => by
    have := hr c hc
    unfold blank
    simp only [Bool.or_eq_false_iff, Bool.and_eq_false_iff, beq_eq_false_iff_ne, decide_eq_false_iff_not]
    omega
  have hb2 : l.reverse.dropWhile blank = l.reverse := dropWhile_none fun c hc => by
    have := hr c (List.mem_reverse.mp hc)
    unfold blank
    simp only [Bool.or_eq_false_iff, Bool.and_eq_false_iff, beq_eq_false_iff_ne, decide_eq_false_iff_not]
    omega
  have hs : sign l = (false, l) := sign_none fun c hc => by have := hr c hc; omega
  have hba : based base l = (base, false, l) := based_figs F.b fun c hc => by have := hr c hc; omega
  rw [readNumeral_eq, hb, hs]
  dsimp only
  rw [hba]
  dsimp only
  rw [hb2, List.reverse_reverse]
  have hd : digits? base l = some (l.map digVal).toArray := by
    unfold digits?
    rw [step_run #[] false F.ok]
    have : l.isEmpty = false := by
      cases l with
      | nil => exact absurd rfl F.ne
      | cons => rfl
    simp [this]
  rw [hd]
  unfold judge
  have hl := F.len
  have c1 : (![2, 4, 8, 16, 32].contains base && (0 : Nat) != 0 && decide ((l.map digVal).toArray.size > 0)) = false := by simp
  have c2 : (base == 10 && decide ((l.map digVal).toArray.size > 6000)) = false := by
    rw [Bool.and_eq_false_iff]; right
    simp only [List.size_toArray, List.length_map, decide_eq_false_iff_not]
    omega
  simp only [c1, c2, Bool.false_eq_true, if_false, Bool.false_and]
  congr 1
  rw [List.foldl_toArray, fold_map]
  rfl
end
section
open PySem PySem.W PySem.Calls PySem.NumText PyProof.Rows
theorem wp_textB {M : Model} {A : Around} {E : Value → Shared → Prop} {s : Shared} {Q : Value → Shared → Prop} {v : Value} {text : List Nat} {b : Nat} {n : Int}
    (hs : (text.takeWhile (· != 0)).length ≤ 640) (hr : (int_private% "readNumeral") 0 b (text.takeWhile (· != 0)) = (int_private% "Numeral.value") n)
    (ha : ((text.takeWhile (· != 0)).length == text.length) = true) (h : Q (.int n s.toks) { s with toks := s.toks + 1 }) :
    wpAny M A ((int_private% "intFromText") v text b) Q E s := by
  obtain ⟨hp, g, d, tk, os⟩ := s
  repeat (any_goals (first
    | assumption
    | (with_reducible refine wpAny_ite_true (decide_eq_true hs) ?_)
    | (with_reducible refine wpAny_ite_true (decide_eq_true ha) ?_)
    | wp_step))
  all_goals (try rw [hr])
  all_goals (try dsimp only)
  repeat (any_goals (first
    | assumption
    | (with_reducible refine wpAny_ite_true (decide_eq_true hs) ?_)
    | (with_reducible refine wpAny_ite_true (decide_eq_true ha) ?_)
    | wp_step))
structure Hid (p : Prop) : Prop where
  out : p
set_option maxHeartbeats 4000000 in
theorem gives_textB {x : Str} {u v : Tok} {b : Nat} (FF : Figs b x.cps.toList) : Gives (Builtin.«int.__new__» ⟨[.type "int", .str x u, .int (b : Int) v], []⟩) (.int (numVal b x.cps.toList)) :=
  .of_wp fun M A E s Q h => by
    obtain ⟨hp, g, d, tk, os⟩ := s
    have f1 := F.conv_sub_int
    have f2 := F.madeHere_int
    have hr := FF.range
    have hall : x.cps.all (· < 128) = true := by
      rw [← Array.all_toList, List.all_eq_true]
      intro c hc
      have := hr c hc
      simp only [decide_eq_true_eq]; omega
    have ht : (x.cps.toList).takeWhile (· != 0) = x.cps.toList := takeWhile_all fun c hc => by
      have := hr c hc
      rw [bne_iff_ne]; omega
    have hs : ((x.cps.toList).takeWhile (· != 0)).length ≤ 640 := by rw [ht]; exact FF.len
    have hv : (int_private% "readNumeral") 0 b ((x.cps.toList).takeWhile (· != 0)) = (int_private% "Numeral.value") (numVal b x.cps.toList : Int) := by rw [ht]; exact read_figs FF
    have ha : (((x.cps.toList).takeWhile (· != 0)).length == (x.cps.toList).length) = true := by rw [ht]; simp
    have hx : (if x.cps.all (· < 128) = true then x.cps.toList else Unicode.numberText x.cps.toList) = x.cps.toList := if_pos hall
    rw [← hx] at hs hv ha
    have hv' : (int_private% "readNumeral") 0 b ((if x.cps.all (· < 128) = true then x.cps.toList else Unicode.numberText x.cps.toList).takeWhile (· != 0)) = (int_private% "Numeral.value") (numVal b x.cps.toList : Int) := by rw [hv, hx]
    have hk := Hid.mk (And.intro hs (And.intro hv' ha))
    have hb := FF.b
    clear hs hv ha ht hall hr hx hv' FF
    rcases hb with rfl | rfl
    all_goals
      repeat (any_goals (first
        | assumption
        | (with_reducible refine wpAny_ite_false (by decide) ?_)
        | ((with_reducible show wpAny _ _ ((int_private% "intFromText") _ _ _) _ _ _); refine wp_textB hk.out.1 hk.out.2.1 hk.out.2.2 ?_)
        | wp_step))
    all_goals first | exact ⟨_, rfl, h⟩ | skip
theorem typeCall_int_2 (a b : Value) : checkTypeCall "int" ⟨[a, b], []⟩ = pure () := by kernel_rfl
theorem newCall_int_2 (a b : Value) : checkBuiltinCall "int.__new__" ⟨[.type "int", a, b], []⟩ = pure () := by kernel_rfl
theorem call_textB {prog : Program} {w : World} {A : Around} {E : Value → Shared → Prop} {s : Shared} {Q : Value → Shared → Prop} {x : Str} {t u : Tok} {b : Int} {b' : Nat} (hb : b = (b' : Int)) (FF : Figs b' x.cps.toList) (h : Q (.int (numVal b' x.cps.toList) s.toks) { s with toks := s.toks + 1 }) :
    wpAny (model prog w) A (call (.type "int") [.str x t, .int b u]) Q E s := by
  subst hb
  exact callType_new F.called_int F.newNe_int (typeCall_int_2 _ _) (newCall_int_2 _ _) (fun obj => F.args_object_init_3 obj _ _) F.entry_int_new (gives_textB FF).meets (show (Made.int _).post _ s from ⟨rfl, h⟩)
end
section
open PySem PySem.W PySem.Calls PyProof.Rows
abbrev one (c : Nat) : Str := ⟨#[c]⟩
theorem glue_fold (sep : Str) (hs : sep.cps = #[]) : ∀ (l : List Nat) (acc : Array Nat), (l.map one).foldl (fun acc p => acc ++ sep.cps ++ p.cps) acc = acc ++ l.toArray
  | [], acc => by simp
  | c :: l, acc => by
    rw [List.map_cons, List.foldl_cons, glue_fold sep hs l, hs]
    apply Array.toList_inj.mp
    simp
theorem empty_cps : (Str.ofString "").cps = #[] := by decide +kernel
theorem join_ones (l : List Nat) : Txt.join (Str.ofString "") (l.map one) = ⟨l.toArray⟩ := by
  show (⟨((l.map one).drop 1).foldl (fun acc p => acc ++ (Str.ofString "").cps ++ p.cps) ((l.map one).headD Str.empty).cps⟩ : Str) = _
  cases l with
  | nil => rfl
  | cons c r =>
    rw [List.map_cons, List.drop_succ_cons, List.drop_zero, List.headD_cons, glue_fold _ empty_cps]
    congr 1
    apply Array.toList_inj.mp
    simp
theorem sum_ones (l : List Nat) : ((l.map one).map (·.length)).sum = l.length := by
  induction l with
  | nil => rfl
  | cons c r ih => rw [List.map_cons, List.map_cons, List.sum_cons, ih, List.length_cons]; show 1 + _ = _; omega
theorem ones_ok (l : List Nat) (h : l.length ≤ 5000) : JoinOk (Str.ofString "") (l.map one) = true :=
  joinOk_of_weight (by rw [sum_ones, List.length_map]; omega) (by decide +kernel)
theorem join_figs {prog : Program} {w : World} {A : Around} {E : Value → Shared → Prop} {s : Shared} {t : Tok} {h₀ : Heap} {L D : Addr} {news : List (Addr × Obj)} {nn : Nat} {Q : Value → Shared → Prop} {l : List (Str × Tok)} {fs : List Nat} (N : News h₀ L s.heap news) (hm : (D, listOf (strValues l).toArray nn) ∈ news) (hl : l.map (·.1) = fs.map one) (hfs : fs.length ≤ 5000)
    (hq : ∀ t' k, Q (.str ⟨fs.toArray⟩ t') { s with toks := k }) : wpAny (model prog w) A (call (.builtin "str.join") [.str "" t, .ref D]) Q E s :=
  SC.join (News.isList N hm) hl (ones_ok fs hfs) (by rw [show (("" : String) : Str) = Str.ofString "" from rfl, join_ones]; exact hq)
end
section
open PySem PySem.W PySem.Calls PyProof.Rows PyProof.V
def decL : List Nat := [48, 49, 50, 51, 52, 53, 54, 55, 56, 57]
def hexL : List Nat := [48, 49, 50, 51, 52, 53, 54, 55, 56, 57, 97, 98, 99, 100, 101, 102, 65, 66, 67, 68, 69, 70]
theorem dec_strs : (["0", "1", "2", "3", "4", "5", "6", "7", "8", "9"] : List Str) = decL.map fun d => ⟨#[d]⟩ := by decide +kernel
theorem hex_strs : (["0", "1", "2", "3", "4", "5", "6", "7", "8", "9", "a", "b", "c", "d", "e", "f", "A", "B", "C", "D", "E", "F"] : List Str) = hexL.map fun d => ⟨#[d]⟩ := by decide +kernel
theorem any_one (l : List Nat) (c : Nat) : (l.map fun d => (⟨#[d]⟩ : Str)).any (· == ⟨#[c]⟩) = decide (c ∈ l) := by
  rw [List.any_map, Bool.eq_iff_iff, List.any_eq_true, decide_eq_true_eq]
  constructor
  · rintro ⟨d, hd, e⟩
    have : d = c := by simpa using e
    exact this ▸ hd
  · intro h
    exact ⟨c, h, by simp⟩
section
variable {prog : Program} {w : World} {A : Around} {E : Value → Shared → Prop} {s : Shared} {h₀ : Heap}
theorem tup37 (X : (K1 w.params).In h₀) (hk : ∀ b o, h₀.get? b = some o → s.heap.get? b = some o) : ∃ items, IsTup s.heap 37 items ∧ StrsAre items.toList (hexL.map fun d => ⟨#[d]⟩) := by
  have h := hk _ _ (X 37 (x1_37 w.params) (by with_unfolding_all rfl))
  rw [← hex_strs]
  exact ⟨_, ⟨_, h, rfl, _, rfl⟩, by repeat constructor⟩
theorem tup32 (X : (K1 w.params).In h₀) (hk : ∀ b o, h₀.get? b = some o → s.heap.get? b = some o) : ∃ items, IsTup s.heap 32 items ∧ StrsAre items.toList (decL.map fun d => ⟨#[d]⟩) := by
  have h := hk _ _ (X 32 (x1_32 w.params) (by with_unfolding_all rfl))
  rw [← dec_strs]
  exact ⟨_, ⟨_, h, rfl, _, rfl⟩, by repeat constructor⟩
theorem in37y {c : Nat} {t : Tok} {Q : Value → Shared → Prop} (X : (K1 w.params).In h₀) (hk : ∀ b o, h₀.get? b = some o → s.heap.get? b = some o) (hc : c ∈ hexL) (h : Q (.bool true) s) : wpAny (model prog w) A (compareOp .In (.str ⟨#[c]⟩ t) (.ref 37)) Q E s := by
  obtain ⟨items, h1, h2⟩ := tup37 X hk
  exact in_tuple_strs h1 h2 (by rw [any_one, decide_eq_true hc]; exact h)
theorem in37n {c : Nat} {t : Tok} {Q : Value → Shared → Prop} (X : (K1 w.params).In h₀) (hk : ∀ b o, h₀.get? b = some o → s.heap.get? b = some o) (hc : c ∉ hexL) (h : Q (.bool false) s) : wpAny (model prog w) A (compareOp .In (.str ⟨#[c]⟩ t) (.ref 37)) Q E s := by
  obtain ⟨items, h1, h2⟩ := tup37 X hk
  exact in_tuple_strs h1 h2 (by rw [any_one, decide_eq_false hc]; exact h)
theorem in32y {c : Nat} {t : Tok} {Q : Value → Shared → Prop} (X : (K1 w.params).In h₀) (hk : ∀ b o, h₀.get? b = some o → s.heap.get? b = some o) (hc : c ∈ decL) (h : Q (.bool true) s) : wpAny (model prog w) A (compareOp .In (.str ⟨#[c]⟩ t) (.ref 32)) Q E s := by
  obtain ⟨items, h1, h2⟩ := tup32 X hk
  exact in_tuple_strs h1 h2 (by rw [any_one, decide_eq_true hc]; exact h)
theorem in32n {c : Nat} {t : Tok} {Q : Value → Shared → Prop} (X : (K1 w.params).In h₀) (hk : ∀ b o, h₀.get? b = some o → s.heap.get? b = some o) (hc : c ∉ decL) (h : Q (.bool false) s) : wpAny (model prog w) A (compareOp .In (.str ⟨#[c]⟩ t) (.ref 32)) Q E s := by
  obtain ⟨items, h1, h2⟩ := tup32 X hk
  exact in_tuple_strs h1 h2 (by rw [any_one, decide_eq_false hc]; exact h)
theorem eqBool_str_none {y : Str} {u : Tok} {Q : Bool → Shared → Prop} (h : Q false s) : wpAny (model prog w) A (eqBool (.str y u) .none) Q E s := by
  unfold eqBool
  have hn : ¬ (Value.str y u == Value.none) = true := by intro e; have := eq_of_beq e; cases this
  refine wpAny_holding ?_
  rw [if_neg hn]
  exact wpAny_bind (EqNone.eq_str_none (wpAny_truthy_bool h))
theorem tuple_contains_none {t : Addr} {items : Array Value} {ys : List Str} {P : Fin → Shared → Prop} (ht : IsTup s.heap t items) (hi : StrsAre items.toList ys)
    (h : P (.done (.ret (.bool false))) s) : wpAny (model prog w) A (Builtin.«tuple.__contains__» ⟨[.ref t, .none], []⟩) P E s := by
  show wpAny _ _ (Builtin.Tuple.tupleItemsOf (.ref t) >>= _) _ _ s
  refine wpAny_bind (tupleItemsOf_ ht ?_)
  refine wpAny_bind (forIn_array_ _ (fun rest b s' => b.1 = none ∧ s' = s ∧ ∃ ms, StrsAre rest ms) _ ?_ ?_ items _ ⟨rfl, rfl, ys, hi⟩)
  · rintro y rest b s' ⟨hb, rfl, ms, hm⟩
    cases hm with
    | cons n tk hm' =>
      refine wpAny_bind (eqBool_str_none ?_)
      exact wpAny_pure ⟨rfl, rfl, _, hm'⟩
  · rintro ⟨b1, b2⟩ s' ⟨hb, rfl, ms, hm⟩
    simp only at hb
    subst hb
    exact wpAny_pure (by simpa using h)
theorem in_tuple_none {t : Addr} {items : Array Value} {ys : List Str} {Q : Value → Shared → Prop} (ht : IsTup s.heap t items) (hi : StrsAre items.toList ys)
    (h : Q (.bool false) s) : wpAny (model prog w) A (compareOp .In .none (.ref t)) Q E s := by
  show wpAny _ _ (do return .bool (← contains (.ref t) .none)) Q E s
  refine wpAny_bind ?_
  unfold contains
  refine wpAny_holding ?_
  refine wpAny_bind (wpAny_specialOf ht.typeIs slot_tuple_contains.lookup ?_)
  rw [if_neg (by decide)]
  exact wpAny_bind (wpAny_callSpecialUnlessNone?_slot (name := Str.ofString "__contains__") ht.typeIs slot_tuple_contains
    (wpAny_call_entry slot_tuple_contains ht.typeIs entry_tuple_contains (tuple_contains_none ht hi ⟨_, rfl, wpAny_truthy_bool (wpAny_pure h)⟩) (args_tuple_contains _ _)))
theorem in37o {Q : Value → Shared → Prop} (X : (K1 w.params).In h₀) (hk : ∀ b o, h₀.get? b = some o → s.heap.get? b = some o) (h : Q (.bool false) s) : wpAny (model prog w) A (compareOp .In .none (.ref 37)) Q E s := by
  obtain ⟨items, h1, h2⟩ := tup37 X hk
  exact in_tuple_none h1 h2 h
theorem in32o {Q : Value → Shared → Prop} (X : (K1 w.params).In h₀) (hk : ∀ b o, h₀.get? b = some o → s.heap.get? b = some o) (h : Q (.bool false) s) : wpAny (model prog w) A (compareOp .In .none (.ref 32)) Q E s := by
  obtain ⟨items, h1, h2⟩ := tup32 X hk
  exact in_tuple_none h1 h2 h
def repL : List (Int × Nat) := [(0, 65533), (13, 13), (128, 8364), (129, 129), (130, 8218), (131, 402), (132, 8222), (133, 8230), (134, 8224), (135, 8225), (136, 710), (137, 8240), (138, 352), (139, 8249), (140, 338), (141, 141), (142, 381), (143, 143), (144, 144), (145, 8216), (146, 8217), (147, 8220), (148, 8221), (149, 8226), (150, 8211), (151, 8212), (152, 732), (153, 8482), (154, 353), (155, 8250), (156, 339), (157, 157), (158, 382), (159, 376)]
def repD : List (Int × PyData) := repL.map fun p => (p.1, .str ⟨#[p.2]⟩)
theorem rep_keyed (X : (K1 w.params).In h₀) : KTD.Keyed h₀ 46 repD :=
  KTD.keyed_of_look (get := fun a => List.lookup a (K1 w.params)) (fun a o e => X a o e) (by with_unfolding_all rfl)
theorem repD_in (n : Int) : KTD.inKeys n repD = KTD.inKeys n repL := by
  unfold repD
  induction repL with
  | nil => rfl
  | cons p r ih => rw [List.map_cons]; show (decide (n = p.1) || _) = (decide (n = p.1) || _); rw [ih]
theorem repD_at (n : Int) : KTD.datumAt n repD = (KTD.datumAt n repL).map fun c => .str ⟨#[c]⟩ := by
  unfold repD
  induction repL with
  | nil => rfl
  | cons p r ih =>
    rw [List.map_cons]
    show (if decide (n = p.1) = true then some _ else _) = Option.map _ (if decide (n = p.1) = true then some p.2 else _)
    split
    · rfl
    · exact ih
theorem in46y {n : Int} {c : Nat} {t : Tok} {Q : Value → Shared → Prop} (X : (K1 w.params).In h₀) (hk : ∀ b o, h₀.get? b = some o → s.heap.get? b = some o) (hc : KTD.datumAt n repL = some c) (h : Q (.bool true) { s with toks := s.toks + 1 }) : wpAny (model prog w) A (compareOp .In (.int n t) (.ref 46)) Q E s :=
  KTD.in_keyed (rep_keyed X) hk (by rw [repD_in, ← KTD.isSome_datumAt, hc]; exact h)
theorem in46n {n : Int} {t : Tok} {Q : Value → Shared → Prop} (X : (K1 w.params).In h₀) (hk : ∀ b o, h₀.get? b = some o → s.heap.get? b = some o) (hc : KTD.datumAt n repL = none) (h : Q (.bool false) { s with toks := s.toks + 1 }) : wpAny (model prog w) A (compareOp .In (.int n t) (.ref 46)) Q E s :=
  KTD.in_keyed (rep_keyed X) hk (by rw [repD_in, ← KTD.isSome_datumAt, hc]; exact h)
theorem item46 {value slice : PySem.Expr} {n : Int} {c : Nat} {t : Tok} {Q : Value → Shared → Prop} (X : (K1 w.params).In h₀) (hk : ∀ b o, h₀.get? b = some o → s.heap.get? b = some o) (hc : KTD.datumAt n repL = some c) (h : ∀ t', Q (.str ⟨#[c]⟩ t') { s with toks := s.toks + 1 })
    (hs : subscripted slice false (.ref 46) (.int n t) = operate [.ref 46, .int n t] (getItem (.ref 46) (.int n t)) := by with_unfolding_all rfl) (hg : ∀ r, letTemporaryGo value (.ref 46) r = pure () := by intro _; with_unfolding_all rfl) :
    wpAny (model prog w) A (subscriptTail value slice (.ref 46) (.int n t)) Q E s :=
  item_intTab ((rep_keyed X).keep hk prog w) (by rw [KTD.lookup_keyed, repD_at, hc]; rfl) (fun v hv => by
    obtain ⟨u, e⟩ := Flat.str_inv hv
    subst e
    exact h u) hs hg
end
end
local macro_rules | `(tactic| k_ne) => `(tactic| first | exact Dif.ne (by assumption) | exact Dif.en (by assumption) | (refine neN ?_; (try dsimp only); omega))
local macro_rules | `(tactic| walk_at $s:str) => `(tactic| k_extra $s)
section
open PySem PySem.W PySem.Calls PyProof.Rows
section
variable {prog : Program} {w : World} {A : Around} {E : Value → Shared → Prop} {s : Shared} {x y : Str} {t u v v' : Tok} {i j : Int} {Q : Value → Shared → Prop}
open PySem.Builtin PySem.Builtin.Str
def hiIndex (len : Nat) (j : Int) : Nat := min (fromIndex len j) len
theorem gives_count4 (x y : Str) (i j : Int) (t u v v' : Tok) : Gives («str.count» ⟨[.str x t, .str y u, .int i v, .int j v'], []⟩) (.int (occurrences x y (fromIndex x.length i) (hiIndex x.length j) (x.length + 1)).length) := .of_eq rfl
theorem count4 (hq : Q (.int (occurrences x y (fromIndex x.length i) (hiIndex x.length j) (x.length + 1)).length s.toks) { s with toks := s.toks + 1 }) :
    wpAny (model prog w) A (call (.builtin "str.count") [.str x t, .str y u, .int i v, .int j v']) Q E s :=
  call_gives F.slot_str_count (typeIs_str _ _ _) F.entry_str_count (F.args_str_count_4 _ _ _ _) (gives_count4 x y i j t u v v') hq
def rfind4v (x y : Str) (i j : Int) : Int := match lastOccurrence x y (fromIndex x.length i) (hiIndex x.length j) with | some k => (k : Int) | none => -1
theorem gives_rfind4 (x y : Str) (i j : Int) (t u v v' : Tok) : Gives («str.rfind» ⟨[.str x t, .str y u, .int i v, .int j v'], []⟩) (.int (rfind4v x y i j)) := by
  show Gives (match lastOccurrence x y (fromIndex x.length i) (hiIndex x.length j) with | some k => retInt k | none => (do rule "str.rfind.not-found"; retInt (-1))) _
  unfold rfind4v
  cases lastOccurrence x y (fromIndex x.length i) (hiIndex x.length j) with
  | none => exact .rule (.of_eq rfl)
  | some k => exact .of_eq rfl
theorem rfind4 (hq : Q (.int (rfind4v x y i j) s.toks) { s with toks := s.toks + 1 }) :
    wpAny (model prog w) A (call (.builtin "str.rfind") [.str x t, .str y u, .int i v, .int j v']) Q E s :=
  call_gives F.slot_str_rfind (typeIs_str _ _ _) F.entry_str_rfind (F.args_str_rfind_4 _ _ _ _) (gives_rfind4 x y i j t u v v') hq
end
/-- the stream's own values -/
structure SV where
  rce : Value
  nl : Value
  ds : Value
  C : Str
  tC : Tok
  sz : Int
  tS : Tok
  ofs : Int
  tO : Tok
  er : Value
  pl : Int
  tL : Tok
  pc : Int
  tP : Tok
  bf : Value
def SEs (P : Params) (k : Nat → Tok) (v : SV) : List DictEntry :=
  [⟨PyData.keyHash P "reportCharacterErrors", .str "reportCharacterErrors" (k 0), v.rce⟩,
   ⟨PyData.keyHash P "newLines", .str "newLines" (k 1), v.nl⟩,
   ⟨PyData.keyHash P "dataStream", .str "dataStream" (k 2), v.ds⟩,
   ⟨PyData.keyHash P "chunk", .str "chunk" (k 3), .str v.C v.tC⟩,
   ⟨PyData.keyHash P "chunkSize", .str "chunkSize" (k 4), .int v.sz v.tS⟩,
   ⟨PyData.keyHash P "chunkOffset", .str "chunkOffset" (k 5), .int v.ofs v.tO⟩,
   ⟨PyData.keyHash P "errors", .str "errors" (k 6), v.er⟩,
   ⟨PyData.keyHash P "prevNumLines", .str "prevNumLines" (k 7), .int v.pl v.tL⟩,
   ⟨PyData.keyHash P "prevNumCols", .str "prevNumCols" (k 8), .int v.pc v.tP⟩,
   ⟨PyData.keyHash P "_bufferedCharacter", .str "_bufferedCharacter" (k 9), v.bf⟩]
abbrev SLed (P : Params) (y dy : Addr) (k : Nat → Tok) (v : SV) : List (Addr × Obj) := [(y, instObj 166 dy), (dy, dictOf (SEs P k v) 10)]
def nlOf (v : SV) (i : Int) : Int := v.pl + ((Builtin.Str.occurrences v.C "\n" (fromIndex v.C.length 0) (hiIndex v.C.length i) (v.C.length + 1)).length : Int)
def colOf (v : SV) (i : Int) : Int := if rfind4v v.C "\n" 0 i = -1 then v.pc + i else i - (rfind4v v.C "\n" 0 i + 1)
abbrev S1 (w : World) := Spec r1.row.prog w (K1 w.params) q1
theorem pos_spec {w : World} (y dy : Addr) (k : Nat → Tok) (v : SV) (i : Int) (ti : Tok) :
    S1 w 119 [.ref y, .int i ti] (SLed w.params y dy k v) 1 8 (fun r P' => ∃ D x1 t1 x2 t2, r = .ref D ∧ x1 = nlOf v i ∧ x2 = colOf v i ∧ P' = (D, tupO [.int x1 t1, .int x2 t2]) :: SLed w.params y dy k v ∧ Dif y D ∧ Dif dy D) := by
  k_with_none
  (k_with "call builtin:str.count" => (k_here; (with_reducible show wpAny _ _ (call (Value.builtin "str.count") [Value.str _ _, Value.str _ _, Value.int _ _, Value.int _ _]) _ _ _); refine count4 ?_))
  (k_with "call builtin:str.rfind" => (k_here; (with_reducible show wpAny _ _ (call (Value.builtin "str.rfind") [Value.str _ _, Value.str _ _, Value.int _ _, Value.int _ _]) _ _ _); refine rfind4 ?_))
  unfold S1; k_fill
  intro loose mean mg mb dp un gd cn cs a ccd cl outer A₀ base h₀ L m s Q E own B F X N O nd T hk hd hu hret
  replace nd := apart_of nd
  simp only [List.map_cons, List.map_nil, Apart, NeAll, and_true] at nd
  repeat (with_reducible rename _ ∧ _ => hh9; obtain ⟨_, _⟩ := hh9)
  k_dflt (refine' code_part (binds := [(Str.ofString "self", .ref y), (Str.ofString "offset", .int i ti)]) B F X N O T ?kA ?kF ?kK ?k6 ?k7 ?k8 ?k9 ?kB ?_ ?c2 ?c3 ?c4 ?c5; (case kA => exact rfl); (case kF => exact rfl); (case kK => exact hk); (case k6 => k_is); (case k7 => k_is); (case k8 => ktr_room); (case k9 => exact BindsTo.of_eq rfl); (case c5 => decide); (case kB => exact locs rfl); (case c2 => exact rfl); (case c3 => exact rfl); (case c4 => exact rfl); k_whole; intro g' L' h' FG' F' N' B' X' T' S' lt'; (try dsimp only); (try k_fold))
  k_steps
  all_goals ((rename Stay own _ => hS); (rename News h₀ L _ ((_, _) :: _) => kN); (rename News g' L' _ ((_, _) :: _) => kN'); refine spec_end hret N S' kN' (by k_asm) kN hS ?_)
  · (rename rfind4v _ _ _ _ = -1 => hc)
    exact ⟨_, _, _, _, _, rfl, rfl, (if_pos hc).symm, rfl, Dif.mk (by k_ne), Dif.mk (by k_ne)⟩
  · (rename ¬ rfind4v _ _ _ _ = -1 => hc)
    exact ⟨_, _, _, _, _, rfl, rfl, (if_neg hc).symm, rfl, Dif.mk (by k_ne), Dif.mk (by k_ne)⟩
end
local macro_rules | `(tactic| k_upd) => `(tactic| first | (refine' Pick.head ?a; (case a => k_all)) | (refine' Pick.tail ?a ?b; (case a => k_ne); (case b => k_upd)))
section
open PySem PySem.W PySem.Calls PyProof.Rows
theorem position_spec {w : World} (y dy : Addr) (k : Nat → Tok) (v : SV) :
    S1 w 126 [.ref y] (SLed w.params y dy k v) 2 16 (fun r P' => ∃ D D' x1 t1 x2 t2 o, r = .ref D ∧ x1 = nlOf v v.ofs + 1 ∧ x2 = colOf v v.ofs ∧ P' = (D, tupO [.int x1 t1, .int x2 t2]) :: (D', o) :: SLed w.params y dy k v ∧ Dif y D ∧ Dif dy D) := by
  k_with_none
  (k_with "call ref" => (k_here; k_dflt (refine' spec_use (pos_spec _ _ _ _ _ _) ?Se ?B ?F ?X ?N ?T ?hk ?hd ?hu ?_; (case N => k_asm); (case Se => exact Sel.cons (by k_upd) (Sel.cons (by k_upd) Sel.nil)); (case B => k_asm); (case F => k_asm); (case X => k_asm); (case T => k_asm); (case hk => first | exact rfl | assumption); (case hd => ktr_room); (case hu => ktr_units); k_whole); intro r' P' h' tk' hp' F' N' O'; obtain ⟨D', x1', t1', x2', t2', e1', e2', e3', e4', d1', d2'⟩ := hp'; subst e1' e2' e3' e4'; simp only [List.cons_append, List.nil_append] at N'; replace O' := offN_of O'; simp only [List.map_cons, List.map_nil, OffN, NeAll, and_true] at O'; (repeat (with_reducible rename _ ∧ _ => hh9; obtain ⟨_, _⟩ := hh9))))
  unfold S1; k_fill
  intro loose mean mg mb dp un gd cn cs a ccd cl outer A₀ base h₀ L m s Q E own B F X N O nd T hk hd hu hret
  replace nd := apart_of nd
  simp only [List.map_cons, List.map_nil, Apart, NeAll, and_true] at nd
  repeat (with_reducible rename _ ∧ _ => hh9; obtain ⟨_, _⟩ := hh9)
  k_dflt (refine' code_part (binds := [(Str.ofString "self", .ref y)]) B F X N O T ?kA ?kF ?kK ?k6 ?k7 ?k8 ?k9 ?kB ?_ ?c2 ?c3 ?c4 ?c5; (case kA => exact rfl); (case kF => exact rfl); (case kK => exact hk); (case k6 => k_is); (case k7 => k_is); (case k8 => ktr_room); (case k9 => exact BindsTo.of_eq rfl); (case c5 => decide); (case kB => exact locs rfl); (case c2 => exact rfl); (case c3 => exact rfl); (case c4 => exact rfl); k_whole; intro g' L' h' FG' F' N' B' X' T' S' lt'; (try dsimp only); (try k_fold))
  k_steps
  all_goals ((rename Stay own _ => hS); (rename News h₀ L _ ((_, _) :: _) => kN); (rename News g' L' _ ((_, _) :: _) => kN'); refine spec_end hret N S' kN' (by k_asm) kN hS ?_)
  exact ⟨_, _, _, _, _, _, _, rfl, rfl, rfl, rfl, Dif.mk (by k_ne), Dif.mk (by k_ne)⟩
end
section
open PySem PySem.W PySem.Calls PyProof.Rows
def Inval (n : Int) : Prop := (1 ≤ n ∧ n ≤ 8) ∨ n = 11 ∨ (14 ≤ n ∧ n ≤ 31) ∨ (127 ≤ n ∧ n ≤ 159) ∨ (64976 ≤ n ∧ n ≤ 65007) ∨ (Int.fmod n 65536 = 65534 ∨ Int.fmod n 65536 = 65535) ∨ (55296 ≤ n ∧ n ≤ 57343)
theorem inval_spec {w : World} (n : Int) (t : Tok) (h0 : ¬ Inval n) : S1 w 84 [.int n t] [] 1 8 (fun r P' => r = .bool false) := by
  k_with_none
  unfold S1; k_fill
  intro loose mean mg mb dp un gd cn cs a ccd cl outer A₀ base h₀ L m s Q E own B F X N O nd T hk hd hu hret
  unfold Inval at h0
  k_dflt (refine' code_part (binds := [(Str.ofString "codepoint", .int n t)]) B F X N O T ?kA ?kF ?kK ?k6 ?k7 ?k8 ?k9 ?kB ?_ ?c2 ?c3 ?c4 ?c5; (case kA => exact rfl); (case kF => exact rfl); (case kK => exact hk); (case k6 => k_is); (case k7 => k_is); (case k8 => ktr_room); (case k9 => exact BindsTo.of_eq rfl); (case c5 => decide); (case kB => exact locs rfl); (case c2 => exact rfl); (case c3 => exact rfl); (case c4 => exact rfl); k_whole; intro g' L' h' FG' F' N' B' X' T' S' lt'; (try dsimp only); (try k_fold))
  k_steps
  all_goals ((rename Stay own _ => hS); refine spec_end0 hret N (by k_asm) hS (congrArg Value.bool ?_))
  all_goals first
    | (simp only [decide_eq_false_iff_not]; omega)
    | (simp only [beq_eq_false_iff_ne, ne_eq]; omega)
    | (simp only [List.any_cons, List.any_nil, Bool.or_false, Bool.or_eq_false_iff, beq_eq_false_iff_ne, ne_eq]; omega)

theorem codes_mem {x : Str} {pre post : List Int} {n : Nat} (h : KStt.codes x = pre ++ (n : Int) :: post) : n ∈ x.cps.toList := by
  have : (n : Int) ∈ KStt.codes x := h ▸ List.mem_append_right _ (.head _)
  unfold KStt.codes at this
  obtain ⟨c, hc, e⟩ := List.mem_map.mp this
  have : c = n := by omega
  exact this ▸ hc
theorem ucs4_spec {w : World} (y : Value) (D : Str) (t : Tok) (h0 : ∀ n ∈ D.cps.toList, ¬ Inval n) : S1 w 148 [y, .str D t] [] 3 24 (fun r P' => r = .none) := by
  (k_with "call ref" => (k_here; k_dflt (refine' spec_use (inval_spec _ _ ?hi) Sel.nil ?B ?F ?X ?N ?T ?hk ?hd ?hu ?_; (case N => k_asm); (case hi => assumption); (case B => k_asm); (case F => k_asm); (case X => k_asm); (case T => k_asm); (case hk => first | exact rfl | assumption); (case hd => ktr_room); (case hu => ktr_units); k_whole); intro r' P' h' tk' hp' F' N' O'; subst hp'; replace N' := News.drop N'; clear O'))
  (k_with "exec For Name Name cons nil" => (k_here; (rename Fr _ _ _ _ => lF'); (with_unfolding_all refine' For_invVF lF' ?k1 ?k2 ?_; (case k1 => exact rfl); (case k2 => exact rfl); k_whole)))
  unfold S1; k_fill
  intro loose mean mg mb dp un gd cn cs a ccd cl outer A₀ base h₀ L m s Q E own B F X N O nd T hk hd hu hret
  k_dflt (refine' code_part (binds := [(Str.ofString "self", y), (Str.ofString "data", .str D t)]) B F X N O T ?kA ?kF ?kK ?k6 ?k7 ?k8 ?k9 ?kB ?_ ?c2 ?c3 ?c4 ?c5; (case kA => exact rfl); (case kF => exact rfl); (case kK => exact hk); (case k6 => k_is); (case k7 => k_is); (case k8 => ktr_room); (case k9 => exact BindsTo.of_eq rfl); (case c5 => decide); (case kB => exact locs rfl); (case c2 => exact rfl); (case c3 => exact rfl); (case c4 => exact rfl); k_whole; intro g' L' h' FG' F' N' B' X' T' S' lt'; (try dsimp only); (try k_fold))
  k_steps
  (with_unfolding_all refine' KStt.kst_text (σ := Unit) (fun _ => []) (fun _ => []) (fun _ => True) [] (fun _ _ => True) () ?hh ?F ?N trivial ?k trivial ?turn ?done)
  case hh => exact rfl
  case F => k_asm
  case N => exact News.nil
  case k => exact fun _ h => nomatch h
  case turn =>
    intro c pre post n t1 u h2 tk2 own2 hcd hoff _ _ F2 N2
    have hi := h0 n (codes_mem hcd)
    dsimp only [List.nil_append] at N2
    (try k_fold)
    k_steps
    refine InvEndN.intro (nx := []) (by k_asm) (by k_asm) ⟨(), rfl, trivial, (fun _ h => (nomatch h)), ?st, trivial⟩ rfl (fun _ h => nomatch h) (fun _ h => h)
    intro z h1 _ _
    simp [h1, kstB]
  case done =>
    intro c u h2 tk2 _ _ F2 N2
    k_steps
    (rename Stay own _ => hS)
    exact spec_end0 hret N (by k_asm) hS rfl
end
section
open PySem PySem.W PyProof.Rows
/-- the stream v stands at place q of the text T; its chunk is T[a:b] -/
structure At (z rm : Addr) (er : Value) (T : Str) (v : SV) (a b q : Nat) : Prop where
  rce : v.rce = .ref rm
  ds : v.ds = .ref z
  bf : v.bf = .none
  er : v.er = er
  hb : b ≤ T.length
  ha : a ≤ q
  hq : q ≤ b
  C : v.C.cps.toList = (T.cps.toList.take b).drop a
  sz : v.sz = (b : Int) - a
  ofs : v.ofs = (q : Int) - a
  pl : v.pl = lnOf (T.cps.toList.take a)
  pc : v.pc = clOf (T.cps.toList.take a)
theorem len_list (T : Str) : T.cps.toList.length = T.length := by simp [Str.length]
theorem At.len {z rm : Addr} {er : Value} {T : Str} {v : SV} {a b q : Nat} (h : At z rm er T v a b q) : v.C.length = b - a := by
  rw [← len_list, h.C, List.length_drop, List.length_take, len_list]
  have := h.hb
  omega
theorem At.cut {z rm : Addr} {er : Value} {T : Str} {v : SV} {a b q : Nat} (h : At z rm er T v a b q) (i : Nat) (hi : i ≤ b - a) : T.cps.toList.take (a + i) = T.cps.toList.take a ++ v.C.cps.toList.take i := by
  rw [h.C]
  apply List.ext_getElem?
  intro n
  have l : (T.cps.toList.take a).length = a := by rw [List.length_take, len_list]; have := h.hb; have := h.ha; have := h.hq; omega
  rw [List.getElem?_append, l, List.getElem?_take]
  by_cases h1 : n < a
  · rw [if_pos h1, List.getElem?_take, if_pos h1, if_pos (by omega)]
  · rw [if_neg h1, List.getElem?_take, List.getElem?_drop, List.getElem?_take]
    by_cases h2 : n < a + i
    · rw [if_pos h2, if_pos (by omega), if_pos (by omega)]
      congr 1; omega
    · rw [if_neg h2, if_neg (by omega)]
theorem from0 (n : Nat) : fromIndex n 0 = 0 := rfl
theorem hi_of {n : Nat} {i : Nat} (h : i ≤ n) : hiIndex n i = i := by
  unfold hiIndex fromIndex
  rw [if_neg (by omega)]
  omega
theorem At.nl {z rm : Addr} {er : Value} {T : Str} {v : SV} {a b q : Nat} (h : At z rm er T v a b q) (i : Nat) (hi : i ≤ b - a) : nlOf v i = lnOf (T.cps.toList.take (a + i)) := by
  have hl : i ≤ v.C.length := by rw [h.len]; exact hi
  unfold nlOf
  rw [from0, hi_of hl, occ_count _ _ hl, h.cut i hi, lnOf_append, h.pl]
  omega
theorem At.col {z rm : Addr} {er : Value} {T : Str} {v : SV} {a b q : Nat} (h : At z rm er T v a b q) (i : Nat) (hi : i ≤ b - a) : colOf v i = clOf (T.cps.toList.take (a + i)) := by
  have hl : i ≤ v.C.length := by rw [h.len]; exact hi
  unfold colOf rfind4v
  rw [from0, hi_of hl, h.cut i hi, h.pc]
  have ll : (v.C.cps.toList.take i).length = i := by rw [List.length_take, len_list]; omega
  rcases last_find v.C i hl with ⟨e, hn⟩ | ⟨k, l, m, e, e2, e3, hn⟩
  · rw [e, clOf_append_no hn, ll]
    simp
  · rw [e, e2, ← List.append_assoc, clOf_after hn]
    dsimp only
    rw [if_neg (by omega)]
    rw [e2, List.length_append, List.length_cons] at ll
    omega
/-- what may stand in the text -/
def OkC (c : Nat) : Prop := ¬ Inval c ∧ c ≠ 13
structure TxtOk (T : Str) : Prop where
  len : T.length ≤ 5000
  ok : ∀ c ∈ T.cps.toList, OkC c
theorem slice_list (T : Str) {a b : Nat} (hab : a ≤ b) (hb : b ≤ T.length) : (Txt.slice T (some (a : Int)) (some (b : Int))).cps.toList = (T.cps.toList.take b).drop a := by
  have h := PyProof.Rows.slice_closes (x := T) (i := a) (j := b) ⟨by omega, by omega, by rw [len_list]; omega⟩
  rw [beq_iff_eq] at h
  rw [h]
  show ((T.cps.toList.drop (a : Int).toNat).take ((b : Int) - a).toNat) = _
  have e1 : (a : Int).toNat = a := rfl
  have e2 : ((b : Int) - a).toNat = b - a := by omega
  rw [e1, e2, List.drop_take]
theorem idx_clip (l : Option Int) {n : Nat} {j : Int} (h : (n : Int) ≤ j) : Builtin.Str.strSliceIndices l (some j) 1 n = Builtin.Str.strSliceIndices l (some (n : Int)) 1 n := by
  have e1 : (if j < 0 then j + (n : Int) else j) = j := if_neg (by omega)
  have e2 : (if (n : Int) < 0 then (n : Int) + (n : Int) else n) = n := if_neg (by omega)
  unfold Builtin.Str.strSliceIndices
  simp only [e1, e2, show (1 : Int) > 0 by decide, if_true]
  have e3 : max 0 (min j (n : Int)) = (n : Int) := by omega
  have e4 : max 0 (min (n : Int) (n : Int)) = (n : Int) := by omega
  rw [e3, e4]
theorem slice_clip (T : Str) (l : Option Int) {j : Int} (h : (T.length : Int) ≤ j) : Txt.slice T l (some j) = Txt.slice T l (some (T.length : Int)) := by
  unfold Txt.slice
  rw [idx_clip l h]
theorem slice_rest {T : Str} {b : Nat} (hb : b ≤ T.length) (hl : T.length ≤ 5000) : (Txt.slice T (some (b : Int)) (some ((b : Int) + 10240))).cps.toList = T.cps.toList.drop b := by
  rw [slice_clip T _ (by omega), slice_list T hb (Nat.le_refl _), ← len_list, List.take_length]
end
section
open PySem PySem.W PyProof.Rows
structure RdOk (T d : Str) (p : Int) : Prop where
  hT : ∀ c ∈ d.cps.toList, ¬ Inval c
  h13 : ∀ c ∈ d.cps.toList, c ≠ 13
  hp : 0 ≤ p
  hp2 : p ≤ T.length
  hT2 : T.length ≤ 1000000
  hd2 : d.length ≤ 1000000
  hl1 : (((Txt.item d (-1)).cps.getD 0 0 : Nat) : Int) ≠ 13
  hl2 : ¬ (55296 ≤ (((Txt.item d (-1)).cps.getD 0 0 : Nat) : Int) ∧ (((Txt.item d (-1)).cps.getD 0 0 : Nat) : Int) ≤ 56319)
  ho1 : (Builtin.Str.occurrences d (Str.ofString "\r\n") 0 d.length (d.length + 1)).isEmpty = true
  ho2 : (Builtin.Str.occurrences d (Str.ofString "\r") 0 d.length (d.length + 1)).isEmpty = true
theorem no_head {x y : Str} {c : Nat} {r : List Nat} (hy : y.cps.toList = c :: r) (h : ∀ e ∈ x.cps.toList, e ≠ c) (i : Nat) : Builtin.Str.subAt x y i = false := by
  rw [Bool.eq_false_iff]
  intro hs
  have hs' : (x.cps.extract i (i + y.length)) = y.cps := by simpa [Builtin.Str.subAt] using hs
  have h1 : c ∈ (x.cps.extract i (i + y.length)).toList := by rw [hs', hy]; exact .head _
  rw [Array.toList_extract] at h1
  exact h c (List.mem_of_mem_drop (List.mem_of_mem_take (by simpa [List.extract] using h1))) rfl
theorem no_occ {x y : Str} {c : Nat} {r : List Nat} (hy : y.cps.toList = c :: r) (h : ∀ e ∈ x.cps.toList, e ≠ c) (n : Nat) : (Builtin.Str.occurrences x y 0 x.length n).isEmpty = true := by
  rw [PySem.W.occ_nil_of_no (lim := n) (h := fun i _ => no_head hy h i)]
  rfl
theorem item_mem (d : Str) (i : Int) : (Txt.item d i).cps.getD 0 0 = 0 ∨ (Txt.item d i).cps.getD 0 0 ∈ d.cps.toList := by
  have e : (Txt.item d i).cps.getD 0 0 = (Txt.charAt d i).getD 0 := rfl
  rw [e]
  cases h : Txt.charAt d i with
  | none => exact .inl rfl
  | some c =>
    refine .inr ?_
    unfold Txt.charAt at h
    cases hs : seqIndex? i d.length with
    | none => rw [hs] at h; cases h
    | some j =>
      rw [hs] at h
      have h' : d.cps[j]? = some c := h
      exact Array.mem_toList_iff.mpr (Array.mem_of_getElem? h')
theorem rdOk {T d : Str} {b : Nat} (H : TxtOk T) (hb : b ≤ T.length) (hd : d = Txt.slice T (some (b : Int)) (some ((b : Int) + 10240))) : RdOk T d b := by
  have hl := H.len
  have hc : ∀ c ∈ d.cps.toList, OkC c := fun c hm => H.ok c (by
    rw [hd, slice_rest hb hl] at hm
    exact List.mem_of_mem_drop hm)
  have hlen : d.length ≤ T.length := by
    rw [← len_list d, hd, slice_rest hb hl, List.length_drop, len_list]; omega
  have hi := item_mem d (-1)
  refine ⟨fun c h => (hc c h).1, fun c h => (hc c h).2, by omega, by omega, by omega, by omega, ?_, ?_, ?_, ?_⟩
  · rcases hi with h | h
    · rw [h]; decide
    · have := (hc _ h).2
      omega
  · rcases hi with h | h
    · rw [h]; decide
    · have := (hc _ h).1
      unfold Inval at this
      omega
  · exact no_occ (c := 13) (r := [10]) (by decide +kernel) (fun e h => (hc e h).2) _
  · exact no_occ (c := 13) (r := []) (by decide +kernel) (fun e h => (hc e h).2) _
end
section
open PySem PySem.W PySem.Calls PyProof.Rows
def TEs (P : Params) (k0 k1 : Tok) (T : Str) (tT : Tok) (p : Int) (tp : Tok) : List DictEntry :=
  [⟨PyData.keyHash P "text", .str "text" k0, .str T tT⟩, ⟨PyData.keyHash P "place", .str "place" k1, .int p tp⟩]
abbrev TLed (P : Params) (z dz : Addr) (k0 k1 : Tok) (T : Str) (tT : Tok) (p : Int) (tp : Tok) : List (Addr × Obj) := [(z, instObj 73 dz), (dz, dictOf (TEs P k0 k1 T tT p tp) 2)]
theorem read_spec {w : World} (z dz : Addr) (k0 k1 tT tp tn : Tok) (T d : Str) (p n : Int) (hd0 : d = Txt.slice T (some p) (some (p + n))) (hp : 0 ≤ p) (hp2 : p ≤ T.length) (hn : 0 ≤ n) (hT2 : T.length ≤ 1000000) (hn2 : n ≤ 1000000) :
    S1 w 70 [.ref z, .int n tn] (TLed w.params z dz k0 k1 T tT p tp) 2 16 (fun r P' => ∃ t p' t', r = .str d t ∧ p' = p + d.length ∧ P' = TLed w.params z dz k0 k1 T tT p' t') := by
  k_with_none
  (k_with "callWith" => (k_here; (with_reducible show wpAny _ _ (callWith _ (Value.builtin _) [_] _ _) _ _ _); refine callWith_method1 ?_))
  unfold S1; k_fill
  intro loose mean mg mb dp un gd cn cs a ccd cl outer A₀ base h₀ L m s Q E own B F X N O nd T hk hd hu hret
  replace nd := apart_of nd
  simp only [List.map_cons, List.map_nil, Apart, NeAll, and_true] at nd
  repeat (with_reducible rename _ ∧ _ => hh9; obtain ⟨_, _⟩ := hh9)
  k_dflt (refine' code_part (binds := [(Str.ofString "self", .ref z), (Str.ofString "size", .int n tn)]) B F X N O T ?kA ?kF ?kK ?k6 ?k7 ?k8 ?k9 ?kB ?_ ?c2 ?c3 ?c4 ?c5; (case kA => exact rfl); (case kF => exact rfl); (case kK => exact hk); (case k6 => k_is); (case k7 => k_is); (case k8 => ktr_room); (case k9 => first | exact BindsTo.of_eq rfl | exact binds_K (by k_in) rfl (by k_is) rfl rfl rfl); (case c5 => decide); (case kB => exact locs rfl); (case c2 => exact rfl); (case c3 => exact rfl); (case c4 => exact rfl); k_whole; intro g' L' h' FG' F' N' B' X' T' S' lt'; (try dsimp only); (try k_fold))
  k_steps
  all_goals ((rename Stay own _ => hS); (rename News h₀ L _ ((_, _) :: _) => kN); (rename News g' L' _ ((_, _) :: _) => kN'); refine spec_end hret N S' kN' (by k_asm) kN hS ?_)
  subst hd0
  exact ⟨_, _, _, rfl, rfl, rfl⟩
theorem replace_no {prog : Program} {w : World} {A : Around} {E : Value → Shared → Prop} {s : Shared} {x y z : Str} {t u v : Tok} {Q : Value → Shared → Prop} (ho : (Builtin.Str.occurrences x y 0 x.length (x.length + 1)).isEmpty = true) (hq : Q (.str x t) s) :
    wpAny (model prog w) A (call (.builtin "str.replace") [.str x t, .str y u, .str z v]) Q E s := by
  have e : ((Builtin.Str.occurrences x y 0 x.length (x.length + 1)).isEmpty || (y.length == 0 && z.length == 0)) = true := by rw [ho]; rfl
  refine call_gives F.slot_str_replace (typeIs_str _ _ _) F.entry_str_replace (F.args_str_replace_3 _ _ _) (gives_str_replace x y z t u v fun h => by rw [e] at h; cases h) ?_
  rw [if_pos e]
  exact hq
theorem News.left {h₀ h : Heap} {L : Addr} {P own : List (Addr × Obj)} (N : News h₀ L h (P ++ own)) : News h₀ L h P := fun p hp => N p (List.mem_append_left _ hp)
theorem News.part {h₀ h : Heap} {L : Addr} {a b : List (Addr × Obj)} (N : News h₀ L h a) (s : ∀ p ∈ b, p ∈ a) : News h₀ L h b := fun p hp => N p (s p hp)
structure Hold (p : Prop) : Prop where
  out : p
theorem fr_have {g h : Heap} {L : Addr} {m : Str → Option Value} {x : Str} {v : Value} (e : m x = some v) (F : Fr g L h m) : Fr g L h (fun y => if y = x then some v else m y) := by
  have : (fun y => if y = x then some v else m y) = m := by
    funext y
    by_cases c : y = x
    · rw [if_pos c, c, e]
    · rw [if_neg c]
  rw [this]; exact F
structure RcTo (v : SV) (d : Str) (v' : SV) : Prop where
  rce : v'.rce = v.rce
  nl : v'.nl = v.nl
  ds : v'.ds = v.ds
  C : v'.C = d
  sz : v'.sz = d.length
  ofs : v'.ofs = 0
  er : v'.er = v.er
  pl : v'.pl = nlOf v v.sz
  pc : v'.pc = colOf v v.sz
  bf : v'.bf = .none
theorem str_nil {d : Str} (h : (d.length : Int) = 0) : Str.ofString "" = d := by
  obtain ⟨c⟩ := d
  have : c.size = 0 := by show (c.size : Nat) = 0; have h' : ((c.size : Nat) : Int) = 0 := h; omega
  rw [Array.eq_empty_of_size_eq_zero this]
  rfl

noncomputable def rcF : Stmt := d1 15 7 true
def rcQual : Str := Str.ofString "HTMLUnicodeInputStream.readChunk"
theorem rc_tail {w : World} {sc : Scope} {body : List Stmt} (hsc : sc = fScope rcF) (hbd : body = (fBody rcF).drop 8) {dp un : Nat} {gd : Option (List Code)} {cn : Str} {cs : Scope} {L : Addr} {a : Addr} {ccd : Value} {cl : List (Str × Addr)} {outer : List Env} {g' : Heap} {L' : Addr} {m1 : Str → Option Value} {s : Shared} {Q : Flow → Shared → Prop} {E : Value → Shared → Prop} {loose : List Str} {mean : ExcName → Option Value} {mg mb : Str → Option Value} {base : Heap}
    {y dy z dz rm : Addr} {k : Nat → Tok} {nl : Value} {C : Str} {tC : Tok} {sz : Int} {tS : Tok} {ofs : Int} {tO : Tok} {er : Value} {pl : Int} {tL : Tok} {pc : Int} {tP : Tok} {k0 k1 tT tp td : Tok} {T d : Str} {p : Int} (hT : ∀ c ∈ d.cps.toList, ¬ Inval c) (hd2 : d.length ≤ 1000000)
    (ho1 : (Builtin.Str.occurrences d (Str.ofString "\r\n") 0 d.length (d.length + 1)).isEmpty = true) (ho2 : (Builtin.Str.occurrences d (Str.ofString "\r") 0 d.length (d.length + 1)).isEmpty = true)
    (lF : Fr g' L' s.heap (fun x => if x = Str.ofString "data" then some (.str d td) else if x = Str.ofString "self" then some (.ref y) else m1 x))
    (lN : News g' L' s.heap [(y, instObj 166 dy), (dy, dictOf (SEs w.params k ⟨.ref rm, nl, .ref z, C, tC, sz, tS, ofs, tO, er, pl, tL, pc, tP, .none⟩) 10), (z, instObj 73 dz), (dz, dictOf (TEs w.params k0 k1 T tT p tp) 2), (rm, methodObj (.ref 148) (.ref y))])
    (X' : (K1 w.params).In g') (T' : Top q1 loose mean mg mb g') (B' : Below (ktrTop dp un gd cn cs L a ccd cl outer) base (envX cn cs L a ccd cl :: outer) g') (hd : dp + 4 < recursionLimit) (hu : un + 32 < cLine)
    (nd : Apart [y, dy, z, dz, rm])
    (hQ : ∀ (h' : Heap) (tk : Nat) (m' : Str → Option Value) (tC' tS' : Tok), Fr g' L' h' m' → News g' L' h' [(y, instObj 166 dy), (dy, dictOf (SEs w.params k ⟨.ref rm, nl, .ref z, d, tC', (d.length : Int), tS', ofs, tO, er, pl, tL, pc, tP, .none⟩) 10), (z, instObj 73 dz), (dz, dictOf (TEs w.params k0 k1 T tT p tp) 2), (rm, methodObj (.ref 148) (.ref y))] → Q (.ret (.bool true)) { s with heap := h', toks := tk }) :
    wpAny (model r1.row.prog w) ((ktrTop dp un gd cn cs L a ccd cl outer).deeper (envOf rcQual sc L' 141 (.ref 140))) (execs body (envOf rcQual sc L' 141 (.ref 140))) Q E s := by
  (k_with "call ref" => (k_here; (with_reducible show wpAny _ _ (call (Value.ref 119) _) _ _ _); k_dflt (refine' spec_use (pos_spec _ _ _ _ _ _) ?Se ?B ?F ?X ?N ?T ?hk ?hd ?hu ?_; (case N => k_asm); (case Se => exact Sel.cons (by k_upd) (Sel.cons (by k_upd) Sel.nil)); (case B => k_asm); (case F => k_asm); (case X => k_asm); (case T => k_asm); (case hk => first | exact rfl | assumption); (case hd => ktr_room); (case hu => ktr_units); k_whole); intro r' P' h' tk' hp' F' N' O'; obtain ⟨D', x1', t1', x2', t2', e1', e2', e3', e4', d1', d2'⟩ := hp'; subst e1' e4'; simp only [List.cons_append, List.nil_append] at N'; replace O' := offN_of O'; simp only [List.map_cons, List.map_nil, OffN, NeAll, and_true] at O'; (repeat (with_reducible rename _ ∧ _ => hh9; obtain ⟨_, _⟩ := hh9))))
  (k_with "call ref" => (k_here; (with_reducible show wpAny _ _ (call (Value.ref 70) _) _ _ _); k_dflt (refine' spec_use (read_spec _ _ _ _ _ _ _ _ ?d _ _ ?hd0 ?hp ?hp2 ?hn ?hT2 ?hn2) ?Se ?B ?F ?X ?N ?T ?hk ?hd ?hu ?_; (case N => k_asm); (case Se => exact Sel.cons (by k_upd) (Sel.cons (by k_upd) Sel.nil)); (case hd0 => assumption); (case hp => assumption); (case hp2 => assumption); (case hn => assumption); (case hT2 => assumption); (case hn2 => assumption); (case B => k_asm); (case F => k_asm); (case X => k_asm); (case T => k_asm); (case hk => first | exact rfl | assumption); (case hd => ktr_room); (case hu => ktr_units); k_whole); intro r' P' h' tk' hp' F' N' O'; obtain ⟨t1', x1', t2', e1', e2', e4'⟩ := hp'; subst e1' e2' e4'; simp only [List.cons_append, List.nil_append] at N'; replace O' := offN_of O'; simp only [List.map_cons, List.map_nil, OffN, NeAll, and_true] at O'; (repeat (with_reducible rename _ ∧ _ => hh9; obtain ⟨_, _⟩ := hh9))))
  (k_with "call builtin:str.replace" => (k_here; refine replace_no (by assumption) ?_))
  (k_with "truthy ref" => (k_here; k_dflt (refine' truthy_meth ?N ?hx ?_; (case N => k_asm); (case hx => k_mem))))
  (k_with "call ref" => (k_here; k_dflt (refine' spec_meth (ucs4_spec _ _ _ ?hi) Sel.nil ?B ?F ?X ?N ?hx ?T ?hk ?hd ?hu ?_; (case N => k_asm); (case hx => k_mem); (case hi => assumption); (case B => k_asm); (case F => k_asm); (case X => k_asm); (case T => k_asm); (case hk => first | exact rfl | assumption); (case hd => ktr_room); (case hu => ktr_units); k_whole); intro r' P' h' tk' hp' F' N' O'; subst hp'; replace N' := News.drop N'; clear O'))
  revert X'; k_fill; intro X'
  conv at hsc => rhs; whnf
  conv at hbd => rhs; whnf
  subst hsc hbd
  simp only [Apart, NeAll, and_true] at nd
  repeat (with_reducible rename _ ∧ _ => hh9; obtain ⟨_, _⟩ := hh9)
  k_steps
  (rename News g' L' _ ((_, _) :: _) => lN9); (rename Fr g' L' _ _ => lF9)
  exact hQ _ _ _ _ _ lF9 lN9
theorem rc_rest {w : World} {sc : Scope} {body : List Stmt} (hsc : sc = fScope rcF) (hbd : body = (fBody rcF).drop 1) {dp un : Nat} {gd : Option (List Code)} {cn : Str} {cs : Scope} {L : Addr} {a : Addr} {ccd : Value} {cl : List (Str × Addr)} {outer : List Env} {g' : Heap} {L' : Addr} {m1 : Str → Option Value} {s : Shared} {Q : Flow → Shared → Prop} {E : Value → Shared → Prop} {loose : List Str} {mean : ExcName → Option Value} {mg mb : Str → Option Value} {base : Heap}
    {y dy z dz rm : Addr} {k : Nat → Tok} {v : SV} {k0 k1 tT tp tn : Tok} {T d : Str} {p n : Int} (hT : ∀ c ∈ d.cps.toList, ¬ Inval c) (hd2 : d.length ≤ 1000000)
    (ho1 : (Builtin.Str.occurrences d (Str.ofString "\r\n") 0 d.length (d.length + 1)).isEmpty = true) (ho2 : (Builtin.Str.occurrences d (Str.ofString "\r") 0 d.length (d.length + 1)).isEmpty = true)(h13 : ∀ c ∈ d.cps.toList, c ≠ 13) (hd0 : d = Txt.slice T (some p) (some (p + n))) (hp : 0 ≤ p) (hp2 : p ≤ T.length) (hn : 0 ≤ n) (hT2 : T.length ≤ 1000000) (hn2 : n ≤ 1000000)
    (hl1 : (((Txt.item d (-1)).cps.getD 0 0 : Nat) : Int) ≠ 13) (hl2 : ¬ (55296 ≤ (((Txt.item d (-1)).cps.getD 0 0 : Nat) : Int) ∧ (((Txt.item d (-1)).cps.getD 0 0 : Nat) : Int) ≤ 56319))
    (hds : v.ds = .ref z) (hbf : v.bf = .none) (hrm : v.rce = .ref rm)
    (lF : Fr g' L' s.heap (fun x => if x = Str.ofString "chunkSize" then some (.int n tn) else if x = Str.ofString "self" then some (.ref y) else m1 x))
    (lN : News g' L' s.heap [(y, instObj 166 dy), (dy, dictOf (SEs w.params k v) 10), (z, instObj 73 dz), (dz, dictOf (TEs w.params k0 k1 T tT p tp) 2), (rm, methodObj (.ref 148) (.ref y))])
    (X' : (K1 w.params).In g') (T' : Top q1 loose mean mg mb g') (B' : Below (ktrTop dp un gd cn cs L a ccd cl outer) base (envX cn cs L a ccd cl :: outer) g') (hd : dp + 4 < recursionLimit) (hu : un + 32 < cLine)
    (nd : Apart [y, dy, z, dz, rm])
    (hQ : ∀ (h' : Heap) (tk : Nat) (m' : Str → Option Value) (v' : SV) (tp' : Tok), Fr g' L' h' m' → News g' L' h' [(y, instObj 166 dy), (dy, dictOf (SEs w.params k v') 10), (z, instObj 73 dz), (dz, dictOf (TEs w.params k0 k1 T tT (p + d.length) tp') 2), (rm, methodObj (.ref 148) (.ref y))] → RcTo v d v' → Q (.ret (.bool (decide (d.length ≠ 0)))) { s with heap := h', toks := tk }) :
    wpAny (model r1.row.prog w) ((ktrTop dp un gd cn cs L a ccd cl outer).deeper (envOf rcQual sc L' 141 (.ref 140))) (execs body (envOf rcQual sc L' 141 (.ref 140))) Q E s := by
  (k_with "execs cons" => ((with_reducible show wpAny _ _ (execs (Stmt.If (PySem.Expr.Attribute _ _ _) _ [] _ :: _) _) _ _ _); refine Hold.out ?_))
  have nd0 := nd
  have X0 := X'
  have hsc0 := hsc
  revert X'; k_fill; intro X'
  conv at hsc => rhs; whnf
  conv at hbd => rhs; whnf
  subst hsc hbd
  simp only [Apart, NeAll, and_true] at nd
  repeat (with_reducible rename _ ∧ _ => hh9; obtain ⟨_, _⟩ := hh9)
  obtain ⟨rce, nl, ds, C, tC, sz, tS, ofs, tO, er, pl, tL, pc, tP, bf⟩ := v
  dsimp only at hds hbf hrm
  subst hds hbf hrm
  k_steps
  all_goals (try (exfalso; omega))
  all_goals (try refine Hold.mk ?_)
  all_goals ((rename News g' L' _ ((_, _) :: _) => lN9); (rename Fr g' L' _ _ => lF9))
  all_goals first
    | (refine rc_tail (d := d) rfl (by with_unfolding_all rfl) hT hd2 ho1 ho2 (fr_have (x := Str.ofString "data") rfl (fr_have (x := Str.ofString "self") rfl lF9)) (News.part lN9 (List.forall_mem_cons.mpr ⟨by k_memK, List.forall_mem_cons.mpr ⟨by k_memK, List.forall_mem_cons.mpr ⟨by k_memK, List.forall_mem_cons.mpr ⟨by k_memK, List.forall_mem_cons.mpr ⟨by k_memK, List.forall_mem_nil _⟩⟩⟩⟩⟩)) X0 T' B' hd hu nd0 ?_
       intro h2 tk2 m2 tC2 tS2 F2 N2
       rw [decide_eq_true (show d.length ≠ 0 by omega)] at hQ
       exact hQ h2 tk2 m2 ⟨.ref rm, nl, .ref z, _, _, _, _, _, _, er, _, _, _, _, .none⟩ _ F2 N2 ⟨rfl, rfl, rfl, rfl, rfl, rfl, rfl, by assumption, by assumption, rfl⟩)
    | (rw [decide_eq_false (show ¬ d.length ≠ 0 by omega)] at hQ
       refine' hQ _ _ _ ⟨.ref rm, nl, .ref z, _, _, _, _, _, _, er, _, _, _, _, .none⟩ _ lF9 ?N9 ?R9
       case N9 => exact News.part lN9 (List.forall_mem_cons.mpr ⟨by k_memK, List.forall_mem_cons.mpr ⟨by k_memK, List.forall_mem_cons.mpr ⟨by k_memK, List.forall_mem_cons.mpr ⟨by k_memK, List.forall_mem_cons.mpr ⟨by k_memK, List.forall_mem_nil _⟩⟩⟩⟩⟩)
       case R9 => exact ⟨rfl, rfl, rfl, str_nil (by omega), by (dsimp only; omega), rfl, rfl, by assumption, by assumption, rfl⟩)
theorem rc_spec {w : World} (y dy z dz rm : Addr) (k : Nat → Tok) (v : SV) (k0 k1 tT tp tn : Tok) (T d : Str) (p n : Int) (hds : v.ds = .ref z) (hbf : v.bf = .none) (hrm : v.rce = .ref rm) (hd0 : d = Txt.slice T (some p) (some (p + n))) (hT : ∀ c ∈ d.cps.toList, ¬ Inval c) (h13 : ∀ c ∈ d.cps.toList, c ≠ 13)
    (hp : 0 ≤ p) (hp2 : p ≤ T.length) (hn : 0 ≤ n) (hT2 : T.length ≤ 1000000) (hn2 : n ≤ 1000000) (hd2 : d.length ≤ 1000000)
    (hl1 : (((Txt.item d (-1)).cps.getD 0 0 : Nat) : Int) ≠ 13) (hl2 : ¬ (55296 ≤ (((Txt.item d (-1)).cps.getD 0 0 : Nat) : Int) ∧ (((Txt.item d (-1)).cps.getD 0 0 : Nat) : Int) ≤ 56319))
    (ho1 : (Builtin.Str.occurrences d (Str.ofString "\r\n") 0 d.length (d.length + 1)).isEmpty = true) (ho2 : (Builtin.Str.occurrences d (Str.ofString "\r") 0 d.length (d.length + 1)).isEmpty = true) :
    S1 w 141 [.ref y, .int n tn] (SLed w.params y dy k v ++ [(z, instObj 73 dz), (dz, dictOf (TEs w.params k0 k1 T tT p tp) 2), (rm, methodObj (.ref 148) (.ref y))]) 4 32 (fun r P' => ∃ v' tp', P' = SLed w.params y dy k v' ++ [(z, instObj 73 dz), (dz, dictOf (TEs w.params k0 k1 T tT (p + d.length) tp') 2), (rm, methodObj (.ref 148) (.ref y))] ∧ RcTo v d v' ∧ r = .bool (decide (d.length ≠ 0))) := by
  (k_with "execs cons" => ((with_reducible show wpAny _ _ (execs (Stmt.Assign [PySem.Expr.Tuple _ _ _] _ _ :: _) _) _ _ _); refine Hold.out ?_))
  unfold S1
  intro loose mean mg mb dp un gd cn cs a ccd cl outer A₀ base h₀ L m s Q E own B F X N O nd T hk hd hu hret
  revert X; k_fill; intro X
  replace nd := apart_of nd
  k_dflt (refine' code_part (binds := [(Str.ofString "self", .ref y), (Str.ofString "chunkSize", .int n tn)]) B F X N O T ?kA ?kF ?kK ?k6 ?k7 ?k8 ?k9 ?kB ?_ ?c2 ?c3 ?c4 ?c5; (case kA => exact rfl); (case kF => exact rfl); (case kK => exact hk); (case k6 => k_is); (case k7 => k_is); (case k8 => ktr_room); (case k9 => first | exact BindsTo.of_eq rfl | exact binds_K (by k_in) rfl (by k_is) rfl rfl rfl); (case c5 => decide); (case kB => exact locs rfl); (case c2 => exact rfl); (case c3 => exact rfl); (case c4 => exact rfl); k_whole; intro g' L' h' FG' F' N' B' X' T' S' lt'; (try dsimp only))
  simp only [List.cons_append, List.nil_append] at N'
  k_steps
  refine ⟨?_⟩
  (rename News g' L' _ ((_, _) :: _) => lN9); (rename Fr g' L' _ _ => lF9)
  refine rc_rest rfl (by with_unfolding_all rfl) hT hd2 ho1 ho2 h13 hd0 hp hp2 hn hT2 hn2 hl1 hl2 hds hbf hrm (fr_have (x := Str.ofString "chunkSize") rfl (fr_have (x := Str.ofString "self") rfl lF9)) lN9 X' T' B' (by ktr_room) (by ktr_units) nd ?_
  intro h9 tk9 m9 v9 tp9 F9 N9 R9
  k_steps
  (rename Stay own _ => hS); (rename News h₀ L h9 _ => kN)
  exact spec_end hret N S' N9 (by k_asm) kN hS ⟨v9, tp9, rfl, R9, rfl⟩
theorem rc0_spec {w : World} (y dy z dz rm : Addr) (k : Nat → Tok) (v : SV) (k0 k1 tT tp : Tok) (T d : Str) (p : Int) (hds : v.ds = .ref z) (hbf : v.bf = .none) (hrm : v.rce = .ref rm) (hd0 : d = Txt.slice T (some p) (some (p + 10240))) (hT : ∀ c ∈ d.cps.toList, ¬ Inval c) (h13 : ∀ c ∈ d.cps.toList, c ≠ 13)
    (hp : 0 ≤ p) (hp2 : p ≤ T.length) (hT2 : T.length ≤ 1000000) (hd2 : d.length ≤ 1000000)
    (hl1 : (((Txt.item d (-1)).cps.getD 0 0 : Nat) : Int) ≠ 13) (hl2 : ¬ (55296 ≤ (((Txt.item d (-1)).cps.getD 0 0 : Nat) : Int) ∧ (((Txt.item d (-1)).cps.getD 0 0 : Nat) : Int) ≤ 56319))
    (ho1 : (Builtin.Str.occurrences d (Str.ofString "\r\n") 0 d.length (d.length + 1)).isEmpty = true) (ho2 : (Builtin.Str.occurrences d (Str.ofString "\r") 0 d.length (d.length + 1)).isEmpty = true) :
    S1 w 141 [.ref y] (SLed w.params y dy k v ++ [(z, instObj 73 dz), (dz, dictOf (TEs w.params k0 k1 T tT p tp) 2), (rm, methodObj (.ref 148) (.ref y))]) 4 32 (fun r P' => ∃ v' tp', P' = SLed w.params y dy k v' ++ [(z, instObj 73 dz), (dz, dictOf (TEs w.params k0 k1 T tT (p + d.length) tp') 2), (rm, methodObj (.ref 148) (.ref y))] ∧ RcTo v d v' ∧ r = .bool (decide (d.length ≠ 0))) := by
  unfold S1
  intro loose mean mg mb dp un gd cn cs a ccd cl outer A₀ base h₀ L m s Q E own B F X N O nd T hk hd hu hret
  revert X; k_fill; intro X
  replace nd := apart_of nd
  k_dflt (refine' code_part (binds := [(Str.ofString "self", .ref y), (Str.ofString "chunkSize", .none)]) B F X N O T ?kA ?kF ?kK ?k6 ?k7 ?k8 ?k9 ?kB ?_ ?c2 ?c3 ?c4 ?c5; (case kA => exact rfl); (case kF => exact rfl); (case kK => exact hk); (case k6 => k_is); (case k7 => k_is); (case k8 => ktr_room); (case k9 => first | exact BindsTo.of_eq rfl | exact binds_K (by k_in) rfl (by k_is) rfl rfl rfl); (case c5 => decide); (case kB => exact locs rfl); (case c2 => exact rfl); (case c3 => exact rfl); (case c4 => exact rfl); k_whole; intro g' L' h' FG' F' N' B' X' T' S' lt'; (try dsimp only))
  simp only [List.cons_append, List.nil_append] at N'
  k_steps
  refine ⟨?_⟩
  (rename News g' L' _ ((_, _) :: _) => lN9); (rename Fr g' L' _ _ => lF9)
  refine rc_rest rfl (by with_unfolding_all rfl) hT hd2 ho1 ho2 h13 hd0 hp hp2 (by decide) hT2 (by decide) hl1 hl2 hds hbf hrm (fr_have (x := Str.ofString "chunkSize") rfl (fr_have (x := Str.ofString "self") rfl lF9)) lN9 X' T' B' (by ktr_room) (by ktr_units) nd ?_
  intro h9 tk9 m9 v9 tp9 F9 N9 R9
  k_steps
  (rename Stay own _ => hS); (rename News h₀ L h9 _ => kN)
  exact spec_end hret N S' N9 (by k_asm) kN hS ⟨v9, tp9, rfl, R9, rfl⟩
end
section
open PySem PySem.W PySem.Calls PyProof.Rows
abbrev CLed (P : Params) (y dy z dz rm : Addr) (k : Nat → Tok) (v : SV) (k0 k1 : Tok) (T : Str) (tT : Tok) (p : Int) (tp : Tok) : List (Addr × Obj) :=
  [(y, instObj 166 dy), (dy, dictOf (SEs P k v) 10), (z, instObj 73 dz), (dz, dictOf (TEs P k0 k1 T tT p tp) 2), (rm, methodObj (.ref 148) (.ref y))]
theorem rc0' {w : World} {y dy z dz rm : Addr} {k : Nat → Tok} {nl : Value} {C : Str} {tC : Tok} {sz : Int} {tS : Tok} {ofs : Int} {tO : Tok} {er : Value} {pl : Int} {tL : Tok} {pc : Int} {tP : Tok} {k0 k1 tT tp : Tok} {T d : Str} {p : Int} (hd0 : d = Txt.slice T (some p) (some (p + 10240))) (R : RdOk T d p) :
    S1 w 141 [.ref y] (CLed w.params y dy z dz rm k ⟨.ref rm, nl, .ref z, C, tC, sz, tS, ofs, tO, er, pl, tL, pc, tP, .none⟩ k0 k1 T tT p tp) 4 32 (fun r P' => ∃ v' tp', P' = CLed w.params y dy z dz rm k v' k0 k1 T tT (p + d.length) tp' ∧ RcTo ⟨.ref rm, nl, .ref z, C, tC, sz, tS, ofs, tO, er, pl, tL, pc, tP, .none⟩ d v' ∧ r = .bool (decide (d.length ≠ 0))) :=
  rc0_spec y dy z dz rm k _ k0 k1 tT tp T d p rfl rfl rfl hd0 R.hT R.h13 R.hp R.hp2 R.hT2 R.hd2 R.hl1 R.hl2 R.ho1 R.ho2
/-- the sign at place i of the text -/
structure Sign (C : Str) (i : Int) (c : Nat) : Prop where
  lo : 0 ≤ i
  get : C.cps.toList[i.toNat]? = some c
  small : C.length ≤ 5000
theorem Sign.hi {C : Str} {i : Int} {c : Nat} (h : Sign C i c) : i < C.length := by
  obtain ⟨hlt, _⟩ := List.getElem?_eq_some_iff.mp h.get
  rw [len_list] at hlt
  have := h.lo
  omega
theorem Sign.item {C : Str} {i : Int} {c : Nat} (h : Sign C i c) : Txt.item C i = ⟨#[c]⟩ := by
  unfold Txt.item Txt.charAt seqIndex?
  have h1 := h.lo
  have h2 := h.hi
  have e : ¬ i < 0 := by omega
  simp only [e, if_false]
  have e2 : (decide (0 ≤ i) && decide (i < (C.length : Int))) = true := by simp [h1, h2]
  rw [if_pos e2]
  have h3 : C.cps[i.toNat]? = some c := by rw [← Array.getElem?_toList]; exact h.get
  show (⟨#[((some i.toNat).bind fun j => C.cps[j]?).getD 0]⟩ : Str) = _
  rw [Option.bind_some, h3]
  rfl
theorem item_sign {prog : Program} {w : World} {A : Around} {E : Value → Shared → Prop} {s : Shared} {value slice : PySem.Expr} {x : Str} {t u : Tok} {i : Int} {c : Nat} {Q : Value → Shared → Prop} (H : Sign x i c) (h : Q (.str ⟨#[c]⟩ s.toks) { s with toks := s.toks + 1 })
    (hs : subscripted slice false (.str x t) (.int i u) = operate [.str x t, .int i u] (getItem (.str x t) (.int i u)) := by with_unfolding_all rfl)
    (ht : ∀ r, letTemporaryGo value (.str x t) r = pure () := by intro _; with_unfolding_all rfl) :
    wpAny (model prog w) A (subscriptTail value slice (.str x t) (.int i u)) Q E s := by
  have h0 := H.small
  have h1 := H.lo
  have h2 := H.hi
  refine item_str (fitsSsize_of (N := 9223372036854775808) (by omega) (by omega) (Int.le_refl _)) (by omega) (by omega) (fun _ => ?_) hs ht
  rw [H.item]
  exact h
theorem all_drop {T d : Str} {b b' : Nat} (h : d.cps.toList = T.cps.toList.drop b) (hb : T.length ≤ b') : d.cps.toList = (T.cps.toList.take b').drop b := by
  rw [List.take_of_length_le (by rw [len_list]; exact hb)]
  exact h
theorem at_nl {z rm : Addr} {er : Value} {T : Str} {v : SV} {a b q : Nat} (h : At z rm er T v a b q) : nlOf v v.sz = lnOf (T.cps.toList.take b) := by
  have h1 := h.ha
  have h2 := h.hq
  have e := h.nl (b - a) (Nat.le_refl _)
  have e2 : v.sz = ((b - a : Nat) : Int) := by rw [h.sz]; omega
  have e3 : a + (b - a) = b := by omega
  rw [e3] at e
  rw [e2]
  exact e
theorem at_col {z rm : Addr} {er : Value} {T : Str} {v : SV} {a b q : Nat} (h : At z rm er T v a b q) : colOf v v.sz = clOf (T.cps.toList.take b) := by
  have h1 := h.ha
  have h2 := h.hq
  have e := h.col (b - a) (Nat.le_refl _)
  have e2 : v.sz = ((b - a : Nat) : Int) := by rw [h.sz]; omega
  have e3 : a + (b - a) = b := by omega
  rw [e3] at e
  rw [e2]
  exact e
/-- what reading one sign at q gives -/
def ChTo (z rm : Addr) (er : Value) (T : Str) (q : Nat) (r : Value) (v : SV) (b : Nat) : Prop :=
  (∃ c t a, T.cps.toList[q]? = some c ∧ r = .str ⟨#[c]⟩ t ∧ At z rm er T v a b (q + 1) ∧ a ≤ q) ∨ (∃ a, T.cps.toList[q]? = none ∧ r = .none ∧ At z rm er T v a b q)
theorem char_spec {w : World} (y dy z dz rm : Addr) (er : Value) (k : Nat → Tok) (v : SV) (k0 k1 tT tp : Tok) (TX : Str) (a0 b0 q : Nat) (HT : TxtOk TX) (HA : At z rm er TX v a0 b0 q) :
    S1 w 133 [.ref y] (CLed w.params y dy z dz rm k v k0 k1 TX tT (b0 : Int) tp) 6 48 (fun r P' => ∃ v' b' tp', P' = CLed w.params y dy z dz rm k v' k0 k1 TX tT ((b' : Nat) : Int) tp' ∧ ChTo z rm er TX q r v' b') := by
  k_with_none
  (k_with "call ref" => (k_here; (with_reducible show wpAny _ _ (call (Value.ref 141) _) _ _ _); k_dflt (refine' spec_use (rc0' ?hd0 ?hR) ?Se ?B ?F ?X ?N ?T ?hk ?hd ?hu ?_; (case N => k_asm); (case Se => exact Sel.cons (by k_upd) (Sel.cons (by k_upd) (Sel.cons (by k_upd) (Sel.cons (by k_upd) (Sel.cons (by k_upd) Sel.nil))))); (case hd0 => assumption); (case hR => assumption); (case B => k_asm); (case F => k_asm); (case X => k_asm); (case T => k_asm); (case hk => first | exact rfl | assumption); (case hd => ktr_room); (case hu => ktr_units); k_whole); intro r' P' h' tk' hp' F' N' O'; obtain ⟨⟨rce9, nl9, ds9, C9, tC9, sz9, tS9, ofs9, tO9, er9, pl9, tL9, pc9, tP9, bf9⟩, t9, e9, ⟨R1, R2, R3, R4, R5, R6, R7, R8, R9, R10⟩, e8⟩ := hp'; dsimp only at R1 R2 R3 R4 R5 R6 R7 R8 R9 R10; replace R1 := R1.symm; replace R2 := R2.symm; replace R3 := R3.symm; replace R4 := R4.symm; replace R5 := R5.symm; replace R6 := R6.symm; replace R7 := R7.symm; replace R10 := R10.symm; subst R1 R2 R3 R4 R5 R6 R7 R10 e9 e8; dsimp only [CLed, SEs, List.cons_append, List.nil_append] at N'; clear O'))
  (k_with "subscriptTail" => (k_here; (with_reducible show wpAny _ _ (subscriptTail _ _ (Value.str _ _) (Value.int _ _)) _ _ _); (refine item_sign (by assumption) ?_)))
  unfold S1; k_fill
  intro loose mean mg mb dp un gd cn cs a ccd cl outer A₀ base h₀ L m s Q E own B F X N O nd T hk hd hu hret
  obtain ⟨d, hd0⟩ : ∃ d, d = Txt.slice TX (some (b0 : Int)) (some ((b0 : Int) + 10240)) := ⟨_, rfl⟩
  have R := rdOk HT HA.hb hd0
  have hdl : d.cps.toList = TX.cps.toList.drop b0 := by rw [hd0, slice_rest HA.hb HT.len]
  have hdn : d.length = TX.length - b0 := by rw [← len_list, hdl, List.length_drop, len_list]
  have hlen := HA.len
  have HA0 := HA
  have hTl := HT.len
  obtain ⟨rce, nl, ds, C, tC, sz, tS, ofs, tO, er, pl, tL, pc, tP, bf⟩ := v
  obtain ⟨h1, h2, h3, h4, h5, h6, h7, h8, h9, h10, h11, h12⟩ := HA
  dsimp only at h1 h2 h3 h4 h8 h9 h10 h11 h12 hlen
  subst h1 h2 h3 h4
  replace nd := apart_of nd
  simp only [List.map_cons, List.map_nil, Apart, NeAll, and_true] at nd
  repeat (with_reducible rename _ ∧ _ => hh9; obtain ⟨_, _⟩ := hh9)
  have hcs : (q < b0 ∧ ofs < sz ∧ ∃ c, TX.cps.toList[q]? = some c ∧ Sign C ofs c) ∨ (q = b0 ∧ ofs = sz ∧ d.length ≠ 0 ∧ ∃ c, TX.cps.toList[q]? = some c ∧ Sign d 0 c) ∨ (q = b0 ∧ ofs = sz ∧ d.length = 0 ∧ TX.cps.toList[q]? = none) := by
    by_cases c1 : q < b0
    · have hq : q < TX.cps.toList.length := by rw [len_list]; omega
      refine .inl ⟨c1, by omega, TX.cps.toList[q], List.getElem?_eq_getElem hq, ⟨by omega, ?_, by omega⟩⟩
      rw [h8, h10]
      have e : ((q : Int) - a0).toNat = q - a0 := by omega
      rw [e, List.getElem?_drop, List.getElem?_take, if_pos (by omega)]
      have e2 : a0 + (q - a0) = q := by omega
      rw [e2]
      exact List.getElem?_eq_getElem hq
    · by_cases c2 : d.length = 0
      · refine .inr (.inr ⟨by omega, by omega, c2, ?_⟩)
        rw [List.getElem?_eq_none]
        rw [len_list]; omega
      · have hq : q < TX.cps.toList.length := by rw [len_list]; omega
        refine .inr (.inl ⟨by omega, by omega, c2, TX.cps.toList[q], List.getElem?_eq_getElem hq, ⟨by omega, ?_, by omega⟩⟩)
        rw [hdl, List.getElem?_drop]
        have e2 : b0 + (0 : Int).toNat = q := by show b0 + 0 = q; omega
        rw [e2]
        exact List.getElem?_eq_getElem hq
  k_dflt (refine' code_part (binds := [(Str.ofString "self", .ref y)]) B F X N O T ?kA ?kF ?kK ?k6 ?k7 ?k8 ?k9 ?kB ?_ ?c2 ?c3 ?c4 ?c5; (case kA => exact rfl); (case kF => exact rfl); (case kK => exact hk); (case k6 => k_is); (case k7 => k_is); (case k8 => ktr_room); (case k9 => first | exact BindsTo.of_eq rfl | exact binds_K (by k_in) rfl (by k_is) rfl rfl rfl); (case c5 => decide); (case kB => exact locs rfl); (case c2 => exact rfl); (case c3 => exact rfl); (case c4 => exact rfl); k_whole; intro g' L' h' FG' F' N' B' X' T' S' lt'; (try dsimp only); (try k_fold))
  dsimp only [CLed, SEs, List.cons_append, List.nil_append] at N'
  rcases hcs with ⟨c1, c2, c, c3, c4⟩ | ⟨c1, c2, c3, c, c4, c5⟩ | ⟨c1, c2, c3, c4⟩
  all_goals k_steps
  all_goals ((rename Stay own _ => hS); (rename News h₀ L _ ((_, _) :: _) => kN); (rename News g' L' _ ((_, _) :: _) => kN'))
  · exact spec_end hret N S' kN' (by k_asm) kN hS ⟨⟨.ref rm, nl, .ref z, C, tC, sz, tS, ofs + 1, _, er, pl, tL, pc, tP, .none⟩, b0, tp, rfl, .inl ⟨c, _, a0, c3, rfl, ⟨rfl, rfl, rfl, rfl, h5, by omega, by omega, h8, h9, by (dsimp only; omega), h11, h12⟩, h6⟩⟩
  · (rename _ = nlOf _ _ => hpl); (rename _ = colOf _ _ => hpc)
    exact spec_end hret N S' kN' (by k_asm) kN hS ⟨⟨.ref rm, nl, .ref z, d, _, d.length, _, 0 + 1, _, er, _, _, _, _, .none⟩, b0 + d.length, _, rfl, .inl ⟨c, _, b0, c4, rfl, ⟨rfl, rfl, rfl, rfl, by omega, by omega, by omega, all_drop hdl (by omega), by (dsimp only; omega), by (dsimp only; omega), hpl.trans (at_nl HA0), hpc.trans (at_col HA0)⟩, by omega⟩⟩
  · (rename _ = nlOf _ _ => hpl); (rename _ = colOf _ _ => hpc)
    exact spec_end hret N S' kN' (by k_asm) kN hS ⟨⟨.ref rm, nl, .ref z, d, _, d.length, _, 0, _, er, _, _, _, _, .none⟩, b0 + d.length, _, rfl, .inr ⟨b0, c4, rfl, ⟨rfl, rfl, rfl, rfl, by omega, by omega, by omega, all_drop hdl (by omega), by (dsimp only; omega), by (dsimp only; omega), hpl.trans (at_nl HA0), hpc.trans (at_col HA0)⟩⟩⟩
end
section
open PySem PySem.W PySem.Calls PyProof.Rows
theorem unget_none {w : World} (y : Value) : S1 w 163 [y, .none] [] 1 8 (fun r P' => r = .none) := by
  k_with_none
  (k_with "subscriptTail" => (k_here; (with_reducible show wpAny _ _ (subscriptTail _ _ (Value.str _ _) (Value.int _ _)) _ _ _); (refine item_sign (by assumption) ?_)))
  unfold S1; k_fill
  intro loose mean mg mb dp un gd cn cs a ccd cl outer A₀ base h₀ L m s Q E own B F X N O nd T hk hd hu hret
  k_dflt (refine' code_part (binds := [(Str.ofString "self", y), (Str.ofString "char", .none)]) B F X N O T ?kA ?kF ?kK ?k6 ?k7 ?k8 ?k9 ?kB ?_ ?c2 ?c3 ?c4 ?c5; (case kA => exact rfl); (case kF => exact rfl); (case kK => exact hk); (case k6 => k_is); (case k7 => k_is); (case k8 => ktr_room); (case k9 => first | exact BindsTo.of_eq rfl | exact binds_K (by k_in) rfl (by k_is) rfl rfl rfl); (case c5 => decide); (case kB => exact locs rfl); (case c2 => exact rfl); (case c3 => exact rfl); (case c4 => exact rfl); k_whole; intro g' L' h' FG' F' N' B' X' T' S' lt'; (try dsimp only); (try k_fold))
  k_steps
  all_goals ((rename Stay own _ => hS); exact spec_end0 hret N (by k_asm) hS rfl)
theorem unget_some {w : World} {y dy : Addr} {k : Nat → Tok} {rce nl ds : Value} {C : Str} {tC : Tok} {sz : Int} {tS : Tok} {ofs : Int} {tO : Tok} {er : Value} {pl : Int} {tL : Tok} {pc : Int} {tP : Tok} {bf : Value} {c : Nat} {t : Tok} (h1 : 1 ≤ ofs) (h2 : Sign C (ofs - 1) c) :
    S1 w 163 [.ref y, .str ⟨#[c]⟩ t] (SLed w.params y dy k ⟨rce, nl, ds, C, tC, sz, tS, ofs, tO, er, pl, tL, pc, tP, bf⟩) 1 8 (fun r P' => ∃ tO', r = .none ∧ P' = SLed w.params y dy k ⟨rce, nl, ds, C, tC, sz, tS, ofs - 1, tO', er, pl, tL, pc, tP, bf⟩) := by
  unfold S1; k_fill
  intro loose mean mg mb dp un gd cn cs a ccd cl outer A₀ base h₀ L m s Q E own B F X N O nd T hk hd hu hret
  replace nd := apart_of nd
  simp only [List.map_cons, List.map_nil, Apart, NeAll, and_true] at nd
  repeat (with_reducible rename _ ∧ _ => hh9; obtain ⟨_, _⟩ := hh9)
  k_dflt (refine' code_part (binds := [(Str.ofString "self", .ref y), (Str.ofString "char", .str ⟨#[c]⟩ t)]) B F X N O T ?kA ?kF ?kK ?k6 ?k7 ?k8 ?k9 ?kB ?_ ?c2 ?c3 ?c4 ?c5; (case kA => exact rfl); (case kF => exact rfl); (case kK => exact hk); (case k6 => k_is); (case k7 => k_is); (case k8 => ktr_room); (case k9 => first | exact BindsTo.of_eq rfl | exact binds_K (by k_in) rfl (by k_is) rfl rfl rfl); (case c5 => decide); (case kB => exact locs rfl); (case c2 => exact rfl); (case c3 => exact rfl); (case c4 => exact rfl); k_whole; intro g' L' h' FG' F' N' B' X' T' S' lt'; (try dsimp only); (try k_fold))
  dsimp only [SLed, SEs, List.cons_append, List.nil_append] at N'
  k_steps
  · exfalso; omega
  · (rename Stay own _ => hS); (rename News h₀ L _ ((_, _) :: _) => kN); (rename News g' L' _ ((_, _) :: _) => kN')
    exact spec_end hret N S' kN' (by k_asm) kN hS ⟨_, rfl, rfl⟩
  · (rename (_ == _) = false => hb9)
    exact absurd hb9 (by simp)
end
section
open PySem PySem.W PySem.Calls PyProof.Rows
def ifTest : Stmt → PySem.Expr
  | .If t _ _ _ => t
  | _ => .Name (Str.ofString "_") ⟨0, 0, 0, 0⟩
def ifElse : Stmt → List Stmt
  | .If _ _ e _ => e
  | _ => []
noncomputable def numF : Stmt := d1 21 2 true
noncomputable def flagT : PySem.Expr := ifTest (nth (ifElse (nth (ifElse (nth (fBody numF) 7)) 0)) 0)
def ncL : List Int := [11, 65534, 65535, 131070, 131071, 196606, 196607, 262142, 262143, 327678, 327679, 393214, 393215, 458750, 458751, 524286, 524287, 589822, 589823, 655358, 655359, 720894, 720895, 786430, 786431, 851966, 851967, 917502, 917503, 983038, 983039, 1048574, 1048575, 1114110, 1114111]
def Flag (n : Int) : Prop := (1 ≤ n ∧ n ≤ 8) ∨ (14 ≤ n ∧ n ≤ 31) ∨ (127 ≤ n ∧ n ≤ 159) ∨ (64976 ≤ n ∧ n ≤ 65007) ∨ ncL.any (· == n) = true
theorem flag_cut {w : World} {sc : Scope} {te : PySem.Expr} (hsc : sc = fScope numF) (hte : te = flagT) {dp un : Nat} {gd : Option (List Code)} {cn : Str} {cs : Scope} {L : Addr} {a : Addr} {ccd : Value} {cl : List (Str × Addr)} {outer : List Env} {g : Heap} {L' : Addr} {m : Str → Option Value} {s : Shared} {news : List (Addr × Obj)} {n : Int} {tn : Tok} {Q : Bool → Shared → Prop} {E : Value → Shared → Prop} {loose : List Str} {mean : ExcName → Option Value} {mg mb : Str → Option Value} {base : Heap}
    (F : Fr g L' s.heap m) (hm : m (Str.ofString "charAsInt") = some (.int n tn)) (N : News g L' s.heap news) (X : (K1 w.params).In g) (T : Top q1 loose mean mg mb g) (B : Below (ktrTop dp un gd cn cs L a ccd cl outer) base (envX cn cs L a ccd cl :: outer) g)
    (hy : Flag n → ∀ h' tk, Fr g L' h' m → News g L' h' news → Q true { s with heap := h', toks := tk })
    (hno : ¬ Flag n → ∀ h' tk, Fr g L' h' m → News g L' h' news → Q false { s with heap := h', toks := tk }) :
    wpAny (model r1.row.prog w) ((ktrTop dp un gd cn cs L a ccd cl outer).deeper (envOf (Str.ofString "HTMLTokenizer.consumeNumberEntity") sc L' 275 (.ref 274))) (isTrue te (envOf (Str.ofString "HTMLTokenizer.consumeNumberEntity") sc L' 275 (.ref 274)) (eval te (envOf (Str.ofString "HTMLTokenizer.consumeNumberEntity") sc L' 275 (.ref 274)))) Q E s := by
  conv at hsc => rhs; whnf
  conv at hte => rhs; whnf
  subst hsc hte
  have em : (fun y => if y = Str.ofString "charAsInt" then some (.int n tn) else m y) = m := by
    funext y
    by_cases c : y = Str.ofString "charAsInt"
    · rw [if_pos c, c, hm]
    · rw [if_neg c]
  have F1 := fr_have hm F
  clear F
  k_steps
  all_goals first
    | exact hy (.inl ⟨by omega, by omega⟩) _ _ (by rw [← em]; assumption) (by first | assumption | exact News.tail (by assumption))
    | exact hy (.inr (.inl ⟨by omega, by omega⟩)) _ _ (by rw [← em]; assumption) (by first | assumption | exact News.tail (by assumption))
    | exact hy (.inr (.inr (.inl ⟨by omega, by omega⟩))) _ _ (by rw [← em]; assumption) (by first | assumption | exact News.tail (by assumption))
    | exact hy (.inr (.inr (.inr (.inl ⟨by omega, by omega⟩)))) _ _ (by rw [← em]; assumption) (by first | assumption | exact News.tail (by assumption))
    | exact hy (.inr (.inr (.inr (.inr (by assumption))))) _ _ (by rw [← em]; assumption) (by first | assumption | exact News.tail (by assumption))
    | exact hno (by rintro (h | h | h | h | h) <;> first | omega | (exact absurd h (Bool.eq_false_iff.mp (by assumption)))) _ _ (by rw [← em]; assumption) (by first | assumption | exact News.tail (by assumption))
noncomputable def bigT : PySem.Expr := ifTest (nth (ifElse (nth (fBody numF) 7)) 0)
def Big (n : Int) : Prop := (55296 ≤ n ∧ n ≤ 57343) ∨ 1114111 < n
theorem big_cut {w : World} {sc : Scope} {te : PySem.Expr} (hsc : sc = fScope numF) (hte : te = bigT) {dp un : Nat} {gd : Option (List Code)} {cn : Str} {cs : Scope} {L : Addr} {a : Addr} {ccd : Value} {cl : List (Str × Addr)} {outer : List Env} {g : Heap} {L' : Addr} {m : Str → Option Value} {s : Shared} {news : List (Addr × Obj)} {n : Int} {tn : Tok} {Q : Bool → Shared → Prop} {E : Value → Shared → Prop}
    (F : Fr g L' s.heap m) (hm : m (Str.ofString "charAsInt") = some (.int n tn)) (N : News g L' s.heap news) (X : (K1 w.params).In g)
    (hy : Big n → ∀ tk, Q true { s with toks := tk })
    (hno : ¬ Big n → ∀ tk, Q false { s with toks := tk }) :
    wpAny (model r1.row.prog w) ((ktrTop dp un gd cn cs L a ccd cl outer).deeper (envOf (Str.ofString "HTMLTokenizer.consumeNumberEntity") sc L' 275 (.ref 274))) (isTrue te (envOf (Str.ofString "HTMLTokenizer.consumeNumberEntity") sc L' 275 (.ref 274)) (eval te (envOf (Str.ofString "HTMLTokenizer.consumeNumberEntity") sc L' 275 (.ref 274)))) Q E s := by
  conv at hsc => rhs; whnf
  conv at hte => rhs; whnf
  subst hsc hte
  have F1 := fr_have hm F
  clear F
  k_steps
  all_goals first
    | exact hy (.inl ⟨by omega, by omega⟩) _
    | exact hy (.inr (by omega)) _
    | exact hno (by unfold Big; omega) _
end
section
open PySem PySem.W PySem.Calls PyProof.Rows
theorem call_textN {prog : Program} {w : World} {A : Around} {E : Value → Shared → Prop} {s : Shared} {Q : Value → Shared → Prop} {fs : List Nat} {t u : Tok} {b n : Int} {b' : Nat} (hb : b = (b' : Int)) (FF : Figs b' fs) (hn : (numVal b' fs : Int) = n) (h : ∀ t' k, Q (.int n t') { s with toks := k }) :
    wpAny (model prog w) A (call (.type "int") [.str ⟨fs.toArray⟩ t, .int b u]) Q E s := by
  subst hn
  exact call_textB hb FF (h _ _)
def AlOk (al : Addr) (l : List Nat) : Prop := (al = 37 ∧ l = hexL) ∨ (al = 32 ∧ l = decL)
theorem big_yes {w : World} {sc : Scope} {te : PySem.Expr} (hsc : sc = fScope numF) (hte : te = bigT) {dp un : Nat} {gd : Option (List Code)} {cn : Str} {cs : Scope} {L : Addr} {a : Addr} {ccd : Value} {cl : List (Str × Addr)} {outer : List Env} {g : Heap} {L' : Addr} {m : Str → Option Value} {s : Shared} {news : List (Addr × Obj)} {n : Int} {tn : Tok} {Q : Bool → Shared → Prop} {E : Value → Shared → Prop}
    (F : Fr g L' s.heap m) (hm : m (Str.ofString "charAsInt") = some (.int n tn)) (N : News g L' s.heap news) (X : (K1 w.params).In g) (hb : Big n) (h : ∀ tk, Q true { s with toks := tk }) :
    wpAny (model r1.row.prog w) ((ktrTop dp un gd cn cs L a ccd cl outer).deeper (envOf (Str.ofString "HTMLTokenizer.consumeNumberEntity") sc L' 275 (.ref 274))) (isTrue te (envOf (Str.ofString "HTMLTokenizer.consumeNumberEntity") sc L' 275 (.ref 274)) (eval te (envOf (Str.ofString "HTMLTokenizer.consumeNumberEntity") sc L' 275 (.ref 274)))) Q E s :=
  big_cut hsc hte F hm N X (fun _ => h) fun k => absurd hb k
theorem big_no {w : World} {sc : Scope} {te : PySem.Expr} (hsc : sc = fScope numF) (hte : te = bigT) {dp un : Nat} {gd : Option (List Code)} {cn : Str} {cs : Scope} {L : Addr} {a : Addr} {ccd : Value} {cl : List (Str × Addr)} {outer : List Env} {g : Heap} {L' : Addr} {m : Str → Option Value} {s : Shared} {news : List (Addr × Obj)} {n : Int} {tn : Tok} {Q : Bool → Shared → Prop} {E : Value → Shared → Prop}
    (F : Fr g L' s.heap m) (hm : m (Str.ofString "charAsInt") = some (.int n tn)) (N : News g L' s.heap news) (X : (K1 w.params).In g) (hb : ¬ Big n) (h : ∀ tk, Q false { s with toks := tk }) :
    wpAny (model r1.row.prog w) ((ktrTop dp un gd cn cs L a ccd cl outer).deeper (envOf (Str.ofString "HTMLTokenizer.consumeNumberEntity") sc L' 275 (.ref 274))) (isTrue te (envOf (Str.ofString "HTMLTokenizer.consumeNumberEntity") sc L' 275 (.ref 274)) (eval te (envOf (Str.ofString "HTMLTokenizer.consumeNumberEntity") sc L' 275 (.ref 274)))) Q E s :=
  big_cut hsc hte F hm N X (fun k => absurd k hb) fun _ => h
theorem inAy {prog : Program} {w : World} {A : Around} {E : Value → Shared → Prop} {s : Shared} {h₀ : Heap} {al : Addr} {l : List Nat} {c : Nat} {t : Tok} {Q : Value → Shared → Prop} (H : AlOk al l) (X : (K1 w.params).In h₀) (hk : ∀ b o, h₀.get? b = some o → s.heap.get? b = some o) (hc : c ∈ l) (h : Q (.bool true) s) : wpAny (model prog w) A (compareOp .In (.str ⟨#[c]⟩ t) (.ref al)) Q E s := by
  rcases H with ⟨rfl, rfl⟩ | ⟨rfl, rfl⟩
  · exact in37y X hk hc h
  · exact in32y X hk hc h
theorem inAn {prog : Program} {w : World} {A : Around} {E : Value → Shared → Prop} {s : Shared} {h₀ : Heap} {al : Addr} {l : List Nat} {c : Nat} {t : Tok} {Q : Value → Shared → Prop} (H : AlOk al l) (X : (K1 w.params).In h₀) (hk : ∀ b o, h₀.get? b = some o → s.heap.get? b = some o) (hc : c ∉ l) (h : Q (.bool false) s) : wpAny (model prog w) A (compareOp .In (.str ⟨#[c]⟩ t) (.ref al)) Q E s := by
  rcases H with ⟨rfl, rfl⟩ | ⟨rfl, rfl⟩
  · exact in37n X hk hc h
  · exact in32n X hk hc h
theorem inAo {prog : Program} {w : World} {A : Around} {E : Value → Shared → Prop} {s : Shared} {h₀ : Heap} {al : Addr} {l : List Nat} {Q : Value → Shared → Prop} (H : AlOk al l) (X : (K1 w.params).In h₀) (hk : ∀ b o, h₀.get? b = some o → s.heap.get? b = some o) (h : Q (.bool false) s) : wpAny (model prog w) A (compareOp .In .none (.ref al)) Q E s := by
  rcases H with ⟨rfl, rfl⟩ | ⟨rfl, rfl⟩
  · exact in37o X hk h
  · exact in32o X hk h
theorem size_le {l : List Value} (h : l.length ≤ 1001) : l.toArray.size ≤ sizeLine := by rw [List.size_toArray, sizeLine_eq]; omega
theorem size_le1 {l : List Value} {v : Value} (h : l.length ≤ 1000) : (l.toArray.push v).size ≤ sizeLine := by rw [Array.size_push, List.size_toArray, sizeLine_eq]; omega
structure KOut {σ : Type} (h₀ : Heap) (L : Addr) (s : Shared) (Led : σ → List (Addr × Obj)) (ps : σ → List (Str × Value)) (Out : σ → Prop) (m₀ : Str → Option Value) (c : σ) (s₂ : Shared) : Prop where
  out : Out c
  ex : ∃ h' tk', s₂ = { s with heap := h', toks := tk' } ∧ Fr h₀ L h' (kstB m₀ (ps c)) ∧ News h₀ L h' (Led c)
theorem ksw_while2 {σ : Type} {prog : Program} {w : World} {A : Around} {E : Value → Shared → Prop} {Q : Flow → Shared → Prop} {s : Shared} {env : Env} {h₀ : Heap} {L : Addr} {test : PySem.Expr} {body : List Stmt} {pos : Pos} {m₀ : Str → Option Value} (Led : σ → List (Addr × Obj)) (ps : σ → List (Str × Value)) (Facts : σ → Prop) (Out : σ → Prop) (μ : σ → Nat) (c₀ : σ)
    (F : Fr h₀ L s.heap m₀) (N : News h₀ L s.heap (Led c₀)) (hf : Facts c₀) (hk : ∀ p ∈ ps c₀, m₀ p.1 = some p.2)
    (turn : ∀ (c : σ) h tk, Facts c → Fr h₀ L h (kstB m₀ (ps c)) → News h₀ L h (Led c) →
      wpAny (model prog w) A (isTrue test env (eval test env)) (fun b s₂ =>
        if b = true then wpAny (model prog w) A (execs body env) (KswPost h₀ L s Led ps Facts [] m₀ (fun _ => True) μ (fun f s' => f = .brk ∧ False) c) E s₂ else KOut h₀ L s Led ps Out m₀ c s₂) E { s with heap := h, toks := tk })
    (done : ∀ (c : σ) h tk, Facts c → Out c → Fr h₀ L h (kstB m₀ (ps c)) → News h₀ L h (Led c) → Q .next { s with heap := h, toks := tk })
    (hE : PassesOwn (model prog w) A env E) :
    wpAny (model prog w) A (exec (.While test body [] pos) env) Q E s := by
  refine ksw_while Led ps Facts [] (fun _ => True) μ c₀ F N hf hk trivial (fun c u h tk hf' _ F1 N1 => ?_) hE
  have F2 : Fr h₀ L h (kstB m₀ (ps c)) := F1
  refine wpAny_mono (turn c h tk hf' F2 N1) (fun b s₂ p => ?_) fun _ _ x => x
  cases b with
  | false =>
    simp only [Bool.false_eq_true, if_false] at p ⊢
    obtain ⟨o, ⟨h', tk', rfl, F3, N3⟩⟩ := p
    exact done c h' tk' hf' o F3 N3
  | true =>
    simp only [if_true] at p ⊢
    refine wpAny_mono p (fun f s₃ q => ?_) fun _ _ x => x
    cases f with
    | ret v => exact (nomatch q.1)
    | brk => exact q.2.elim
    | next => exact q
    | cont => exact q
def REs (P : Params) (j : Nat → Tok) (y tq : Addr) (o1 o2 o3 o4 o5 o6 : Value) : List DictEntry :=
  [⟨PyData.keyHash P "stream", .str "stream" (j 0), .ref y⟩, ⟨PyData.keyHash P "parser", .str "parser" (j 1), o1⟩, ⟨PyData.keyHash P "escapeFlag", .str "escapeFlag" (j 2), o2⟩, ⟨PyData.keyHash P "lastFourChars", .str "lastFourChars" (j 3), o3⟩,
   ⟨PyData.keyHash P "state", .str "state" (j 4), o4⟩, ⟨PyData.keyHash P "escape", .str "escape" (j 5), o5⟩, ⟨PyData.keyHash P "currentToken", .str "currentToken" (j 6), o6⟩, ⟨PyData.keyHash P "tokenQueue", .str "tokenQueue" (j 7), .ref tq⟩]
abbrev RLed (P : Params) (t dt tq : Addr) (j : Nat → Tok) (y : Addr) (o1 o2 o3 o4 o5 o6 : Value) (its : List Value) (nn : Nat) : List (Addr × Obj) :=
  [(t, instObj 762 dt), (dt, dictOf (REs P j y tq o1 o2 o3 o4 o5 o6) 8), (tq, listOf its.toArray nn)]
structure LS where
  j : Nat
  v : SV
  b : Nat
  tp : Tok
  l : List (Str × Tok)
  nn : Nat
  cv : Value
abbrev cL : PySem.Str := Str.ofString "c"
noncomputable def restB : List Stmt := (fBody numF).drop 5
inductive Tk where
  | bad (n : Int)
  | semi
abbrev sK (w : World) := PySem.strKind r1.row.prog w
inductive TksAt (w : World) : List (Addr × Obj) → List Value → List Tk → Prop
  | nil : TksAt w [] [] []
  | bad {d e : Addr} {o o2 : Obj} {n : Int} {t1 t2 t3 : Tok} {x : List (Addr × Obj)} {vs : List Value} {tks : List Tk} : o.IsDictOf (sK w) [(Str.ofString "type", .int 7 t1), (Str.ofString "data", .str (Str.ofString "illegal-codepoint-for-numeric-entity") t2), (Str.ofString "datavars", .ref e)] → o2.IsDictOf (sK w) [(Str.ofString "charAsInt", .int n t3)] → (d == sysModules) = false → (e == sysModules) = false → TksAt w x vs tks → TksAt w ((d, o) :: (e, o2) :: x) (.ref d :: vs) (.bad n :: tks)
  | semi {d : Addr} {o : Obj} {t1 t2 : Tok} {x : List (Addr × Obj)} {vs : List Value} {tks : List Tk} : o.IsDictOf (sK w) [(Str.ofString "type", .int 7 t1), (Str.ofString "data", .str (Str.ofString "numeric-entity-without-semicolon") t2)] → (d == sysModules) = false → TksAt w x vs tks → TksAt w ((d, o) :: x) (.ref d :: vs) (.semi :: tks)
def Bad (n : Int) : Prop := (∃ c, KTD.datumAt n repL = some c) ∨ Big n ∨ Flag n
def SgnOf (n : Int) (c : Nat) : Prop := KTD.datumAt n repL = some c ∨ (KTD.datumAt n repL = none ∧ Big n ∧ c = 65533) ∨ (KTD.datumAt n repL = none ∧ ¬ Big n ∧ c = n.toNat)
structure NumTo (w : World) (rest : List Nat) (q0 : Nat) (n : Int) (r : Value) (q' : Nat) (its' : List Value) (extra : List (Addr × Obj)) : Prop where
  r : ∃ c t, r = .str ⟨#[c]⟩ t ∧ SgnOf n c
  q : ∃ bd sm : Bool, (bd = true ↔ Bad n) ∧ (sm = true ↔ rest.head? = some 59) ∧ TksAt w extra its' ((if bd then [.bad n] else []) ++ (if sm then [] else [.semi])) ∧ q' = q0 + (if sm then 1 else 0)
theorem At.sign {z rm : Addr} {er : Value} {T : Str} {v : SV} {a b q c : Nat} (h : At z rm er T v a b (q + 1)) (ha : a ≤ q) (hc : T.cps.toList[q]? = some c) (hl : T.length ≤ 5000) : 1 ≤ v.ofs ∧ Sign v.C (v.ofs - 1) c := by
  have h1 := h.ofs
  have h2 := h.hq
  have h3 := h.hb
  have h4 := h.len
  refine ⟨by omega, ⟨by omega, ?_, by omega⟩⟩
  have e : (v.ofs - 1).toNat = q - a := by omega
  rw [e, h.C, List.getElem?_drop, List.getElem?_take, if_pos (by omega)]
  have e2 : a + (q - a) = q := by omega
  rw [e2]
  exact hc
theorem off_cons {d : Addr} {o : Obj} {r : List (Addr × Obj)} {l : List Addr} (h : ∀ b ∈ l, d ≠ b) (k : OwnOff r l) : OwnOff ((d, o) :: r) l := fun p hp b hb => by
  rcases List.mem_cons.mp hp with rfl | hp
  · exact h b hb
  · exact k p hp b hb
theorem off_nil {l : List Addr} : OwnOff [] l := fun _ h => nomatch h
def nQual : Str := Str.ofString "HTMLTokenizer.consumeNumberEntity"
local macro_rules | `(tactic| walk_at "my ne") => `(tactic| first | exact List.forall_mem_nil _ | (refine' List.forall_mem_cons.mpr ⟨?m8, ?r8⟩; (case m8 => k_ne); (case r8 => walk_at "my ne")))
local macro_rules | `(tactic| walk_at "my off") => `(tactic| first | exact off_nil | (refine' off_cons ?x9 ?y9; (case x9 => walk_at "my ne"); (case y9 => walk_at "my off")))
local macro_rules | `(tactic| walk_at "my own") => `(tactic| first | assumption | (refine' List.Mem.tail _ ?_; walk_at "my own"))
local macro_rules | `(tactic| walk_at "my sub") => `(tactic| first | exact List.forall_mem_nil _ | (intro p9 hp9; walk_at "my own") | (refine' List.forall_mem_cons.mpr ⟨?m9, ?r9⟩; (case m9 => k_memK); (case r9 => walk_at "my sub")))
local macro_rules | `(tactic| walk_at "my nd") => `(tactic| first | exact trivial | exact Dif.mk (by k_ne) | (refine And.intro ?_ ?_ <;> walk_at "my nd"))
theorem sub_swap {A B : List (Addr × Obj)} {x y : Addr × Obj} {ex : List (Addr × Obj)} : ∀ p ∈ A ++ B ++ (x :: y :: ex), p ∈ A ++ B ++ ex ++ [x, y] := fun p hp => by
  rcases List.mem_append.mp hp with h | h
  · exact List.mem_append_left _ (List.mem_append_left _ h)
  · rcases List.mem_cons.mp h with h | h
    · exact List.mem_append_right _ (h ▸ .head _)
    · rcases List.mem_cons.mp h with h | h
      · exact List.mem_append_right _ (h ▸ .tail _ (.head _))
      · exact List.mem_append_left _ (List.mem_append_right _ h)
abbrev objOf {w : World} {o : Obj} {l : List (Str × Value)} (_ : o.IsDictOf (sK w) l) : Obj := o
abbrev refOf {w : World} {o : Obj} {p q : Str × Value} {x : Str} {e : Addr} (_ : o.IsDictOf (sK w) [p, q, (x, .ref e)]) : Addr := e
theorem semi_is : (Str.ofString ";" : Str) = ⟨#[59]⟩ := by decide +kernel
theorem fffd : (Str.ofString "�" : Str) = ⟨#[65533]⟩ := by decide +kernel

noncomputable def tailB : List Stmt := (fBody numF).drop 8
structure TailTo (w : World) (rest : List Nat) (q0 q' : Nat) (its' : List Value) (extra : List (Addr × Obj)) : Prop where
  ex : ∃ sm : Bool, (sm = true ↔ rest.head? = some 59) ∧ TksAt w extra its' (if sm then [] else [.semi]) ∧ q' = q0 + (if sm then 1 else 0)
theorem num_tail {w : World} {sc : Scope} {body : List Stmt} (hsc : sc = fScope numF) (hbd : body = tailB) {dp un : Nat} {gd : Option (List Code)} {cn : Str} {cs : Scope} {L : Addr} {a : Addr} {ccd : Value} {cl : List (Str × Addr)} {outer : List Env} {g' : Heap} {L' : Addr} {m1 : Str → Option Value} {s : Shared} {Q : Flow → Shared → Prop} {E : Value → Shared → Prop} {loose : List Str} {mean : ExcName → Option Value} {mg mb : Str → Option Value} {base : Heap}
    {t dt tq : Addr} {jt : Nat → Tok} {o1 o2 o3 o4 o5 o6 : Value} {its : List Value} {nn : Nat} {y dy z dz rm : Addr} {er : Value} {k : Nat → Tok} {v2 : SV} {k0 k1 tT t2 : Tok} {TX : Str} {b2 q : Nat} (HT : TxtOk TX) {rest : List Nat} (hhd : TX.cps.toList[q]? = rest.head?) {own : List (Addr × Obj)} {cv vc : Value} (hits : its.length ≤ 1001) (hCh2 : ChTo z rm er TX q cv v2 b2)
    (lF : Fr g' L' s.heap (fun x => if x = Str.ofString "char" then some vc else if x = cL then some cv else if x = Str.ofString "self" then some (.ref t) else m1 x))
    (lN : News g' L' s.heap ((y, instObj 166 dy) :: (dy, dictOf (SEs w.params k v2) 10) :: (z, instObj 73 dz) :: (dz, dictOf (TEs w.params k0 k1 TX tT (b2 : Int) t2) 2) :: (rm, methodObj (.ref 148) (.ref y)) :: (t, instObj 762 dt) :: (dt, dictOf (REs w.params jt y tq o1 o2 o3 o4 o5 o6) 8) :: (tq, listOf its.toArray nn) :: own))
    (hoff : OwnOff own [y, dy, z, dz, rm, t, dt, tq])
    (X' : (K1 w.params).In g') (T' : Top q1 loose mean mg mb g') (B' : Below (ktrTop dp un gd cn cs L a ccd cl outer) base (envX cn cs L a ccd cl :: outer) g') (hd : dp + 8 < recursionLimit) (hu : un + 64 < cLine)
    (nd : Apart [y, dy, z, dz, rm, t, dt, tq])
    (hQ : ∀ h' tk m' its' nn' v' a' b' tp' q' extra, Fr g' L' h' m' → News g' L' h' (RLed w.params t dt tq jt y o1 o2 o3 o4 o5 o6 (its ++ its') nn' ++ CLed w.params y dy z dz rm k v' k0 k1 TX tT ((b' : Nat) : Int) tp' ++ extra ++ own) → OwnOff extra [t, dt, tq, y, dy, z, dz, rm] → At z rm er TX v' a' b' q' → TailTo w rest q q' its' extra → Q (.ret vc) { s with heap := h', toks := tk }) :
    wpAny (model r1.row.prog w) ((ktrTop dp un gd cn cs L a ccd cl outer).deeper (envOf nQual sc L' 275 (.ref 274))) (execs body (envOf nQual sc L' 275 (.ref 274))) Q E s := by
  k_with_none
  (k_with "subscriptTail" => (k_here; (with_reducible show wpAny _ _ (subscriptTail _ _ (Value.str _ _) (Value.int _ _)) _ _ _); (refine item_sign (by assumption) ?_)))
  (k_with "call ref" => (k_here; (with_reducible show wpAny _ _ (call (Value.ref 133) _) _ _ _); k_dflt (refine' spec_use (char_spec _ _ _ _ _ _ _ _ _ _ _ _ _ _ _ _ ?HT ?HA) ?Se ?B ?F ?X ?N ?T ?hk ?hd ?hu ?_; (case N => k_asm); (case HT => assumption); (case HA => assumption); (case Se => exact Sel.cons (by k_upd) (Sel.cons (by k_upd) (Sel.cons (by k_upd) (Sel.cons (by k_upd) (Sel.cons (by k_upd) Sel.nil))))); (case B => k_asm); (case F => k_asm); (case X => k_asm); (case T => k_asm); (case hk => first | exact rfl | assumption); (case hd => ktr_room); (case hu => ktr_units); k_whole); intro r' P' h' tk' hp' F' N' O'; obtain ⟨v9, b9, t9, e9, H9⟩ := hp'; subst e9; dsimp only [CLed, List.cons_append, List.nil_append] at N'; clear O'))
  (k_with "callWith" => (k_here; (with_reducible show wpAny _ _ (callWith _ (Value.builtin _) [_] _ _) _ _ _); refine callWith_method1 ?_))
  (k_with "call ref" => (k_here; (with_reducible show wpAny _ _ (call (Value.ref 163) [Value.ref _, Value.none]) _ _ _); k_dflt (refine' spec_use (unget_none _) Sel.nil ?B ?F ?X ?N ?T ?hk ?hd ?hu ?_; (case N => k_asm); (case B => k_asm); (case F => k_asm); (case X => k_asm); (case T => k_asm); (case hk => first | exact rfl | assumption); (case hd => ktr_room); (case hu => ktr_units); k_whole); intro r' P' h' tk' hp' F' N' O'; subst hp'; replace N' := News.drop N'; clear O'))
  (k_with "call ref" => (k_here; (with_reducible show wpAny _ _ (call (Value.ref 163) [Value.ref _, Value.str _ _]) _ _ _); k_dflt (refine' spec_use (unget_some ?h1 ?h2) ?Se ?B ?F ?X ?N ?T ?hk ?hd ?hu ?_; (case N => k_asm); (case Se => exact Sel.cons (by k_upd) (Sel.cons (by k_upd) Sel.nil)); (case h1 => assumption); (case h2 => assumption); (case B => k_asm); (case F => k_asm); (case X => k_asm); (case T => k_asm); (case hk => first | exact rfl | assumption); (case hd => ktr_room); (case hu => ktr_units); k_whole); intro r' P' h' tk' hp' F' N' O'; obtain ⟨tO', e8, e9⟩ := hp'; subst e8 e9; dsimp only [SLed, SEs, List.cons_append, List.nil_append] at N'; clear O'))
  (k_with "compareOp In str ref" => (k_here; first | (refine' inAy ?hH ?hX ?hF ?hc ?_; (case hH => assumption); (case hF => exact Fr.keep (by k_asm)); (case hX => k_asm); (case hc => assumption)) | (refine' inAn ?hH ?hX ?hF ?hc ?_; (case hH => assumption); (case hF => exact Fr.keep (by k_asm)); (case hX => k_asm); (case hc => assumption))))
  (k_with "compareOp In none ref" => (k_here; (refine' inAo ?hH ?hX ?hF ?_; (case hH => assumption); (case hF => exact Fr.keep (by k_asm)); (case hX => k_asm))))
  (k_with "compareOp In int ref" => (k_here; first | (refine' in46y ?hX ?hF (by assumption) ?_; (case hF => exact Fr.keep (by k_asm)); (case hX => k_asm)) | (refine' in46n ?hX ?hF (by assumption) ?_; (case hF => exact Fr.keep (by k_asm)); (case hX => k_asm))))
  (k_with "subscriptTail" => (k_here; (with_reducible show wpAny _ _ (subscriptTail _ _ (Value.ref 46) (Value.int _ _)) _ _ _); (refine' item46 ?hX ?hF (by assumption) ?_; (case hF => exact Fr.keep (by k_asm)); (case hX => k_asm)); intro _))
  (k_with "call builtin:str.join" => (k_here; (refine join_figs (by k_asm) (by k_mem) (by assumption) (by assumption) ?_); intro _ _))
  (k_with "call type:int" => (k_here; (with_reducible show wpAny _ _ (call (Value.type "int") [Value.str _ _, Value.int _ _]) _ _ _); (refine' call_textN ?hb ?FF ?hn ?_; (case FF => assumption); (case hn => assumption); (case hb => first | assumption | rfl)); intro _ _))
  (k_with "call builtin:list.append" => (k_here; (with_reducible show wpAny _ _ (call (Value.builtin _) [Value.ref _, _]) _ _ _); k_dflt (refine' append_K ?k1 ?k2 ?k3 ?_ ?z; (case k1 => k_asm); (case k2 => k_asm); (case k3 => k_upd); (case z => first | assumption | exact size_le (by assumption) | exact size_le (Nat.le_succ_of_le (by assumption)) | exact size_le1 (by assumption)); k_whole); intro h' F' N'))
  (k_with "isTrue BoolOp" => (k_here; k_dflt (refine' flag_cut rfl (by with_unfolding_all rfl) ?F ?hm ?N ?X ?T ?B ?_ ?_; (case F => k_asm); (case hm => with_unfolding_all rfl); (case N => k_asm); (case X => k_asm); (case T => k_asm); (case B => k_asm)) <;> intro hfl h' tk' F' N'))
  (k_with "isTrue BoolOp" => (k_here; first | (k_dflt (refine' big_yes rfl (by with_unfolding_all rfl) ?F ?hm ?N ?X ?hb ?_; (case F => k_asm); (case hm => with_unfolding_all rfl); (case N => k_asm); (case X => k_asm); (case hb => assumption)); intro tk') | (k_dflt (refine' big_no rfl (by with_unfolding_all rfl) ?F ?hm ?N ?X ?hb ?_; (case F => k_asm); (case hm => with_unfolding_all rfl); (case N => k_asm); (case X => k_asm); (case hb => assumption)); intro tk')))
  (k_with "eval Dict" => (k_here; k_dflt (refine' kdn_str ?q ?F ?N ?b ?a ?l ?e ?n ?_; (case q => rfl); (case F => k_asm); (case N => first | k_asm | exact News.nil); (case b => exact Top.nolimit (by k_asm)); (case a => rfl); (case l => rfl); (case e => exact List.cons_ne_nil _ _); (case n => exact Nat.le_of_ble_eq_true rfl)); intro d' h' o' F' N' l1 lo' hd'; (try k_lt l1)))
  (k_with "KdnMade" => (k_here; k_dflt (refine' kdn_made_str ?F ?N ?U ?d ?k ?n ?_; (case F => k_asm); (case N => k_asm); (case U => k_updF); (case d => k_asm); (case k => rfl); (case n => exact of_decide_eq_true (by first | rfl | kernel_rfl!)); intro h' o' F' N' hd'); (try dsimp only at N'); (try dsimp only [strPairs] at hd')))
  revert X'; k_fill; intro X'
  conv at hsc => rhs; whnf
  conv at hbd => rhs; whnf
  subst hsc hbd
  unfold nQual at *
  simp only [Apart, NeAll, and_true] at nd
  repeat (with_reducible rename _ ∧ _ => hh9; obtain ⟨_, _⟩ := hh9)
  have hT5 := HT.len
  obtain ⟨c, tc, a2, hc, rfl, HA2, haq⟩ | ⟨a2, hc, rfl, HA2⟩ := hCh2
  all_goals obtain ⟨rce, nl, ds, C, tC, sz, tS, ofs, tO, er9, pl, tL, pc, tP, bf⟩ := v2
  all_goals have HA3 := HA2
  all_goals obtain ⟨h1, h2, h3, h4, h5, h6, h7, h8, h9, h10, h11, h12⟩ := HA2
  all_goals dsimp only at h1 h2 h3 h4 h8 h9 h10 h11 h12
  all_goals subst h1 h2 h3 h4
  · by_cases c59 : c = 59
    · subst c59
      k_steps
      (rename News g' L' _ ((_, _) :: _) => lN2); (rename Fr g' L' _ _ => lF2)
      rw [← List.append_nil its] at lN2
      refine' hQ _ _ _ _ _ _ _ _ _ _ _ lF2 (News.part lN2 ?sub) ?off HA3 ⟨true, ⟨fun _ => by rw [← hhd]; exact hc, fun _ => rfl⟩, .nil, ?qq⟩
      case sub => walk_at "my sub"
      case off => walk_at "my off"
      case qq => rfl
    · have hsg := HA3.sign haq hc hT5
      have hs1 := hsg.1
      have hs2 := hsg.2
      k_steps
      · (rename News g' L' _ ((_, _) :: _) => lN2); (rename Fr g' L' _ _ => lF2)
        simp only [List.push_toArray, List.append_assoc, List.cons_append, List.nil_append] at lN2
        (rename Obj.IsDictOf _ _ [(_, _), (_, _)] => hi2)
        refine' hQ _ _ _ _ _ _ _ _ _ _ _ lF2 (News.part lN2 ?sub) ?off (show At z rm _ TX ⟨.ref rm, nl, .ref z, C, tC, sz, tS, ofs - 1, _, _, pl, tL, pc, tP, .none⟩ a2 b2 q from ⟨rfl, rfl, rfl, rfl, h5, haq, by omega, h8, h9, by (dsimp only; omega), h11, h12⟩) ⟨false, ⟨fun h => (nomatch h), fun h => by rw [← hhd, hc] at h; exact absurd (Option.some.inj h) c59⟩, .semi hi2 ?la .nil, ?qq⟩
        case sub => walk_at "my sub"
        case la => assumption
        case off => walk_at "my off"
        case qq => rfl
      · exfalso
        revert c59
        (rename (_ != _) = false => hb9)
        rw [semi_is] at hb9
        simpa using hb9
  · k_steps
    (rename News g' L' _ ((_, _) :: _) => lN2); (rename Fr g' L' _ _ => lF2)
    simp only [List.push_toArray, List.append_assoc, List.cons_append, List.nil_append] at lN2
    (rename Obj.IsDictOf _ _ [(_, _), (_, _)] => hi2)
    refine' hQ _ _ _ _ _ _ _ _ _ _ _ lF2 (News.part lN2 ?sub) ?off HA3 ⟨false, ⟨fun h => (nomatch h), fun h => by rw [← hhd, hc] at h; cases h⟩, .semi hi2 ?la .nil, ?qq⟩
    case sub => walk_at "my sub"
    case la => assumption
    case off => walk_at "my off"
    case qq => rfl
theorem num_rest {w : World} {sc : Scope} {body : List Stmt} (hsc : sc = fScope numF) (hbd : body = restB) {dp un : Nat} {gd : Option (List Code)} {cn : Str} {cs : Scope} {L : Addr} {a : Addr} {ccd : Value} {cl : List (Str × Addr)} {outer : List Env} {g' : Heap} {L' : Addr} {m1 : Str → Option Value} {s : Shared} {Q : Flow → Shared → Prop} {E : Value → Shared → Prop} {loose : List Str} {mean : ExcName → Option Value} {mg mb : Str → Option Value} {base : Heap}
    {t dt tq : Addr} {jt : Nat → Tok} {o1 o2 o3 o4 o5 o6 : Value} {its : List Value} {nn : Nat} {y dy z dz rm : Addr} {er : Value} {k : Nat → Tok} {v9 : SV} {k0 k1 tT t9 : Tok} {TX : Str} {b9 q : Nat} (HT : TxtOk TX) {fs rest : List Nat} (hq : TX.cps.toList.drop q = fs ++ rest) {bs : Nat} {al lst : Addr} {all : List Nat} (hal : AlOk al all) {nl0 : Nat} {tb : Tok} {cv0 : Value} (hFig : Figs bs fs) (hin : ∀ c ∈ fs, c ∈ all) (hrest : ∀ c, rest.head? = some c → c ∉ all) (hits : its.length ≤ 1000) (hCh : ChTo z rm er TX q cv0 v9 b9)
    (lF : Fr g' L' s.heap (fun x => if x = cL then some cv0 else if x = Str.ofString "charStack" then some (.ref lst) else if x = Str.ofString "radix" then some (.int (bs : Int) tb) else if x = Str.ofString "allowed" then some (.ref al) else if x = Str.ofString "self" then some (.ref t) else m1 x))
    (lN : News g' L' s.heap [(y, instObj 166 dy), (dy, dictOf (SEs w.params k v9) 10), (z, instObj 73 dz), (dz, dictOf (TEs w.params k0 k1 TX tT (b9 : Int) t9) 2), (rm, methodObj (.ref 148) (.ref y)), (lst, listOf #[] nl0), (t, instObj 762 dt), (dt, dictOf (REs w.params jt y tq o1 o2 o3 o4 o5 o6) 8), (tq, listOf its.toArray nn)])
    (X' : (K1 w.params).In g') (T' : Top q1 loose mean mg mb g') (B' : Below (ktrTop dp un gd cn cs L a ccd cl outer) base (envX cn cs L a ccd cl :: outer) g') (hd : dp + 8 < recursionLimit) (hu : un + 64 < cLine)
    (nd : Apart [y, dy, z, dz, rm, lst, t, dt, tq])
    (hE : PassesOwn (model r1.row.prog w) ((ktrTop dp un gd cn cs L a ccd cl outer).deeper (envOf nQual sc L' 275 (.ref 274))) (envOf nQual sc L' 275 (.ref 274)) E)
    (hQ : ∀ h' tk m' r its' nn' v' a' b' tp' q' extra, Fr g' L' h' m' → News g' L' h' (RLed w.params t dt tq jt y o1 o2 o3 o4 o5 o6 (its ++ its') nn' ++ CLed w.params y dy z dz rm k v' k0 k1 TX tT ((b' : Nat) : Int) tp' ++ extra) → OwnOff extra [t, dt, tq, y, dy, z, dz, rm] → At z rm er TX v' a' b' q' → NumTo w rest (q + fs.length) (numVal bs fs) r q' its' extra → Q (.ret r) { s with heap := h', toks := tk }) :
    wpAny (model r1.row.prog w) ((ktrTop dp un gd cn cs L a ccd cl outer).deeper (envOf nQual sc L' 275 (.ref 274))) (execs body (envOf nQual sc L' 275 (.ref 274))) Q E s := by
  (k_with "execs cons" => ((with_reducible show wpAny _ _ (execs [Stmt.If _ _ _ _, Stmt.Return _ _] _) _ _ _); refine Hold.out ?_))
  revert X'; k_fill; intro X'
  conv at hsc => rhs; whnf
  conv at hbd => rhs; whnf
  subst hsc hbd
  unfold nQual at hE ⊢
  simp only [Apart, NeAll, and_true] at nd
  repeat (with_reducible rename _ ∧ _ => hh9; obtain ⟨_, _⟩ := hh9)
  have hget : ∀ j, TX.cps.toList[q + j]? = (fs ++ rest)[j]? := fun j => by rw [← hq, List.getElem?_drop]
  have hl5 : fs.length ≤ 5000 := by have := hFig.len; omega
  refine wpAny_execs_cons ?_
  refine ksw_while2 (σ := LS) (fun c => [(y, instObj 166 dy), (dy, dictOf (SEs w.params k c.v) 10), (z, instObj 73 dz), (dz, dictOf (TEs w.params k0 k1 TX tT (c.b : Int) c.tp) 2), (rm, methodObj (.ref 148) (.ref y)), (lst, listOf (strValues c.l).toArray c.nn), (t, instObj 762 dt), (dt, dictOf (REs w.params jt y tq o1 o2 o3 o4 o5 o6) 8), (tq, listOf its.toArray nn)])
    (fun c => [(cL, c.cv)]) (fun c => c.j ≤ fs.length ∧ c.l.map (·.1) = (fs.take c.j).map one ∧ ChTo z rm er TX (q + c.j) c.cv c.v c.b) (fun c => c.j = fs.length) (fun c => fs.length - c.j) ⟨0, _, _, _, [], _, _⟩ lF lN ⟨Nat.zero_le _, rfl, hCh⟩ ?hk ?turn ?done hE
  case hk =>
    intro p hp
    rw [List.mem_singleton.mp hp]
    rfl
  case turn =>
    rintro ⟨j, v2, b2, t2, l2, n2, cv⟩ h2 tk2 ⟨hj, hl2, hCh2⟩ F2 N2
    dsimp only at hj hl2 hCh2 F2 N2
    clear lF lN hCh
    have hgj := hget j
    have hlen2 : (strValues l2).toArray.size ≤ sizeLine := by
      have e := congrArg List.length hl2
      rw [List.length_map, List.length_map, List.length_take] at e
      rw [List.size_toArray, strValues, List.length_map, sizeLine_eq]
      omega
    have F3 := F2
    dsimp only [kstB] at F3
    rcases hCh2 with ⟨c, tc, a2, hc, rfl, HA2, haq⟩ | ⟨a2, hc, rfl, HA2⟩
    · by_cases hjn : j < fs.length
      · have hch : c ∈ all := by
          rw [hc, List.getElem?_append_left hjn] at hgj
          exact hin c (List.mem_of_getElem? hgj.symm)
        obtain ⟨rce, nl, ds, C, tC, sz, tS, ofs, tO, er9, pl, tL, pc, tP, bf⟩ := v2
        have HA3 := HA2
        obtain ⟨h1, h2, h3, h4, h5, h6, h7, h8, h9, h10, h11, h12⟩ := HA2
        dsimp only at h1 h2 h3 h4 h8 h9 h10 h11 h12
        subst h1 h2 h3 h4
        k_steps
        (rename ChTo _ _ _ _ _ _ _ _ => hCh3); (rename Fr g' L' _ _ => lF); (rename News g' L' _ ((_, _) :: _) => lN)
        have epush : (strValues l2).toArray.push (Value.str ⟨#[c]⟩ tc) = (strValues (l2 ++ [(one c, tc)])).toArray := by simp [strValues]
        rw [epush] at lN
        refine ksw_end ⟨j + 1, _, _, _, l2 ++ [(one c, tc)], _, _⟩ lF lN (fun p hp => hp) ⟨hjn, ?_, hCh3⟩ ?_ (by ksw_same) trivial (by dsimp only; omega)
        · rw [hc, List.getElem?_append_left hjn] at hgj
          rw [List.take_add_one, ← hgj, List.map_append, List.map_append, hl2]
          rfl
        · intro p hp
          rw [List.mem_singleton.mp hp]
          rfl
      · have hjn2 : j = fs.length := by omega
        have hcn : c ∉ all := by
          refine hrest c ?_
          rw [hc, List.getElem?_append_right (by omega), hjn2, Nat.sub_self] at hgj
          rw [List.head?_eq_getElem?]; exact hgj.symm
        k_steps
        exact ⟨hjn2, _, _, rfl, F2, N2⟩
    · have hjn2 : j = fs.length := by
        by_cases hjn : j < fs.length
        · rw [hc, List.getElem?_append_left hjn, List.getElem?_eq_getElem hjn] at hgj
          cases hgj
        · omega
      k_steps
      exact ⟨hjn2, _, _, rfl, F2, N2⟩
  case done =>
    rintro ⟨j, v2, b2, t2, l2, n2, cv⟩ h2 tk2 ⟨hj, hl2, hCh2⟩ hjn F2 N2
    dsimp only at hj hl2 hCh2 F2 N2 hjn
    clear lF lN hCh
    have hl3 : l2.map (·.1) = fs.map one := by rw [hl2, hjn, List.take_length]
    obtain ⟨n, hn⟩ : ∃ n : Int, (numVal bs fs : Int) = n := ⟨_, rfl⟩
    have h0n : 0 ≤ n := by omega
    dsimp only [kstB] at F2
    obtain ⟨cc, hcc⟩ | ⟨hcc, hbig⟩ | ⟨hcc, hbig⟩ : (∃ cc, KTD.datumAt n repL = some cc) ∨ (KTD.datumAt n repL = none ∧ Big n) ∨ (KTD.datumAt n repL = none ∧ ¬ Big n) := by
      cases hda : KTD.datumAt n repL with
      | some cc => exact .inl ⟨cc, rfl⟩
      | none =>
        by_cases hb : Big n
        · exact .inr (.inl ⟨rfl, hb⟩)
        · exact .inr (.inr ⟨rfl, hb⟩)
    rotate_left 2
    have hbig2 : n ≤ 1114111 := by unfold Big at hbig; omega
    all_goals k_steps
    all_goals have hhd : TX.cps.toList[q + j]? = rest.head? := by rw [hget, hjn, List.getElem?_append_right (Nat.le_refl _), Nat.sub_self, List.head?_eq_getElem?]
    all_goals ((rename News g' L' _ ((_, _) :: _) => lN); (rename Fr g' L' _ _ => lF); refine ⟨?_⟩)
    all_goals subst hn
    all_goals try simp only [List.push_toArray] at lN
    · (rename Flag _ => hfl9)
      (rename Obj.IsDictOf _ _ [(_, _), (_, _), (_, _)] => hi3); (rename Obj.IsDictOf _ _ [(_, _)] => hi1)
      refine' num_tail (own := [(_, objOf hi3), (refOf hi3, objOf hi1)]) (its := (its ++ [_])) rfl (by with_unfolding_all rfl) HT hhd ?hl hCh2 (fr_have (x := Str.ofString "char") rfl (fr_have (x := cL) rfl (fr_have (x := Str.ofString "self") rfl lF))) (News.part lN ?sub) ?off X' T' B' hd hu ?nd ?hQ9
      case sub => walk_at "my sub"
      case off => (try dsimp only [objOf, refOf]); first | exact off_nil | walk_at "my off"
      case hl => first | exact Nat.le_succ_of_le hits | (rw [List.length_append]; exact Nat.succ_le_succ hits)
      case nd => walk_at "my nd"
      case hQ9 =>
        intro h9 tk9 m9 its9 nn9 v9' a9 b9' tp9 q9 ex9 F9 N9 O9 A9 T9
        obtain ⟨sm, g1, g2, g3⟩ := T9.ex
        rw [List.append_assoc its] at N9
        refine' hQ h9 tk9 m9 _ _ nn9 v9' a9 b9' tp9 q9 ((_, _) :: (_, _) :: ex9) F9 (News.part N9 ?sub9) ?off9 A9 (NumTo.mk ⟨_, _, rfl, .inr (.inr ⟨hcc, hbig, rfl⟩)⟩ ⟨true, sm, ⟨fun _ => .inr (.inr hfl9), fun _ => rfl⟩, g1, .bad hi3 hi1 ?la ?lb g2, ?qq⟩)
        case sub9 => exact sub_swap
        case la => assumption
        case lb => assumption
        case off9 => (try dsimp only [objOf, refOf]); exact off_cons (by walk_at "my ne") (off_cons (by walk_at "my ne") O9)
        case qq => rw [g3, hjn]
    · (rename ¬ Flag _ => hfl9)
      refine' num_tail (own := []) (its := its) rfl (by with_unfolding_all rfl) HT hhd ?hl hCh2 (fr_have (x := Str.ofString "char") rfl (fr_have (x := cL) rfl (fr_have (x := Str.ofString "self") rfl lF))) (News.part lN ?sub) ?off X' T' B' hd hu ?nd ?hQ9
      case sub => walk_at "my sub"
      case off => (try dsimp only [objOf, refOf]); first | exact off_nil | walk_at "my off"
      case hl => first | exact Nat.le_succ_of_le hits | (rw [List.length_append]; exact Nat.succ_le_succ hits)
      case nd => walk_at "my nd"
      case hQ9 =>
        intro h9 tk9 m9 its9 nn9 v9' a9 b9' tp9 q9 ex9 F9 N9 O9 A9 T9
        obtain ⟨sm, g1, g2, g3⟩ := T9.ex
        refine' hQ h9 tk9 m9 _ its9 nn9 v9' a9 b9' tp9 q9 ex9 F9 (News.part N9 ?sub9) O9 A9 (NumTo.mk ⟨_, _, rfl, .inr (.inr ⟨hcc, hbig, rfl⟩)⟩ ⟨false, sm, ⟨fun h => (nomatch h), fun h => by rcases h with ⟨_, h⟩ | h | h <;> first | (rw [hcc] at h; cases h) | exact absurd h hbig | exact absurd h hfl9⟩, g1, g2, ?qq⟩)
        case sub9 => exact fun p hp => List.mem_append_left _ hp
        case qq => rw [g3, hjn]
    · (rename Obj.IsDictOf _ _ [(_, _), (_, _), (_, _)] => hi3); (rename Obj.IsDictOf _ _ [(_, _)] => hi1)
      refine' num_tail (own := [(_, objOf hi3), (refOf hi3, objOf hi1)]) (its := (its ++ [_])) rfl (by with_unfolding_all rfl) HT hhd ?hl hCh2 (fr_have (x := Str.ofString "char") rfl (fr_have (x := cL) rfl (fr_have (x := Str.ofString "self") rfl lF))) (News.part lN ?sub) ?off X' T' B' hd hu ?nd ?hQ9
      case sub => walk_at "my sub"
      case off => (try dsimp only [objOf, refOf]); first | exact off_nil | walk_at "my off"
      case hl => first | exact Nat.le_succ_of_le hits | (rw [List.length_append]; exact Nat.succ_le_succ hits)
      case nd => walk_at "my nd"
      case hQ9 =>
        intro h9 tk9 m9 its9 nn9 v9' a9 b9' tp9 q9 ex9 F9 N9 O9 A9 T9
        obtain ⟨sm, g1, g2, g3⟩ := T9.ex
        rw [List.append_assoc its] at N9
        refine' hQ h9 tk9 m9 _ _ nn9 v9' a9 b9' tp9 q9 ((_, _) :: (_, _) :: ex9) F9 (News.part N9 ?sub9) ?off9 A9 (NumTo.mk ⟨cc, _, rfl, .inl hcc⟩ ⟨true, sm, ⟨fun _ => .inl ⟨cc, hcc⟩, fun _ => rfl⟩, g1, .bad hi3 hi1 ?la ?lb g2, ?qq⟩)
        case sub9 => exact sub_swap
        case la => assumption
        case lb => assumption
        case off9 => (try dsimp only [objOf, refOf]); exact off_cons (by walk_at "my ne") (off_cons (by walk_at "my ne") O9)
        case qq => rw [g3, hjn]
    · (rename Obj.IsDictOf _ _ [(_, _), (_, _), (_, _)] => hi3); (rename Obj.IsDictOf _ _ [(_, _)] => hi1)
      refine' num_tail (own := [(_, objOf hi3), (refOf hi3, objOf hi1)]) (its := (its ++ [_])) rfl (by with_unfolding_all rfl) HT hhd ?hl hCh2 (fr_have (x := Str.ofString "char") rfl (fr_have (x := cL) rfl (fr_have (x := Str.ofString "self") rfl lF))) (News.part lN ?sub) ?off X' T' B' hd hu ?nd ?hQ9
      case sub => walk_at "my sub"
      case off => (try dsimp only [objOf, refOf]); first | exact off_nil | walk_at "my off"
      case hl => first | exact Nat.le_succ_of_le hits | (rw [List.length_append]; exact Nat.succ_le_succ hits)
      case nd => walk_at "my nd"
      case hQ9 =>
        intro h9 tk9 m9 its9 nn9 v9' a9 b9' tp9 q9 ex9 F9 N9 O9 A9 T9
        obtain ⟨sm, g1, g2, g3⟩ := T9.ex
        rw [List.append_assoc its] at N9
        refine' hQ h9 tk9 m9 _ _ nn9 v9' a9 b9' tp9 q9 ((_, _) :: (_, _) :: ex9) F9 (News.part N9 ?sub9) ?off9 A9 (NumTo.mk ⟨65533, _, congrArg (fun x => Value.str x _) fffd, .inr (.inl ⟨hcc, hbig, rfl⟩)⟩ ⟨true, sm, ⟨fun _ => .inr (.inl hbig), fun _ => rfl⟩, g1, .bad hi3 hi1 ?la ?lb g2, ?qq⟩)
        case sub9 => exact sub_swap
        case la => assumption
        case lb => assumption
        case off9 => (try dsimp only [objOf, refOf]); exact off_cons (by walk_at "my ne") (off_cons (by walk_at "my ne") O9)
        case qq => rw [g3, hjn]
end
local macro_rules | `(tactic| walk_at "my ne") => `(tactic| first | exact List.forall_mem_nil _ | (refine' List.forall_mem_cons.mpr ⟨?m8, ?r8⟩; (case m8 => k_ne); (case r8 => walk_at "my ne")))
local macro_rules | `(tactic| walk_at "my off") => `(tactic| first | exact off_nil | (refine' off_cons ?x9 ?y9; (case x9 => walk_at "my ne"); (case y9 => walk_at "my off")))
local macro_rules | `(tactic| walk_at "my own") => `(tactic| first | assumption | (refine' List.Mem.tail _ ?_; walk_at "my own"))
local macro_rules | `(tactic| walk_at "my nd") => `(tactic| first | exact trivial | exact Dif.mk (by k_ne) | (refine And.intro ?_ ?_ <;> walk_at "my nd"))
section
open PySem PySem.W PySem.Calls PyProof.Rows
theorem num_spec {w : World} {hx : Bool} {bs : Nat} {all : List Nat} {t dt tq : Addr} {jt : Nat → Tok} {o1 o2 o3 o4 o5 o6 : Value} {its : List Value} {nn : Nat} {y dy z dz rm : Addr} {er : Value} {k : Nat → Tok} {v : SV} {k0 k1 tT tp : Tok} {TX : Str} {a0 b0 q : Nat} (HT : TxtOk TX) (HA : At z rm er TX v a0 b0 q) {fs rest : List Nat} (hq : TX.cps.toList.drop q = fs ++ rest) (hbs : (hx = true ∧ bs = 16 ∧ all = hexL) ∨ (hx = false ∧ bs = 10 ∧ all = decL)) (hFig : Figs bs fs) (hin : ∀ c ∈ fs, c ∈ all) (hrest : ∀ c, rest.head? = some c → c ∉ all) (hits : its.length ≤ 1000) :
    S1 w 275 [.ref t, .bool hx] (RLed w.params t dt tq jt y o1 o2 o3 o4 o5 o6 its nn ++ CLed w.params y dy z dz rm k v k0 k1 TX tT (b0 : Int) tp) 10 80 (fun r P' => ∃ its' nn' v' a' b' tp' q' extra, P' = RLed w.params t dt tq jt y o1 o2 o3 o4 o5 o6 (its ++ its') nn' ++ CLed w.params y dy z dz rm k v' k0 k1 TX tT ((b' : Nat) : Int) tp' ++ extra ∧ OwnOff extra [t, dt, tq, y, dy, z, dz, rm] ∧ At z rm er TX v' a' b' q' ∧ NumTo w rest (q + fs.length) (numVal bs fs) r q' its' extra) := by
  k_with_none
  (k_with "call ref" => (k_here; (with_reducible show wpAny _ _ (call (Value.ref 133) _) _ _ _); k_dflt (refine' spec_use (char_spec _ _ _ _ _ _ _ _ _ _ _ _ _ _ _ _ ?HT ?HA) ?Se ?B ?F ?X ?N ?T ?hk ?hd ?hu ?_; (case N => k_asm); (case HT => assumption); (case HA => assumption); (case Se => exact Sel.cons (by k_upd) (Sel.cons (by k_upd) (Sel.cons (by k_upd) (Sel.cons (by k_upd) (Sel.cons (by k_upd) Sel.nil))))); (case B => k_asm); (case F => k_asm); (case X => k_asm); (case T => k_asm); (case hk => first | exact rfl | assumption); (case hd => ktr_room); (case hu => ktr_units); k_whole); intro r' P' h' tk' hp' F' N' O'; obtain ⟨v9, b9, t9, e9, H9⟩ := hp'; subst e9; dsimp only [CLed, List.cons_append, List.nil_append] at N'; clear O'))
  (k_with "execs cons" => ((with_reducible show wpAny _ _ (execs (Stmt.While _ _ _ _ :: _) _) _ _ _); refine Hold.out ?_))
  unfold S1; k_fill
  intro loose mean mg mb dp un gd cn cs a ccd cl outer A₀ base h₀ L m s Q E own B F X N O nd T hk hd hu hret
  have HA0 := HA
  obtain ⟨rce, nl, ds, C, tC, sz, tS, ofs, tO, er9, pl, tL, pc, tP, bf⟩ := v
  obtain ⟨h1, h2, h3, h4, h5, h6, h7, h8, h9, h10, h11, h12⟩ := HA
  dsimp only at h1 h2 h3 h4 h8 h9 h10 h11 h12
  subst h1 h2 h3 h4
  replace nd := apart_of nd
  simp only [List.map_append, List.cons_append, List.nil_append, List.map_cons, List.map_nil, Apart, NeAll, and_true] at nd
  repeat (with_reducible rename _ ∧ _ => hh9; obtain ⟨_, _⟩ := hh9)
  k_dflt (refine' code_part (binds := [(Str.ofString "self", .ref t), (Str.ofString "isHex", .bool hx)]) B F X N O T ?kA ?kF ?kK ?k6 ?k7 ?k8 ?k9 ?kB ?_ ?c2 ?c3 ?c4 ?c5; (case kA => exact rfl); (case kF => exact rfl); (case kK => exact hk); (case k6 => k_is); (case k7 => k_is); (case k8 => ktr_room); (case k9 => first | exact BindsTo.of_eq rfl | exact binds_K (by k_in) rfl (by k_is) rfl rfl rfl); (case c5 => decide); (case kB => exact locs rfl); (case c2 => exact rfl); (case c3 => exact rfl); (case c4 => exact rfl); k_whole; intro g' L' h' FG' F' N' B' X' T' S' lt'; (try dsimp only); (try k_fold))
  dsimp only [CLed, RLed, List.cons_append, List.nil_append] at N'
  rcases hbs with ⟨rfl, rfl, rfl⟩ | ⟨rfl, rfl, rfl⟩
  all_goals k_steps
  all_goals refine ⟨?_⟩
  all_goals ((rename ChTo _ _ _ _ _ _ _ _ => hCh); (rename Fr g' L' _ _ => lF); (rename News g' L' _ ((_, _) :: _) => lN))
  · refine' num_rest rfl (by with_unfolding_all rfl) HT hq (.inl ⟨rfl, rfl⟩) hFig hin hrest hits hCh (fr_have (x := cL) rfl (fr_have (x := Str.ofString "charStack") rfl (fr_have (x := Str.ofString "radix") rfl (fr_have (x := Str.ofString "allowed") rfl (fr_have (x := Str.ofString "self") rfl lF))))) lN X' T' B' ?hd ?hu ?nd ?hE ?hQ
    case hd => ktr_room
    case hu => ktr_units
    case nd => walk_at "my nd"
    case hE => first | passes_own | with_unfolding_all passes_own
    case hQ =>
      intro h9 tk9 m9 r9 its9 nn9 v9 a9 b9 tp9 q9 ex9 F9 N9 O9 A9 T9
      k_steps
      (rename Stay own _ => hS); (rename News h₀ L h9 _ => kN)
      exact spec_end hret N S' N9 (by k_asm) kN hS ⟨its9, nn9, v9, a9, b9, tp9, q9, ex9, rfl, O9, A9, T9⟩
  · refine' num_rest rfl (by with_unfolding_all rfl) HT hq (.inr ⟨rfl, rfl⟩) hFig hin hrest hits hCh (fr_have (x := cL) rfl (fr_have (x := Str.ofString "charStack") rfl (fr_have (x := Str.ofString "radix") rfl (fr_have (x := Str.ofString "allowed") rfl (fr_have (x := Str.ofString "self") rfl lF))))) lN X' T' B' ?hd ?hu ?nd ?hE ?hQ
    case hd => ktr_room
    case hu => ktr_units
    case nd => walk_at "my nd"
    case hE => first | passes_own | with_unfolding_all passes_own
    case hQ =>
      intro h9 tk9 m9 r9 its9 nn9 v9 a9 b9 tp9 q9 ex9 F9 N9 O9 A9 T9
      k_steps
      (rename Stay own _ => hS); (rename News h₀ L h9 _ => kN)
      exact spec_end hret N S' N9 (by k_asm) kN hS ⟨its9, nn9, v9, a9, b9, tp9, q9, ex9, rfl, O9, A9, T9⟩
end
section
open PySem PySem.W PySem.Calls PyProof.Rows
theorem tw_stop {p : Nat → Bool} {x : Nat} (hx : p x = false) : ∀ (a b : List Nat), (a ++ x :: b).takeWhile p = a.takeWhile p
  | [], b => by rw [List.nil_append, List.takeWhile_cons, hx]; rfl
  | c :: a, b => by
    rw [List.cons_append, List.takeWhile_cons, List.takeWhile_cons, tw_stop hx a b]
theorem clOf_after' (l m : List Nat) : clOf (l ++ 10 :: m) = clOf m := by
  unfold clOf
  rw [List.reverse_append, List.reverse_cons, List.append_assoc, List.singleton_append, tw_stop rfl]
theorem join_facts : ∀ (ps : List Str), ps ≠ [] → (∀ p ∈ ps, 10 ∉ p.cps.toList) → lnOf (Str.join ⟨#[10]⟩ ps).cps.toList + 1 = ps.length ∧ ∀ x, ps.getLast? = some x → clOf (Str.join ⟨#[10]⟩ ps).cps.toList = x.length
  | [], h, _ => absurd rfl h
  | [x], _, h => by
    have hx := h x (.head _)
    refine ⟨?_, fun y e => ?_⟩
    · show List.count 10 x.cps.toList + 1 = 1
      rw [List.count_eq_zero_of_not_mem hx]
    · have e' : x = y := by simpa using e
      subst e'
      show clOf x.cps.toList = _
      have := clOf_append_no (l := []) (m := x.cps.toList) fun c hc e => hx (e ▸ hc)
      rw [List.nil_append] at this
      rw [this]
      show 0 + _ = _
      simp [Str.length]
  | x :: y :: r, _, h => by
    obtain ⟨i1, i2⟩ := join_facts (y :: r) (List.cons_ne_nil _ _) fun p hp => h p (.tail _ hp)
    have hx := h x (.head _)
    have e : (Str.join ⟨#[10]⟩ (x :: y :: r)).cps.toList = x.cps.toList ++ 10 :: (Str.join ⟨#[10]⟩ (y :: r)).cps.toList := by
      show (x.cps ++ #[10] ++ (Str.join ⟨#[10]⟩ (y :: r)).cps).toList = _
      simp
    rw [e]
    refine ⟨?_, fun z hz => ?_⟩
    · rw [lnOf_append]
      show List.count 10 x.cps.toList + List.count 10 (10 :: _) + 1 = _
      rw [List.count_eq_zero_of_not_mem hx, List.count_cons_self]
      show 0 + (lnOf (Str.join ⟨#[10]⟩ (y :: r)).cps.toList + 1) + 1 = _
      rw [i1]; simp
    · rw [clOf_after']
      exact i2 z (by simpa using hz)
theorem split_ne (x y : Str) : Txt.split x y ≠ [] := by
  unfold Txt.split
  split
  · exact List.cons_ne_nil _ _
  · split
    · exact List.cons_ne_nil _ _
    · rw [StrLaws.partsBetween_eq]
      generalize Builtin.Str.occurrences x y 0 x.length (x.length + 1) = c
      cases c <;> exact List.cons_ne_nil _ _
theorem split_facts {H : Str} {l : List (Str × Tok)} (h : l.map (·.1) = Txt.split H (Str.ofString "\n")) : ∃ l0 x t, l = l0 ++ [(x, t)] ∧ (l.length : Int) = lnOf H.cps.toList + 1 ∧ (x.length : Int) = clOf H.cps.toList := by
  have hne : l ≠ [] := fun e => split_ne H (Str.ofString "\n") (by rw [← h, e]; rfl)
  rw [nl_is] at h
  obtain ⟨i1, i2⟩ := join_facts (Txt.split H ⟨#[10]⟩) (split_ne _ _) fun p hp => StrLaws.split_free H 10 p hp
  rw [StrLaws.join_split] at i1 i2
  refine ⟨l.dropLast, (l.getLast hne).1, (l.getLast hne).2, (List.dropLast_concat_getLast hne).symm, ?_, ?_⟩
  · rw [← h, List.length_map] at i1; omega
  · have := i2 (l.getLast hne).1 (by rw [← h, List.getLast?_map, List.getLast?_eq_some_getLast hne]; rfl)
    omega
theorem item_lastS {prog : Program} {w : World} {A : Around} {E : Value → Shared → Prop} {s : Shared} {value slice : PySem.Expr} {D : Addr} {l0 : List (Str × Tok)} {x : Str} {t u : Tok} {Q : Value → Shared → Prop} (hl : s.heap.IsList D (strValues (l0 ++ [(x, t)])).toArray) (h : Q (.str x t) s)
    (hs : subscripted slice false (.ref D) (.int (-1) u) = operate [.ref D, .int (-1) u] (getItem (.ref D) (.int (-1) u)) := by with_unfolding_all rfl) (hg : ∀ r, letTemporaryGo value (.ref D) r = pure () := by intro _; with_unfolding_all rfl) :
    wpAny (model prog w) A (subscriptTail value slice (.ref D) (.int (-1) u)) Q E s := by
  refine subscriptTail_builtin hl.typeIs slot_list_getitem.lookup (wpAny_getItem_list_neg hl (by decide) (by rw [List.size_toArray, strValues, List.length_map, List.length_append]; simp; omega) (by decide) ?_ h) hs hg
  rw [List.getElem?_toArray, List.size_toArray, strValues, List.length_map, List.length_append, List.map_append]
  have e : (-1 + ((l0.length + [(x, t)].length : Nat) : Int)).toNat = (List.map (fun (p : Str × Tok) => Value.str p.1 p.2) l0).length := by simp; omega
  rw [e, List.getElem?_append_right (Nat.le_refl _), Nat.sub_self]
  rfl
theorem place_spec {w : World} (H : Str) (t : Tok) (hH : H.length ≤ 5000) : S1 w 812 [.str H t] [] 3 24 (fun r P' => ∃ D t1 t2, r = .ref D ∧ P' = [(D, tupO [.int (lnOf H.cps.toList + 1) t1, .int (clOf H.cps.toList) t2])]) := by
  k_with_none
  (k_with "subscriptTail" => (k_here; (with_reducible show wpAny _ _ (subscriptTail _ _ (Value.ref _) (Value.int (-1) _)) _ _ _); (refine item_lastS (News.isList (by k_asm) (by k_mem)) ?_)))
  unfold S1; k_fill
  intro loose mean mg mb dp un gd cn cs a ccd cl outer A₀ base h₀ L m s Q E own B F X N O nd T hk hd hu hret
  k_dflt (refine' code_part (binds := [(Str.ofString "head", .str H t)]) B F X N O T ?kA ?kF ?kK ?k6 ?k7 ?k8 ?k9 ?kB ?_ ?c2 ?c3 ?c4 ?c5; (case kA => exact rfl); (case kF => exact rfl); (case kK => exact hk); (case k6 => k_is); (case k7 => k_is); (case k8 => ktr_room); (case k9 => first | exact BindsTo.of_eq rfl | exact binds_K (by k_in) rfl (by k_is) rfl rfl rfl); (case c5 => decide); (case kB => exact locs rfl); (case c2 => exact rfl); (case c3 => exact rfl); (case c4 => exact rfl); k_whole; intro g' L' h' FG' F' N' B' X' T' S' lt'; (try dsimp only); (try k_fold))
  k_steps
  (rename List.map _ _ = Txt.split _ _ => hl)
  obtain ⟨l0, x9, t9, e1, e2, e3⟩ := split_facts hl
  subst e1
  (rename ∀ a, a ∈ List.map _ _ → _ => hlb)
  have hx9 : x9.length ≤ 5000 := Nat.le_trans (hlb x9 (by simp)) hH
  k_steps
  rw [e2, e3] at *
  (rename Stay own _ => hS); (rename News h₀ L _ ((_, _) :: _) => kN); (rename News g' L' _ ((_, _) :: _) => kN')
  exact spec_end hret N S' (News.left (P := [(_, _)]) kN') (by k_asm) (News.left (P := [(_, _)]) kN) hS ⟨_, _, _, rfl, rfl⟩
end
section
open PySem PySem.W PySem.Calls PyProof.Rows
open KTD in
theorem datum_none {n : Int} : ∀ {l : List (Int × Nat)}, (∀ p ∈ l, n ≠ p.1) → KTD.datumAt n l = none
  | [], _ => rfl
  | (x, d) :: D, h => by
    show (if decide (n = x) = true then some d else KTD.datumAt n D) = none
    rw [if_neg (by simpa using h (x, d) (.head _))]
    exact datum_none fun p hp => h p (.tail _ hp)
theorem rep_keys : ∀ p ∈ repL, p.1 = 0 ∨ p.1 = 13 ∨ (128 ≤ p.1 ∧ p.1 < 160) := by decide +kernel
theorem rep_none {n : Int} (h : ¬ (n = 0 ∨ n = 13 ∨ (128 ≤ n ∧ n < 160))) : KTD.datumAt n repL = none :=
  datum_none fun p hp e => h (e ▸ rep_keys p hp)
noncomputable def oldS : Str := Str.ofString "\u20AC\x81\u201A\u0192\u201E\u2026\u2020\u2021\u02C6\u2030\u0160\u2039\u0152\x8D\u017D\x8F\x90\u2018\u2019\u201C\u201D\u2022\u2013\u2014\u02DC\u2122\u0161\u203A\u0153\x9D\u017E\u0178"
theorem rep_old' : ∀ k : Fin 32, KTD.datumAt (128 + (k.val : Int)) repL = some ((Txt.charAt oldS (k.val : Int)).getD 0) := by decide +kernel
theorem rep_old {n : Int} (h1 : 128 ≤ n) (h2 : n < 160) : KTD.datumAt n repL = some ((Txt.charAt oldS (n - 128)).getD 0) := by
  have h := rep_old' ⟨(n - 128).toNat, by omega⟩
  have e : (((n - 128).toNat : Nat) : Int) = n - 128 := by omega
  dsimp only at h
  rw [e] at h
  have e2 : 128 + (n - 128) = n := by omega
  rw [e2] at h
  exact h
theorem rep_0 : KTD.datumAt (0 : Int) repL = some 65533 := by decide +kernel
theorem rep_13 : KTD.datumAt (13 : Int) repL = some 13 := by decide +kernel
theorem sgn_old {n : Int} (h1 : 128 ≤ n) (h2 : n < 160) : SgnOf n ((Txt.charAt oldS (n - 128)).getD 0) := .inl (rep_old h1 h2)
theorem sgn_big {n : Int} (h : n = 0 ∨ Big n) : SgnOf n 65533 := by
  rcases h with rfl | h
  · exact .inl rep_0
  · exact .inr (.inl ⟨rep_none (by unfold Big at h; omega), h, rfl⟩)
theorem sgn_plain {n : Int} (h1 : n ≠ 0) (h2 : ¬ Big n) (h3 : ¬ (128 ≤ n ∧ n < 160)) : SgnOf n n.toNat := by
  by_cases e : n = 13
  · subst e
    exact .inl rep_13
  · exact .inr (.inr ⟨rep_none (by omega), h2, rfl⟩)
def Told (n : Int) : Prop := n = 0 ∨ (1 ≤ n ∧ n ≤ 31 ∧ n ≠ 9 ∧ n ≠ 10 ∧ n ≠ 12) ∨ (127 ≤ n ∧ n < 160) ∨ (55296 ≤ n ∧ n < 57344) ∨ 1114111 < n ∨ (64976 ≤ n ∧ n < 65008) ∨ 65533 < Int.fmod n 65536
theorem nc_one : ∀ e ∈ ncL, e = 11 ∨ 65533 < Int.fmod e 65536 := by decide +kernel
theorem nc_two' : ∀ k : Fin 17, ncL.any (· == 65536 * (k.val : Int) + 65534) = true ∧ ncL.any (· == 65536 * (k.val : Int) + 65535) = true := by decide +kernel
theorem nc_11 : ncL.any (· == (11 : Int)) = true := by decide +kernel
theorem nc_two {n : Int} (h0 : 0 ≤ n) (h1 : n ≤ 1114111) (h : 65533 < Int.fmod n 65536) : ncL.any (· == n) = true := by
  rw [Int.fmod_eq_emod_of_nonneg _ (by decide)] at h
  have hk := nc_two' ⟨(n / 65536).toNat, by omega⟩
  dsimp only at hk
  have e : (((n / 65536).toNat : Nat) : Int) = n / 65536 := by omega
  rw [e] at hk
  have h2 : n % 65536 = 65534 ∨ n % 65536 = 65535 := by omega
  rcases h2 with h2 | h2
  · have e2 : 65536 * (n / 65536) + 65534 = n := by omega
    rw [e2] at hk; exact hk.1
  · have e2 : 65536 * (n / 65536) + 65535 = n := by omega
    rw [e2] at hk; exact hk.2
theorem bad_told {n : Int} (h0 : 0 ≤ n) : Bad n ↔ Told n := by
  constructor
  · rintro (⟨c, h⟩ | h | h)
    · by_cases hk : n = 0 ∨ n = 13 ∨ (128 ≤ n ∧ n < 160)
      · unfold Told; omega
      · rw [rep_none hk] at h; cases h
    · unfold Big at h; unfold Told; omega
    · unfold Flag at h
      rcases h with h | h | h | h | h
      · unfold Told; omega
      · unfold Told; omega
      · unfold Told; omega
      · unfold Told; omega
      · obtain ⟨e, he, e2⟩ := List.any_eq_true.mp h
        have e3 : e = n := by simpa using e2
        subst e3
        have := nc_one e he
        unfold Told; omega
  · intro h
    by_cases hb : Big n
    · exact .inr (.inl hb)
    · unfold Big at hb
      rcases h with h | h | h | h | h | h | h
      · exact .inl ⟨_, by rw [h]; exact rep_0⟩
      · by_cases e : n = 11
        · exact .inr (.inr (.inr (.inr (.inr (.inr (e ▸ nc_11))))))
        · by_cases e2 : n = 13
          · exact .inl ⟨_, by rw [e2]; exact rep_13⟩
          · refine .inr (.inr ?_)
            by_cases e3 : n ≤ 8
            · exact .inl ⟨h.1, e3⟩
            · exact .inr (.inl ⟨by omega, by omega⟩)
      · exact .inr (.inr (.inr (.inr (.inl ⟨h.1, by omega⟩))))
      · omega
      · omega
      · exact .inr (.inr (.inr (.inr (.inr (.inl ⟨h.1, by omega⟩)))))
      · exact .inr (.inr (.inr (.inr (.inr (.inr (nc_two h0 (by omega) h))))))
end
section
open PySem PySem.W PySem.Calls PyProof.Rows
def SgOut (n : Int) (r : Value) (P' : List (Addr × Obj)) : Prop := ∃ D c t1 b, r = .ref D ∧ P' = [(D, tupO [.str ⟨#[c]⟩ t1, .bool b])] ∧ SgnOf n c ∧ (b = true ↔ Bad n)
theorem sg_old {n : Int} (h0 : 0 ≤ n) (h1 : 128 ≤ n) (h2 : n < 160) (D : Addr) (t1 : Tok) : SgOut n (.ref D) [(D, tupO [.str (Txt.item oldS (n - 128)) t1, .bool true])] :=
  ⟨D, _, t1, true, rfl, rfl, sgn_old h1 h2, ⟨fun _ => (bad_told h0).mpr (by unfold Told; omega), fun _ => rfl⟩⟩
theorem sg_big {n : Int} (h0 : 0 ≤ n) (h1 : n = 0 ∨ Big n) (D : Addr) (t1 : Tok) : SgOut n (.ref D) [(D, tupO [.str (Str.ofString "\uFFFD") t1, .bool true])] :=
  ⟨D, 65533, t1, true, rfl, by rw [fffd], sgn_big h1, ⟨fun _ => (bad_told h0).mpr (by unfold Big at h1; unfold Told; omega), fun _ => rfl⟩⟩
theorem sg_plain {n : Int} (h0 : 0 ≤ n) (h1 : n ≠ 0) (h2 : ¬ Big n) (h3 : ¬ (128 ≤ n ∧ n < 160)) (b : Bool) (hb : b = true ↔ Told n) (D : Addr) (t1 : Tok) : SgOut n (.ref D) [(D, tupO [.str ⟨#[n.toNat]⟩ t1, .bool b])] :=
  ⟨D, _, t1, b, rfl, rfl, sgn_plain h1 h2 h3, by rw [bad_told h0]; exact hb⟩
theorem not_any (n : Int) : (!([9, 10, 12] : List Int).any (fun x => x == n)) = true ↔ (n ≠ 9 ∧ n ≠ 10 ∧ n ≠ 12) := by
  simp only [List.any_cons, List.any_nil, Bool.or_false, Bool.not_eq_true', Bool.or_eq_false_iff, beq_eq_false_iff_ne, ne_eq]
  omega
theorem sign_spec {w : World} (n : Int) (t : Tok) (h0 : 0 ≤ n) : S1 w 805 [.int n t] [] 3 24 (fun r P' => SgOut n r P') := by
  unfold S1; k_fill
  intro loose mean mg mb dp un gd cn cs a ccd cl outer A₀ base h₀ L m s Q E own B F X N O nd T hk hd hu hret
  have hfm : Int.fmod n 65536 = n % 65536 := Int.fmod_eq_emod_of_nonneg _ (by decide)
  k_dflt (refine' code_part (binds := [(Str.ofString "code", .int n t)]) B F X N O T ?kA ?kF ?kK ?k6 ?k7 ?k8 ?k9 ?kB ?_ ?c2 ?c3 ?c4 ?c5; (case kA => exact rfl); (case kF => exact rfl); (case kK => exact hk); (case k6 => k_is); (case k7 => k_is); (case k8 => ktr_room); (case k9 => first | exact BindsTo.of_eq rfl | exact binds_K (by k_in) rfl (by k_is) rfl rfl rfl); (case c5 => decide); (case kB => exact locs rfl); (case c2 => exact rfl); (case c3 => exact rfl); (case c4 => exact rfl); k_whole; intro g' L' h' FG' F' N' B' X' T' S' lt'; (try dsimp only); (try k_fold))
  k_steps
  all_goals ((rename Stay own _ => hS); (rename News h₀ L _ ((_, _) :: _) => kN); (rename News g' L' _ ((_, _) :: _) => kN'); (replace kN := News.left (P := [(_, _)]) kN); (replace kN' := News.left (P := [(_, _)]) kN'))
  all_goals first
    | exact spec_end hret N S' kN' (by k_asm) kN hS (sg_old h0 (by omega) (by omega) _ _)
    | exact spec_end hret N S' kN' (by k_asm) kN hS (sg_big h0 (by unfold Big; omega) _ _)
    | exact spec_end hret N S' kN' (by k_asm) kN hS (sg_plain h0 (by omega) (by unfold Big; omega) (by omega) _ ⟨fun _ => by unfold Told; omega, fun _ => rfl⟩ _ _)
    | exact spec_end hret N S' kN' (by k_asm) kN hS (sg_plain h0 (by omega) (by unfold Big; omega) (by omega) _ (by rw [decide_eq_true_eq]; unfold Told; omega) _ _)
    | exact spec_end hret N S' kN' (by k_asm) kN hS (sg_plain h0 (by omega) (by unfold Big; omega) (by omega) _ (by rw [not_any]; unfold Told; omega) _ _)
end
section
open PySem PySem.W PySem.Calls PyProof.Rows
def edgesL : List Int := [0, 1, 8, 9, 10, 11, 12, 13, 14, 31, 32, 126, 127, 128, 159, 160, 55295, 55296, 57343, 57344, 64975, 64976, 65007, 65008, 1114111, 1114112, 4294967361, 18446744073709551681]
theorem edges_spec {w : World} : S1 w 773 [] [] 1 8 (fun r P' => ∃ D its nn, r = .ref D ∧ P' = [(D, listOf its.toArray nn)] ∧ IntsAre its edgesL) := by
  unfold S1; k_fill
  intro loose mean mg mb dp un gd cn cs a ccd cl outer A₀ base h₀ L m s Q E own B F X N O nd T hk hd hu hret
  k_dflt (refine' code_part (binds := []) B F X N O T ?kA ?kF ?kK ?k6 ?k7 ?k8 ?k9 ?kB ?_ ?c2 ?c3 ?c4 ?c5; (case kA => exact rfl); (case kF => exact rfl); (case kK => exact hk); (case k6 => k_is); (case k7 => k_is); (case k8 => ktr_room); (case k9 => first | exact BindsTo.of_eq rfl | exact binds_K (by k_in) rfl (by k_is) rfl rfl rfl); (case c5 => decide); (case kB => exact locs rfl); (case c2 => exact rfl); (case c3 => exact rfl); (case c4 => exact rfl); k_whole; intro g' L' h' FG' F' N' B' X' T' S' lt'; (try dsimp only); (try k_fold))
  k_steps
  (rename Stay own _ => hS); (rename News h₀ L _ [(_, _)] => kN); (rename News g' L' _ [(_, _)] => kN')
  exact spec_end hret N S' kN' (by k_asm) kN hS ⟨_, _, _, rfl, rfl, by repeat constructor⟩
theorem item_ints {prog : Program} {w : World} {A : Around} {E : Value → Shared → Prop} {s : Shared} {value slice : PySem.Expr} {D : Addr} {its : List Value} {ns : List Int} {i : Int} {u : Tok} {Q : Value → Shared → Prop} (hl : s.heap.IsList D its.toArray) (hi : IntsAre its ns) (h0 : 0 ≤ i) (h1 : i < ns.length) (h2 : ns.length ≤ 1000) (h : ∀ x t, x ∈ ns → Q (.int x t) s)
    (hs : subscripted slice false (.ref D) (.int i u) = operate [.ref D, .int i u] (getItem (.ref D) (.int i u)) := by with_unfolding_all rfl) (hg : ∀ r, letTemporaryGo value (.ref D) r = pure () := by intro _; with_unfolding_all rfl) :
    wpAny (model prog w) A (subscriptTail value slice (.ref D) (.int i u)) Q E s := by
  have hlt : i.toNat < ns.length := by omega
  obtain ⟨t, hx⟩ := hi.get i.toNat ns[i.toNat] (by simp [hlt])
  exact item_listL hl h0 (by omega) hx (h _ t (List.getElem_mem hlt)) hs hg
end
section
open PySem PySem.W PySem.Calls PyProof.Rows
theorem edges_ok : ∀ e ∈ edgesL, 0 ≤ e ∧ e < 10 ^ 40 := by decide +kernel
theorem edges_get (k : Nat) : 0 ≤ edgesL.getD k 0 ∧ edgesL.getD k 0 < 10 ^ 40 := by
  by_cases h : k < edgesL.length
  · have e : edgesL.getD k 0 = edgesL[k] := by simp [List.getD, h]
    rw [e]
    exact edges_ok _ (List.getElem_mem h)
  · have e : edgesL.getD k 0 = 0 := by simp [List.getD, List.getElem?_eq_none (Nat.le_of_not_lt h)]
    rw [e]
    decide +kernel
theorem fm {n k : Int} (h : 0 < k) : 0 ≤ Int.fmod n k ∧ Int.fmod n k < k := by
  rw [Int.fmod_eq_emod_of_nonneg _ (Int.le_of_lt h)]
  exact ⟨Int.emod_nonneg _ (by omega), Int.emod_lt_of_pos _ h⟩
theorem small {x : Int} (h0 : 0 ≤ x) (h1 : x ≤ 10000000) : 0 ≤ x ∧ x < 10 ^ 40 := ⟨h0, Int.lt_of_le_of_lt h1 (by decide +kernel)⟩
theorem code_spec {w : World} (n : Int) (t : Tok) : S1 w 791 [.int n t] [] 3 24 (fun r P' => ∃ c t', r = .int c t' ∧ P' = [] ∧ 0 ≤ c ∧ c < 10 ^ 40) := by
  k_with_none
  (k_with "call ref" => (k_here; (with_reducible show wpAny _ _ (call (Value.ref 773) _) _ _ _); k_dflt (refine' spec_use edges_spec Sel.nil ?B ?F ?X ?N ?T ?hk ?hd ?hu ?_; (case N => k_asm); (case B => k_asm); (case F => k_asm); (case X => k_asm); (case T => k_asm); (case hk => first | exact rfl | assumption); (case hd => ktr_room); (case hu => ktr_units); k_whole); intro r' P' h' tk' hp' F' N' O'; obtain ⟨D9, its9, nn9, e8, e9, hi9⟩ := hp'; subst e8 e9; simp only [List.cons_append, List.nil_append] at N'; clear O'))
  (k_with "subscriptTail" => (k_here; (with_reducible show wpAny _ _ (subscriptTail _ _ (Value.ref _) (Value.int _ _)) _ _ _); (refine' item_ints (News.isList (by k_asm) (by k_mem)) ?hi ?h0 ?h1 ?h2 ?_; (case hi => assumption); (case h0 => assumption); (case h1 => assumption); (case h2 => decide)); intro x9 t9 hx9))
  unfold S1; k_fill
  intro loose mean mg mb dp un gd cn cs a ccd cl outer A₀ base h₀ L m s Q E own B F X N O nd T hk hd hu hret
  have f0 := (fm (n := Int.fdiv n 5) (k := 28) (by decide)).1
  have f1 : Int.fmod (Int.fdiv n 5) 28 < edgesL.length := (fm (n := Int.fdiv n 5) (k := 28) (by decide)).2
  have f2 := fm (n := Int.fdiv n 5) (k := 17) (by decide)
  have f3 := fm (n := Int.fdiv (Int.fdiv n 5) 17) (k := 4) (by decide)
  have f4 := fm (n := Int.fdiv n 5) (k := 65) (by decide)
  have f5 := fm (n := Int.fdiv n 5) (k := 1114112) (by decide)
  k_dflt (refine' code_part (binds := [(Str.ofString "n", .int n t)]) B F X N O T ?kA ?kF ?kK ?k6 ?k7 ?k8 ?k9 ?kB ?_ ?c2 ?c3 ?c4 ?c5; (case kA => exact rfl); (case kF => exact rfl); (case kK => exact hk); (case k6 => k_is); (case k7 => k_is); (case k8 => ktr_room); (case k9 => first | exact BindsTo.of_eq rfl | exact binds_K (by k_in) rfl (by k_is) rfl rfl rfl); (case c5 => decide); (case kB => exact locs rfl); (case c2 => exact rfl); (case c3 => exact rfl); (case c4 => exact rfl); k_whole; intro g' L' h' FG' F' N' B' X' T' S' lt'; (try dsimp only); (try k_fold))
  k_steps
  all_goals ((rename Stay own _ => hS))
  all_goals first
    | exact hret _ [] _ _ ⟨_, _, rfl, rfl, edges_get _⟩ (by k_asm) (News.drop (P := []) (stay_news N News.nil hS)) (fun _ _ _ h => nomatch h)
    | ((rename _ ∈ edgesL => hx); exact hret _ [] _ _ ⟨_, _, rfl, rfl, edges_ok _ hx⟩ (by k_asm) (News.drop (P := []) (stay_news N News.nil hS)) (fun _ _ _ h => nomatch h))
    | exact hret _ [] _ _ ⟨_, _, rfl, rfl, small (by omega) (by omega)⟩ (by k_asm) (News.drop (P := []) (stay_news N News.nil hS)) (fun _ _ _ h => nomatch h)
    | exact hret _ [] _ _ ⟨_, _, rfl, rfl, fm (by decide +kernel)⟩ (by k_asm) (News.drop (P := []) (stay_news N News.nil hS)) (fun _ _ _ h => nomatch h)
end
section
open PySem PySem.W PyProof.Rows
structure DigOk (d i : Nat) : Prop where
  v : digVal d = i
  g : NumText.digit? d = some i
  h : d ∈ hexL
  t : i < 10 → d ∈ decL
def BsOk (B : Nat) (all : List Nat) : Prop := (B = 16 ∧ all = hexL) ∨ (B = 10 ∧ all = decL)
structure WInv (B : Nat) (all : List Nat) (n m : Nat) (row : List Nat) : Prop where
  val : m * B ^ row.length + numVal B row = n
  dig : ∀ d ∈ row, ∃ v, NumText.digit? d = some v ∧ v < B
  all : ∀ d ∈ row, d ∈ all
  len : row.length ≤ 1 ∨ B ^ (row.length - 1) ≤ n
theorem fold_shift (B : Nat) : ∀ (l : List Nat) (a : Nat), l.foldl (fun acc c => acc * B + digVal c) a = a * B ^ l.length + numVal B l
  | [], a => by simp [numVal]
  | c :: l, a => by
    unfold numVal
    rw [List.foldl_cons, List.foldl_cons, fold_shift B l, fold_shift B l, List.length_cons, Nat.pow_succ, Nat.zero_mul, Nat.zero_add, Nat.add_mul]
    have : a * B * B ^ l.length = a * (B ^ l.length * B) := by rw [Nat.mul_assoc, Nat.mul_comm B]
    omega
theorem numVal_cons (B d : Nat) (l : List Nat) : numVal B (d :: l) = digVal d * B ^ l.length + numVal B l := by
  show (d :: l).foldl (fun acc c => acc * B + digVal c) 0 = _
  rw [List.foldl_cons, fold_shift, Nat.zero_mul, Nat.zero_add]
theorem pow_lt_len {B k n : Nat} (hB : 10 ≤ B) (h : B ^ k ≤ n) (hn : n < 10 ^ 40) : k < 40 := by
  refine Classical.byContradiction fun hk => ?_
  have h1 : 10 ^ 40 ≤ 10 ^ k := Nat.pow_le_pow_right (by decide) (by omega)
  have h2 : 10 ^ k ≤ B ^ k := Nat.pow_le_pow_left hB k
  omega
theorem winv_step {B : Nat} {all : List Nat} {n m d : Nat} {row : List Nat} (hB : BsOk B all) (hn : n < 10 ^ 40) (W : WInv B all n m row) (hd : DigOk d (m % B)) (h : 0 < m ∨ row = []) :
    (d :: row).length ≤ 40 ∧ WInv B all n (m / B) (d :: row) ∧ m / B + (if (d :: row) = [] then 1 else 0) < m + (if row = [] then 1 else 0) := by
  have h10 : 10 ≤ B := by rcases hB with ⟨h, _⟩ | ⟨h, _⟩ <;> omega
  have hlt : m % B < B := Nat.mod_lt _ (by omega)
  have hnew : row.length + 1 ≤ 1 ∨ B ^ row.length ≤ n := by
    rcases h with h | h
    · right
      have := W.val
      have h1 : B ^ row.length ≤ m * B ^ row.length := Nat.le_mul_of_pos_left _ h
      omega
    · left; subst h; simp
  refine ⟨?_, ⟨?_, ?_, ?_, ?_⟩, ?_⟩
  · rw [List.length_cons]
    rcases hnew with h1 | h1
    · omega
    · have := pow_lt_len h10 h1 hn; omega
  · rw [numVal_cons, hd.v, List.length_cons, Nat.pow_succ]
    have e : m / B * (B ^ row.length * B) + m % B * B ^ row.length = m * B ^ row.length := by
      rw [Nat.mul_comm (B ^ row.length) B, ← Nat.mul_assoc, ← Nat.add_mul, Nat.div_add_mod' m B]
    have := W.val
    omega
  · intro x hx
    rcases List.mem_cons.mp hx with rfl | hx
    · exact ⟨_, hd.g, hlt⟩
    · exact W.dig x hx
  · intro x hx
    rcases List.mem_cons.mp hx with rfl | hx
    · rcases hB with ⟨rfl, rfl⟩ | ⟨rfl, rfl⟩
      · exact hd.h
      · exact hd.t hlt
    · exact W.all x hx
  · rw [List.length_cons]; simpa using hnew
  · rw [if_neg (List.cons_ne_nil _ _)]
    rcases h with h | h
    · have := Nat.div_lt_self h (by omega : 1 < B)
      split <;> omega
    · subst h
      rw [if_pos rfl]
      have := Nat.div_le_self m B
      omega
theorem digVal_48 : digVal 48 = 0 := by decide
theorem numVal_zeros (B : Nat) (l : List Nat) : ∀ k, numVal B (List.replicate k 48 ++ l) = numVal B l
  | 0 => rfl
  | k + 1 => by rw [List.replicate_succ, List.cons_append, numVal_cons, digVal_48, Nat.zero_mul, Nat.zero_add, numVal_zeros B l k]
structure WOut (B : Nat) (all : List Nat) (n : Nat) (fs : List Nat) : Prop where
  figs : Figs B fs
  all : ∀ d ∈ fs, d ∈ all
  val : numVal B fs = n
  len : fs.length ≤ 80
theorem wout {B : Nat} {all : List Nat} {n : Nat} {row : List Nat} (hB : BsOk B all) (W : WInv B all n 0 row) (hne : row ≠ []) (hl : row.length ≤ 40) (k : Nat) (hk : k ≤ 40) : WOut B all n (List.replicate k 48 ++ row) := by
  have h48 : 48 ∈ all := by rcases hB with ⟨_, rfl⟩ | ⟨_, rfl⟩ <;> decide
  have hlen : (List.replicate k 48 ++ row).length ≤ 80 := by rw [List.length_append, List.length_replicate]; omega
  refine ⟨⟨by rcases hB with ⟨h, _⟩ | ⟨h, _⟩ <;> omega, by simp [hne], ?_, by omega⟩, ?_, ?_, hlen⟩
  · intro c hc
    rcases List.mem_append.mp hc with hc | hc
    · rw [(List.mem_replicate.mp hc).2]
      exact ⟨0, by decide, by rcases hB with ⟨h, _⟩ | ⟨h, _⟩ <;> omega⟩
    · exact W.dig c hc
  · intro c hc
    rcases List.mem_append.mp hc with hc | hc
    · rw [(List.mem_replicate.mp hc).2]; exact h48
    · exact W.all c hc
  · rw [numVal_zeros]
    have := W.val
    omega
end
section
open PySem PySem.W PySem.Calls PyProof.Rows
theorem fold_cat (x : Array Nat) : ∀ (k : Nat) (a : Array Nat), ((List.replicate k x).foldl (· ++ ·) a).toList = a.toList ++ (List.replicate k x.toList).flatten
  | 0, a => by simp
  | k + 1, a => by rw [List.replicate_succ, List.foldl_cons, fold_cat x k, List.replicate_succ, List.flatten_cons]; simp
theorem flat_one (k : Nat) : (List.replicate k [48]).flatten = List.replicate k 48 := by
  induction k with
  | zero => rfl
  | succ k ih => rw [List.replicate_succ, List.flatten_cons, ih, List.replicate_succ]; rfl
theorem zero_is : (Str.ofString "0" : Str) = ⟨#[48]⟩ := by decide +kernel
theorem zero2_is : (Str.ofString "00" : Str) = ⟨#[48, 48]⟩ := by decide +kernel
theorem none_is : (Str.ofString "" : Str) = ⟨#[]⟩ := by decide +kernel
theorem mul_zero_is (k : Nat) : Txt.mul (Str.ofString "0") (k : Int) = ⟨(List.replicate k 48).toArray⟩ := by
  rw [zero_is]
  unfold Txt.mul
  by_cases h1 : (k : Int) < 1
  · rw [if_pos h1]
    have : k = 0 := by omega
    subst this; rfl
  · rw [if_neg h1]
    by_cases h2 : k = 1
    · subst h2; rfl
    · have h3 : ¬ (((k : Int) == 1 || (⟨#[48]⟩ : Str).length == 0) = true) := by
        have e : (⟨#[48]⟩ : Str).length = 1 := rfl
        rw [e]
        simp
        omega
      rw [if_neg h3]
      congr 1
      apply Array.toList_inj.mp
      rw [fold_cat]
      show [] ++ (List.replicate k [48]).flatten = _
      rw [List.nil_append, flat_one]
theorem cat_is (k : Nat) (x : Str) (row : List Nat) (h : x = ⟨(List.replicate k 48).toArray⟩) : x ++ ⟨row.toArray⟩ = (⟨(List.replicate k 48 ++ row).toArray⟩ : Str) := by
  subst h
  show (⟨(List.replicate k 48).toArray ++ row.toArray⟩ : Str) = _
  congr 1
  apply Array.toList_inj.mp
  simp
theorem cons_is (d : Nat) (row : List Nat) : (⟨#[d]⟩ ++ ⟨row.toArray⟩ : Str) = ⟨(d :: row).toArray⟩ := by
  show (⟨#[d] ++ row.toArray⟩ : Str) = _
  congr 1
  apply Array.toList_inj.mp
  simp
theorem fdiv_nat {c : Int} {B : Nat} (h : 0 ≤ c) (_hB : 0 < B) : 0 ≤ Int.fdiv c B ∧ (Int.fdiv c B).toNat = c.toNat / B ∧ (Int.fmod c B).toNat = c.toNat % B := by
  obtain ⟨m, rfl⟩ : ∃ m : Nat, c = m := ⟨c.toNat, by omega⟩
  rw [Int.fdiv_eq_ediv_of_nonneg _ (by omega), Int.fmod_eq_emod_of_nonneg _ (by omega)]
  have e1 : (m : Int) / (B : Int) = ((m / B : Nat) : Int) := rfl
  have e2 : (m : Int) % (B : Int) = ((m % B : Nat) : Int) := rfl
  rw [e1, e2]
  exact ⟨Int.natCast_nonneg _, rfl, rfl⟩
def signsL : List Str := [Str.ofString "0123456789abcdef", Str.ofString "0123456789ABCDEF", Str.ofString "0123456789aBcDeF"]
theorem signs_spec {w : World} : S1 w 784 [] [] 1 8 (fun r P' => ∃ D its nn, r = .ref D ∧ P' = [(D, listOf its.toArray nn)] ∧ StrsAre its signsL) := by
  k_with_none
  (k_with "subscriptTail" => (k_here; (with_reducible show wpAny _ _ (subscriptTail _ _ (Value.str _ _) (Value.int _ _)) _ _ _); (refine item_sign (by assumption) ?_)))
  unfold S1; k_fill
  intro loose mean mg mb dp un gd cn cs a ccd cl outer A₀ base h₀ L m s Q E own B F X N O nd T hk hd hu hret
  k_dflt (refine' code_part (binds := []) B F X N O T ?kA ?kF ?kK ?k6 ?k7 ?k8 ?k9 ?kB ?_ ?c2 ?c3 ?c4 ?c5; (case kA => exact rfl); (case kF => exact rfl); (case kK => exact hk); (case k6 => k_is); (case k7 => k_is); (case k8 => ktr_room); (case k9 => first | exact BindsTo.of_eq rfl | exact binds_K (by k_in) rfl (by k_is) rfl rfl rfl); (case c5 => decide); (case kB => exact locs rfl); (case c2 => exact rfl); (case c3 => exact rfl); (case c4 => exact rfl); k_whole; intro g' L' h' FG' F' N' B' X' T' S' lt'; (try dsimp only); (try k_fold))
  k_steps
  (rename Stay own _ => hS); (rename News h₀ L _ [(_, _)] => kN); (rename News g' L' _ [(_, _)] => kN')
  exact spec_end hret N S' kN' (by k_asm) kN hS ⟨_, _, _, rfl, rfl, by repeat constructor⟩
theorem item_strsX {prog : Program} {w : World} {A : Around} {E : Value → Shared → Prop} {s : Shared} {value slice : PySem.Expr} {D : Addr} {its : List Value} {ns : List Str} {i : Int} {u : Tok} {Q : Value → Shared → Prop} (hl : s.heap.IsList D its.toArray) (hi : StrsAre its ns) (h0 : 0 ≤ i) (h1 : i < ns.length) (h2 : ns.length ≤ 1000) (h : ∀ x t, x ∈ ns → Q (.str x t) s)
    (hs : subscripted slice false (.ref D) (.int i u) = operate [.ref D, .int i u] (getItem (.ref D) (.int i u)) := by with_unfolding_all rfl) (hg : ∀ r, letTemporaryGo value (.ref D) r = pure () := by intro _; with_unfolding_all rfl) :
    wpAny (model prog w) A (subscriptTail value slice (.ref D) (.int i u)) Q E s := by
  have hlt : i.toNat < ns.length := by omega
  obtain ⟨t, ht⟩ := hi.at (List.getElem?_eq_getElem hlt)
  exact item_listL hl h0 (by omega) ht (h _ t (List.getElem_mem hlt)) hs hg
theorem sign_dig' : ∀ x ∈ signsL, ∀ i : Fin 16, (x.cps.toList[i.val]?.any fun d => decide (digVal d = i.val) && decide (NumText.digit? d = some i.val) && decide (d ∈ hexL) && decide (i.val < 10 → d ∈ decL)) = true ∧ x.length = 16 := by decide +kernel
theorem sign_dig {x : Str} (hx : x ∈ signsL) {i : Int} (h0 : 0 ≤ i) (h1 : i < 16) : ∃ d, Sign x i d ∧ DigOk d i.toNat := by
  obtain ⟨h, hl⟩ := sign_dig' x hx ⟨i.toNat, by omega⟩
  dsimp only at h
  cases hc : x.cps.toList[i.toNat]? with
  | none => rw [hc] at h; cases h
  | some d =>
    rw [hc] at h
    have h' : ((decide (digVal d = i.toNat) && decide (NumText.digit? d = some i.toNat) && decide (d ∈ hexL)) && decide (i.toNat < 10 → d ∈ decL)) = true := h
    simp only [Bool.and_eq_true, decide_eq_true_eq] at h'
    exact ⟨d, ⟨h0, hc, by omega⟩, ⟨h'.1.1.1, h'.1.1.2, h'.1.2, h'.2⟩⟩
theorem item_sign2 {prog : Program} {w : World} {A : Around} {E : Value → Shared → Prop} {s : Shared} {value slice : PySem.Expr} {x : Str} {t u : Tok} {i : Int} {Q : Value → Shared → Prop} (hx : x ∈ signsL) (h0 : 0 ≤ i) (h1 : i < 16) (h : ∀ d, DigOk d i.toNat → Q (.str ⟨#[d]⟩ s.toks) { s with toks := s.toks + 1 })
    (hs : subscripted slice false (.str x t) (.int i u) = operate [.str x t, .int i u] (getItem (.str x t) (.int i u)) := by with_unfolding_all rfl)
    (ht : ∀ r, letTemporaryGo value (.str x t) r = pure () := by intro _; with_unfolding_all rfl) :
    wpAny (model prog w) A (subscriptTail value slice (.str x t) (.int i u)) Q E s := by
  obtain ⟨d, H, hd⟩ := sign_dig hx h0 h1
  exact item_sign H (h d hd) hs ht
theorem ksw_while3 {σ : Type} {prog : Program} {w : World} {A : Around} {E : Value → Shared → Prop} {Q : Flow → Shared → Prop} {s : Shared} {env : Env} {h₀ : Heap} {L : Addr} {test : PySem.Expr} {body : List Stmt} {pos : Pos} {m₀ : Str → Option Value} (Led : σ → List (Addr × Obj)) (ps : σ → List (Str × Value)) (Facts : σ → Prop) (Out : σ → Prop) (μ : σ → Nat) (c₀ : σ)
    (F : Fr h₀ L s.heap m₀) (N : News h₀ L s.heap (Led c₀)) (hf : Facts c₀) (hk : ∀ p ∈ ps c₀, m₀ p.1 = some p.2)
    (turn : ∀ (c : σ) h tk, Facts c → Fr h₀ L h (kstB m₀ (ps c)) → News h₀ L h (Led c) →
      wpAny (model prog w) A (isTrue test env (eval test env)) (fun b s₂ =>
        if b = true then wpAny (model prog w) A (execs body env) (fun f s' => Hold (KswPost h₀ L s Led ps Facts [] m₀ (fun _ => True) μ (fun f s' => f = .brk ∧ False) c f s')) E s₂ else KOut h₀ L s Led ps Out m₀ c s₂) E { s with heap := h, toks := tk })
    (done : ∀ (c : σ) h tk, Facts c → Out c → Fr h₀ L h (kstB m₀ (ps c)) → News h₀ L h (Led c) → Q .next { s with heap := h, toks := tk })
    (hE : PassesOwn (model prog w) A env E) :
    wpAny (model prog w) A (exec (.While test body [] pos) env) Q E s :=
  ksw_while2 Led ps Facts Out μ c₀ F N hf hk (fun c h tk a b d => wpAny_mono (turn c h tk a b d) (fun b s₂ p => by
    cases b with
    | false => exact p
    | true =>
      simp only [if_true] at p ⊢
      exact wpAny_mono p (fun f s₃ q => q.out) fun _ _ x => x) fun _ _ x => x) done hE
structure WS where
  c : Int
  row : List Nat
  t1 : Tok
  t2 : Tok
def WrOut (n : Int) (r : Value) (P' : List (Addr × Obj)) : Prop := ∃ D B all fs tb tf, BsOk B all ∧ r = .ref D ∧ P' = [(D, tupO [.int (B : Int) tb, .str ⟨fs.toArray⟩ tf])] ∧ WOut B all n.toNat fs
theorem wr_end {n : Int} {B : Nat} {all : List Nat} {row : List Nat} (hB : BsOk B all) (W : WInv B all n.toNat 0 row) (hne : row ≠ []) (hl : row.length ≤ 40) (k : Nat) (hk : k ≤ 40) {x : Str} (hx : x = ⟨(List.replicate k 48).toArray⟩) {D : Addr} {tb tf : Tok} {b : Int} (hb : b = (B : Int)) : WrOut n (.ref D) [(D, tupO [.int b tb, .str (x ++ ⟨row.toArray⟩) tf])] :=
  ⟨D, B, all, _, tb, tf, hB, rfl, by rw [cat_is k x row hx, hb], wout hB W hne hl k hk⟩
theorem written_spec {w : World} (n k : Int) (t u : Tok) (h0 : 0 ≤ n) (hn : n < 10 ^ 40) : S1 w 798 [.int n t, .int k u] [] 3 24 (fun r P' => WrOut n r P') := by
  (k_with "call ref" => (k_here; (with_reducible show wpAny _ _ (call (Value.ref 784) _) _ _ _); k_dflt (refine' spec_use signs_spec Sel.nil ?B ?F ?X ?N ?T ?hk ?hd ?hu ?_; (case N => k_asm); (case B => k_asm); (case F => k_asm); (case X => k_asm); (case T => k_asm); (case hk => first | exact rfl | assumption); (case hd => ktr_room); (case hu => ktr_units); k_whole); intro r' P' h' tk' hp' F' N' O'; obtain ⟨D9, its9, nn9, e8, e9, hi9⟩ := hp'; subst e8 e9; simp only [List.cons_append, List.nil_append] at N'; clear O'))
  (k_with "subscriptTail" => (k_here; (with_reducible show wpAny _ _ (subscriptTail _ _ (Value.ref _) (Value.int _ _)) _ _ _); (refine' item_strsX (News.isList (by k_asm) (by k_mem)) ?hi ?h0 ?h1 ?h2 ?_; (case hi => assumption); (case h0 => assumption); (case h1 => assumption); (case h2 => decide)); intro x9 t9 hx9))
  (k_with "subscriptTail" => (k_here; (with_reducible show wpAny _ _ (subscriptTail _ _ (Value.str _ _) (Value.int _ _)) _ _ _); (refine' item_sign2 ?hx ?h0 ?h1 ?_; (case hx => assumption); (case h0 => assumption); (case h1 => assumption)); intro d9 hd9))
  (k_with "exec While BoolOp" => (k_here; refine Hold.out ?_))
  unfold S1; k_fill
  intro loose mean mg mb dp un gd cn cs a ccd cl outer A₀ base h₀ L m s Q E own B F X N O nd T hk hd hu hret
  have hnn : n.toNat < 10 ^ 40 := by
    have e : ((10 ^ 40 : Nat) : Int) = (10 : Int) ^ 40 := by decide +kernel
    omega
  clear hn
  have f0 := (fm (n := k) (k := 3) (by decide)).1
  have f1 : Int.fmod k 3 < signsL.length := (fm (n := k) (k := 3) (by decide)).2
  k_dflt (refine' code_part (binds := [(Str.ofString "code", .int n t), (Str.ofString "k", .int k u)]) B F X N O T ?kA ?kF ?kK ?k6 ?k7 ?k8 ?k9 ?kB ?_ ?c2 ?c3 ?c4 ?c5; (case kA => exact rfl); (case kF => exact rfl); (case kK => exact hk); (case k6 => k_is); (case k7 => k_is); (case k8 => ktr_room); (case k9 => first | exact BindsTo.of_eq rfl | exact binds_K (by k_in) rfl (by k_is) rfl rfl rfl); (case c5 => decide); (case kB => exact locs rfl); (case c2 => exact rfl); (case c3 => exact rfl); (case c4 => exact rfl); k_whole; intro g' L' h' FG' F' N' B' X' T' S' lt'; (try dsimp only); (try k_fold))
  k_steps
  all_goals (refine ⟨?_⟩)
  · (rename Fr g' L' _ _ => lF)
    have hB : BsOk 16 hexL := .inl ⟨rfl, rfl⟩
    refine' ksw_while3 (σ := WS) (fun c => []) (fun c => [(Str.ofString "code", .int c.c c.t1), (Str.ofString "row", .str ⟨c.row.toArray⟩ c.t2)]) (fun c => 0 ≤ c.c ∧ c.row.length ≤ 40 ∧ WInv 16 hexL n.toNat c.c.toNat c.row) (fun c => c.c = 0 ∧ c.row ≠ []) (fun c => c.c.toNat + (if c.row = [] then 1 else 0)) ⟨n, [], _, _⟩ lF News.nil ⟨h0, Nat.zero_le _, ⟨by simp [numVal], (fun _ h => nomatch h), (fun _ h => nomatch h), .inl (Nat.zero_le _)⟩⟩ ?hk ?turn ?done ?hE
    case hk =>
      intro p hp
      rcases List.mem_cons.mp hp with rfl | hp
      · rfl
      · rw [List.mem_singleton.mp hp]; rfl
    case hE => first | passes_own | with_unfolding_all passes_own
    case turn =>
      rintro ⟨c, row, t1, t2⟩ h2 tk2 ⟨hc0, hrl, hW⟩ F2 N2
      have F3 := F2
      dsimp only [kstB] at F3
      dsimp only at hc0 hrl hW
      have f2 := (fm (n := c) (k := 16) (by decide)).1
      have f3 := (fm (n := c) (k := 16) (by decide)).2
      have hfd : 0 ≤ Int.fdiv c 16 ∧ (Int.fdiv c 16).toNat = c.toNat / 16 ∧ (Int.fmod c 16).toNat = c.toNat % 16 := fdiv_nat (B := 16) hc0 (by decide)
      k_steps
      · (rename DigOk _ _ => hdg); (rename Fr g' L' _ _ => lF2)
        refine ⟨?_⟩
        dsimp only [KswPost]
        rw [cons_is] at lF2
        rw [hfd.2.2] at hdg
        obtain ⟨w1, w2, w3⟩ := winv_step hB hnn hW hdg (.inl (by omega))
        refine' ksw_end ⟨Int.fdiv c 16, _ :: row, _, _⟩ lF2 News.nil (fun _ h => nomatch h) ?fa9 ?hk9 ?hs9 trivial ?hm9
        case hk9 =>
          intro p hp
          rcases List.mem_cons.mp hp with rfl | hp
          · rfl
          · rw [List.mem_singleton.mp hp]; rfl
        case fa9 => exact ⟨hfd.1, w1, by rw [hfd.2.1]; exact w2⟩
        case hs9 => ksw_same
        case hm9 => dsimp only; rw [hfd.2.1]; exact w3
      · (rename DigOk _ _ => hdg); (rename Fr g' L' _ _ => lF2); (rename (_ == _) = true => hrn)
        have hrow : row = [] := by rw [none_is] at hrn; simpa using hrn
        refine ⟨?_⟩
        dsimp only [KswPost]
        rw [cons_is] at lF2
        rw [hfd.2.2] at hdg
        obtain ⟨w1, w2, w3⟩ := winv_step hB hnn hW hdg (.inr hrow)
        refine' ksw_end ⟨Int.fdiv c 16, _ :: row, _, _⟩ lF2 News.nil (fun _ h => nomatch h) ?fa9 ?hk9 ?hs9 trivial ?hm9
        case hk9 =>
          intro p hp
          rcases List.mem_cons.mp hp with rfl | hp
          · rfl
          · rw [List.mem_singleton.mp hp]; rfl
        case fa9 => exact ⟨hfd.1, w1, by rw [hfd.2.1]; exact w2⟩
        case hs9 => ksw_same
        case hm9 => dsimp only; rw [hfd.2.1]; exact w3
      · (rename (_ == _) = false => hrn)
        have hrow : row ≠ [] := by intro e; subst e; rw [none_is] at hrn; simp at hrn
        exact ⟨⟨by dsimp only; omega, hrow⟩, _, _, rfl, F2, N2⟩
    case done =>
      rintro ⟨c, row, t1, t2⟩ h2 tk2 ⟨hc0, hrl, hW⟩ ⟨ho1, ho2⟩ F2 N2
      have F3 := F2
      dsimp only [kstB] at F3
      dsimp only at hc0 hrl hW ho1 ho2
      subst ho1
      have f2 := (fm (n := k) (k := 5) (by decide)).1
      have f3 := (fm (n := k) (k := 5) (by decide)).2
      have hrl2 : (⟨row.toArray⟩ : Str).length ≤ 40 := by show row.toArray.size ≤ 40; simpa using hrl
      have hmul : Txt.mul (Str.ofString "0") (40 - ((⟨row.toArray⟩ : Str).length : Int)) = ⟨(List.replicate (40 - (⟨row.toArray⟩ : Str).length) 48).toArray⟩ := by
        rw [← mul_zero_is]; congr 1; omega
      k_steps
      all_goals ((rename Stay own _ => hS); (rename News h₀ L _ ((_, _) :: _) => kN); (rename News g' L' _ ((_, _) :: _) => kN'); (replace kN := News.left (P := [(_, _)]) kN); (replace kN' := News.left (P := [(_, _)]) kN'))
      all_goals first
        | exact spec_end hret N S' kN' (by k_asm) kN hS (wr_end hB hW ho2 hrl 0 (by decide) none_is rfl)
        | exact spec_end hret N S' kN' (by k_asm) kN hS (wr_end hB hW ho2 hrl 1 (by decide) zero_is rfl)
        | exact spec_end hret N S' kN' (by k_asm) kN hS (wr_end hB hW ho2 hrl 2 (by decide) zero2_is rfl)
        | exact spec_end hret N S' kN' (by k_asm) kN hS (wr_end hB hW ho2 hrl _ (Nat.sub_le _ _) hmul rfl)
  · (rename Fr g' L' _ _ => lF)
    have hB : BsOk 10 decL := .inr ⟨rfl, rfl⟩
    refine' ksw_while3 (σ := WS) (fun c => []) (fun c => [(Str.ofString "code", .int c.c c.t1), (Str.ofString "row", .str ⟨c.row.toArray⟩ c.t2)]) (fun c => 0 ≤ c.c ∧ c.row.length ≤ 40 ∧ WInv 10 decL n.toNat c.c.toNat c.row) (fun c => c.c = 0 ∧ c.row ≠ []) (fun c => c.c.toNat + (if c.row = [] then 1 else 0)) ⟨n, [], _, _⟩ lF News.nil ⟨h0, Nat.zero_le _, ⟨by simp [numVal], (fun _ h => nomatch h), (fun _ h => nomatch h), .inl (Nat.zero_le _)⟩⟩ ?hk ?turn ?done ?hE
    case hk =>
      intro p hp
      rcases List.mem_cons.mp hp with rfl | hp
      · rfl
      · rw [List.mem_singleton.mp hp]; rfl
    case hE => first | passes_own | with_unfolding_all passes_own
    case turn =>
      rintro ⟨c, row, t1, t2⟩ h2 tk2 ⟨hc0, hrl, hW⟩ F2 N2
      have F3 := F2
      dsimp only [kstB] at F3
      dsimp only at hc0 hrl hW
      have f2 := (fm (n := c) (k := 10) (by decide)).1
      have f3 : Int.fmod c 10 < 16 := Int.lt_trans (fm (n := c) (k := 10) (by decide)).2 (by decide)
      have hfd : 0 ≤ Int.fdiv c 10 ∧ (Int.fdiv c 10).toNat = c.toNat / 10 ∧ (Int.fmod c 10).toNat = c.toNat % 10 := fdiv_nat (B := 10) hc0 (by decide)
      k_steps
      · (rename DigOk _ _ => hdg); (rename Fr g' L' _ _ => lF2)
        refine ⟨?_⟩
        dsimp only [KswPost]
        rw [cons_is] at lF2
        rw [hfd.2.2] at hdg
        obtain ⟨w1, w2, w3⟩ := winv_step hB hnn hW hdg (.inl (by omega))
        refine' ksw_end ⟨Int.fdiv c 10, _ :: row, _, _⟩ lF2 News.nil (fun _ h => nomatch h) ?fa9 ?hk9 ?hs9 trivial ?hm9
        case hk9 =>
          intro p hp
          rcases List.mem_cons.mp hp with rfl | hp
          · rfl
          · rw [List.mem_singleton.mp hp]; rfl
        case fa9 => exact ⟨hfd.1, w1, by rw [hfd.2.1]; exact w2⟩
        case hs9 => ksw_same
        case hm9 => dsimp only; rw [hfd.2.1]; exact w3
      · (rename DigOk _ _ => hdg); (rename Fr g' L' _ _ => lF2); (rename (_ == _) = true => hrn)
        have hrow : row = [] := by rw [none_is] at hrn; simpa using hrn
        refine ⟨?_⟩
        dsimp only [KswPost]
        rw [cons_is] at lF2
        rw [hfd.2.2] at hdg
        obtain ⟨w1, w2, w3⟩ := winv_step hB hnn hW hdg (.inr hrow)
        refine' ksw_end ⟨Int.fdiv c 10, _ :: row, _, _⟩ lF2 News.nil (fun _ h => nomatch h) ?fa9 ?hk9 ?hs9 trivial ?hm9
        case hk9 =>
          intro p hp
          rcases List.mem_cons.mp hp with rfl | hp
          · rfl
          · rw [List.mem_singleton.mp hp]; rfl
        case fa9 => exact ⟨hfd.1, w1, by rw [hfd.2.1]; exact w2⟩
        case hs9 => ksw_same
        case hm9 => dsimp only; rw [hfd.2.1]; exact w3
      · (rename (_ == _) = false => hrn)
        have hrow : row ≠ [] := by intro e; subst e; rw [none_is] at hrn; simp at hrn
        exact ⟨⟨by dsimp only; omega, hrow⟩, _, _, rfl, F2, N2⟩
    case done =>
      rintro ⟨c, row, t1, t2⟩ h2 tk2 ⟨hc0, hrl, hW⟩ ⟨ho1, ho2⟩ F2 N2
      have F3 := F2
      dsimp only [kstB] at F3
      dsimp only at hc0 hrl hW ho1 ho2
      subst ho1
      have f2 := (fm (n := k) (k := 5) (by decide)).1
      have f3 := (fm (n := k) (k := 5) (by decide)).2
      have hrl2 : (⟨row.toArray⟩ : Str).length ≤ 40 := by show row.toArray.size ≤ 40; simpa using hrl
      have hmul : Txt.mul (Str.ofString "0") (40 - ((⟨row.toArray⟩ : Str).length : Int)) = ⟨(List.replicate (40 - (⟨row.toArray⟩ : Str).length) 48).toArray⟩ := by
        rw [← mul_zero_is]; congr 1; omega
      k_steps
      all_goals ((rename Stay own _ => hS); (rename News h₀ L _ ((_, _) :: _) => kN); (rename News g' L' _ ((_, _) :: _) => kN'); (replace kN := News.left (P := [(_, _)]) kN); (replace kN' := News.left (P := [(_, _)]) kN'))
      all_goals first
        | exact spec_end hret N S' kN' (by k_asm) kN hS (wr_end hB hW ho2 hrl 0 (by decide) none_is rfl)
        | exact spec_end hret N S' kN' (by k_asm) kN hS (wr_end hB hW ho2 hrl 1 (by decide) zero_is rfl)
        | exact spec_end hret N S' kN' (by k_asm) kN hS (wr_end hB hW ho2 hrl 2 (by decide) zero2_is rfl)
        | exact spec_end hret N S' kN' (by k_asm) kN hS (wr_end hB hW ho2 hrl _ (Nat.sub_le _ _) hmul rfl)
end
section
open PySem PySem.W PySem.Calls PyProof.Rows PySem.SeqAt PySem.Builtin
section
variable {prog : Program} {w : World} {A : Around} {E : Value → Shared → Prop} {s : Shared}
/-- x == y comes out True here, in this model -/
def EqIn (prog : Program) (w : World) (A : Around) (s : Shared) (x y : Value) : Prop :=
  ∀ (E : Value → Shared → Prop) (Q : Bool → Shared → Prop), Q true s → wpAny (model prog w) A (eqBool x y) Q E s
theorem EqIn.of_at {x y : Value} (h : EqAt A s x y true) : EqIn prog w A s x y := fun E Q hq => h prog w E Q hq
theorem EqIn.of_rc {a b : Addr} (h : ∀ (E : Value → Shared → Prop) (Q : Value → Shared → Prop), Q (.bool true) s → wpAny (model prog w) A (richCompare .Eq (.ref a) (.ref b)) Q E s) : EqIn prog w A s (.ref a) (.ref b) := fun E Q hq => by
  by_cases hne : a = b
  · subst hne
    exact EqAt.same (.ref a) prog w E Q hq
  · unfold eqBool
    refine wpAny_holding ?_
    refine wpAny_ite_split (fun hab => absurd (by have := eq_of_beq hab; injection this) hne) (fun _ => ?_)
    exact wpAny_bind (h E _ (wpAny_truthy_bool hq))
variable {K : Type} [DecidableEq K] {knd : KeyKind prog w K}
theorem same_pairs {nm : String} {a b : Addr} {ka kb : List (K × Value)} {Q : Bool → Shared → Prop} (ha : (a == sysModules) = false) (hb : (b == sysModules) = false)
    (da : s.heap.DictOf knd a ka) (db : s.heap.DictOf knd b kb) (hl : ka.length = kb.length) (hit : ∀ p ∈ ka, ∃ y, valueAt kb p.1 = some y ∧ EqIn prog w A s p.2 y) (h : Q true s) :
    wpAny (model prog w) A (Dict.samePairs nm a b) Q E s := by
  obtain ⟨oa, es, ep, hoa, _, hda, hka, hpa, _⟩ := da
  obtain ⟨ob, fs, ep', hob, _, hdb, hkb, hpb, _⟩ := db
  have la : es.size = ka.length := by rw [← hpa.length]; exact Array.length_toList.symm
  have lb : fs.size = kb.length := by rw [← hpb.length]; exact Array.length_toList.symm
  have hsz : es.size = fs.size := by omega
  have look : ∀ k, findBy knd.is fs k = valueAt kb k := fun k => by
    rw [← hpb.find k]
    clear lb hsz hpb hkb hdb hob
    obtain ⟨l⟩ := fs
    simp [findBy]
  unfold Dict.samePairs Dict.showsAll
  rw [if_neg (by rw [ha]; exact Bool.false_ne_true), if_neg (by rw [hb]; exact Bool.false_ne_true)]
  refine wpAny_bind (wpAny_pure (wpAny_bind (wpAny_pure ?_)))
  refine wpAny_bind (wpAny_dictEntries hoa hda ?_)
  dsimp only
  refine wpAny_bind (wpAny_dictEntries hob hdb ?_)
  rw [if_neg (by rw [hsz]; simp)]
  refine wpAny_bind (wpAny_dictEpoch hoa hda ?_)
  refine wpAny_bind ?_
  rw [Std.Legacy.Range.forIn_eq_forIn_range']
  simp only [Std.Legacy.Range.size, Nat.sub_zero, Nat.add_sub_cancel, Nat.div_one]
  refine wpAny_forIn_list _ (fun rest q s' => s' = s ∧ q = (none, ()) ∧ ∀ i ∈ rest, i < es.size) _ ?_ ?_ _ _ ⟨rfl, rfl, fun i hi => by simpa [List.mem_range'] using hi⟩
  · rintro x rest q s' ⟨rfl, rfl, hall⟩
    have hx : x < es.size := hall x (.head _)
    refine wpAny_bind (wpAny_dictEntries hoa hda ?_)
    rw [Array.getElem?_eq_getElem hx]
    have hx' : x < ka.length := by omega
    obtain ⟨hkey, hval⟩ := hpa.get? (i := x) (e := es[x]) (k := ka[x].1) (v := ka[x].2) (by rw [Array.getElem?_toList]; exact Array.getElem?_eq_getElem hx) (List.getElem?_eq_getElem hx')
    obtain ⟨k', hk', hh⟩ := hka es[x] (Array.getElem_mem hx)
    rw [knd.inj _ _ _ hk' hkey] at hh
    obtain ⟨y, hy, he⟩ := hit ka[x] (List.getElem_mem hx')
    show wpAny _ _ (holding [es[x].key, es[x].val] _ >>= _) _ _ _
    rw [hh]
    refine wpAny_bind (wpAny_holding (wpAny_bind (wpAny_dictFind_of hkey hob hdb hkb ?_)))
    cases hj : fs.findIdx? fun e => knd.is ka[x].1 e.key with
    | none =>
      have hn : valueAt kb ka[x].1 = none := by rw [← look, findBy_of_findIdx?, hj]
      rw [hn] at hy; cases hy
    | some j =>
      obtain ⟨hjlt, _, _⟩ := Array.findIdx?_eq_some_iff_getElem.mp hj
      have hv : valueAt kb ka[x].1 = some fs[j].val := by
        rw [← look, findBy_of_findIdx?, hj]
        simp [Array.getElem?_eq_getElem hjlt]
      have ey : fs[j].val = y := Option.some.inj (hv.symm.trans hy)
      refine wpAny_bind (wpAny_dictEntries hob hdb ?_)
      rw [Array.getElem?_eq_getElem hjlt]
      rw [← ey, ← hval] at he
      refine wpAny_holding (he _ _ ?_)
      show wpAny _ _ (if (!true) = true then _ else _) _ _ _
      rw [if_neg (by decide)]
      refine wpAny_bind (wpAny_dictEpoch hoa hda ?_)
      rw [if_neg (by simp)]
      exact wpAny_pure ⟨rfl, rfl, fun i hi => hall i (.tail _ hi)⟩
  · rintro q s' ⟨rfl, rfl, _⟩
    exact wpAny_pure h
theorem dict_eq {a b : Addr} {ka kb : List (K × Value)} {Q : Value → Shared → Prop} (ha : (a == sysModules) = false) (hb : (b == sysModules) = false)
    (da : s.heap.DictOf knd a ka) (db : s.heap.DictOf knd b kb) (hu : A.units < cLine) (hl : ka.length = kb.length) (hit : ∀ p ∈ ka, ∃ y, valueAt kb p.1 = some y ∧ EqIn prog w A.in1 s p.2 y) (h : Q (.bool true) s) :
    wpAny (model prog w) A (richCompare .Eq (.ref a) (.ref b)) Q E s := by
  refine wpAny_richCompare_same_room (op := .Eq) da.typeIs db.typeIs PySem.F.slot_dict_eq (wpAny_call_entry PySem.F.slot_dict_eq da.typeIs PySem.F.entry_dict_eq ?_ (PySem.F.args_dict_eq_2 _ _)) hu
  show wpAny _ _ (Dict.dictSlotArgs "__eq__" ⟨[.ref a, .ref b], []⟩ >>= _) _ _ s
  refine wpAny_bind ?_
  unfold Dict.dictSlotArgs
  refine wpAny_bind (wpAny_notOrdered_dict da.typeIs ?_)
  show wpAny _ _ (pure (Value.ref a, Value.ref b)) _ _ s
  refine wpAny_pure ?_
  refine wpAny_bind (wpAny_isInstance (T := "dict") db.typeIs PySem.F.sub_dict_dict ?_)
  simp only [Bool.not_true, Bool.false_eq_true, if_false]
  refine wpAny_bind (wpAny_pure (wpAny_bind (wpAny_pure ?_)))
  refine wpAny_bind (same_pairs ha hb da db hl hit ?_)
  exact wpAny_pure ⟨_, rfl, (fun x => nomatch x), h⟩
end
end
section
open PySem PySem.W PySem.Calls PyProof.Rows PySem.SeqAt
open PySem.AutoSeq1 (wpAny_loadPart')
open PySem.MeetsSeq PySem.MeetsSeq2 PySem.MeetsSeq3
theorem ne_turn {prog : Program} {w : World} (l b : Addr) (xs ys : Array Value) (n n2 : Nat) (hsz : xs.size = ys.size) (k : Nat) :
    ∀ i : Nat, xs.size - i = k → MeetsIn prog w (Builtin.«list.__eq__.loop» ⟨[.ref l, .ref b, rawInt i, rawInt 3], []⟩)
      (fun A R s => s.heap.get? l = some (listOf xs n) ∧ s.heap.get? b = some (listOf ys n2) ∧
        (∀ j (h1 : j < xs.size) (h2 : j < ys.size), EqIn prog w A.in1 s xs[j] ys[j]) ∧ R (.ok (.ret (.bool false))) s) := by
  induction k with
  | zero =>
    intro i hk A R s h
    obtain ⟨hp, g, d, tk, os⟩ := s; obtain ⟨hl, hb, he, h⟩ := h
    wp_walk using wpAny_loadPart' hl, wpAny_loadPart' hb
    have hi1 : xs[((i : Nat) : Int).toNat]? = none := by simp; omega
    have hi2 : ys[((i : Nat) : Int).toNat]? = none := by simp; omega
    rw [hi1, hi2]
    wp_walk using wpAny_loadPart' hl, wpAny_loadPart' hb
    show R (.ok (.ret (.bool (xs.size != ys.size)))) _
    rw [hsz]
    simpa using h
  | succ k ih =>
    intro i hk A R s h
    obtain ⟨hp, g, d, tk, os⟩ := s; obtain ⟨hl, hb, he, h⟩ := h
    wp_walk using wpAny_loadPart' hl, wpAny_loadPart' hb
    have hlt : i < xs.size := by omega
    have hlt2 : i < ys.size := by omega
    have hi1 : xs[((i : Nat) : Int).toNat]? = some xs[i] := by simp [hlt]
    have hi2 : ys[((i : Nat) : Int).toNat]? = some ys[i] := by simp [hlt2]
    have hc : ((i : Int) + 1) = ((i + 1 : Nat) : Int) := by push_cast; rfl
    rw [hi1, hi2]
    refine wpAny_bind (he i hlt hlt2 _ _ ?_)
    wp_walk
    rw [hc]
    exact ⟨plainId_quiet plain_eq_loop _, codeAny_builtin entry_eq_loop (by
      rw [Around.under_plainId plain_eq_loop _]
      exact ih (i + 1) (by omega) A R _ ⟨hl, hb, he, h⟩)⟩
theorem ne_meets {prog : Program} {w : World} (l b : Addr) (xs ys : Array Value) (n n2 : Nat) (hsz : xs.size = ys.size) : MeetsIn prog w (Builtin.«list.__ne__» ⟨[.ref l, .ref b], []⟩)
      (fun A R s => s.heap.get? l = some (listOf xs n) ∧ s.heap.get? b = some (listOf ys n2) ∧
        (∀ j (h1 : j < xs.size) (h2 : j < ys.size), EqIn prog w A.in1 s xs[j] ys[j]) ∧ R (.ok (.ret (.bool false))) s) := by
  intro A R s h
  obtain ⟨hp, g, d, tk, os⟩ := s; obtain ⟨hl, hb, he, h⟩ := h
  have f3 := AutoSeq1.sub_list_list
  have hne : ¬ (xs.size != ys.size) = true := by simp [hsz]
  wp_walk using wpAny_loadPart' hl, wpAny_loadPart' hb
  exact ⟨plainId_quiet plain_eq_loop _, codeAny_builtin entry_eq_loop (by
    rw [Around.under_plainId plain_eq_loop _]
    exact ne_turn l b xs ys n n2 hsz _ 0 rfl A R _ ⟨hl, hb, he, h⟩)⟩
theorem ne_lists {prog : Program} {w : World} {A : Around} {E : Value → Shared → Prop} {s : Shared} {l b : Addr} {xs ys : List Value} {n n2 : Nat} {Q : Value → Shared → Prop} (hl : s.heap.get? l = some (listOf xs.toArray n)) (hb : s.heap.get? b = some (listOf ys.toArray n2)) (hu : A.units < cLine) (hlen : xs.length = ys.length)
    (he : ∀ (j : Nat) (x y : Value), xs[j]? = some x → ys[j]? = some y → EqIn prog w A.in1 s x y) (h : Q (.bool false) s) :
    wpAny (model prog w) A (compareOp .NotEq (.ref l) (.ref b)) Q E s := by
  show wpAny _ A (richCompare .NotEq _ _) Q E s
  exact wpAny_richCompare_same_room (op := .NotEq) ⟨_, hl, rfl⟩ ⟨_, hb, rfl⟩ F.slot_list_ne (call_meetsIn F.slot_list_ne ⟨_, hl, rfl⟩ F.entry_list_ne (F.args_list_ne_2 _ _) (ne_meets l b xs.toArray ys.toArray n n2 (by simpa using hlen))
    ⟨hl, hb, (fun j h1 h2 => he j _ _ (by simp at h1 ⊢) (by simp at h2 ⊢)), show Value.bool false ≠ Value.notImplemented ∧ Q (.bool false) s from ⟨(fun x => nomatch x), h⟩⟩) hu
/-- two lists of tokens, equal token by token -/
theorem valueAt_cons {K : Type} [DecidableEq K] (k : K) (v : Value) (r : List (K × Value)) : valueAt ((k, v) :: r) k = some v := by
  unfold valueAt
  simp
end
section
open PySem PySem.W PySem.Calls PyProof.Rows PyProof.V
def strOf (l : List Nat) : Str := ⟨l.toArray⟩
def behL : List (List Nat) := [[59], [32], [59, 59], [47], [59, 48], [58], [59, 97], [64], [59], [71], [95], [59, 70], [96], [65301], [59], [1637], [38], [59], [10], [120]]
def moreL (B : Nat) : List (List Nat) := if B = 16 then [[103], [45], [46]] else [[97], [101], [70]]
def moreA (B : Nat) : Addr := if B = 16 then 777 else 776
theorem beh_strs : ([";", " ", ";;", "/", ";0", ":", ";a", "@", ";", "G", "_", ";F", "`", "５", ";", "٥", "&", ";", "\n", "x"] : List Str) = behL.map strOf := by decide +kernel
theorem more16_strs : (["g", "-", "."] : List Str) = (moreL 16).map strOf := by decide +kernel
theorem more10_strs : (["a", "e", "F"] : List Str) = (moreL 10).map strOf := by decide +kernel
section
variable {prog : Program} {w : World} {A : Around} {E : Value → Shared → Prop} {s : Shared} {h₀ : Heap} {L : Addr} {m : Str → Option Value} {news : List (Addr × Obj)}
theorem beh_at (X : (K1 w.params).In h₀) (hk : ∀ b o, h₀.get? b = some o → s.heap.get? b = some o) : ∃ vs : List Value, s.heap.IsList 774 vs.toArray ∧ StrsAre vs (behL.map strOf) := by
  have h := hk _ _ (X 774 (x1_774 w.params) (by with_unfolding_all rfl))
  rw [← beh_strs]
  exact ⟨_, ⟨_, h, rfl, _, rfl⟩, by repeat constructor⟩
theorem more_at (X : (K1 w.params).In h₀) (hk : ∀ b o, h₀.get? b = some o → s.heap.get? b = some o) (B : Nat) (hB : B = 16 ∨ B = 10) : ∃ vs : List Value, s.heap.IsList (moreA B) vs.toArray ∧ StrsAre vs ((moreL B).map strOf) := by
  rcases hB with rfl | rfl
  · have h := hk _ _ (X 777 (x1_777 w.params) (by with_unfolding_all rfl))
    rw [← more16_strs]
    exact ⟨_, ⟨_, h, rfl, _, rfl⟩, by repeat constructor⟩
  · have h := hk _ _ (X 776 (x1_776 w.params) (by with_unfolding_all rfl))
    rw [← more10_strs]
    exact ⟨_, ⟨_, h, rfl, _, rfl⟩, by repeat constructor⟩
theorem dict775 (X : (K1 w.params).In h₀) (hk : ∀ b o, h₀.get? b = some o → s.heap.get? b = some o) : s.heap.DictOf (intKind prog w) 775 [(10, .ref 776), (16, .ref 777)] := by
  have h := hk _ _ (X 775 (x1_775 w.params) (by with_unfolding_all rfl))
  refine ⟨_, _, _, h, ⟨rfl, rfl, rfl⟩, rfl, ?_, ?_, by decide⟩
  · intro e he
    have he' : e ∈ [(⟨10, .int 10 1475, .ref 776⟩ : DictEntry), ⟨16, .int 16 1479, .ref 777⟩] := by simpa using he
    rcases List.mem_cons.mp he' with rfl | he'
    · exact ⟨10, intKind_is prog w 10 1475, rfl⟩
    · rw [List.mem_singleton.mp he']
      exact ⟨16, intKind_is prog w 16 1479, rfl⟩
  · exact .cons (intKind_is prog w 10 1475) rfl (.cons (intKind_is prog w 16 1479) rfl .nil)
theorem more_item {value slice : PySem.Expr} {i : Int} {B : Nat} {t : Tok} {Q : Value → Shared → Prop} (X : (K1 w.params).In h₀) (hk : ∀ b o, h₀.get? b = some o → s.heap.get? b = some o) (hi : i = (B : Int)) (hB : B = 16 ∨ B = 10) (h : Q (.ref (moreA B)) { s with toks := s.toks + 1 })
    (hs : subscripted slice false (.ref 775) (.int i t) = operate [.ref 775, .int i t] (getItem (.ref 775) (.int i t)) := by with_unfolding_all rfl) :
    wpAny (model prog w) A (subscriptTail value slice (.ref 775) (.int i t)) Q E s := by
  have D := dict775 (prog := prog) (s := s) X hk
  subst hi
  refine tail_any D.typeIs slot_dict_getitem.lookup (wpAny_getItem_of (knd := intKind prog w) (intKind_is prog w _ t) D.mapOf (v := .ref (moreA B)) ?_ h) hs
  rcases hB with rfl | rfl <;> rfl
theorem strs_app : ∀ {vs ws : List Value} {xs ys : List Str}, StrsAre vs xs → StrsAre ws ys → StrsAre (vs ++ ws) (xs ++ ys)
  | [], _, [], _, .nil, h => h
  | _ :: _, _, _ :: _, _, .cons y t h, k => .cons y t (strs_app h k)
theorem beh_add {B : Nat} {Q : Value → Shared → Prop} (hB : B = 16 ∨ B = 10) (F : Fr h₀ L s.heap m) (N : News h₀ L s.heap news) (X : (K1 w.params).In h₀)
    (h : ∀ D vs h', Fr h₀ L h' m → News h₀ L h' ((D, listOf vs.toArray 0) :: news) → (∀ p ∈ news, p.1 < D) → StrsAre vs ((behL ++ moreL B).map strOf) → Q (.ref D) { s with heap := h' }) :
    wpAny (model prog w) A (binaryOp .Add (.ref 774) (.ref (moreA B))) Q E s := by
  obtain ⟨vs, h1, h2⟩ := beh_at (s := s) X F.keep
  obtain ⟨us, h3, h4⟩ := more_at (s := s) X F.keep B hB
  have l1 : vs.length = 20 := by rw [h2.length]; rfl
  have l2 : us.length = 3 := by rw [h4.length]; rcases hB with rfl | rfl <;> rfl
  exact add_lists F N h1 h3 (fun h' F' N' => h _ _ h' F' N' (fun p hp => Heap.lt_size (N p hp).1) (by rw [List.map_append]; exact strs_app h2 h4)) (by rw [l1, l2, sizeLine_eq]; decide)
end
end
section
open PySem PySem.W PySem.Calls PyProof.Rows
noncomputable def lawF : Stmt := lw1
theorem code_top {prog : Program} {w : World} {s : Shared} {K : Frag} {R : Result → Shared → Prop} {name qual : Str} {params : Arguments} {body : List Stmt} {scope : Scope} {dV kV doc pm cdv ct oc : Value} {an od : Option Addr} {osl : Array (Option Value)} {f : Addr} {args : Args} {binds : List (Str × Value)} {p : Program} {loose : List Str} {mean : ExcName → Option Value} {mg mb : Str → Option Value}
    (X : K.In s.heap) (T : Top p loose mean mg mb s.heap)
    (ho : K.lookup f = some ⟨oc, od, .func (fnOf name qual params body scope dV kV doc pm an cdv ct), osl⟩) (hcd : codeIn K cdv qual = true)
    (hbind : BindsTo s (fnOf name qual params body scope dV kV doc pm an cdv ct) args binds) (hloc : ∀ y ∈ binds, scope.names.lookup y.1 = some .local)
    (h : ∀ h₁, Fr s.heap s.heap.objs.size h₁ (fun y => binds.reverse.lookup y) →
      wpAny (model prog w) (callerA.deeper (envOf qual scope s.heap.objs.size f cdv)) (execs body (envOf qual scope s.heap.objs.size f cdv))
        (fun fl s' => R (.ok (.ret (match fl with | .ret v => v | _ => .none))) s')
        (fun e s' => wpAny (model prog w) (callerA.deeper (envOf qual scope s.heap.objs.size f cdv)) (leaving (envOf qual scope s.heap.objs.size f cdv) e) (fun _ s'' => R (.error e) s'') (fun e' s'' => R (.error e') s'') s')
        { s with heap := h₁, toks := s.toks + binds.length })
    (hco : scope.isCoroutine = false) (hgen : scope.isGenerator = false) (hk : scope.kind = .function)
    (hcell : ∀ x ∈ scope.names, x.2 ≠ .cell) : codeAny (model prog w) callerA (.call (.ref f) args) R s :=
  codeAny_call_def (fd := fnX name qual params body scope [] dV kV doc pm an cdv ct) (body := body) (binds := binds) (by decide +kernel) (X _ _ ho) rfl T.nolimit (codeRec_of X hcd) rfl hbind hcell hloc
    (fun h₁ hns hk₁ => h h₁ ⟨hns, fun b o e => hk₁ b o e, Nat.le_refl _⟩) hco hgen hk
theorem law_entry (call : ∀ (w : World) (s1 : Shared) (l : Addr) (vs : List Value) (ns : List Int) (loose : List Str) (mean : ExcName → Option Value) (mg mb : Str → Option Value) (Q : Result → Shared → Prop),
      (K1 w.params).In s1.heap → Top q1 loose mean mg mb s1.heap → s1.heap.IsList l vs.toArray → IntsAre vs ns → ns.length ≤ 63 → s1.gens = #[] →
      (∀ h' tk, (∀ b o, s1.heap.get? b = some o → h'.get? b = some o) → Q (.ok (.ret (.bool true))) { s1 with heap := h', toks := tk }) →
      codeAny (model r1.row.prog w) callerA (.call (.ref 819) ⟨[.ref l], []⟩) Q s1) : r1.Holds := by
  refine hd1 ?_
  intro w s0 s1 mg mb G Y fa o pm cd doc dV kV ho hd hcd hD hmg hg args vals as hpre hlay hrd hwl hlo
  have KX := kIn_of Y
  refine Ground.open G ?_
  intro T B D TE TW
  clear G Y B D TE TW hD hcd
  wrow_args hpre hlay hrd hwl hlo
  (rename Heap.IsList _ _ _ => hl); (rename IntsAre _ _ => hi); (rename ¬ _ < _ => hle)
  have hfa : fa = 819 := by
    have e : mg (Str.ofString "law") = some (.ref 819) := mg_of KX T.g (by with_unfolding_all rfl)
    have e2 : mg (Str.ofString "law") = some (.ref fa) := hmg
    rw [e] at e2
    injection e2 with e3; injection e3 with e4; exact e4.symm
  subst hfa
  refine enter_call ?_
  refine call w s1 _ _ _ _ _ mg mb _ KX T hl hi (by omega) hg ?_
  intro h' tk hk
  exact ⟨.inl ⟨_, _, [], rfl, fun _ => rfl, ReadsW.bool true, by first | rfl | wrow_post, fun _ => ⟨List.nodup_nil, fun _ hm => (nomatch hm)⟩⟩, .of_keep hk, rfl, .of_eq hg⟩
end
section
open PySem PySem.W PySem.Calls PyProof.Rows
theorem item_intsN {prog : Program} {w : World} {A : Around} {E : Value → Shared → Prop} {s : Shared} {value slice : PySem.Expr} {D : Addr} {its : List Value} {ns : List Int} {i : Int} {u : Tok} {Q : Value → Shared → Prop} (hl : s.heap.IsList D its.toArray) (hi : IntsAre its ns) (h0 : -1 ≤ i) (h1 : i < ns.length) (hne : 1 ≤ ns.length) (h2 : ns.length ≤ 1000) (h : ∀ x t, Q (.int x t) s)
    (hs : subscripted slice false (.ref D) (.int i u) = operate [.ref D, .int i u] (getItem (.ref D) (.int i u)) := by with_unfolding_all rfl) (hg : ∀ r, letTemporaryGo value (.ref D) r = pure () := by intro _; with_unfolding_all rfl) :
    wpAny (model prog w) A (subscriptTail value slice (.ref D) (.int i u)) Q E s := by
  by_cases hneg : 0 ≤ i
  · exact item_ints hl hi hneg h1 h2 (fun x t _ => h x t) hs hg
  · have e : i = -1 := by omega
    subst e
    have hsz : its.toArray.size = ns.length := by simp [hi.length]
    obtain ⟨t, hx⟩ := hi.get (ns.length - 1) ns[ns.length - 1] (by rw [List.getElem?_eq_getElem])
    refine subscriptTail_builtin hl.typeIs slot_list_getitem.lookup (wpAny_getItem_list_neg (x := Value.int ns[ns.length - 1] t) hl (by decide) (by rw [hsz]; omega) (by decide) ?_ (h _ t)) hs hg
    rw [hsz]
    have e2 : (-1 + (ns.length : Int)).toNat = ns.length - 1 := by omega
    rw [e2]
    simpa using hx
local macro_rules | `(tactic| walk_at "pyIter ref") => `(tactic| (k_here; refine Hold.out ?_))
theorem figs_len {B : Nat} {all : List Nat} {n : Nat} {fs : List Nat} (h : WOut B all n fs) : (⟨fs.toArray⟩ : Str).length ≤ 80 := by
  show fs.toArray.size ≤ 80
  simpa using h.len
theorem beh_len' : ∀ l ∈ behL ++ moreL 16 ++ moreL 10, l.length ≤ 2 := by decide +kernel
theorem beh_len {B : Nat} (hB : B = 16 ∨ B = 10) {l : List Nat} (h : l ∈ behL ++ moreL B) : (⟨l.toArray⟩ : Str).length ≤ 2 := by
  show l.toArray.size ≤ 2
  rw [List.size_toArray]
  refine beh_len' l ?_
  rcases List.mem_append.mp h with h | h
  · exact List.mem_append_left _ (List.mem_append_left _ h)
  · rcases hB with rfl | rfl
    · exact List.mem_append_left _ (List.mem_append_right _ h)
    · exact List.mem_append_right _ h
theorem item_beh {prog : Program} {w : World} {A : Around} {E : Value → Shared → Prop} {s : Shared} {value slice : PySem.Expr} {D : Addr} {its : List Value} {B : Nat} {k : Int} {u : Tok} {Q : Value → Shared → Prop} (hB : B = 16 ∨ B = 10) (hl : s.heap.IsList D its.toArray) (hi : StrsAre its ((behL ++ moreL B).map strOf)) (h : ∀ l t, l ∈ behL ++ moreL B → Q (.str ⟨l.toArray⟩ t) s)
    (hs : subscripted slice false (.ref D) (.int (Int.fmod k 23) u) = operate [.ref D, .int (Int.fmod k 23) u] (getItem (.ref D) (.int (Int.fmod k 23) u)) := by with_unfolding_all rfl) (hg : ∀ r, letTemporaryGo value (.ref D) r = pure () := by intro _; with_unfolding_all rfl) :
    wpAny (model prog w) A (subscriptTail value slice (.ref D) (.int (Int.fmod k 23) u)) Q E s := by
  have hlen : ((behL ++ moreL B).map strOf).length = 23 := by rcases hB with rfl | rfl <;> rfl
  refine item_strsX hl hi (fm (by decide)).1 (by rw [hlen]; exact (fm (by decide)).2) (by rw [hlen]; decide) (fun x t hx => ?_) hs hg
  obtain ⟨l, hl2, rfl⟩ := List.mem_map.mp hx
  exact h l t hl2
structure Row where
  B : Nat
  all : List Nat
  n : Nat
  fs : List Nat
  bh : List Nat
structure RowAt (objs : List (Addr × Obj)) (v : Value) (r : Row) : Prop where
  ex : ∃ D t1 t2 t3 t4, v = .ref D ∧ (D, tupO [.int (r.n : Int) t1, .int (r.B : Int) t2, .str ⟨r.fs.toArray⟩ t3, .str ⟨r.bh.toArray⟩ t4]) ∈ objs
inductive RowsAt (objs : List (Addr × Obj)) : List Value → List Row → Prop
  | nil : RowsAt objs [] []
  | cons {v r vs rs} : RowAt objs v r → RowsAt objs vs rs → RowsAt objs (v :: vs) (r :: rs)
def rowsText : List Row → List Nat
  | [] => []
  | r :: rs => r.fs ++ r.bh ++ rowsText rs
structure RowOk (r : Row) : Prop where
  bs : BsOk r.B r.all
  w : WOut r.B r.all r.n r.fs
  b : r.bh = [] ∨ r.bh ∈ behL ++ moreL r.B
  bl : r.bh.length ≤ 2
def RowsIn (rows : List Row) : Prop := ∀ r ∈ rows, RowOk r
def RowsP (n i : Nat) (rows : List Row) : Prop := rows.length = i ∧ (∀ l r l', rows = l ++ r :: l' → l' ≠ [] → r.bh ≠ []) ∧ (i < n → ∀ r ∈ rows, r.bh ≠ [])
theorem RowsAt.length {objs : List (Addr × Obj)} {vs : List Value} {rs : List Row} (h : RowsAt objs vs rs) : vs.length = rs.length := by
  induction h with
  | nil => rfl
  | cons _ _ ih => rw [List.length_cons, List.length_cons, ih]
theorem text_len : ∀ {rows : List Row}, RowsIn rows → (rowsText rows).length ≤ 82 * rows.length
  | [], _ => Nat.zero_le _
  | r :: rs, h => by
    have h1 := (h r (.head _)).w.len
    have h2 := (h r (.head _)).bl
    have h3 := text_len fun x hx => h x (.tail _ hx)
    show (r.fs ++ r.bh ++ rowsText rs).length ≤ _
    rw [List.length_append, List.length_append, List.length_cons]
    omega
theorem beh_len2 {B : Nat} (hB : B = 16 ∨ B = 10) {l : List Nat} (h : l ∈ behL ++ moreL B) : l.length ≤ 2 := by
  have e : l.toArray.size ≤ 2 := beh_len hB h
  rwa [List.size_toArray] at e
local macro_rules | `(tactic| walk_at "my own") => `(tactic| first | exact List.mem_append_left _ (by assumption) | exact List.mem_append_right _ (by assumption) | (refine' List.Mem.tail _ ?_; walk_at "my own"))
local macro_rules | `(tactic| walk_at "my sub") => `(tactic| first | (refine' List.forall_mem_cons.mpr ⟨?m9, ?r9⟩; (case m9 => k_memK); (case r9 => walk_at "my sub")) | (intro p9 hp9; walk_at "my own"))
theorem RowAt.mono {a b : List (Addr × Obj)} {v : Value} {r : Row} (h : RowAt a v r) (s : ∀ p ∈ a, p ∈ b) : RowAt b v r := by
  obtain ⟨D, t1, t2, t3, t4, e, hm⟩ := h
  exact ⟨D, t1, t2, t3, t4, e, s _ hm⟩
theorem RowsAt.snoc {a b : List (Addr × Obj)} {vs : List Value} {rs : List Row} {v : Value} {r : Row} (h : RowsAt a vs rs) (s : ∀ p ∈ a, p ∈ b) (k : RowAt b v r) : RowsAt b (vs ++ [v]) (rs ++ [r]) := by
  induction h with
  | nil => exact .cons k .nil
  | cons h1 _ ih => exact .cons (h1.mono s) ih
theorem text_snoc : ∀ (rs : List Row) (r : Row), rowsText (rs ++ [r]) = rowsText rs ++ r.fs ++ r.bh
  | [], r => by simp [rowsText]
  | x :: rs, r => by
    show x.fs ++ x.bh ++ rowsText (rs ++ [r]) = (x.fs ++ x.bh ++ rowsText rs) ++ r.fs ++ r.bh
    rw [text_snoc rs r]
    simp [List.append_assoc]
theorem rowsP_snoc {n i : Nat} {rows : List Row} {r : Row} (hP : RowsP n i rows) (hi : i < n) (h : r.bh = [] → i + 1 = n) : RowsP n (i + 1) (rows ++ [r]) := by
  refine ⟨by rw [List.length_append, hP.1]; rfl, fun l x l' e hne => ?_, fun hlt x hx => ?_⟩
  · have hx : x ∈ rows := by
      rcases List.eq_nil_or_concat l' with h0 | ⟨l2, y, h0⟩
      · exact absurd h0 hne
      · subst h0
        rw [List.concat_eq_append, ← List.cons_append, ← List.append_assoc] at e
        have := List.append_inj_left' e rfl
        rw [this]
        simp
    exact hP.2.2 hi x hx
  · rcases List.mem_append.mp hx with hx | hx
    · exact hP.2.2 hi x hx
    · rw [List.mem_singleton.mp hx]
      intro e
      have := h e
      omega
theorem allLt_mem {d : Nat} : ∀ {l : List (Addr × Obj)}, AllLt d l → ∀ p ∈ l, @LT.lt Nat _ p.1 d
  | [], _, _, hp => (nomatch hp)
  | q :: r, h, p, hp => by
    rcases List.mem_cons.mp hp with rfl | hp
    · exact h.1
    · exact allLt_mem h.2 p hp
theorem str_cat (a b : List Nat) : (⟨a.toArray⟩ ++ ⟨b.toArray⟩ : Str) = ⟨(a ++ b).toArray⟩ := by
  show (⟨a.toArray ++ b.toArray⟩ : Str) = _
  congr 1
  apply Array.toList_inj.mp
  simp
theorem facts_end {tl : List (Addr × Obj)} {rws : List Value} {rows : List Row} {T2 : List Nat} {N i B : Nat} {all fs bh : List Nat} {c : Int} {D : Addr} {t1 t2 t3 t4 : Tok} (hR : RowsAt tl rws rows) (hI : RowsIn rows) (hT : T2 = rowsText rows) (hP : RowsP N i rows) (hi : i < N) (W : WOut B all c.toNat fs) (hB : BsOk B all) (hc : 0 ≤ c) (hb : bh = [] ∨ bh ∈ behL ++ moreL B) (hbl : bh.length ≤ 2) (hlast : bh = [] → i + 1 = N) :
    (RowsAt ((D, tupO [.int c t1, .int (B : Int) t2, .str ⟨fs.toArray⟩ t3, .str ⟨bh.toArray⟩ t4]) :: tl) (rws ++ [.ref D]) (rows ++ [⟨B, all, c.toNat, fs, bh⟩]) ∧ RowsIn (rows ++ [⟨B, all, c.toNat, fs, bh⟩]) ∧ T2 ++ fs ++ bh = rowsText (rows ++ [⟨B, all, c.toNat, fs, bh⟩])) ∧ RowsP N (i + 1) (rows ++ [⟨B, all, c.toNat, fs, bh⟩]) := by
  refine ⟨⟨hR.snoc (fun p hp => .tail _ hp) ⟨D, t1, t2, t3, t4, rfl, ?_⟩, ?_, ?_⟩, rowsP_snoc hP hi hlast⟩
  · dsimp only
    rw [Int.toNat_of_nonneg hc]
    exact .head _
  · intro x hx
    rcases List.mem_append.mp hx with hx | hx
    · exact hI x hx
    · rw [List.mem_singleton.mp hx]
      exact ⟨hB, W, hb, hbl⟩
  · rw [text_snoc, hT]
theorem tl_sub {A : List (Addr × Obj)} {own : List (Addr × Obj)} {p : Addr × Obj} (h : p ∈ A) : p ∈ A ++ own := List.mem_append_left _ h
theorem none_is' : (Str.ofString "" : Str) = ⟨([] : List Nat).toArray⟩ := none_is
structure L1 where
  rws : List Value
  nr : Nat
  rows : List Row
  T : List Nat
  tt : Tok
noncomputable def loop1S : Stmt := nth (fBody lawF) 3
theorem loop1 {w : World} {sc : Scope} {st : Stmt} (hsc : sc = fScope lawF) (hst : st = loop1S) {h₀ : Heap} {L : Addr} {s : Shared} {m1 : Str → Option Value} {Q : Flow → Shared → Prop} {E : Value → Shared → Prop} {loose : List Str} {mean : ExcName → Option Value} {mg mb : Str → Option Value} {ra ta : Addr} {nr nt : Nat} {tt : Tok} {ws : List Value} {tp : List Int}
    (lF : Fr h₀ L s.heap (fun x => if x = Str.ofString "text" then some (.str (Str.ofString "") tt) else if x = Str.ofString "rows" then some (.ref ra) else if x = Str.ofString "tape" then some (.ref ta) else m1 x))
    (lN : News h₀ L s.heap [(ra, listOf #[] nr), (ta, listOf ws.toArray nt)]) (hdif : Dif ra ta) (hi : IntsAre ws tp) (ht1 : 1 ≤ tp.length) (ht2 : tp.length ≤ 10)
    (X : (K1 w.params).In h₀) (T : Top q1 loose mean mg mb h₀) (B : Below callerA h₀ [] h₀)
    (hE : PassesOwn (model r1.row.prog w) (callerA.deeper (envOf (Str.ofString "law") sc L 819 (.ref 818))) (envOf (Str.ofString "law") sc L 819 (.ref 818)) E)
    (hQ : ∀ (h' : Heap) (tk : Nat) (m' : Str → Option Value) (rws : List Value) (rows : List Row) (nr' : Nat) (tl : List (Addr × Obj)) (tt' : Tok), Fr h₀ L h' (fun x => if x = Str.ofString "text" then some (.str ⟨(rowsText rows).toArray⟩ tt') else if x = Str.ofString "rows" then some (.ref ra) else if x = Str.ofString "tape" then some (.ref ta) else m' x) → News h₀ L h' ((ra, listOf rws.toArray nr') :: (ta, listOf ws.toArray nt) :: tl) → OwnOff tl [ra, ta] → RowsAt tl rws rows → RowsIn rows → RowsP tp.length tp.length rows → Q .next { s with heap := h', toks := tk }) :
    wpAny (model r1.row.prog w) (callerA.deeper (envOf (Str.ofString "law") sc L 819 (.ref 818))) (exec st (envOf (Str.ofString "law") sc L 819 (.ref 818))) Q E s := by
  k_with_none
  (k_with "callWith" => (k_here; (with_reducible show wpAny _ _ (callWith _ (Value.builtin _) [_] _ _) _ _ _); refine callWith_method1 ?_))
  (k_with "call ref" => (k_here; (with_reducible show wpAny _ _ (call (Value.ref 791) _) _ _ _); k_dflt (refine' spec_use (code_spec _ _) Sel.nil ?B ?F ?X ?N ?T ?hk ?hd ?hu ?_; (case N => k_asm); (case B => k_asm); (case F => k_asm); (case X => k_asm); (case T => k_asm); (case hk => first | exact rfl | assumption); (case hd => ktr_room); (case hu => ktr_units); k_whole); intro r' P' h' tk' hp' F' N' O'; obtain ⟨c9, u9, e8, e9, hc9, hd9⟩ := hp'; subst e8 e9; simp only [List.cons_append, List.nil_append] at N'; clear O'))
  (k_with "call ref" => (k_here; (with_reducible show wpAny _ _ (call (Value.ref 798) _) _ _ _); k_dflt (refine' spec_use (written_spec _ _ _ _ ?w0 ?w1) Sel.nil ?B ?F ?X ?N ?T ?hk ?hd ?hu ?_; (case w0 => assumption); (case w1 => assumption); (case N => k_asm); (case B => k_asm); (case F => k_asm); (case X => k_asm); (case T => k_asm); (case hk => first | exact rfl | assumption); (case hd => ktr_room); (case hu => ktr_units); k_whole); intro r' P' h' tk' hp' F' N' O'; dsimp only [WrOut] at hp'; obtain ⟨D9, B9, all9, fs9, tb9, tf9, hB9, e8, e9, hW9⟩ := hp'; subst e8 e9; simp only [List.cons_append, List.nil_append] at N'; replace O' := offN_of O'; simp only [List.map_cons, List.map_nil, OffN, NeAll, and_true] at O'; (repeat (with_reducible rename _ ∧ _ => hh9; obtain ⟨_, _⟩ := hh9)); unfold BsOk at hB9; rcases hB9 with ⟨hb8, hb9⟩ | ⟨hb8, hb9⟩ <;> (subst hb8 hb9; have hl7 := figs_len hW9)))
  (k_with "subscriptTail" => (k_here; (with_reducible show wpAny _ _ (subscriptTail _ _ (Value.ref _) (Value.int _ _)) _ _ _); (refine' item_intsN (News.isList (by k_asm) (by k_mem)) ?hi ?h0 ?h1 ?h2 ?h3 ?_; (case hi => assumption); (case h0 => omega); (case h1 => omega); (case h2 => omega); (case h3 => omega)); intro x9 t9))
  (k_with "subscriptTail" => (k_here; (with_reducible show wpAny _ _ (subscriptTail _ _ (Value.ref 775) (Value.int _ _)) _ _ _); (refine' more_item ?hX ?hF ?hi ?hB ?_; (case hF => exact Fr.keep (by k_asm)); (case hX => k_asm); (case hi => rfl); (case hB => decide))))
  (k_with "binaryOp Add ref ref" => (k_here; (with_reducible show wpAny _ _ (binaryOp _ (Value.ref 774) (Value.ref _)) _ _ _); k_dflt (refine' beh_add ?hB ?F ?N ?X ?_; (case hB => decide); (case F => k_asm); (case N => k_asm); (case X => k_asm)); intro D9 vs9 h' F' N' l1 hb9; (try k_lt l1)))
  (k_with "subscriptTail" => (k_here; (with_reducible show wpAny _ _ (subscriptTail _ _ (Value.ref _) (Value.int (Int.fmod _ 23) _)) _ _ _); (refine' item_beh ?hB (News.isList (by k_asm) (by k_mem)) ?hi ?_; (case hi => assumption); (case hB => decide)); intro l9 t9 hx9; have hl8 := beh_len (by decide) hx9))
  (k_with "call builtin:list.append" => (k_here; (with_reducible show wpAny _ _ (call (Value.builtin _) [Value.ref _, _]) _ _ _); k_dflt (refine' append_K ?k1 ?k2 ?k3 ?_ ?z; (case k1 => k_asm); (case k2 => k_asm); (case k3 => k_upd); (case z => exact size_le (by assumption)); k_whole); intro h' F' N'))
  revert X; k_fill; intro X
  conv at hsc => rhs; whnf
  conv at hst => rhs; whnf
  subst hsc hst
  (with_unfolding_all refine' For_invVF lF ?k1 ?k2 ?_ ?k3 hE; (case k1 => exact rfl); (case k2 => exact rfl); (case k3 => intro _; rfl))
  k_steps
  refine ⟨?_⟩
  (rename Fr h₀ L _ _ => lF'); (rename News h₀ L _ ((_, _) :: _) => lN'); (rename IsRange _ _ _ _ _ _ _ _ => rgX)
  rw [none_is] at lF'
  refine' kd_range (σ := L1) (n := tp.length) (fun c => [(ra, listOf c.rws.toArray c.nr), (ta, listOf ws.toArray nt)]) [] (fun c => [(Str.ofString "text", .str ⟨c.T.toArray⟩ c.tt)]) (fun objs c => RowsAt objs c.rws c.rows ∧ RowsIn c.rows ∧ c.T = rowsText c.rows)
    [Str.ofString "k", Str.ofString "code", Str.ofString "base", Str.ofString "figures", Str.ofString "behind"] (fun pre c => RowsP tp.length pre.length c.rows) [ra, ta] ⟨[], nr, [], [], tt⟩ ?hh rgX ?sm ?rs lF' lN' ?ki ?ka ?kf ?kk ?kp ?turn ?done
  case hh => rfl
  case sm => first | exact small_one (by omega) (by omega) (by omega) (by omega) | exact small_one (by l_bnd) (by l_bnd) (by l_bnd) (by l_bnd)
  case rs => first | exact rangeSize_nat _ _ | rfl
  case ki => exact fun p hp => hp
  case ka => exact fun c => rfl
  case kf => exact ⟨.nil, (fun _ h => nomatch h), rfl⟩
  case kk =>
    intro p hp
    rw [List.mem_singleton.mp hp]
    rfl
  case kp => exact ⟨rfl, (fun l r l' e _ => absurd (congrArg List.length e) (by simp)), (fun _ _ h => nomatch h)⟩
  case turn =>
    rintro ⟨rws, nr2, rows, T2, tt2⟩ tl pre k t u h tk own hk hlt hsep hoff ⟨hR, hI, hT⟩ hP F2 N2
    dsimp only at hk hlt hoff hR hI hT hP F2 N2
    dsimp only [kstB] at F2
    simp only [List.nil_append, List.cons_append] at N2
    clear lF' lN' rgX
    have hrl : rws.length ≤ 1001 := by have := hR.length; have := hP.1; omega
    have hTl : (⟨T2.toArray⟩ : Str).length ≤ 1000 := by
      show T2.toArray.size ≤ 1000
      rw [List.size_toArray, hT]
      have := text_len hI
      have := hP.1
      omega
    k_steps
    all_goals ((rename Fr h₀ L _ _ => lF2); (rename News h₀ L _ ((_, _) :: _) => lN2); (rename _ ∧ _ ∧ _ ∧ _ ∧ AllLt _ _ => hlt2); (rename WOut _ _ _ _ => hW2); (rename _ ∈ behL ++ _ => hb2); (rename 0 ≤ _ => hc2))
    all_goals (simp only [List.push_toArray] at lN2; simp only [none_is', str_cat] at lF2 lN2)
    · refine' kd_end (L1.mk _ _ _ _ _) [(_, _)] hsep lF2 lN2 ?hn ?ho rfl ?hb ?hw ?hk ?hr (facts_end hR hI hT hP hlt hW2 (.inl ⟨rfl, rfl⟩) hc2 (.inl rfl) (by decide) (fun _ => by omega)).1 ?hp
      case hn => walk_at "my sub"
      case ho => walk_at "my sub"
      case hk =>
        intro p hp
        rw [List.mem_singleton.mp hp]
        rfl
      case hp => rw [List.length_append]; exact (facts_end (D := 0) (t1 := 0) (t2 := 0) (t3 := 0) (t4 := 0) hR hI hT hP hlt hW2 (.inl ⟨rfl, rfl⟩) hc2 (.inl rfl) (by decide) (fun _ => by omega)).2
      case hr => kst_same
      case hb =>
        obtain ⟨_, _, q1, q2, q3⟩ := hlt2
        intro q hq b hb
        rw [List.mem_singleton.mp hq]
        rcases List.mem_cons.mp hb with rfl | hb
        · exact Nat.ne_of_lt q1
        · rw [List.mem_singleton.mp hb]; exact Nat.ne_of_lt q2
      case hw =>
        obtain ⟨_, _, q1, q2, q3⟩ := hlt2
        intro q hq p hp
        rw [List.mem_singleton.mp hq]
        exact Nat.ne_of_lt (allLt_mem q3 p (List.mem_append_right _ hp))
    · refine' kd_end (L1.mk _ _ _ _ _) [(_, _)] hsep lF2 lN2 ?hn ?ho rfl ?hb ?hw ?hk ?hr (facts_end hR hI hT hP hlt hW2 (.inl ⟨rfl, rfl⟩) hc2 (.inr hb2) (beh_len2 (by decide) hb2) (fun e => absurd (e ▸ hb2) (by decide))).1 ?hp
      case hn => walk_at "my sub"
      case ho => walk_at "my sub"
      case hk =>
        intro p hp
        rw [List.mem_singleton.mp hp]
        rfl
      case hp => rw [List.length_append]; exact (facts_end (D := 0) (t1 := 0) (t2 := 0) (t3 := 0) (t4 := 0) hR hI hT hP hlt hW2 (.inl ⟨rfl, rfl⟩) hc2 (.inr hb2) (beh_len2 (by decide) hb2) (fun e => absurd (e ▸ hb2) (by decide))).2
      case hr => kst_same
      case hb =>
        obtain ⟨_, _, q1, q2, q3⟩ := hlt2
        intro q hq b hb
        rw [List.mem_singleton.mp hq]
        rcases List.mem_cons.mp hb with rfl | hb
        · exact Nat.ne_of_lt q1
        · rw [List.mem_singleton.mp hb]; exact Nat.ne_of_lt q2
      case hw =>
        obtain ⟨_, _, q1, q2, q3⟩ := hlt2
        intro q hq p hp
        rw [List.mem_singleton.mp hq]
        exact Nat.ne_of_lt (allLt_mem q3 p (List.mem_append_right _ hp))
    · refine' kd_end (L1.mk _ _ _ _ _) [(_, _)] hsep lF2 lN2 ?hn ?ho rfl ?hb ?hw ?hk ?hr (facts_end hR hI hT hP hlt hW2 (.inl ⟨rfl, rfl⟩) hc2 (.inr hb2) (beh_len2 (by decide) hb2) (fun e => absurd (e ▸ hb2) (by decide))).1 ?hp
      case hn => walk_at "my sub"
      case ho => walk_at "my sub"
      case hk =>
        intro p hp
        rw [List.mem_singleton.mp hp]
        rfl
      case hp => rw [List.length_append]; exact (facts_end (D := 0) (t1 := 0) (t2 := 0) (t3 := 0) (t4 := 0) hR hI hT hP hlt hW2 (.inl ⟨rfl, rfl⟩) hc2 (.inr hb2) (beh_len2 (by decide) hb2) (fun e => absurd (e ▸ hb2) (by decide))).2
      case hr => kst_same
      case hb =>
        obtain ⟨_, _, q1, q2, q3⟩ := hlt2
        intro q hq b hb
        rw [List.mem_singleton.mp hq]
        rcases List.mem_cons.mp hb with rfl | hb
        · exact Nat.ne_of_lt q1
        · rw [List.mem_singleton.mp hb]; exact Nat.ne_of_lt q2
      case hw =>
        obtain ⟨_, _, q1, q2, q3⟩ := hlt2
        intro q hq p hp
        rw [List.mem_singleton.mp hq]
        exact Nat.ne_of_lt (allLt_mem q3 p (List.mem_append_right _ hp))
    · refine' kd_end (L1.mk _ _ _ _ _) [(_, _)] hsep lF2 lN2 ?hn ?ho rfl ?hb ?hw ?hk ?hr (facts_end hR hI hT hP hlt hW2 (.inr ⟨rfl, rfl⟩) hc2 (.inl rfl) (by decide) (fun _ => by omega)).1 ?hp
      case hn => walk_at "my sub"
      case ho => walk_at "my sub"
      case hk =>
        intro p hp
        rw [List.mem_singleton.mp hp]
        rfl
      case hp => rw [List.length_append]; exact (facts_end (D := 0) (t1 := 0) (t2 := 0) (t3 := 0) (t4 := 0) hR hI hT hP hlt hW2 (.inr ⟨rfl, rfl⟩) hc2 (.inl rfl) (by decide) (fun _ => by omega)).2
      case hr => kst_same
      case hb =>
        obtain ⟨_, _, q1, q2, q3⟩ := hlt2
        intro q hq b hb
        rw [List.mem_singleton.mp hq]
        rcases List.mem_cons.mp hb with rfl | hb
        · exact Nat.ne_of_lt q1
        · rw [List.mem_singleton.mp hb]; exact Nat.ne_of_lt q2
      case hw =>
        obtain ⟨_, _, q1, q2, q3⟩ := hlt2
        intro q hq p hp
        rw [List.mem_singleton.mp hq]
        exact Nat.ne_of_lt (allLt_mem q3 p (List.mem_append_right _ hp))
    · refine' kd_end (L1.mk _ _ _ _ _) [(_, _)] hsep lF2 lN2 ?hn ?ho rfl ?hb ?hw ?hk ?hr (facts_end hR hI hT hP hlt hW2 (.inr ⟨rfl, rfl⟩) hc2 (.inr hb2) (beh_len2 (by decide) hb2) (fun e => absurd (e ▸ hb2) (by decide))).1 ?hp
      case hn => walk_at "my sub"
      case ho => walk_at "my sub"
      case hk =>
        intro p hp
        rw [List.mem_singleton.mp hp]
        rfl
      case hp => rw [List.length_append]; exact (facts_end (D := 0) (t1 := 0) (t2 := 0) (t3 := 0) (t4 := 0) hR hI hT hP hlt hW2 (.inr ⟨rfl, rfl⟩) hc2 (.inr hb2) (beh_len2 (by decide) hb2) (fun e => absurd (e ▸ hb2) (by decide))).2
      case hr => kst_same
      case hb =>
        obtain ⟨_, _, q1, q2, q3⟩ := hlt2
        intro q hq b hb
        rw [List.mem_singleton.mp hq]
        rcases List.mem_cons.mp hb with rfl | hb
        · exact Nat.ne_of_lt q1
        · rw [List.mem_singleton.mp hb]; exact Nat.ne_of_lt q2
      case hw =>
        obtain ⟨_, _, q1, q2, q3⟩ := hlt2
        intro q hq p hp
        rw [List.mem_singleton.mp hq]
        exact Nat.ne_of_lt (allLt_mem q3 p (List.mem_append_right _ hp))
    · refine' kd_end (L1.mk _ _ _ _ _) [(_, _)] hsep lF2 lN2 ?hn ?ho rfl ?hb ?hw ?hk ?hr (facts_end hR hI hT hP hlt hW2 (.inr ⟨rfl, rfl⟩) hc2 (.inr hb2) (beh_len2 (by decide) hb2) (fun e => absurd (e ▸ hb2) (by decide))).1 ?hp
      case hn => walk_at "my sub"
      case ho => walk_at "my sub"
      case hk =>
        intro p hp
        rw [List.mem_singleton.mp hp]
        rfl
      case hp => rw [List.length_append]; exact (facts_end (D := 0) (t1 := 0) (t2 := 0) (t3 := 0) (t4 := 0) hR hI hT hP hlt hW2 (.inr ⟨rfl, rfl⟩) hc2 (.inr hb2) (beh_len2 (by decide) hb2) (fun e => absurd (e ▸ hb2) (by decide))).2
      case hr => kst_same
      case hb =>
        obtain ⟨_, _, q1, q2, q3⟩ := hlt2
        intro q hq b hb
        rw [List.mem_singleton.mp hq]
        rcases List.mem_cons.mp hb with rfl | hb
        · exact Nat.ne_of_lt q1
        · rw [List.mem_singleton.mp hb]; exact Nat.ne_of_lt q2
      case hw =>
        obtain ⟨_, _, q1, q2, q3⟩ := hlt2
        intro q hq p hp
        rw [List.mem_singleton.mp hq]
        exact Nat.ne_of_lt (allLt_mem q3 p (List.mem_append_right _ hp))
  case done =>
    rintro ⟨rws, nr2, rows, T2, tt2⟩ tl u h tk hoff ⟨hR, hI, hT⟩ hP F2 N2
    dsimp only at hoff hR hI hT hP F2 N2
    dsimp only [kstB] at F2
    rw [rangeKs_length] at hP
    subst hT
    exact hQ h tk _ rws rows nr2 tl tt2 (fr_have (x := Str.ofString "text") rfl (fr_have (x := Str.ofString "rows") rfl (fr_have (x := Str.ofString "tape") rfl F2))) N2 hoff hR hI hP
end
local macro_rules | `(tactic| walk_at "my sub") => `(tactic| first | (refine' List.forall_mem_cons.mpr ⟨?m9, ?r9⟩; (case m9 => k_memK); (case r9 => walk_at "my sub")) | (intro p9 hp9; walk_at "my own"))
section
open PySem PySem.W PySem.Calls PyProof.Rows
theorem Spec.mono {prog : Program} {w : World} {K : Frag} {q : Program} {f : Addr} {args : List Value} {P : List (Addr × Obj)} {dd uu : Nat} {post post' : Value → List (Addr × Obj) → Prop} (S : Spec prog w K q f args P dd uu post) (h : ∀ r P', post r P' → post' r P') : Spec prog w K q f args P dd uu post' :=
  fun loose mean mg mb dp un gd cn cs a ccd cl outer A₀ base h₀ L m s Q E own B F X N O nd T hk hd hu k => S loose mean mg mb dp un gd cn cs a ccd cl outer A₀ base h₀ L m s Q E own B F X N O nd T hk hd hu (fun r P' h' tk hp => k r P' h' tk (h r P' hp))
def tokN (t0 t1 t2 t3 t4 t5 t6 t7 t8 t9 : Tok) : Nat → Tok
  | 0 => t0 | 1 => t1 | 2 => t2 | 3 => t3 | 4 => t4 | 5 => t5 | 6 => t6 | 7 => t7 | 8 => t8 | _ => t9
theorem rdOk2 {T d : Str} (H : TxtOk T) {b : Nat} (hb : b ≤ T.length) (hd : d = Txt.slice T (some 0) (some (0 + (b : Int)))) : RdOk T d 0 := by
  have hl := H.len
  have hd' : d.cps.toList = (T.cps.toList.take b).drop 0 := by
    rw [hd, Int.zero_add]
    exact slice_list T (Nat.zero_le b) hb
  have hc : ∀ c ∈ d.cps.toList, OkC c := fun c hm => H.ok c (by
    rw [hd', List.drop_zero] at hm
    exact List.mem_of_mem_take hm)
  have hlen : d.length ≤ T.length := by
    rw [← len_list d, hd', List.drop_zero, List.length_take, len_list]; omega
  have hi := item_mem d (-1)
  refine ⟨fun c h => (hc c h).1, fun c h => (hc c h).2, by omega, by omega, by omega, by omega, ?_, ?_, ?_, ?_⟩
  · rcases hi with h | h
    · rw [h]; decide
    · have := (hc _ h).2
      omega
  · rcases hi with h | h
    · rw [h]; decide
    · have := (hc _ h).1
      unfold Inval at this
      omega
  · exact no_occ (c := 13) (r := [10]) (by decide +kernel) (fun e h => (hc e h).2) _
  · exact no_occ (c := 13) (r := []) (by decide +kernel) (fun e h => (hc e h).2) _
theorem at_first {z rm : Addr} {er : Value} {T d : Str} {nl : Value} {tC : Tok} {tS : Tok} {tO tL tP : Tok} {b : Nat} {v' : SV} (hb : b ≤ T.length) (hd : d = Txt.slice T (some 0) (some (0 + (b : Int)))) (R : RcTo ⟨.ref rm, nl, .ref z, Str.ofString "", tC, 0, tS, 0, tO, er, 0, tL, 0, tP, .none⟩ d v') : At z rm er T v' 0 b 0 := by
  have hd' : d.cps.toList = (T.cps.toList.take b).drop 0 := by
    rw [hd, Int.zero_add]
    exact slice_list T (Nat.zero_le b) hb
  have H0 : At z rm er T ⟨.ref rm, nl, .ref z, Str.ofString "", tC, 0, tS, 0, tO, er, 0, tL, 0, tP, .none⟩ 0 0 0 := ⟨rfl, rfl, rfl, rfl, Nat.zero_le _, Nat.le_refl _, Nat.le_refl _, by
      show (Str.ofString "").cps.toList = _
      rw [empty_cps]; rfl, rfl, rfl, rfl, rfl⟩
  refine ⟨R.rce, R.ds, R.bf, R.er, hb, Nat.le_refl _, Nat.zero_le _, by rw [R.C, hd'], ?_, R.ofs, ?_, ?_⟩
  · rw [R.sz, ← len_list d, hd', List.drop_zero, List.length_take, len_list]; omega
  · rw [R.pl]
    exact (H0.nl 0 (Nat.le_refl _)).trans rfl
  · rw [R.pc]
    exact (H0.col 0 (Nat.le_refl _)).trans rfl
theorem rc1' {w : World} {y dy z dz rm : Addr} {t0 t1 t2 t3 t4 t5 t6 t7 t8 t9 : Tok} {nl : Value} {tC : Tok} {tS : Tok} {tO : Tok} {er : Value} {tL : Tok} {tP : Tok} {k0 k1 tT tp tn : Tok} {T d : Str} {n : Int} {b : Nat} (HT : TxtOk T) (hn : n = (b : Int)) (hb : b ≤ T.length) (hd0 : d = Txt.slice T (some 0) (some (0 + (b : Int)))) :
    S1 w 141 [.ref y, .int n tn] (CLed w.params y dy z dz rm (tokN t0 t1 t2 t3 t4 t5 t6 t7 t8 t9) ⟨.ref rm, nl, .ref z, Str.ofString "", tC, 0, tS, 0, tO, er, 0, tL, 0, tP, .none⟩ k0 k1 T tT 0 tp) 4 32 (fun r P' => ∃ v' tp', P' = CLed w.params y dy z dz rm (tokN t0 t1 t2 t3 t4 t5 t6 t7 t8 t9) v' k0 k1 T tT ((b : Nat) : Int) tp' ∧ At z rm er T v' 0 b 0) := by
  subst hn
  have R := rdOk2 HT hb hd0
  have hl := HT.len
  have hlen : d.length = b := by
    have hd' : d.cps.toList = (T.cps.toList.take b).drop 0 := by
      rw [hd0, Int.zero_add]
      exact slice_list T (Nat.zero_le b) hb
    rw [← len_list d, hd', List.drop_zero, List.length_take, len_list]; omega
  have S := rc_spec (w := w) (tn := tn) y dy z dz rm (tokN t0 t1 t2 t3 t4 t5 t6 t7 t8 t9) ⟨.ref rm, nl, .ref z, Str.ofString "", tC, 0, tS, 0, tO, er, 0, tL, 0, tP, .none⟩ k0 k1 tT tp T d 0 b rfl rfl rfl hd0 R.hT R.h13 R.hp R.hp2 (by omega) R.hT2 (by omega) R.hd2 R.hl1 R.hl2 R.ho1 R.ho2
  refine S.mono ?_
  rintro r P' ⟨v', tp', rfl, R', _⟩
  refine ⟨v', tp', ?_, at_first hb hd0 R'⟩
  rw [hlen, Int.zero_add]
  rfl
end
section
open PySem PySem.W PySem.Calls PyProof.Rows
/-- a number that tells objects of several kinds apart -/
def kd (o : Obj) : Nat :=
  match o.data with
  | .seq _ _ => (match o.cls with | .type s => (if s == "list" then 1 else 2) | _ => 3)
  | .dict es _ => 10 + es.size
  | .fields _ => 4
  | .plain => (match o.cls with | .ref a => 100 + a | _ => 5)
  | _ => 6
theorem kd_list (xs : Array Value) (n : Nat) : kd (listOf xs n) = 1 := rfl
theorem kd_tup (vs : List Value) (n : Nat) : kd { cls := .type "tuple", data := .seq vs.toArray n } = 2 := rfl
theorem kd_dict (es : List DictEntry) (n : Nat) : kd (dictOf es n) = 10 + es.toArray.size := rfl
theorem kd_meth (f x : Value) : kd (methodObj f x) = 4 := rfl
theorem kd_inst (C d : Addr) : kd (instObj C d) = 100 + C := rfl
theorem ne_kd {h₀ h : Heap} {L : Addr} {l : List (Addr × Obj)} (N : News h₀ L h l) {a b : Addr} {o o' : Obj} (h1 : (a, o) ∈ l) (h2 : (b, o') ∈ l) (hk : kd o ≠ kd o') : a ≠ b := fun e => by
  subst e
  have e1 := (N _ h1).1
  have e2 := (N _ h2).1
  dsimp only at e1 e2
  rw [e1] at e2
  injection e2 with e2
  exact hk (congrArg kd e2)
end
section
open PySem PySem.W PySem.Calls PyProof.Rows PyProof.V PySem.Spec
/-- a for over a list of the ledger, with any target; what a turn leaves is a word over the ledger -/
theorem list_loop {prog : Program} {w : World} {A : Around} {E : Value → Shared → Prop} {s : Shared} {env : Env} {h₀ : Heap} {target : PySem.Expr} {body : List Stmt} {Q : Flow → Shared → Prop} {ra : Addr} {items : List Value} {nr : Nat} {m₀ : Str → Option Value} {news nx : List (Addr × Obj)}
    (J : Nat → (Str → Option Value) → List (Addr × Obj) → Prop) (hh : A.handled = none) (F : Fr h₀ env.locals s.heap m₀) (N : News h₀ env.locals s.heap news) (hra : (ra, listOf items.toArray nr) ∈ news) (hnx : ∀ p ∈ nx, p ∈ news) (h0 : J 0 m₀ nx) (hJ : ∀ i m n, J i m n → ∀ p ∈ n, p.1 ≠ ra)
    (turn : ∀ (i : Nat) v m₁ nx₁ s₁ own, items[i]? = some v → J i m₁ nx₁ → OwnOff own (nx₁.map (·.1)) → (∃ o, (ra, o) ∈ own) → Fr h₀ env.locals s₁.heap m₁ → News h₀ env.locals s₁.heap (nx₁ ++ own) →
      wpAny (model prog w) A (assign target env v) (fun _ s₃ => wpAny (model prog w) A (execs body env) (fun f s' => f = .next ∧ ∃ h' tk' m' nx', s' = { s₁ with heap := h', toks := tk' } ∧ Fr h₀ env.locals h' m' ∧ News h₀ env.locals h' (nx' ++ own) ∧ OwnOff own (nx'.map (·.1)) ∧ J (i + 1) m' nx') E s₃) E s₁)
    (done : ∀ h' tk m' nx', Fr h₀ env.locals h' m' → News h₀ env.locals h' nx' → J items.length m' nx' → Q .next { s with heap := h', toks := tk }) :
    wpAny (model prog w) A (pyIter (.ref ra)) (fun it s₂ => LoopAtT prog w A h₀ env target body Q E it s₂) E s := by
  have hg : s.heap.get? ra = some (listOf items.toArray nr) := (N _ hra).1
  have hls : s.heap.IsList ra items.toArray := ⟨_, hg, rfl, _, rfl⟩
  have hlt : ra < s.heap.objs.size := Heap.lt_size hg
  refine wpAny_pyIter_list hls ?_
  have W := Walks.list (prog := prog) (w := w) hh s.heap.objs.size ra (Nat.ne_of_lt hlt) items.toArray
  rw [List.size_toArray] at W
  refine ⟨s.heap.objs.size, [s.heap.objs.size, ra], [s.heap.objs.size], items.length, _, _, m₀, nx, J, rfl, W, ?_, ?_, ?_,
    ⟨⟨_, Heap.get?_push_size _ rfl, rfl, rfl⟩, hls.at fun o e => Heap.get?_push_of_some _ e⟩, F.push _, fun p hp => ⟨Heap.get?_push_of_some _ (N p (hnx p hp)).1, (N p (hnx p hp)).2⟩, fun i s' v Q' st hQ' => letGo_listiter st.1 hQ', h0, ?_, ?_⟩
  · intro hm
    rcases List.mem_cons.mp hm with e | hm
    · exact absurd F.ns.lt (e ▸ Nat.lt_irrefl _)
    · exact (N _ hra).2.1 (List.mem_singleton.mp hm).symm
  · intro b hb
    rw [List.mem_singleton.mp hb]
    exact next_is_new F
  · intro p hp hI
    exact absurd (Heap.lt_size (N p (hnx p hp)).1) ((List.mem_singleton.mp hI) ▸ Nat.lt_irrefl _)
  · intro i v m₁ nx₁ s₁ own hi hP hJ1 hoff hsub _ hall hst F₁ N₁
    obtain ⟨⟨oI, hoI, _, _⟩, ⟨oR, hoR, _⟩⟩ := hst
    have mI := hall s.heap.objs.size (by simp) (next_is_new F) oI hoI
    have mR := hall ra (by simp) (N _ hra).2.2 oR hoR
    have off : OwnOff own (nx₁.map (·.1)) := fun p hp b hb e => by
      obtain ⟨q, hq, rfl⟩ := List.mem_map.mp hb
      rcases List.mem_cons.mp (hsub p hp) with e1 | e1
      · exact hoff q hq (by rw [← e, e1]; exact .head _)
      · exact hJ _ _ _ hJ1 q hq (by rw [← e]; exact List.mem_singleton.mp e1)
    refine wpAny_mono (turn i v m₁ nx₁ s₁ own (by simpa using hP) hJ1 off ⟨_, mR⟩ F₁ fun p hp => N₁ p ((List.mem_append.mp hp).elim (List.mem_append_right _) (List.mem_append_left _))) (fun _ s₃ h₃ => wpAny_mono h₃ (fun f s₄ h₄ => ?_) fun _ _ e => e) fun _ _ e => e
    obtain ⟨rfl, h', tk', m', nx', rfl, F', N', O', J'⟩ := h₄
    refine ⟨rfl, h', tk', m', nx', rfl, F', fun p hp => N' p ((List.mem_append.mp hp).elim (List.mem_append_right _) (List.mem_append_left _)), fun p hp hm => ?_, J'⟩
    exact O' _ mI p.1 (List.mem_map_of_mem hp) (List.mem_singleton.mp hm).symm
  · intro h' tk m' nx' F' N' _ hJ'
    exact done h' tk m' nx' F' N' hJ'
theorem str_loop' {prog : Program} {w : World} {A : Around} {E : Value → Shared → Prop} {s : Shared} {env : Env} {h₀ : Heap} {xn : Str} {px : Pos} {body : List Stmt} {Q : Flow → Shared → Prop} {x : Str} {t : Tok} {tn : String} {m₀ : Str → Option Value} {nx : List (Addr × Obj)} {ob : Obj} (hob : ob = { cls := .type tn, data := .fields #[.str x t, .int 0 0] })
    (W : Walks prog w A s.heap.objs.size [s.heap.objs.size] [s.heap.objs.size] x.cps.size (SignAt x) (fun i h => h.IsStrIter s.heap.objs.size tn x t i))
    (J : Nat → (Str → Option Value) → List (Addr × Obj) → Prop) (F : Fr h₀ env.locals s.heap m₀) (N : News h₀ env.locals s.heap nx) (h0 : J 0 m₀ nx)
    (turn : ∀ (i : Nat) c u m₁ nx₁ s₁ own, x.cps[i]? = some c → J i m₁ nx₁ → OwnOff own (nx₁.map (·.1)) → Fr h₀ env.locals s₁.heap m₁ → News h₀ env.locals s₁.heap (nx₁ ++ own) →
      wpAny (model prog w) A (assign (.Name xn px) env (.str ⟨#[c]⟩ u)) (fun _ s₃ => wpAny (model prog w) A (execs body env) (fun f s' => f = .next ∧ ∃ h' tk' m' nx', s' = { s₁ with heap := h', toks := tk' } ∧ Fr h₀ env.locals h' m' ∧ News h₀ env.locals h' (nx' ++ own) ∧ OwnOff own (nx'.map (·.1)) ∧ J (i + 1) m' nx') E s₃) E s₁)
    (done : ∀ h' tk m' nx', Fr h₀ env.locals h' m' → News h₀ env.locals h' nx' → J x.cps.size m' nx' → Q .next { s with heap := h', toks := tk }) :
    LoopAtT prog w A h₀ env (.Name xn px) body Q E (.ref s.heap.objs.size) { s with heap := s.heap.push ob } := by
  subst hob
  refine ⟨s.heap.objs.size, [s.heap.objs.size], [s.heap.objs.size], x.cps.size, _, _, m₀, nx, J, rfl, W, ?_, ?_, ?_,
    ⟨_, Heap.get?_push_size _ rfl, rfl, rfl⟩, F.push _, fun p hp => ⟨Heap.get?_push_of_some _ (N p hp).1, (N p hp).2⟩, fun i s' v Q' st hQ' => by unfold letOwnedTupleGo; exact wpAny_pure hQ', h0, ?_, ?_⟩
  · intro hm
    exact absurd F.ns.lt (List.mem_singleton.mp hm ▸ Nat.lt_irrefl _)
  · intro b hb
    rw [List.mem_singleton.mp hb]
    exact next_is_new F
  · intro p hp hI
    exact absurd (Heap.lt_size (N p hp).1) ((List.mem_singleton.mp hI) ▸ Nat.lt_irrefl _)
  · intro i v m₁ nx₁ s₁ own hi hP hJ1 hoff hsub _ hall hst F₁ N₁
    obtain ⟨c, u, hc, rfl⟩ := hP
    obtain ⟨oI, hoI, _, _⟩ := hst
    have mI := hall s.heap.objs.size (by simp) (next_is_new F) oI hoI
    have off : OwnOff own (nx₁.map (·.1)) := fun p hp b hb e => by
      obtain ⟨q, hq, rfl⟩ := List.mem_map.mp hb
      exact hoff q hq (by rw [← e]; exact hsub p hp)
    refine wpAny_mono (turn i c u m₁ nx₁ s₁ own hc hJ1 off F₁ fun p hp => N₁ p ((List.mem_append.mp hp).elim (List.mem_append_right _) (List.mem_append_left _))) (fun _ s₃ h₃ => wpAny_mono h₃ (fun f s₄ h₄ => ?_) fun _ _ e => e) fun _ _ e => e
    obtain ⟨rfl, h', tk', m', nx', rfl, F', N', O', J'⟩ := h₄
    refine ⟨rfl, h', tk', m', nx', rfl, F', fun p hp => N' p ((List.mem_append.mp hp).elim (List.mem_append_right _) (List.mem_append_left _)), fun p hp hm => ?_, J'⟩
    exact O' _ mI p.1 (List.mem_map_of_mem hp) (List.mem_singleton.mp hm).symm
  · intro h' tk m' nx' F' N' _ hJ'
    exact done h' tk m' nx' F' N' hJ'
/-- a for over the signs of a text -/
theorem str_loop {prog : Program} {w : World} {A : Around} {E : Value → Shared → Prop} {s : Shared} {env : Env} {h₀ : Heap} {xn : Str} {px : Pos} {body : List Stmt} {Q : Flow → Shared → Prop} {x : Str} {t : Tok} {m₀ : Str → Option Value} {nx : List (Addr × Obj)}
    (J : Nat → (Str → Option Value) → List (Addr × Obj) → Prop) (hh : A.handled = none) (F : Fr h₀ env.locals s.heap m₀) (N : News h₀ env.locals s.heap nx) (h0 : J 0 m₀ nx)
    (turn : ∀ (i : Nat) c u m₁ nx₁ s₁ own, x.cps[i]? = some c → J i m₁ nx₁ → OwnOff own (nx₁.map (·.1)) → Fr h₀ env.locals s₁.heap m₁ → News h₀ env.locals s₁.heap (nx₁ ++ own) →
      wpAny (model prog w) A (assign (.Name xn px) env (.str ⟨#[c]⟩ u)) (fun _ s₃ => wpAny (model prog w) A (execs body env) (fun f s' => f = .next ∧ ∃ h' tk' m' nx', s' = { s₁ with heap := h', toks := tk' } ∧ Fr h₀ env.locals h' m' ∧ News h₀ env.locals h' (nx' ++ own) ∧ OwnOff own (nx'.map (·.1)) ∧ J (i + 1) m' nx') E s₃) E s₁)
    (done : ∀ h' tk m' nx', Fr h₀ env.locals h' m' → News h₀ env.locals h' nx' → J x.cps.size m' nx' → Q .next { s with heap := h', toks := tk }) :
    wpAny (model prog w) A (pyIter (.str x t)) (fun it s₂ => LoopAtT prog w A h₀ env (.Name xn px) body Q E it s₂) E s := by
  cases ha : x.cps.all (· < 128)
  · exact wpAny_pyIter_wide ha (str_loop' rfl (Walks.strWide hh _ x t) J F N h0 turn done)
  · exact wpAny_pyIter_ascii ha (str_loop' rfl (Walks.strAscii hh _ x t) J F N h0 turn done)
theorem nodup_of : ∀ {l : List Nat}, Apart l → l.Nodup
  | [], _ => List.nodup_nil
  | a :: r, h => List.nodup_cons.mpr ⟨fun hm => by
      have : ∀ {l : List Nat}, NeAll a l → a ∉ l := by
        intro l
        induction l with
        | nil => intro _ h; cases h
        | cons b r ih =>
          intro k hm
          rcases List.mem_cons.mp hm with e | hm
          · exact k.1 e
          · exact ih k.2 hm
      exact this h.1 hm, nodup_of h.2⟩
theorem spec_useN {prog : Program} {w : World} {K : Frag} {q : Program} {f : Addr} {args : List Value} {P own : List (Addr × Obj)} {dd uu : Nat} {post : Value → List (Addr × Obj) → Prop}
    {loose : List Str} {mean : ExcName → Option Value} {mg mb : Str → Option Value} {dp un : Nat} {gd : Option (List Code)} {cn : Str} {cs : Scope} {a : Addr} {ccd : Value} {cl : List (Str × Addr)} {outer : List Env} {A₀ : Around} {base h₀ : Heap} {L : Addr} {m : Str → Option Value} {s : Shared} {Q E : Value → Shared → Prop}
    (S : Spec prog w K q f args P dd uu post) (N : News h₀ L s.heap (P ++ own)) (O : OwnOff own (P.map (·.1))) (nd : (P.map (·.1)).Nodup) (B : Below A₀ base outer h₀) (F : Fr h₀ L s.heap m) (X : K.In h₀) (T : Top q loose mean mg mb h₀) (hk : cs.kind = .function) (hd : dp + dd < recursionLimit) (hu : un + uu < cLine)
    (k : ∀ r P' h' tk, post r P' → Fr h₀ L h' m → News h₀ L h' (P' ++ own) → OwnOff own (P'.map (·.1)) → Q r { s with heap := h', toks := tk }) :
    wpAny (model prog w) (ktrTop dp un gd cn cs L a ccd cl outer) (call (.ref f) args) Q E s :=
  wpAny_call (S loose mean mg mb dp un gd cn cs a ccd cl outer A₀ base h₀ L m s Q E own B F X N O nd T hk hd hu k)
end
section
open PySem PySem.W PySem.Calls PyProof.Rows
theorem ok_hex : ∀ c ∈ hexL, OkC c := by unfold OkC Inval; decide +kernel
theorem ok_dec : ∀ c ∈ decL, OkC c := by unfold OkC Inval; decide +kernel
theorem ok_beh : ∀ l ∈ behL ++ moreL 16 ++ moreL 10, ∀ c ∈ l, OkC c := by unfold OkC Inval; decide +kernel
theorem beh_16 : ∀ l ∈ behL ++ moreL 16, ∀ c, l.head? = some c → c ∉ hexL := by
  have h : ∀ l ∈ behL ++ moreL 16, l.head?.all (fun c => decide (c ∉ hexL)) = true := by decide +kernel
  intro l hl c e
  have h1 := h l hl
  rw [e] at h1
  exact of_decide_eq_true h1
theorem beh_10 : ∀ l ∈ behL ++ moreL 10, ∀ c, l.head? = some c → c ∉ decL := by
  have h : ∀ l ∈ behL ++ moreL 10, l.head?.all (fun c => decide (c ∉ decL)) = true := by decide +kernel
  intro l hl c e
  have h1 := h l hl
  rw [e] at h1
  exact of_decide_eq_true h1
theorem beh_mem {B : Nat} {all l : List Nat} (hB : BsOk B all) (h : l ∈ behL ++ moreL B) : l ∈ behL ++ moreL 16 ++ moreL 10 := by
  rcases List.mem_append.mp h with h | h
  · exact List.mem_append_left _ (List.mem_append_left _ h)
  · rcases hB with ⟨rfl, _⟩ | ⟨rfl, _⟩
    · exact List.mem_append_left _ (List.mem_append_right _ h)
    · exact List.mem_append_right _ h
theorem row_ok {r : Row} (h : RowOk r) : ∀ c ∈ r.fs ++ r.bh, OkC c := by
  intro c hc
  rcases List.mem_append.mp hc with hc | hc
  · have h1 := h.w.all c hc
    rcases h.bs with ⟨_, e⟩ | ⟨_, e⟩
    · rw [e] at h1; exact ok_hex c h1
    · rw [e] at h1; exact ok_dec c h1
  · rcases h.b with e | e
    · rw [e] at hc; cases hc
    · exact ok_beh _ (beh_mem h.bs e) c hc
theorem rows_ok : ∀ {rows : List Row}, RowsIn rows → ∀ c ∈ rowsText rows, OkC c
  | [], _, _, hc => nomatch hc
  | r :: rs, h, c, hc => by
    have hc' : c ∈ (r.fs ++ r.bh) ++ rowsText rs := hc
    rcases List.mem_append.mp hc' with hc | hc
    · exact row_ok (h r (.head _)) c hc
    · exact rows_ok (fun x hx => h x (.tail _ hx)) c hc
theorem text_app : ∀ (a b : List Row), rowsText (a ++ b) = rowsText a ++ rowsText b
  | [], _ => rfl
  | r :: a, b => by
    show r.fs ++ r.bh ++ rowsText (a ++ b) = r.fs ++ r.bh ++ rowsText a ++ rowsText b
    rw [text_app a b]; simp [List.append_assoc]
theorem head_rest {r : Row} {R : List Nat} (h : RowOk r) (hR : r.bh = [] → R = []) : ∀ c, (r.bh ++ R).head? = some c → c ∉ r.all := by
  intro c hc
  rcases h.b with e | e
  · rw [e, hR e] at hc; cases hc
  · have hne : r.bh ≠ [] := by
      intro e2
      rw [e2] at e
      have : ∀ l ∈ behL ++ moreL 16 ++ moreL 10, l ≠ [] := by decide +kernel
      exact this _ (beh_mem h.bs e) rfl
    have hc' : r.bh.head? = some c := by
      cases hb : r.bh with
      | nil => exact absurd hb hne
      | cons x l => rw [hb] at hc; exact hc
    rcases h.bs with ⟨e1, e2⟩ | ⟨e1, e2⟩
    · rw [e1] at e; rw [e2]; exact beh_16 _ e c hc'
    · rw [e1] at e; rw [e2]; exact beh_10 _ e c hc'
theorem rest_of {n : Nat} {rows l l' : List Row} {r : Row} (hP : RowsP n n rows) (e : rows = l ++ r :: l') : r.bh = [] → rowsText l' = [] := fun h => by
  cases l' with
  | nil => rfl
  | cons x l' => exact absurd h (hP.2.1 l r _ e (List.cons_ne_nil _ _))
theorem text_drop {rows l l' : List Row} {r : Row} (e : rows = l ++ r :: l') : (⟨(rowsText rows).toArray⟩ : Str).cps.toList.drop (rowsText l).length = r.fs ++ (r.bh ++ rowsText l') := by
  show (rowsText rows).toArray.toList.drop _ = _
  rw [List.toList_toArray, e, text_app, List.drop_left]
  show r.fs ++ r.bh ++ rowsText l' = _
  rw [List.append_assoc]
theorem txt_ok {rows : List Row} (h : RowsIn rows) (hl : rows.length ≤ 10) : TxtOk ⟨(rowsText rows).toArray⟩ := by
  refine ⟨?_, fun c hc => rows_ok h c (by simpa using hc)⟩
  show (rowsText rows).toArray.size ≤ 5000
  rw [List.size_toArray]
  have := text_len h
  omega
/-- a token that lies in a ledger -/
inductive TkIn (w : World) (Z : List (Addr × Obj)) : Value → Tk → Prop
  | bad {d e : Addr} {o o2 : Obj} {n : Int} {t1 t2 t3 : Tok} : (d, o) ∈ Z → (e, o2) ∈ Z → o.IsDictOf (sK w) [(Str.ofString "type", .int 7 t1), (Str.ofString "data", .str (Str.ofString "illegal-codepoint-for-numeric-entity") t2), (Str.ofString "datavars", .ref e)] → o2.IsDictOf (sK w) [(Str.ofString "charAsInt", .int n t3)] → (d == sysModules) = false → (e == sysModules) = false → TkIn w Z (.ref d) (.bad n)
  | semi {d : Addr} {o : Obj} {t1 t2 : Tok} : (d, o) ∈ Z → o.IsDictOf (sK w) [(Str.ofString "type", .int 7 t1), (Str.ofString "data", .str (Str.ofString "numeric-entity-without-semicolon") t2)] → (d == sysModules) = false → TkIn w Z (.ref d) .semi
inductive TksIn (w : World) (Z : List (Addr × Obj)) : List Value → List Tk → Prop
  | nil : TksIn w Z [] []
  | cons {v k vs ks} : TkIn w Z v k → TksIn w Z vs ks → TksIn w Z (v :: vs) (k :: ks)
theorem TkIn.mono {w : World} {Z Z' : List (Addr × Obj)} (hs : ∀ p ∈ Z, p ∈ Z') {v : Value} {k : Tk} (h : TkIn w Z v k) : TkIn w Z' v k := by
  cases h with
  | bad a b c d e f => exact .bad (hs _ a) (hs _ b) c d e f
  | semi a b c => exact .semi (hs _ a) b c
theorem TksIn.mono {w : World} {Z Z' : List (Addr × Obj)} (hs : ∀ p ∈ Z, p ∈ Z') {vs : List Value} {ks : List Tk} (h : TksIn w Z vs ks) : TksIn w Z' vs ks := by
  induction h with
  | nil => exact .nil
  | cons a _ ih => exact .cons (a.mono hs) ih
theorem TksIn.app {w : World} {Z : List (Addr × Obj)} {vs ws : List Value} {ks js : List Tk} (h : TksIn w Z vs ks) (k : TksIn w Z ws js) : TksIn w Z (vs ++ ws) (ks ++ js) := by
  induction h with
  | nil => exact k
  | cons a _ ih => exact .cons a ih
theorem TksIn.length {w : World} {Z : List (Addr × Obj)} {vs : List Value} {ks : List Tk} (h : TksIn w Z vs ks) : vs.length = ks.length := by
  induction h with
  | nil => rfl
  | cons _ _ ih => rw [List.length_cons, List.length_cons, ih]
theorem TksIn.of_at {w : World} {Z : List (Addr × Obj)} {vs : List Value} {ks : List Tk} (h : TksAt w Z vs ks) : TksIn w Z vs ks := by
  induction h with
  | nil => exact .nil
  | bad a b c d _ ih => exact .cons (.bad (.head _) (.tail _ (.head _)) a b c d) (ih.mono fun p hp => .tail _ (.tail _ hp))
  | semi a b _ ih => exact .cons (.semi (.head _) a b) (ih.mono fun p hp => .tail _ hp)
theorem TksIn.get {w : World} {Z : List (Addr × Obj)} : ∀ {vs : List Value} {ks : List Tk}, TksIn w Z vs ks → ∀ (j : Nat) (x : Value), vs[j]? = some x → ∃ k, ks[j]? = some k ∧ TkIn w Z x k
  | _, _, .nil, j, x, h => by simp at h
  | _, _, .cons a r, 0, x, h => ⟨_, rfl, Option.some.inj h ▸ a⟩
  | _, _, .cons a r, j + 1, x, h => TksIn.get r j x (by simpa using h)
theorem numv {B : Nat} {all : List Nat} {n : Nat} {fs : List Nat} (W : WOut B all n fs) : ((numVal B fs : Nat) : Int) = (n : Int) := by rw [W.val]
theorem sgn_one {n : Int} {c c' : Nat} (h : SgnOf n c) (k : SgnOf n c') : c = c' := by
  rcases h with h | ⟨h, h1, h2⟩ | ⟨h, h1, h2⟩ <;> rcases k with k | ⟨k, k1, k2⟩ | ⟨k, k1, k2⟩
  · rw [h] at k; exact Option.some.inj k
  · rw [h] at k; cases k
  · rw [h] at k; cases k
  · rw [h] at k; cases k
  · rw [h2, k2]
  · exact absurd h1 k1
  · rw [h] at k; cases k
  · exact absurd k1 h1
  · rw [h2, k2]
end
section
open PySem PySem.W PySem.Calls PyProof.Rows
structure LV where
  t : Addr
  dt : Addr
  tq : Addr
  y : Addr
  dy : Addr
  z : Addr
  dz : Addr
  rm : Addr
  du : Addr
  er : Addr
  jt : Nat → Tok
  k : Nat → Tok
  o1 : Value
  o2 : Value
  o3 : Value
  o4 : Value
  o5 : Value
  o6 : Value
  k0 : Tok
  k1 : Tok
  tT : Tok
  ne : Nat
structure LS2 where
  its : List Value
  nn : Nat
  dus : List Value
  dn : Nat
  v : SV
  b : Nat
  tp : Tok
abbrev LLed (P : Params) (c : LV) (TX : Str) (x : LS2) : List (Addr × Obj) :=
  [(c.t, instObj 762 c.dt), (c.dt, dictOf (REs P c.jt c.y c.tq c.o1 c.o2 c.o3 c.o4 c.o5 c.o6) 8), (c.tq, listOf x.its.toArray x.nn), (c.y, instObj 166 c.dy), (c.dy, dictOf (SEs P c.k x.v) 10), (c.z, instObj 73 c.dz), (c.dz, dictOf (TEs P c.k0 c.k1 TX c.tT (x.b : Int) x.tp) 2), (c.rm, methodObj (.ref 148) (.ref c.y)), (c.du, listOf x.dus.toArray x.dn), (c.er, listOf #[] c.ne)]
abbrev LV.adr (c : LV) : List Addr := [c.t, c.dt, c.tq, c.y, c.dy, c.z, c.dz, c.rm, c.du, c.er]
def forTarget : Stmt → PySem.Expr
  | .For t _ _ _ _ => t
  | _ => .Name (Str.ofString "") default
def forBody : Stmt → List Stmt
  | .For _ _ b _ _ => b
  | _ => []
noncomputable def loop2S : Stmt := nth (fBody lawF) 9
def fm4 (pl : Value) (du t : Addr) (tx : Value) (m : Str → Option Value) : Str → Option Value := fun n => if n = Str.ofString "place" then some pl else if n = Str.ofString "due" then some (.ref du) else if n = Str.ofString "reader" then some (.ref t) else if n = Str.ofString "text" then some tx else m n
def fm2 (b f : Value) (m : Str → Option Value) : Str → Option Value := fun n => if n = Str.ofString "behind" then some b else if n = Str.ofString "figures" then some f else m n
def fmR (r : Value) (m : Str → Option Value) : Str → Option Value := fun n => if n = Str.ofString "rest" then some r else m n
def fmT (a b c d e f : Value) (m : Str → Option Value) : Str → Option Value := fun n => if n = Str.ofString "told" then some a else if n = Str.ofString "sign" then some b else if n = Str.ofString "behind" then some c else if n = Str.ofString "figures" then some d else if n = Str.ofString "base" then some e else if n = Str.ofString "code" then some f else m n
theorem NeAll.mem {a : Nat} : ∀ {l : List Nat}, NeAll a l → ∀ b ∈ l, a ≠ b
  | _ :: _, h, b, hb => by
    rcases List.mem_cons.mp hb with rfl | hb
    · exact h.1
    · exact NeAll.mem h.2 b hb
theorem Apart.split : ∀ {a b : List Nat}, Apart (a ++ b) → Apart a ∧ Apart b ∧ ∀ x ∈ a, ∀ y ∈ b, x ≠ y
  | [], _, h => ⟨trivial, h, fun _ h => nomatch h⟩
  | x :: a, b, h => by
    obtain ⟨h1, h2, h3⟩ := Apart.split h.2
    refine ⟨⟨neAll_of fun y hy => h.1.mem y (List.mem_append_left _ hy), h1⟩, h2, fun u hu y hy => ?_⟩
    rcases List.mem_cons.mp hu with rfl | hu
    · exact h.1.mem y (List.mem_append_right _ hy)
    · exact h3 u hu y hy
/-- a ledger cut into a shown part and the rest -/
structure Cut (h₀ : Heap) (L : Addr) (h : Heap) (P own : List (Addr × Obj)) : Prop where
  N : News h₀ L h (P ++ own)
  O : OwnOff own (P.map (·.1))
  nd : (P.map (·.1)).Nodup
theorem cut_of {h₀ h : Heap} {L : Addr} {A B C D Z : List (Addr × Obj)} {adr : List Addr} (N : News h₀ L h (A ++ (B ++ C ++ D ++ Z))) (ha : (B ++ C ++ D).map (·.1) = adr) (hap : Apart adr) (hA : OwnOff A adr) (hZ : OwnOff Z adr) :
    Cut h₀ L h C (A ++ (B ++ (D ++ Z))) ∧ Cut h₀ L h (B ++ C) (A ++ (D ++ Z)) := by
  subst ha
  simp only [List.map_append] at hap hA hZ
  obtain ⟨h1, h2, h3⟩ := hap.split
  obtain ⟨h4, h5, h6⟩ := h1.split
  have mC : ∀ {p : Addr}, p ∈ C.map (·.1) → p ∈ B.map (·.1) ++ C.map (·.1) ++ D.map (·.1) := fun h => List.mem_append_left _ (List.mem_append_right _ h)
  have mB : ∀ {p : Addr}, p ∈ B.map (·.1) → p ∈ B.map (·.1) ++ C.map (·.1) ++ D.map (·.1) := fun h => List.mem_append_left _ (List.mem_append_left _ h)
  refine ⟨⟨fun p hp => N p ?_, fun p hp b hb => ?_, nodup_of h5⟩, ⟨fun p hp => N p ?_, fun p hp b hb => ?_, by rw [List.map_append]; exact nodup_of h1⟩⟩
  · simp only [List.mem_append] at hp ⊢
    rcases hp with hp | hp | hp | hp | hp <;> simp [hp]
  · simp only [List.mem_append] at hp
    rcases hp with hp | hp | hp | hp
    · exact hA p hp b (mC hb)
    · exact h6 p.1 (List.mem_map_of_mem hp) b hb
    · exact (h3 b (List.mem_append_right _ hb) p.1 (List.mem_map_of_mem hp)).symm
    · exact hZ p hp b (mC hb)
  · simp only [List.mem_append] at hp ⊢
    rcases hp with (hp | hp) | hp | hp | hp <;> simp [hp]
  · simp only [List.mem_append] at hp
    rw [List.map_append] at hb
    have hb' : b ∈ B.map (·.1) ++ C.map (·.1) ++ D.map (·.1) := List.mem_append_left _ hb
    rcases hp with hp | hp | hp
    · exact hA p hp b hb'
    · exact (h3 b hb p.1 (List.mem_map_of_mem hp)).symm
    · exact hZ p hp b hb'
theorem cut_back {h₀ h : Heap} {L : Addr} {A B C D Z : List (Addr × Obj)} (N : News h₀ L h (C ++ (A ++ (B ++ (D ++ Z))))) : News h₀ L h (A ++ (B ++ C ++ D ++ Z)) := fun p hp => N p (by
  simp only [List.mem_append] at hp ⊢
  rcases hp with hp | ((hp | hp) | hp) | hp <;> simp [hp])
theorem cut_back2 {h₀ h : Heap} {L : Addr} {A B C D X Z : List (Addr × Obj)} (N : News h₀ L h (B ++ C ++ X ++ (A ++ (D ++ Z)))) : News h₀ L h (A ++ (B ++ C ++ D ++ (X ++ Z))) := fun p hp => N p (by
  simp only [List.mem_append] at hp ⊢
  rcases hp with hp | ((hp | hp) | hp) | hp | hp <;> simp [hp])
theorem cut_back3 {h₀ h : Heap} {L : Addr} {A B C D Z : List (Addr × Obj)} {x y : Addr × Obj} (N : News h₀ L h ((x :: y :: C) ++ (A ++ (B ++ (D ++ Z))))) : News h₀ L h ([x] ++ A ++ (B ++ C ++ D ++ Z)) := fun p hp => N p (by
  simp only [List.mem_append, List.mem_cons, List.not_mem_nil, or_false] at hp ⊢
  rcases hp with (hp | hp) | ((hp | hp) | hp) | hp <;> simp [hp])
theorem off_pos {A B C D Z : List (Addr × Obj)} {x y : Addr × Obj} (O : OwnOff (A ++ (B ++ (D ++ Z))) ((x :: y :: C).map (·.1))) (hC : ∀ b ∈ C.map (·.1), x.1 ≠ b) : OwnOff [x] ((B ++ C ++ D).map (·.1)) := fun p hp b hb => by
  rw [List.mem_singleton.mp hp]
  rw [List.map_append, List.map_append] at hb
  rcases List.mem_append.mp hb with hb | hb
  · rcases List.mem_append.mp hb with hb | hb
    · obtain ⟨q, hq, rfl⟩ := List.mem_map.mp hb
      exact fun e => O q (List.mem_append_right _ (List.mem_append_left _ hq)) x.1 (List.mem_cons_self ..) e.symm
    · exact hC b hb
  · obtain ⟨q, hq, rfl⟩ := List.mem_map.mp hb
    exact fun e => O q (List.mem_append_right _ (List.mem_append_right _ (List.mem_append_left _ hq))) x.1 (List.mem_cons_self ..) e.symm
theorem off_sub {own : List (Addr × Obj)} {a b : List Addr} (h : OwnOff own a) (hs : ∀ x ∈ b, x ∈ a) : OwnOff own b := fun p hp x hx => h p hp x (hs x hx)
theorem off_app {a b : List (Addr × Obj)} {l : List Addr} (h : OwnOff a l) (k : OwnOff b l) : OwnOff (a ++ b) l := fun p hp => (List.mem_append.mp hp).elim (h p) (k p)
section
variable {w : World} {loose : List Str} {mean : ExcName → Option Value} {mg mb : Str → Option Value} {dp un : Nat} {gd : Option (List Code)} {cn : Str} {cs : Scope} {a : Addr} {ccd : Value} {cl : List (Str × Addr)} {outer : List Env} {A₀ : Around} {base h₀ : Heap} {L : Addr} {m : Str → Option Value} {s : Shared} {Q E : Value → Shared → Prop}
  {c : LV} {x : LS2} {TX : Str} {A Z : List (Addr × Obj)} {a0 q : Nat}
abbrev LS2.ch (x : LS2) (v : SV) (b : Nat) (tp : Tok) : LS2 := ⟨x.its, x.nn, x.dus, x.dn, v, b, tp⟩
theorem use_char (N : News h₀ L s.heap (A ++ (LLed w.params c TX x ++ Z))) (hap : Apart c.adr) (hA : OwnOff A c.adr) (hZ : OwnOff Z c.adr) (HT : TxtOk TX) (HA : At c.z c.rm (.ref c.er) TX x.v a0 x.b q)
    (B : Below A₀ base outer h₀) (F : Fr h₀ L s.heap m) (X : (K1 w.params).In h₀) (T : Top q1 loose mean mg mb h₀) (hk : cs.kind = .function) (hd : dp + 6 < recursionLimit) (hu : un + 48 < cLine)
    (k : ∀ r v' b' tp' h' tk, ChTo c.z c.rm (.ref c.er) TX q r v' b' → Fr h₀ L h' m → News h₀ L h' (A ++ (LLed w.params c TX (x.ch v' b' tp') ++ Z)) → Q r { s with heap := h', toks := tk }) :
    wpAny (model r1.row.prog w) (ktrTop dp un gd cn cs L a ccd cl outer) (call (.ref 133) [.ref c.y]) Q E s := by
  obtain ⟨⟨N1, O1, nd1⟩, _⟩ := cut_of (B := RLed w.params c.t c.dt c.tq c.jt c.y c.o1 c.o2 c.o3 c.o4 c.o5 c.o6 x.its x.nn) (C := CLed w.params c.y c.dy c.z c.dz c.rm c.k x.v c.k0 c.k1 TX c.tT (x.b : Int) x.tp) (D := [(c.du, listOf x.dus.toArray x.dn), (c.er, listOf #[] c.ne)]) N rfl hap hA hZ
  refine spec_useN (char_spec c.y c.dy c.z c.dz c.rm (.ref c.er) c.k x.v c.k0 c.k1 c.tT x.tp TX a0 x.b q HT HA) N1 O1 nd1 B F X T hk hd hu ?_
  rintro r P' h' tk ⟨v', b', tp', rfl, hC⟩ F' N' _
  exact k r v' b' tp' h' tk hC F' (cut_back N')
abbrev LS2.nu (x : LS2) (its : List Value) (nn : Nat) (v : SV) (b : Nat) (tp : Tok) : LS2 := ⟨its, nn, x.dus, x.dn, v, b, tp⟩
theorem use_num {hx : Bool} {bs : Nat} {all : List Nat} (N : News h₀ L s.heap (A ++ (LLed w.params c TX x ++ Z))) (hap : Apart c.adr) (hA : OwnOff A c.adr) (hZ : OwnOff Z c.adr) (HT : TxtOk TX) (HA : At c.z c.rm (.ref c.er) TX x.v a0 x.b q)
    {fs rest : List Nat} (hq : TX.cps.toList.drop q = fs ++ rest) (hbs : (hx = true ∧ bs = 16 ∧ all = hexL) ∨ (hx = false ∧ bs = 10 ∧ all = decL)) (hFig : Figs bs fs) (hin : ∀ c ∈ fs, c ∈ all) (hrest : ∀ c, rest.head? = some c → c ∉ all) (hits : x.its.length ≤ 1000)
    (B : Below A₀ base outer h₀) (F : Fr h₀ L s.heap m) (X : (K1 w.params).In h₀) (T : Top q1 loose mean mg mb h₀) (hk : cs.kind = .function) (hd : dp + 10 < recursionLimit) (hu : un + 80 < cLine)
    (k : ∀ r its' nn' v' b' tp' a' q' extra h' tk, At c.z c.rm (.ref c.er) TX v' a' b' q' → NumTo w rest (q + fs.length) (numVal bs fs) r q' its' extra → OwnOff extra c.adr → OwnOff extra (Z.map (·.1)) → Fr h₀ L h' m → News h₀ L h' (A ++ (LLed w.params c TX (x.nu (x.its ++ its') nn' v' b' tp') ++ (extra ++ Z))) → Q r { s with heap := h', toks := tk }) :
    wpAny (model r1.row.prog w) (ktrTop dp un gd cn cs L a ccd cl outer) (call (.ref 275) [.ref c.t, .bool hx]) Q E s := by
  obtain ⟨_, ⟨N1, O1, nd1⟩⟩ := cut_of (B := RLed w.params c.t c.dt c.tq c.jt c.y c.o1 c.o2 c.o3 c.o4 c.o5 c.o6 x.its x.nn) (C := CLed w.params c.y c.dy c.z c.dz c.rm c.k x.v c.k0 c.k1 TX c.tT (x.b : Int) x.tp) (D := [(c.du, listOf x.dus.toArray x.dn), (c.er, listOf #[] c.ne)]) N rfl hap hA hZ
  refine spec_useN (num_spec HT HA hq hbs hFig hin hrest hits) N1 O1 nd1 B F X T hk hd hu ?_
  rintro r P' h' tk ⟨its', nn', v', a', b', tp', q', extra, rfl, hO, hA', hN⟩ F' N' O'
  refine k r its' nn' v' b' tp' a' q' extra h' tk hA' hN (fun p hp b hb => ?_) (fun p hp b hb e => ?_) F' (cut_back2 N')
  · have off : ∀ o ∈ [(c.du, listOf x.dus.toArray x.dn), (c.er, listOf #[] c.ne)], p.1 ≠ o.1 := fun o ho e => O' o (List.mem_append_right _ (List.mem_append_left _ ho)) p.1 (by rw [List.map_append]; exact List.mem_append_right _ (List.mem_map_of_mem hp)) e.symm
    rcases List.mem_append.mp (show b ∈ [c.t, c.dt, c.tq, c.y, c.dy, c.z, c.dz, c.rm] ++ [c.du, c.er] from hb) with hb | hb
    · exact hO p hp b hb
    · rcases List.mem_cons.mp hb with rfl | hb
      · exact off _ (.head _)
      · rw [List.mem_singleton.mp hb]; exact off _ (.tail _ (.head _))
  · obtain ⟨o, ho, rfl⟩ := List.mem_map.mp hb
    exact O' o (List.mem_append_right _ (List.mem_append_right _ ho)) p.1 (by rw [List.map_append]; exact List.mem_append_right _ (List.mem_map_of_mem hp)) e.symm
theorem use_pos (N : News h₀ L s.heap (A ++ (LLed w.params c TX x ++ Z))) (hap : Apart c.adr) (hA : OwnOff A c.adr) (hZ : OwnOff Z c.adr) (HA : At c.z c.rm (.ref c.er) TX x.v a0 x.b q)
    (B : Below A₀ base outer h₀) (F : Fr h₀ L s.heap m) (X : (K1 w.params).In h₀) (T : Top q1 loose mean mg mb h₀) (hk : cs.kind = .function) (hd : dp + 2 < recursionLimit) (hu : un + 16 < cLine)
    (k : ∀ D t1 t2 h' tk, OwnOff ([(D, tupO [.int (lnOf (TX.cps.toList.take q) + 1) t1, .int (clOf (TX.cps.toList.take q)) t2])] ++ A) c.adr → Fr h₀ L h' m → News h₀ L h' ([(D, tupO [.int (lnOf (TX.cps.toList.take q) + 1) t1, .int (clOf (TX.cps.toList.take q)) t2])] ++ A ++ (LLed w.params c TX x ++ Z)) → Q (.ref D) { s with heap := h', toks := tk }) :
    wpAny (model r1.row.prog w) (ktrTop dp un gd cn cs L a ccd cl outer) (call (.ref 126) [.ref c.y]) Q E s := by
  obtain ⟨⟨N1, O1, nd1⟩, _⟩ := cut_of (A := A) (B := RLed w.params c.t c.dt c.tq c.jt c.y c.o1 c.o2 c.o3 c.o4 c.o5 c.o6 x.its x.nn) (C := SLed w.params c.y c.dy c.k x.v) (D := [(c.z, instObj 73 c.dz), (c.dz, dictOf (TEs w.params c.k0 c.k1 TX c.tT (x.b : Int) x.tp) 2), (c.rm, methodObj (.ref 148) (.ref c.y)), (c.du, listOf x.dus.toArray x.dn), (c.er, listOf #[] c.ne)]) N rfl hap hA hZ
  refine spec_useN (position_spec c.y c.dy c.k x.v) N1 O1 nd1 B F X T hk hd hu ?_
  rintro r P' h' tk ⟨D, D', x1, t1, x2, t2, o, rfl, rfl, rfl, rfl, d1, d2⟩ F' N' O'
  have e1 : x.v.ofs = ((q - a0 : Nat) : Int) := by rw [HA.ofs]; have := HA.ha; omega
  have hq := HA.hq
  have ha := HA.ha
  have e2 : a0 + (q - a0) = q := by omega
  have n1 := HA.nl (q - a0) (by omega)
  have n2 := HA.col (q - a0) (by omega)
  rw [e2] at n1 n2
  rw [← e1] at n1 n2
  rw [n1, n2] at N' O'
  refine k D t1 t2 h' tk (off_app (off_pos (C := SLed w.params c.y c.dy c.k x.v) O' fun b hb => ?_) hA) F' (cut_back3 N')
  rcases List.mem_cons.mp hb with rfl | hb
  · exact d1.symm
  · rw [List.mem_singleton.mp hb]; exact d2.symm
end
end
section
open PySem PySem.W PySem.Calls PyProof.Rows
local macro_rules | `(tactic| k_all) => `(tactic| first | exact OwnOff.ne (by assumption) (by k_memK) | exact List.forall_mem_nil _ | (refine' List.forall_mem_cons.mpr ⟨?a, ?b⟩; (case a => k_ne); (case b => k_all)) | fail "tail")

noncomputable def loop3S : Stmt := nth (forBody loop2S) 7
theorem turn3 {w : World} {sc : Scope} {tg : PySem.Expr} {body : List Stmt} (hsc : sc = fScope lawF) (htg : tg = forTarget loop3S) (hbody : body = forBody loop3S) {h₀ : Heap} {L : Addr} {s : Shared} {m1 : Str → Option Value} {Q : Flow → Shared → Prop} {E : Value → Shared → Prop} {loose : List Str} {mean : ExcName → Option Value} {mg mb : Str → Option Value} {c : LV} {x : LS2} {TX : Str} {u : Tok} {Z : List (Addr × Obj)} {sg a q : Nat}
    (lF : Fr h₀ L s.heap (fun n => if n = Str.ofString "reader" then some (.ref c.t) else m1 n))
    (lN : News h₀ L s.heap (LLed w.params c TX x ++ Z)) (hap : Apart c.adr) (hoff : OwnOff Z c.adr) (HT : TxtOk TX) (HA : At c.z c.rm (.ref c.er) TX x.v a x.b q) (hsg : TX.cps.toList[q]? = some sg)
    (X : (K1 w.params).In h₀) (T : Top q1 loose mean mg mb h₀) (B : Below callerA h₀ [] h₀)
    (hQ : ∀ (h' : Heap) (tk : Nat) (v' : SV) (a' b' : Nat) (tp' : Tok), Fr h₀ L h' (fun n => if n = Str.ofString "mark" then some (.str ⟨#[sg]⟩ u) else if n = Str.ofString "reader" then some (.ref c.t) else m1 n) → News h₀ L h' (LLed w.params c TX (x.ch v' b' tp') ++ Z) → At c.z c.rm (.ref c.er) TX v' a' b' (q + 1) → Q .next { s with heap := h', toks := tk }) :
    wpAny (model r1.row.prog w) (callerA.deeper (envOf (Str.ofString "law") sc L 819 (.ref 818))) (assign tg (envOf (Str.ofString "law") sc L 819 (.ref 818)) (.str ⟨#[sg]⟩ u)) (fun _ s₃ => wpAny (model r1.row.prog w) (callerA.deeper (envOf (Str.ofString "law") sc L 819 (.ref 818))) (execs body (envOf (Str.ofString "law") sc L 819 (.ref 818))) Q E s₃) E s := by
  k_with_none
  (k_with "callWith" => (k_here; (with_reducible show wpAny _ _ (callWith _ (Value.builtin _) [_] _ _) _ _ _); refine callWith_method1 ?_))
  (k_with "call ref" => (k_here; refine Hold.out ?_))
  revert X; k_fill; intro X
  conv at hsc => rhs; whnf
  conv at htg => rhs; whnf
  conv at hbody => rhs; whnf
  subst hsc htg hbody
  dsimp only [LLed, List.cons_append, List.nil_append] at lN
  k_steps
  refine ⟨?_⟩
  (rename News h₀ L _ ((_, _) :: _) => kN)
  k_dflt (refine' use_char (A := []) (x := x) (Z := Z) kN hap ?hA hoff HT HA ?B ?F ?X ?T ?hk ?hd ?hu ?_; (case hA => exact off_nil); (case B => k_asm); (case F => k_asm); (case X => k_asm); (case T => k_asm); (case hk => first | exact rfl | assumption); (case hd => ktr_room); (case hu => ktr_units); k_whole)
  intro r' v9 b9 tp9 h9 tk9 hC F9 N9
  have hC2 : ∃ t a, r' = .str ⟨#[sg]⟩ t ∧ At c.z c.rm (.ref c.er) TX v9 a b9 (q + 1) := by
    rcases hC with ⟨c', t', a', hc', e, hA', _⟩ | ⟨_, hc', _⟩
    · rw [hsg] at hc'; injection hc' with hc'; subst hc'; exact ⟨_, _, e, hA'⟩
    · rw [hsg] at hc'; cases hc'
  obtain ⟨t8, a8, rfl, hA8⟩ := hC2
  clear hC
  dsimp only [LLed, List.cons_append, List.nil_append] at N9
  k_steps
  · (rename (_ != _) = true => hb9)
    exact absurd hb9 (by simp)
  · (rename News h₀ L h9 _ => kN9); (rename Fr h₀ L h9 _ => kF9)
    exact hQ _ _ v9 a8 b9 tp9 kF9 kN9 hA8
end
section
open PySem PySem.W PySem.Calls PyProof.Rows PySem.SeqAt
section
variable {w : World} {A : Around} {E : Value → Shared → Prop} {s : Shared}
theorem eq_self (prog : Program) (w : World) (A : Around) (s : Shared) (v : Value) : EqIn prog w A s v v := .of_at (EqAt.same v)
theorem eq_str (prog : Program) (w : World) (A : Around) (s : Shared) (x : Str) (t u : Tok) : EqIn prog w A s (.str x t) (.str x u) := fun E Q h => by
  have k := EqAt.str_str (A := A) (s := s) x t x u
  rw [beq_self_eq_true] at k
  exact k prog w E Q h
theorem eq_int (prog : Program) (w : World) (A : Around) (s : Shared) (x : Int) (t u : Tok) : EqIn prog w A s (.int x t) (.int x u) := fun E Q h => by
  have k := EqAt.int_int (A := A) (s := s) x t x u
  rw [beq_self_eq_true] at k
  exact k prog w E Q h
theorem dict_in {o : Obj} {a : Addr} {kvs : List (Str × Value)} (h : s.heap.get? a = some o) (d : o.IsDictOf (sK w) kvs) : s.heap.DictOf (sK w) a kvs := Heap.dictOf_iff.mpr ⟨o, h, d⟩
theorem tk_eq {Z : List (Addr × Obj)} {x y : Value} {k : Tk} (N : ∀ p ∈ Z, s.heap.get? p.1 = some p.2) (hx : TkIn w Z x k) (hy : TkIn w Z y k) (hu : A.units + 1 < cLine) : EqIn r1.row.prog w A s x y := by
  cases hx with
  | bad m1 m2 d1 d2 s1 s2 =>
    cases hy with
    | bad n1 n2 e1 e2 u1 u2 =>
      refine EqIn.of_rc fun E Q hq => dict_eq s1 u1 (dict_in (N _ m1) d1) (dict_in (N _ n1) e1) (by omega) rfl (fun p hp => ?_) hq
      rcases List.mem_cons.mp hp with rfl | hp
      · exact ⟨_, by rfl, eq_int _ _ _ _ _ _ _⟩
      · rcases List.mem_cons.mp hp with rfl | hp
        · exact ⟨_, by rfl, eq_str _ _ _ _ _ _ _⟩
        · rw [List.mem_singleton.mp hp]
          refine ⟨_, by rfl, EqIn.of_rc fun E Q hq => dict_eq s2 u2 (dict_in (N _ m2) d2) (dict_in (N _ n2) e2) (by rw [units_in1]; exact hu) rfl (fun p hp => ?_) hq⟩
          rw [List.mem_singleton.mp hp]
          exact ⟨_, by rfl, eq_int _ _ _ _ _ _ _⟩
  | semi m1 d1 s1 =>
    cases hy with
    | semi n1 e1 u1 =>
      refine EqIn.of_rc fun E Q hq => dict_eq s1 u1 (dict_in (N _ m1) d1) (dict_in (N _ n1) e1) (by omega) rfl (fun p hp => ?_) hq
      rcases List.mem_cons.mp hp with rfl | hp
      · exact ⟨_, by rfl, eq_int _ _ _ _ _ _ _⟩
      · rw [List.mem_singleton.mp hp]
        exact ⟨_, by rfl, eq_str _ _ _ _ _ _ _⟩
theorem use_ne {h₀ : Heap} {L : Addr} {news Z : List (Addr × Obj)} {tq du : Addr} {its dus : List Value} {n n2 : Nat} {ks : List Tk} {Q : Value → Shared → Prop} (N : News h₀ L s.heap news) (h1 : (tq, listOf its.toArray n) ∈ news) (h2 : (du, listOf dus.toArray n2) ∈ news) (hZ : ∀ p ∈ Z, p ∈ news)
    (k1 : TksIn w Z its ks) (k2 : TksIn w Z dus ks) (hu : A.units + 2 < cLine) (h : Q (.bool false) s) :
    wpAny (model r1.row.prog w) A (compareOp .NotEq (.ref tq) (.ref du)) Q E s := by
  refine ne_lists (N _ h1).1 (N _ h2).1 (by omega) (by rw [k1.length, k2.length]) (fun j x y hx hy => ?_) h
  obtain ⟨k, e1, i1⟩ := k1.get j x hx
  obtain ⟨k', e2, i2⟩ := k2.get j y hy
  rw [e1] at e2
  obtain rfl := Option.some.inj e2
  exact tk_eq (fun p hp => (N p (hZ p hp)).1) i1 i2 (by rw [units_in1]; exact hu)
end
end
section
open PySem PySem.W PySem.Calls PyProof.Rows
local macro_rules | `(tactic| k_all) => `(tactic| first | exact OwnOff.ne (by assumption) (by k_memK) | exact List.forall_mem_nil _ | (refine' List.forall_mem_cons.mpr ⟨?a, ?b⟩; (case a => k_ne); (case b => k_all)) | fail "tail")

theorem fr_off {g h : Heap} {L : Addr} {m m' : Str → Option Value} {x : Str} (e : ∀ n, n ≠ x → m' n = m n) (F : Fr g L h m') : Fr g L h (fun n => if n = x then m' x else m n) := by
  have : (fun n => if n = x then m' x else m n) = m' := by
    funext n
    by_cases c : n = x
    · rw [if_pos c, c]
    · rw [if_neg c, e n c]
  rw [this]; exact F
theorem slice_pre (T : Str) {q : Nat} (hq : q ≤ T.length) : (Txt.slice T none (some (q : Int))).cps.toList = T.cps.toList.take q := by
  have h := slice_list T (Nat.zero_le q) hq
  have e : Txt.slice T none (some (q : Int)) = Txt.slice T (some ((0 : Nat) : Int)) (some (q : Int)) := rfl
  rw [e, h, List.drop_zero]
local macro_rules | `(tactic| walk_at "pyIter str") => `(tactic| (k_here; refine Hold.out ?_))
theorem turn2b {w : World} {sc : Scope} {body : List Stmt} (hsc : sc = fScope lawF) (hbody : body = (forBody loop2S).drop 6) {h₀ : Heap} {L : Addr} {s : Shared} {m1 : Str → Option Value} {Q : Flow → Shared → Prop} {E : Value → Shared → Prop} {loose : List Str} {mean : ExcName → Option Value} {mg mb : Str → Option Value} {c : LV} {x : LS2} {TX : Str} {tt tpl tr : Tok} {Z : List (Addr × Obj)} {rs R : List Nat} {a q : Nat} {ks : List Tk}
    (lF : Fr h₀ L s.heap (fun n => if n = Str.ofString "rest" then some (.str ⟨rs.toArray⟩ tr) else if n = Str.ofString "place" then some (.int (q : Int) tpl) else if n = Str.ofString "due" then some (.ref c.du) else if n = Str.ofString "reader" then some (.ref c.t) else if n = Str.ofString "text" then some (.str TX tt) else m1 n))
    (lN : News h₀ L s.heap (LLed w.params c TX x ++ Z)) (hap : Apart c.adr) (hoff : OwnOff Z c.adr) (HT : TxtOk TX) (hT1 : TX.length ≤ 1000) (HA : At c.z c.rm (.ref c.er) TX x.v a x.b q)
    (hd : TX.cps.toList.drop q = rs ++ R) (hk1 : TksIn w Z x.its ks) (hk2 : TksIn w Z x.dus ks) (hkl : ks.length ≤ 100)
    (X : (K1 w.params).In h₀) (T : Top q1 loose mean mg mb h₀) (B : Below callerA h₀ [] h₀)
    (hE : PassesOwn (model r1.row.prog w) (callerA.deeper (envOf (Str.ofString "law") sc L 819 (.ref 818))) (envOf (Str.ofString "law") sc L 819 (.ref 818)) E)
    (hQ : ∀ (h' : Heap) (tk : Nat) (m' : Str → Option Value) (v' : SV) (a' b' : Nat) (tp' : Tok) (tpl' : Tok), Fr h₀ L h' (fun n => if n = Str.ofString "place" then some (.int ((q + rs.length : Nat) : Int) tpl') else if n = Str.ofString "due" then some (.ref c.du) else if n = Str.ofString "reader" then some (.ref c.t) else if n = Str.ofString "text" then some (.str TX tt) else m' n) → News h₀ L h' (LLed w.params c TX (x.ch v' b' tp') ++ Z) → At c.z c.rm (.ref c.er) TX v' a' b' (q + rs.length) → Q .next { s with heap := h', toks := tk }) :
    wpAny (model r1.row.prog w) (callerA.deeper (envOf (Str.ofString "law") sc L 819 (.ref 818))) (execs body (envOf (Str.ofString "law") sc L 819 (.ref 818))) Q E s := by
  k_with_none
  (k_with "callWith" => (k_here; (with_reducible show wpAny _ _ (callWith _ (Value.builtin _) [_] _ _) _ _ _); refine callWith_method1 ?_))
  (k_with "call ref" => (k_here; refine Hold.out ?_))
  (k_with "exec For" => (k_here; refine Hold.out ?_))
  (k_with "call ref" => (k_here; (with_reducible show wpAny _ _ (call (Value.ref 812) _) _ _ _); k_dflt (refine' spec_use (place_spec _ _ ?w0) Sel.nil ?B ?F ?X ?N ?T ?hk ?hd ?hu ?_; (case w0 => omega); (case N => k_asm); (case B => k_asm); (case F => k_asm); (case X => k_asm); (case T => k_asm); (case hk => first | exact rfl | assumption); (case hd => ktr_room); (case hu => ktr_units); k_whole); intro r' P' h' tk' hp' F' N' O'; obtain ⟨D9, t8, t9, e8, e9⟩ := hp'; subst e8 e9; simp only [List.cons_append, List.nil_append] at N'; replace O' := offN_of O'; (rw [slice_pre _ (by assumption)] at N'); simp only [List.map_cons, List.map_nil, OffN, NeAll, and_true] at O'; (repeat (with_reducible rename _ ∧ _ => hh9; obtain ⟨_, _⟩ := hh9))))
  (k_with "compareOp NotEq ref ref" => (k_here; (with_reducible show wpAny _ _ (compareOp _ (Value.ref _) (Value.ref _)) _ _ _); k_dflt (refine' use_ne ?N ?h1 ?h2 ?hZ ?k1 ?k2 ?hu ?_; (case N => k_asm); (case h1 => k_memK); (case h2 => k_memK); (case k1 => assumption); (case k2 => assumption); (case hZ => (intro p9 hp9; walk_at "my own")); (case hu => ktr_units))))
  revert X; k_fill; intro X
  conv at hsc => rhs; whnf
  conv at hbody => rhs; whnf
  subst hsc hbody
  have hq9 : q ≤ TX.length := Nat.le_trans HA.hq HA.hb
  replace lF : Fr h₀ L s.heap (fmR (.str ⟨rs.toArray⟩ tr) (fm4 (.int (q : Int) tpl) c.du c.t (.str TX tt) m1)) := lF
  dsimp only [LLed, List.cons_append, List.nil_append] at lN
  k_steps
  refine ⟨?_⟩
  (rename News h₀ L _ ((_, _) :: _) => kN)
  k_dflt (refine' use_pos (A := []) (x := x) (Z := Z) kN hap ?hA hoff HA ?B ?F ?X ?T ?hk ?hd ?hu ?_; (case hA => exact off_nil); (case B => k_asm); (case F => k_asm); (case X => k_asm); (case T => k_asm); (case hk => first | exact rfl | assumption); (case hd => ktr_room); (case hu => ktr_units); k_whole)
  intro D1 t1 t2 h9 tk9 O9 F9 N9
  dsimp only [LLed, List.cons_append, List.nil_append] at N9
  trace "pos"
  k_steps
  refine ⟨?_⟩
  (with_unfolding_all refine' For_invT h₀ ?_ ?k3 hE; (case k3 => intro _; rfl))
  k_steps
  refine ⟨?_⟩
  (rename Fr h₀ L _ _ => lF2); (rename News h₀ L _ ((_, _) :: _) => lN2)
  refine str_loop (nx := LLed w.params c TX x ++ Z) (fun i m nx => ∃ v' a' b' tp', nx = LLed w.params c TX (x.ch v' b' tp') ++ Z ∧ At c.z c.rm (.ref c.er) TX v' a' b' (q + i) ∧ ∀ n, n ≠ Str.ofString "mark" → m n = fmR (.str ⟨rs.toArray⟩ tr) (fm4 (.int (q : Int) tpl) c.du c.t (.str TX tt) m1) n) rfl lF2 ?_ ?_ ?_ ?_
  · intro p hp; exact lN2 p (by walk_at "my own")
  · exact ⟨x.v, a, x.b, x.tp, rfl, HA, fun _ _ => rfl⟩
  · rintro i sg u m₁ nx₁ s₁ own hsg ⟨v', a', b', tp', rfl, hA', hm⟩ hO F₁ N₁
    have hr := hm (Str.ofString "reader") (by decide)
    have hoff' : OwnOff (Z ++ own) c.adr := off_app hoff (off_sub hO fun b hb => by rw [List.map_append]; exact List.mem_append_left _ hb)
    refine turn3 (x := x.ch v' b' tp') (Z := Z ++ own) rfl (by with_unfolding_all rfl) (by with_unfolding_all rfl) (fr_have hr F₁) (by rw [List.append_assoc] at N₁; exact N₁) hap hoff' HT hA' ?_ X T B ?_
    · have h1 : rs[i]? = some sg := by simpa using hsg
      have h2 : (TX.cps.toList.drop q)[i]? = some sg := by
        rw [hd, List.getElem?_append_left (List.getElem?_eq_some_iff.mp h1).1]; exact h1
      rw [List.getElem?_drop] at h2
      exact h2
    · intro h' tk v2 a2 b2 tp2 F2 N2 A2
      refine ⟨rfl, h', tk, _, LLed w.params c TX (x.ch v2 b2 tp2) ++ Z, rfl, F2, by rw [List.append_assoc]; exact N2, ?_, v2, a2, b2, tp2, rfl, A2, ?_⟩
      · intro p hp b hb
        refine hO p hp b ?_
        rw [List.map_append] at hb ⊢
        exact hb
      · intro n hn
        rw [if_neg hn]
        by_cases e : n = Str.ofString "reader"
        · subst e; rfl
        · exact (if_neg e).trans (hm n hn)
  · rintro h' tk m' nx' F' N' ⟨v', a', b', tp', rfl, hA', hm⟩
    have e9 : (⟨rs.toArray⟩ : Str).cps.size = rs.length := by simp
    rw [e9] at hA'
    dsimp only [LLed, List.cons_append, List.nil_append] at N'
    replace F' := fr_off hm F'
    clear hm lF2 lN2
    have e8 : (⟨rs.toArray⟩ : Str).length = rs.length := by simp [Str.length]
    have hrl : (⟨rs.toArray⟩ : Str).length ≤ 1000 := by
      have h1 := congrArg List.length hd
      rw [List.length_drop, List.length_append, len_list] at h1
      omega
    k_steps
    (rename Fr h₀ L _ _ => lF3); (rename News h₀ L _ ((_, _) :: _) => lN3)
    rw [e8] at lF3
    exact hQ _ _ _ v' a' b' tp' _ (by rw [Int.natCast_add]; exact fr_have (x := Str.ofString "place") rfl (fr_have (x := Str.ofString "due") rfl (fr_have (x := Str.ofString "reader") rfl (fr_have (x := Str.ofString "text") rfl lF3)))) lN3 hA'
end
section
open PySem PySem.W PySem.Calls PyProof.Rows
local macro_rules | `(tactic| k_all) => `(tactic| first | exact OwnOff.ne (by assumption) (by k_memK) | exact List.forall_mem_nil _ | (refine' List.forall_mem_cons.mpr ⟨?a, ?b⟩; (case a => k_ne); (case b => k_all)) | fail "tail")
abbrev sysOf {d : Addr} (_ : (d == sysModules) = false) : Addr := d
theorem bh_first : ∀ l ∈ [] :: (behL ++ moreL 16 ++ moreL 10), (Txt.slice ⟨l.toArray⟩ none (some 1) == Str.ofString ";") = decide (l.head? = some 59) ∧ Txt.slice ⟨l.toArray⟩ (some 1) none = ⟨(l.drop 1).toArray⟩ := by decide +kernel
theorem turn2m {w : World} {sc : Scope} {body : List Stmt} (hsc : sc = fScope lawF) (hbody : body = (forBody loop2S).drop 3) {h₀ : Heap} {L : Addr} {s : Shared} {m1 : Str → Option Value} {Q : Flow → Shared → Prop} {E : Value → Shared → Prop} {loose : List Str} {mean : ExcName → Option Value} {mg mb : Str → Option Value} {c : LV} {x : LS2} {TX : Str} {tt tpl tb tf : Tok} {Z : List (Addr × Obj)} {fs bh R : List Nat} {a q : Nat} {ks : List Tk} {sm : Bool}
    (lF : Fr h₀ L s.heap (fun n => if n = Str.ofString "behind" then some (.str ⟨bh.toArray⟩ tb) else if n = Str.ofString "figures" then some (.str ⟨fs.toArray⟩ tf) else if n = Str.ofString "place" then some (.int (q : Int) tpl) else if n = Str.ofString "due" then some (.ref c.du) else if n = Str.ofString "reader" then some (.ref c.t) else if n = Str.ofString "text" then some (.str TX tt) else m1 n))
    (lN : News h₀ L s.heap (LLed w.params c TX x ++ Z)) (hap : Apart c.adr) (hoff : OwnOff Z c.adr) (HT : TxtOk TX) (hT1 : TX.length ≤ 1000) (HA : At c.z c.rm (.ref c.er) TX x.v a x.b (q + fs.length + (if sm then 1 else 0)))
    (hd : TX.cps.toList.drop q = fs ++ (bh ++ R)) (hbh : bh ∈ [] :: (behL ++ moreL 16 ++ moreL 10)) (hbl : bh.length ≤ 2) (hR : bh = [] → R = []) (hsm : sm = true ↔ (bh ++ R).head? = some 59) (hfl : fs.length ≤ 80)
    {Z0 : List (Addr × Obj)} (hz0 : ∀ p ∈ Z0, p ∈ Z) (hk1 : TksIn w Z0 x.its (ks ++ (if sm then [] else [.semi]))) (hk2 : TksIn w Z0 x.dus ks) (hkl : ks.length ≤ 99)
    (X : (K1 w.params).In h₀) (T : Top q1 loose mean mg mb h₀) (B : Below callerA h₀ [] h₀)
    (hE : PassesOwn (model r1.row.prog w) (callerA.deeper (envOf (Str.ofString "law") sc L 819 (.ref 818))) (envOf (Str.ofString "law") sc L 819 (.ref 818)) E)
    (hQ : ∀ (h' : Heap) (tk : Nat) (m' : Str → Option Value) (v' : SV) (a' b' : Nat) (tp' : Tok) (tpl' : Tok) (dus' : List Value) (dn' : Nat) (Za : List (Addr × Obj)), Fr h₀ L h' (fun n => if n = Str.ofString "place" then some (.int ((q + fs.length + bh.length : Nat) : Int) tpl') else if n = Str.ofString "due" then some (.ref c.du) else if n = Str.ofString "reader" then some (.ref c.t) else if n = Str.ofString "text" then some (.str TX tt) else m' n) → News h₀ L h' (LLed w.params c TX ⟨x.its, x.nn, dus', dn', v', b', tp'⟩ ++ (Za ++ Z)) → OwnOff Za c.adr → OwnOff Za (Z.map (·.1)) → TksIn w (Za ++ Z0) dus' (ks ++ (if sm then [] else [.semi])) → At c.z c.rm (.ref c.er) TX v' a' b' (q + fs.length + bh.length) → Q .next { s with heap := h', toks := tk }) :
    wpAny (model r1.row.prog w) (callerA.deeper (envOf (Str.ofString "law") sc L 819 (.ref 818))) (execs body (envOf (Str.ofString "law") sc L 819 (.ref 818))) Q E s := by
  k_with_none
  (k_with "callWith" => (k_here; (with_reducible show wpAny _ _ (callWith _ (Value.builtin _) [_] _ _) _ _ _); refine callWith_method1 ?_))
  (k_with "call builtin:list.append" => (k_here; (with_reducible show wpAny _ _ (call (Value.builtin _) [Value.ref _, _]) _ _ _); k_dflt (refine' append_K ?k1 ?k2 ?k3 ?_ ?z; (case k1 => k_asm); (case k2 => k_asm); (case k3 => k_upd); (case z => first | assumption | exact size_le (by assumption) | exact size_le (Nat.le_succ_of_le (by assumption)) | exact size_le1 (by assumption)); k_whole); intro h' F' N'))
  (k_with "eval Dict" => (k_here; k_dflt (refine' kdn_str ?q ?F ?N ?b ?a ?l ?e ?n ?_; (case q => rfl); (case F => k_asm); (case N => first | k_asm | exact News.nil); (case b => exact Top.nolimit (by k_asm)); (case a => rfl); (case l => rfl); (case e => exact List.cons_ne_nil _ _); (case n => exact Nat.le_of_ble_eq_true rfl)); intro d' h' o' F' N' l1 lo' hd'; (try k_lt l1)))
  (k_with "KdnMade" => (k_here; k_dflt (refine' kdn_made_str ?F ?N ?U ?d ?k ?n ?_; (case F => k_asm); (case N => k_asm); (case U => k_updF); (case d => k_asm); (case k => rfl); (case n => exact of_decide_eq_true (by first | rfl | kernel_rfl!)); intro h' o' F' N' hd'); (try dsimp only at N'); (try dsimp only [strPairs] at hd')))
  (k_with "execs cons" => ((with_reducible show wpAny _ _ (execs (Stmt.If (PySem.Expr.BoolOp _ _ _) _ _ _ :: _) _) _ _ _); refine Hold.out ?_))
  revert X; k_fill; intro X
  have hsc0 := hsc
  conv at hsc => rhs; whnf
  conv at hbody => rhs; whnf
  subst hsc hbody
  replace lF : Fr h₀ L s.heap (fm2 (.str ⟨bh.toArray⟩ tb) (.str ⟨fs.toArray⟩ tf) (fm4 (.int (q : Int) tpl) c.du c.t (.str TX tt) m1)) := lF
  obtain ⟨b1, b2⟩ := bh_first bh hbh
  have hsb : sm = decide (bh.head? = some 59) := by
    cases hb : bh with
    | nil => rw [hb, hR hb] at hsm; cases sm <;> simp_all
    | cons c l => rw [hb] at hsm; cases sm <;> simp_all
  have hdl : x.dus.length ≤ 99 := by rw [hk2.length]; exact hkl
  have hfl2 : (⟨fs.toArray⟩ : Str).length ≤ 80 := by simpa [Str.length] using hfl
  have hbl2 : (⟨bh.toArray⟩ : Str).length ≤ 2 := by simpa [Str.length] using hbl
  have hap2 := hap
  simp only [LV.adr, Apart, NeAll, and_true] at hap2
  repeat (with_reducible rename _ ∧ _ => hh9; obtain ⟨_, _⟩ := hh9)
  have hq9 : q ≤ 1000 := by
    have h1 := congrArg List.length hd
    have := HA.hq; have := HA.hb
    omega
  dsimp only [LLed, List.cons_append, List.nil_append] at lN
  k_steps
  all_goals ((rename Fr h₀ L _ _ => lF2); (rename News h₀ L _ ((_, _) :: _) => lN2); refine ⟨?_⟩)
  all_goals have e8 : (⟨fs.toArray⟩ : Str).length = fs.length := by simp [Str.length]
  all_goals rw [e8] at lF2
  · (rename (Txt.slice _ _ _ == _) = true => he1)
    rw [b1, ← hsb] at he1
    subst he1
    have hb1 : bh.head? = some 59 := of_decide_eq_true hsb.symm
    have e9 : ((q : Int) + (fs.length : Int) + 1) = ((q + fs.length + 1 : Nat) : Int) := by push_cast; rfl
    rw [b2, e9] at lF2
    rw [if_pos rfl, List.append_nil] at hk1
    rw [if_pos rfl] at HA
    have hcons : bh = 59 :: bh.drop 1 := by
      cases hb : bh with
      | nil => rw [hb] at hb1; cases hb1
      | cons y l => rw [hb] at hb1; injection hb1 with e; rw [e]; rfl
    have hlen : bh.length = (bh.drop 1).length + 1 := by rw [hcons]; rfl
    have hd2 : TX.cps.toList.drop (q + fs.length + 1) = bh.drop 1 ++ R := by
      have h1 : (TX.cps.toList.drop q).drop (fs.length + 1) = (fs ++ (bh ++ R)).drop (fs.length + 1) := by rw [hd]
      rw [List.drop_drop, List.drop_append] at h1
      have e1 : List.drop (fs.length + 1) fs = [] := List.drop_eq_nil_of_le (by omega)
      have e2 : fs.length + 1 - fs.length = 1 := by omega
      rw [e1, e2, List.nil_append, hcons] at h1
      rw [Nat.add_assoc, h1]; rfl
    refine turn2b (x := x) (rs := bh.drop 1) (R := R) (ks := ks) rfl (by with_unfolding_all rfl) (fr_have (x := Str.ofString "rest") rfl (fr_have (x := Str.ofString "place") rfl (fr_have (x := Str.ofString "due") rfl (fr_have (x := Str.ofString "reader") rfl (fr_have (x := Str.ofString "text") rfl lF2))))) lN2 hap hoff HT hT1 HA hd2 (hk1.mono hz0) (hk2.mono hz0) (by omega) X T B hE ?_
    intro h' tk m' v' a' b' tp' tpl' F' N' A'
    have e10 : q + fs.length + 1 + (bh.drop 1).length = q + fs.length + bh.length := by omega
    rw [e10] at F' A'
    refine hQ h' tk m' v' a' b' tp' tpl' x.dus x.dn [] F' N' off_nil off_nil ?_ A'
    rw [if_pos rfl, List.append_nil]
    exact hk2
  · (rename (Txt.slice _ _ _ == _) = false => he1)
    rw [b1, ← hsb] at he1
    subst he1
    (rename Obj.IsDictOf _ _ [(_, _), (_, _)] => hi2)
    (rename _ ∧ _ ∧ _ ∧ _ ∧ _ ∧ _ ∧ _ ∧ _ ∧ _ ∧ _ ∧ AllLt _ _ => hlt)
    (rename (_ == sysModules) = false => hsys)
    simp only [List.push_toArray] at lN2
    have e9 : ((q : Int) + (fs.length : Int)) = ((q + fs.length : Nat) : Int) := by push_cast; rfl
    rw [e9] at lF2
    rw [if_neg (by decide)] at hk1
    rw [if_neg (by decide), Nat.add_zero] at HA
    have hd2 : TX.cps.toList.drop (q + fs.length) = bh ++ R := by
      rw [← List.drop_drop, hd, List.drop_left]
    obtain ⟨q1, q2, q3, q4, q5, q6, q7, q8, q9', q10, q11⟩ := hlt
    have hd9 : OwnOff [(sysOf hsys, objOf hi2)] c.adr := off_cons (fun b hb => by
      simp only [List.mem_cons, List.not_mem_nil, or_false] at hb
      rcases hb with rfl | rfl | rfl | rfl | rfl | rfl | rfl | rfl | rfl | rfl
      · exact Nat.ne_of_gt q1
      · exact Nat.ne_of_gt q2
      · exact Nat.ne_of_gt q3
      · exact Nat.ne_of_gt q4
      · exact Nat.ne_of_gt q5
      · exact Nat.ne_of_gt q6
      · exact Nat.ne_of_gt q7
      · exact Nat.ne_of_gt q8
      · exact Nat.ne_of_gt q9'
      · exact Nat.ne_of_gt q10) off_nil
    have hsub : ∀ p ∈ Z, p ∈ (sysOf hsys, objOf hi2) :: Z := fun p hp => .tail _ hp
    refine turn2b (x := ⟨x.its, x.nn, x.dus ++ [_], x.dn + 1, x.v, x.b, x.tp⟩) (Z := (sysOf hsys, objOf hi2) :: Z) (rs := bh) (R := R) (ks := ks ++ [.semi]) rfl (by with_unfolding_all rfl) (fr_have (x := Str.ofString "rest") rfl (fr_have (x := Str.ofString "place") rfl (fr_have (x := Str.ofString "due") rfl (fr_have (x := Str.ofString "reader") rfl (fr_have (x := Str.ofString "text") rfl lF2))))) (News.part lN2 ?sub) hap ?off HT hT1 HA hd2 ((hk1.mono hz0).mono hsub) (((hk2.mono hz0).mono hsub).app (.cons (.semi (.head _) hi2 hsys) .nil)) (by rw [List.length_append]; exact Nat.succ_le_succ hkl) X T B hE ?_
    case sub => walk_at "my sub"
    case off => exact off_app hd9 hoff
    intro h' tk m' v' a' b' tp' tpl' F' N' A'
    refine hQ h' tk m' v' a' b' tp' tpl' _ _ [(sysOf hsys, objOf hi2)] F' N' hd9 (off_cons (fun b hb => by
      obtain ⟨p, hp, rfl⟩ := List.mem_map.mp hb
      exact Nat.ne_of_gt (allLt_mem q11 p hp)) off_nil) ?_ A'
    rw [if_neg (by decide)]
    exact (hk2.mono fun p hp => .tail _ hp).app (.cons (.semi (.head _) hi2 hsys) .nil)
end
section
open PySem PySem.W PySem.Calls PyProof.Rows
local macro_rules | `(tactic| k_all) => `(tactic| first | exact OwnOff.ne (by assumption) (by k_memK) | exact List.forall_mem_nil _ | (refine' List.forall_mem_cons.mpr ⟨?a, ?b⟩; (case a => k_ne); (case b => k_all)) | fail "tail")
theorem off_adr {c : LV} {d : Addr} {o : Obj} {Z : List (Addr × Obj)} (h : @LT.lt Nat _ c.t d ∧ @LT.lt Nat _ c.dt d ∧ @LT.lt Nat _ c.tq d ∧ @LT.lt Nat _ c.y d ∧ @LT.lt Nat _ c.dy d ∧ @LT.lt Nat _ c.z d ∧ @LT.lt Nat _ c.dz d ∧ @LT.lt Nat _ c.rm d ∧ @LT.lt Nat _ c.du d ∧ @LT.lt Nat _ c.er d ∧ AllLt d Z) : OwnOff [(d, o)] c.adr ∧ OwnOff [(d, o)] (Z.map (·.1)) := by
  obtain ⟨q1, q2, q3, q4, q5, q6, q7, q8, q9, q10, q11⟩ := h
  refine ⟨off_cons (fun b hb => ?_) off_nil, off_cons (fun b hb => ?_) off_nil⟩
  · simp only [List.mem_cons, List.not_mem_nil, or_false] at hb
    rcases hb with rfl | rfl | rfl | rfl | rfl | rfl | rfl | rfl | rfl | rfl <;> exact Nat.ne_of_gt (by assumption)
  · obtain ⟨p, hp, rfl⟩ := List.mem_map.mp hb
    exact Nat.ne_of_gt (allLt_mem q11 p hp)
abbrev sysOf' {d : Addr} (_ : Hold ((d == sysModules) = false)) : Addr := d
theorem za_off {Za Y Z : List (Addr × Obj)} (h : OwnOff Za ((Y ++ Z).map (·.1))) : OwnOff Za (Z.map (·.1)) := off_sub h fun b hb => by rw [List.map_append]; exact List.mem_append_right _ hb
theorem hbs_of {B : Nat} {all : List Nat} (h : BsOk B all) : (((B : Int) == 16) = true ∧ B = 16 ∧ all = hexL) ∨ (((B : Int) == 16) = false ∧ B = 10 ∧ all = decL) := by
  rcases h with ⟨rfl, rfl⟩ | ⟨rfl, rfl⟩
  · exact .inl ⟨rfl, rfl, rfl⟩
  · exact .inr ⟨rfl, rfl, rfl⟩
theorem same_flag {a b : Bool} {p : Prop} (h : a = true ↔ p) (k : b = true ↔ p) : a = b := by
  cases a <;> cases b <;> simp_all
theorem turn2 {w : World} {sc : Scope} {tg : PySem.Expr} {body : List Stmt} (hsc : sc = fScope lawF) (htg : tg = forTarget loop2S) (hbody : body = forBody loop2S) {h₀ : Heap} {L : Addr} {s : Shared} {m1 : Str → Option Value} {Q : Flow → Shared → Prop} {E : Value → Shared → Prop} {loose : List Str} {mean : ExcName → Option Value} {mg mb : Str → Option Value} {c : LV} {x : LS2} {TX : Str} {tt tpl : Tok} {Z : List (Addr × Obj)} {v : Value} {r : Row} {R : List Nat} {ks : List Tk} {a q : Nat}
    (lF : Fr h₀ L s.heap (fun n => if n = Str.ofString "place" then some (.int (q : Int) tpl) else if n = Str.ofString "due" then some (.ref c.du) else if n = Str.ofString "reader" then some (.ref c.t) else if n = Str.ofString "text" then some (.str TX tt) else m1 n))
    (lN : News h₀ L s.heap (LLed w.params c TX x ++ Z)) (hap : Apart c.adr) (hoff : OwnOff Z c.adr) (HT : TxtOk TX) (hT1 : TX.length ≤ 1000) (HA : At c.z c.rm (.ref c.er) TX x.v a x.b q)
    (hrow : RowAt Z v r) (hok : RowOk r) (hd : TX.cps.toList.drop q = r.fs ++ (r.bh ++ R)) (hR : r.bh = [] → R = []) {Z0 : List (Addr × Obj)} (hz0 : ∀ p ∈ Z0, p ∈ Z) (hk1 : TksIn w Z0 x.its ks) (hk2 : TksIn w Z0 x.dus ks) (hkl : ks.length ≤ 98)
    (X : (K1 w.params).In h₀) (T : Top q1 loose mean mg mb h₀) (B : Below callerA h₀ [] h₀)
    (hE : PassesOwn (model r1.row.prog w) (callerA.deeper (envOf (Str.ofString "law") sc L 819 (.ref 818))) (envOf (Str.ofString "law") sc L 819 (.ref 818)) E)
    (hQ : ∀ (h' : Heap) (tk : Nat) (m' : Str → Option Value) (x' : LS2) (a' : Nat) (tpl' : Tok) (Za : List (Addr × Obj)) (ks' : List Tk), Fr h₀ L h' (fun n => if n = Str.ofString "place" then some (.int ((q + r.fs.length + r.bh.length : Nat) : Int) tpl') else if n = Str.ofString "due" then some (.ref c.du) else if n = Str.ofString "reader" then some (.ref c.t) else if n = Str.ofString "text" then some (.str TX tt) else m' n) → News h₀ L h' (LLed w.params c TX x' ++ (Za ++ Z)) → OwnOff Za c.adr → OwnOff Za (Z.map (·.1)) → TksIn w (Za ++ Z0) x'.its ks' → TksIn w (Za ++ Z0) x'.dus ks' → ks'.length ≤ ks.length + 2 → At c.z c.rm (.ref c.er) TX x'.v a' x'.b (q + r.fs.length + r.bh.length) → Q .next { s with heap := h', toks := tk }) :
    wpAny (model r1.row.prog w) (callerA.deeper (envOf (Str.ofString "law") sc L 819 (.ref 818))) (assign tg (envOf (Str.ofString "law") sc L 819 (.ref 818)) v) (fun _ s₃ => wpAny (model r1.row.prog w) (callerA.deeper (envOf (Str.ofString "law") sc L 819 (.ref 818))) (execs body (envOf (Str.ofString "law") sc L 819 (.ref 818))) Q E s₃) E s := by
  k_with_none
  (k_with "callWith" => (k_here; (with_reducible show wpAny _ _ (callWith _ (Value.builtin _) [_] _ _) _ _ _); refine callWith_method1 ?_))
  (k_with "call builtin:list.append" => (k_here; (with_reducible show wpAny _ _ (call (Value.builtin _) [Value.ref _, _]) _ _ _); k_dflt (refine' append_K ?k1 ?k2 ?k3 ?_ ?z; (case k1 => k_asm); (case k2 => k_asm); (case k3 => k_upd); (case z => first | assumption | exact size_le (by assumption) | exact size_le (Nat.le_succ_of_le (by assumption)) | exact size_le1 (by assumption)); k_whole); intro h' F' N'))
  (k_with "eval Dict" => (k_here; k_dflt (refine' kdn_str ?q ?F ?N ?b ?a ?l ?e ?n ?_; (case q => rfl); (case F => k_asm); (case N => first | k_asm | exact News.nil); (case b => exact Top.nolimit (by k_asm)); (case a => rfl); (case l => rfl); (case e => exact List.cons_ne_nil _ _); (case n => exact Nat.le_of_ble_eq_true rfl)); intro d' h' o' F' N' l1 lo' hd'; (try k_lt l1)))
  (k_with "KdnMade" => (k_here; k_dflt (refine' kdn_made_str ?F ?N ?U ?d ?k ?n ?_; (case F => k_asm); (case N => k_asm); (case U => k_updF); (case d => k_asm); (case k => rfl); (case n => exact of_decide_eq_true (by first | rfl | kernel_rfl!)); intro h' o' F' N' hd'); (try dsimp only at N'); (try dsimp only [strPairs] at hd')))
  (k_with "call ref" => (k_here; refine Hold.out ?_))
  (k_with "call ref" => (k_here; (with_reducible show wpAny _ _ (call (Value.ref 805) _) _ _ _); k_dflt (refine' spec_use (sign_spec _ _ ?w0) Sel.nil ?B ?F ?X ?N ?T ?hk ?hd ?hu ?_; (case w0 => omega); (case N => k_asm); (case B => k_asm); (case F => k_asm); (case X => k_asm); (case T => k_asm); (case hk => first | exact rfl | assumption); (case hd => ktr_room); (case hu => ktr_units); k_whole); intro r' P' h' tk' hp' F' N' O'; dsimp only [SgOut] at hp'; obtain ⟨D9, c9, t9, b9, e8, e9, hS9, hB9⟩ := hp'; subst e8 e9; simp only [List.cons_append, List.nil_append] at N'; replace O' := offN_of O'; simp only [List.map_cons, List.map_nil, OffN, NeAll, and_true] at O'; (repeat (with_reducible rename _ ∧ _ => hh9; obtain ⟨_, _⟩ := hh9))))
  (k_with "execs cons" => ((with_reducible show wpAny _ _ (execs (Stmt.Assign _ (PySem.Expr.Name _ _) _ :: _) _) _ _ _); refine Hold.out ?_))
  revert X; k_fill; intro X
  conv at hsc => rhs; whnf
  conv at htg => rhs; whnf
  conv at hbody => rhs; whnf
  subst hsc htg hbody
  replace lF : Fr h₀ L s.heap (fm4 (.int (q : Int) tpl) c.du c.t (.str TX tt) m1) := lF
  obtain ⟨D, t1, t2, t3, t4, rfl, hD⟩ := hrow
  have hDo : OwnOff [(D, tupO [.int (r.n : Int) t1, .int (r.B : Int) t2, .str ⟨r.fs.toArray⟩ t3, .str ⟨r.bh.toArray⟩ t4])] c.adr := off_cons (hoff _ hD) off_nil
  have hap3 : NeAll D c.adr := neAll_of (hoff _ hD)
  simp only [NeAll, and_true] at hap3
  have hap2 := hap
  simp only [Apart, NeAll, and_true] at hap2
  repeat (with_reducible rename _ ∧ _ => hh9; obtain ⟨_, _⟩ := hh9)
  have lN2 : News h₀ L s.heap ((D, tupO [.int (r.n : Int) t1, .int (r.B : Int) t2, .str ⟨r.fs.toArray⟩ t3, .str ⟨r.bh.toArray⟩ t4]) :: (LLed w.params c TX x ++ Z)) := fun p hp => (List.mem_cons.mp hp).elim (fun e => lN p (e ▸ List.mem_append_right _ hD)) (lN p)
  clear lN
  dsimp only [LLed, List.cons_append, List.nil_append] at lN2
  k_steps
  refine ⟨?_⟩
  (rename News h₀ L _ ((_, _) :: _) => kN); (rename Fr h₀ L _ _ => kF0); have kF : Fr h₀ L _ (fmT _ _ _ _ _ _ (fm4 (.int (q : Int) tpl) c.du c.t (.str TX tt) m1)) := kF0
  k_dflt (refine' use_num (A := [_, _]) (x := x) (Z := Z) kN hap ?hA hoff HT HA hd ?hbs hok.w.figs hok.w.all (head_rest hok hR) ?hits ?B ?F ?X ?T ?hk ?hd ?hu ?_; (case hA => exact off_cons (by walk_at "my ne") hDo); (case hbs => exact hbs_of hok.bs); (case hits => (rw [hk1.length]; omega)); (case B => k_asm); (case F => exact kF); (case X => k_asm); (case T => k_asm); (case hk => first | exact rfl | assumption); (case hd => ktr_room); (case hu => ktr_units); k_whole)
  intro r' its' nn' v' b' tp' a' q' extra h9 tk9 A9 NT O9 O9z F9 N9
  obtain ⟨⟨c', t', e0, hc'⟩, bd, sm, hbd, hsm, htk, hq'⟩ := NT
  subst e0
  (rename SgnOf (r.n : Int) _ => hS9); (rename _ ↔ Bad (r.n : Int) => hB9)
  rw [hok.w.val] at hc' hbd htk
  have ec := sgn_one hS9 hc'
  have eb := same_flag hB9 hbd
  subst ec eb
  clear kN kF kF0
  dsimp only [LLed, List.cons_append, List.nil_append] at N9
  have hoff2 : OwnOff (extra ++ Z) c.adr := off_app O9 hoff
  have hdl : x.dus.length ≤ 98 := by rw [hk2.length]; exact hkl
  generalize hZ2 : extra ++ Z = Z2 at N9 hoff2
  have hz2 : OwnOff extra (Z.map (·.1)) := O9z
  have hs0 : ∀ p ∈ Z, p ∈ Z2 := fun p hp => hZ2 ▸ List.mem_append_right _ hp
  have hs1 : ∀ p ∈ extra, p ∈ Z2 := fun p hp => hZ2 ▸ List.mem_append_left _ hp
  have hz3 : ∀ p ∈ extra ++ Z0, p ∈ Z2 := fun p hp => (List.mem_append.mp hp).elim (hs1 p) fun h => hs0 p (hz0 p h)
  have hkI := (hk1.mono fun p (hp : p ∈ Z0) => List.mem_append_right extra hp).app ((TksIn.of_at htk).mono fun p (hp : p ∈ extra) => List.mem_append_left Z0 hp)
  have hkD := hk2.mono fun p (hp : p ∈ Z0) => List.mem_append_right extra hp
  rw [hq'] at A9
  have hbh : r.bh ∈ [] :: (behL ++ moreL 16 ++ moreL 10) := by
    rcases hok.b with e | e
    · rw [e]; exact .head _
    · exact .tail _ (beh_mem hok.bs e)
  have hfl : r.fs.length ≤ 80 := hok.w.len
  k_steps
  · (rename (_ != _) = true => hb9)
    exact absurd hb9 (by simp)
  · (rename Fr h₀ L _ _ => lF2); (rename News h₀ L _ ((_, _) :: _) => lN2); refine ⟨?_⟩
    (rename _ = true => hbT)
    rw [hbT, if_pos rfl] at hkI
    (rename (_ == sysModules) = false => hs2); have hs2' : Hold _ := ⟨hs2⟩; clear hs2
    (rename (_ == sysModules) = false => hs3); have hs3' : Hold _ := ⟨hs3⟩; clear hs3
    (rename Obj.IsDictOf _ _ [(_, _), (_, _), (_, _)] => hi3); (rename Obj.IsDictOf _ _ [(_, _)] => hi1)
    (rename _ ∧ _ ∧ _ ∧ _ ∧ _ ∧ _ ∧ _ ∧ _ ∧ _ ∧ _ ∧ _ ∧ _ ∧ AllLt _ _ => hl1); (rename _ ∧ _ ∧ _ ∧ _ ∧ _ ∧ _ ∧ _ ∧ _ ∧ _ ∧ _ ∧ _ ∧ _ ∧ _ ∧ AllLt _ _ => hl2)
    simp only [List.push_toArray] at lN2
    obtain ⟨o1, o2⟩ := off_adr (o := objOf hi3) hl1.2.2
    obtain ⟨o3, o4⟩ := off_adr (o := objOf hi1) hl2.2.2.2
    have hs4 : ∀ p ∈ extra ++ Z0, p ∈ (sysOf' hs3', objOf hi3) :: (sysOf' hs2', objOf hi1) :: (extra ++ Z0) := fun p hp => .tail _ (.tail _ hp)
    have hkD2 := (hkD.mono hs4).app (.cons (.bad (.head _) (.tail _ (.head _)) hi3 hi1 hs3'.out hs2'.out) .nil)
    rw [← List.append_assoc] at hkI
    refine turn2m (x := ⟨x.its ++ its', nn', x.dus ++ [_], x.dn + 1, v', b', tp'⟩) (Z := (sysOf' hs3', objOf hi3) :: (sysOf' hs2', objOf hi1) :: Z2) (fs := r.fs) (bh := r.bh) (R := R) (ks := ks ++ [.bad r.n]) (sm := sm) rfl (by with_unfolding_all rfl) (fr_have (x := Str.ofString "behind") rfl (fr_have (x := Str.ofString "figures") rfl (fr_have (x := Str.ofString "place") rfl (fr_have (x := Str.ofString "due") rfl (fr_have (x := Str.ofString "reader") rfl (fr_have (x := Str.ofString "text") rfl lF2)))))) (News.part lN2 ?sub) hap (off_app o1 (off_app o3 hoff2)) HT hT1 A9 hd hbh hok.bl hR hsm hfl (Z0 := (sysOf' hs3', objOf hi3) :: (sysOf' hs2', objOf hi1) :: (extra ++ Z0)) (fun p hp => by
      rcases List.mem_cons.mp hp with rfl | hp
      · exact .head _
      · rcases List.mem_cons.mp hp with rfl | hp
        · exact .tail _ (.head _)
        · exact .tail _ (.tail _ (hz3 p hp))) (hkI.mono hs4) hkD2 (by rw [List.length_append]; exact Nat.succ_le_succ hkl) X T B hE ?_
    case sub => walk_at "my sub"
    intro h' tk m' v2 a2 b2 tp2 tpl2 dus2 dn2 Za F2 N2 O2 O3 K2 A2
    subst hZ2
    refine hQ h' tk m' ⟨x.its ++ its', nn', dus2, dn2, v2, b2, tp2⟩ a2 tpl2 (Za ++ ((sysOf' hs3', objOf hi3) :: (sysOf' hs2', objOf hi1) :: extra)) _ F2 (by rw [List.append_assoc]; exact N2) (off_app O2 (off_app o1 (off_app o3 O9))) (off_app (za_off (Y := (sysOf' hs3', objOf hi3) :: (sysOf' hs2', objOf hi1) :: extra) O3) (off_app (za_off o2) (off_app (za_off o4) hz2))) ?_ (by rw [List.append_assoc]; exact K2) ?_ A2
    · rw [List.append_assoc]; exact hkI.mono fun p hp => List.mem_append_right _ (hs4 p hp)
    · rw [List.length_append, List.length_append]; have : (if sm = true then ([] : List Tk) else [.semi]).length ≤ 1 := by split <;> simp
      simp only [List.length_cons, List.length_nil]
      omega
  · (rename Fr h₀ L _ _ => lF2); (rename News h₀ L _ ((_, _) :: _) => lN2); refine ⟨?_⟩
    (rename _ = false => hbF)
    rw [hbF, if_neg (by decide), List.nil_append] at hkI
    refine turn2m (x := ⟨x.its ++ its', nn', x.dus, x.dn, v', b', tp'⟩) (Z := Z2) (fs := r.fs) (bh := r.bh) (R := R) (ks := ks) (sm := sm) rfl (by with_unfolding_all rfl) (fr_have (x := Str.ofString "behind") rfl (fr_have (x := Str.ofString "figures") rfl (fr_have (x := Str.ofString "place") rfl (fr_have (x := Str.ofString "due") rfl (fr_have (x := Str.ofString "reader") rfl (fr_have (x := Str.ofString "text") rfl lF2)))))) (News.part lN2 ?sub) hap hoff2 HT hT1 A9 hd hbh hok.bl hR hsm hfl hz3 hkI hkD (by omega) X T B hE ?_
    case sub => walk_at "my sub"
    intro h' tk m' v2 a2 b2 tp2 tpl2 dus2 dn2 Za F2 N2 O2 O3 K2 A2
    subst hZ2
    refine hQ h' tk m' ⟨x.its ++ its', nn', dus2, dn2, v2, b2, tp2⟩ a2 tpl2 (Za ++ extra) _ F2 (by rw [List.append_assoc]; exact N2) (off_app O2 O9) (off_app (za_off O3) hz2) ?_ (by rw [List.append_assoc]; exact K2) ?_ A2
    · rw [List.append_assoc]; exact hkI.mono fun p hp => List.mem_append_right _ hp
    · rw [List.length_append]; have : (if sm = true then ([] : List Tk) else [.semi]).length ≤ 1 := by split <;> simp
      omega
end
section
open PySem PySem.W PySem.Calls PyProof.Rows
local macro_rules | `(tactic| walk_at "pyIter ref") => `(tactic| (k_here; refine Hold.out ?_))
theorem RowsAt.get {Z : List (Addr × Obj)} : ∀ {vs : List Value} {rs : List Row}, RowsAt Z vs rs → ∀ (i : Nat) (v : Value), vs[i]? = some v → ∃ r, rs[i]? = some r ∧ RowAt Z v r
  | _, _, .nil, i, v, h => by simp at h
  | _, _, .cons a _, 0, v, h => ⟨_, rfl, Option.some.inj h ▸ a⟩
  | _, _, .cons _ r, i + 1, v, h => RowsAt.get r i v (by simpa using h)
theorem RowsAt.mono {a b : List (Addr × Obj)} {vs : List Value} {rs : List Row} (h : RowsAt a vs rs) (s : ∀ p ∈ a, p ∈ b) : RowsAt b vs rs := by
  induction h with
  | nil => exact .nil
  | cons h _ ih => exact .cons (h.mono s) ih
theorem off_symm {a b : List (Addr × Obj)} (h : OwnOff a (b.map (·.1))) : OwnOff b (a.map (·.1)) := fun p hp x hx e => by
  obtain ⟨q, hq, rfl⟩ := List.mem_map.mp hx
  exact h q hq p.1 (List.mem_map_of_mem hp) e.symm
theorem off_map {a b c : List (Addr × Obj)} (h : OwnOff a (b.map (·.1))) (k : OwnOff a (c.map (·.1))) : OwnOff a ((b ++ c).map (·.1)) := fun p hp x hx => by
  rw [List.map_append] at hx
  exact (List.mem_append.mp hx).elim (h p hp x) (k p hp x)
theorem take_cut {α : Type} {l : List α} {i : Nat} {r : α} (h : l[i]? = some r) : l = l.take i ++ r :: l.drop (i + 1) ∧ l.take (i + 1) = l.take i ++ [r] := by
  have hs : l.take (i + 1) = l.take i ++ [r] := by simp [List.take_add_one, h]
  refine ⟨?_, hs⟩
  have ht := List.take_append_drop (i + 1) l
  rw [hs, List.append_assoc] at ht
  exact ht.symm
theorem loop2 {w : World} {sc : Scope} {st : Stmt} (hsc : sc = fScope lawF) (hst : st = loop2S) {h₀ : Heap} {L : Addr} {s : Shared} {m1 : Str → Option Value} {Q : Flow → Shared → Prop} {E : Value → Shared → Prop} {loose : List Str} {mean : ExcName → Option Value} {mg mb : Str → Option Value} {c : LV} {x : LS2} {tt tpl : Tok} {Z : List (Addr × Obj)} {ra : Addr} {rws : List Value} {nr : Nat} {rows : List Row} {a n : Nat}
    (lF : Fr h₀ L s.heap (fun n => if n = Str.ofString "place" then some (.int 0 tpl) else if n = Str.ofString "due" then some (.ref c.du) else if n = Str.ofString "reader" then some (.ref c.t) else if n = Str.ofString "text" then some (.str ⟨(rowsText rows).toArray⟩ tt) else if n = Str.ofString "rows" then some (.ref ra) else m1 n))
    (lN : News h₀ L s.heap ((ra, listOf rws.toArray nr) :: (LLed w.params c ⟨(rowsText rows).toArray⟩ x ++ Z))) (hap : Apart c.adr) (hoff : OwnOff Z c.adr) (hra : ∀ b ∈ c.adr, b ≠ ra) (hrz : ∀ p ∈ Z, p.1 ≠ ra) (HT : TxtOk ⟨(rowsText rows).toArray⟩) (hT1 : (⟨(rowsText rows).toArray⟩ : Str).length ≤ 1000) (HA : At c.z c.rm (.ref c.er) ⟨(rowsText rows).toArray⟩ x.v a x.b 0)
    (hR : RowsAt Z rws rows) (hI : RowsIn rows) (hP : RowsP n n rows) (hn : n ≤ 10) (hi1 : x.its = []) (hi2 : x.dus = [])
    (X : (K1 w.params).In h₀) (T : Top q1 loose mean mg mb h₀) (B : Below callerA h₀ [] h₀)
    (hE : PassesOwn (model r1.row.prog w) (callerA.deeper (envOf (Str.ofString "law") sc L 819 (.ref 818))) (envOf (Str.ofString "law") sc L 819 (.ref 818)) E)
    (hQ : ∀ (h' : Heap) (tk : Nat) (m' : Str → Option Value) (x' : LS2) (a' : Nat) (Z' : List (Addr × Obj)), Fr h₀ L h' (fun n => if n = Str.ofString "reader" then some (.ref c.t) else m' n) → News h₀ L h' (LLed w.params c ⟨(rowsText rows).toArray⟩ x' ++ Z') → OwnOff Z' c.adr → At c.z c.rm (.ref c.er) ⟨(rowsText rows).toArray⟩ x'.v a' x'.b (rowsText rows).length → Q .next { s with heap := h', toks := tk }) :
    wpAny (model r1.row.prog w) (callerA.deeper (envOf (Str.ofString "law") sc L 819 (.ref 818))) (exec st (envOf (Str.ofString "law") sc L 819 (.ref 818))) Q E s := by
  k_with_none
  (k_with "callWith" => (k_here; (with_reducible show wpAny _ _ (callWith _ (Value.builtin _) [_] _ _) _ _ _); refine callWith_method1 ?_))
  have X0 := X
  revert X; k_fill; intro X
  have hsc0 := hsc
  conv at hsc => rhs; whnf
  conv at hst => rhs; whnf
  subst hsc hst
  have lNa := lN
  dsimp only [LLed, List.cons_append, List.nil_append] at lN
  (with_unfolding_all refine' For_invT h₀ ?_ ?k3 hE; (case k3 => intro _; rfl))
  k_steps
  refine ⟨?_⟩
  (rename Fr h₀ L _ _ => lF2); (rename News h₀ L _ ((_, _) :: _) => lN2)
  refine list_loop (nx := LLed w.params c ⟨(rowsText rows).toArray⟩ x ++ Z) (fun i m nx => ∃ x' a' tpl' Z' ks, nx = LLed w.params c ⟨(rowsText rows).toArray⟩ x' ++ Z' ∧ OwnOff Z' c.adr ∧ (∀ p ∈ Z', p.1 ≠ ra) ∧ RowsAt Z' rws rows ∧ TksIn w Z' x'.its ks ∧ TksIn w Z' x'.dus ks ∧ ks.length ≤ 2 * i ∧ At c.z c.rm (.ref c.er) ⟨(rowsText rows).toArray⟩ x'.v a' x'.b (rowsText (rows.take i)).length ∧ m (Str.ofString "place") = some (.int (((rowsText (rows.take i)).length : Nat) : Int) tpl') ∧ m (Str.ofString "due") = some (.ref c.du) ∧ m (Str.ofString "reader") = some (.ref c.t) ∧ m (Str.ofString "text") = some (.str ⟨(rowsText rows).toArray⟩ tt)) rfl lF2 lN2 (List.Mem.head _) (fun p hp => .tail _ hp) ?_ ?_ ?_ ?_
  · exact ⟨x, a, tpl, Z, [], rfl, hoff, hrz, hR, by rw [hi1]; exact .nil, by rw [hi2]; exact .nil, Nat.zero_le _, HA, rfl, rfl, rfl, rfl⟩
  · rintro i m nx ⟨x', a', tpl', Z', ks, rfl, hO, hz, _⟩ p hp
    rcases List.mem_append.mp hp with hp | hp
    · exact hra p.1 (List.mem_map_of_mem (f := (·.1)) hp)
    · exact hz p hp
  · rintro i v m₁ nx₁ s₁ own hv ⟨x', a', tpl', Z', ks, rfl, hO, hz, hR', hk1, hk2, hkl, hA', m1', m2', m3', m4'⟩ hown ⟨oR, hoR⟩ F₁ N₁
    obtain ⟨r, hr, hrow⟩ := hR'.get i v hv
    obtain ⟨e1, e2⟩ := take_cut hr
    have hlt : i < rows.length := (List.getElem?_eq_some_iff.mp hr).1
    have hil : i < 10 := by have := hP.1; omega
    have hok : RowOk r := hI r (List.mem_of_getElem? hr)
    have hoff' : OwnOff (Z' ++ own) c.adr := off_app hO (off_sub hown fun b hb => by rw [List.map_append]; exact List.mem_append_left _ hb)
    have hsb : ∀ p ∈ Z', p ∈ Z' ++ own := fun p hp => List.mem_append_left _ hp
    refine turn2 (x := x') (Z := Z' ++ own) (r := r) (q := (rowsText (rows.take i)).length) (R := rowsText (rows.drop (i + 1))) rfl (by with_unfolding_all rfl) (by with_unfolding_all rfl) (fr_have (x := Str.ofString "place") m1' (m := fun n => if n = Str.ofString "due" then some (.ref c.du) else if n = Str.ofString "reader" then some (.ref c.t) else if n = Str.ofString "text" then some (.str ⟨(rowsText rows).toArray⟩ tt) else m₁ n) (fr_have (x := Str.ofString "due") m2' (m := fun n => if n = Str.ofString "reader" then some (.ref c.t) else if n = Str.ofString "text" then some (.str ⟨(rowsText rows).toArray⟩ tt) else m₁ n) (fr_have (x := Str.ofString "reader") m3' (m := fun n => if n = Str.ofString "text" then some (.str ⟨(rowsText rows).toArray⟩ tt) else m₁ n) (fr_have (x := Str.ofString "text") m4' F₁)))) (by rw [List.append_assoc] at N₁; exact N₁) hap hoff' HT hT1 hA' (hrow.mono hsb) hok (text_drop e1) (rest_of hP e1) hsb hk1 hk2 (by omega) X0 T B hE ?_
    intro h' tk m' x2 a2 tpl2 Za ks2 F2 N2 O2 O3 K1 K2 hl2 A2
    have e3 : (rowsText (rows.take i)).length + r.fs.length + r.bh.length = (rowsText (rows.take (i + 1))).length := by
      rw [e2, text_snoc, List.length_append, List.length_append]
    rw [e3] at F2 A2
    have O4 : OwnOff own (Za.map (·.1)) := off_symm (za_off O3)
    refine ⟨rfl, h', tk, _, LLed w.params c ⟨(rowsText rows).toArray⟩ x2 ++ (Za ++ Z'), rfl, F2, by rw [List.append_assoc, List.append_assoc]; exact N2, off_map (off_sub hown fun b hb => by rw [List.map_append]; exact List.mem_append_left _ hb) (off_map O4 (off_sub hown fun b hb => by rw [List.map_append]; exact List.mem_append_right _ hb)), x2, a2, tpl2, Za ++ Z', ks2, rfl, off_app O2 hO, ?_, hR'.mono (fun p hp => List.mem_append_right _ hp), K1, K2, by omega, A2, rfl, rfl, rfl, rfl⟩
    intro p hp
    rcases List.mem_append.mp hp with hp | hp
    · exact fun e => O4 _ hoR p.1 (List.mem_map_of_mem hp) e.symm
    · exact hz p hp
  · rintro h' tk m' nx' F' N' ⟨x', a', tpl', Z', ks, rfl, hO, hz, hR', hk1, hk2, hkl, hA', m1', m2', m3', m4'⟩
    have e : rows.take rws.length = rows := by rw [hR.length, List.take_length]
    rw [e] at hA'
    exact hQ h' tk m' x' a' Z' (fr_have (x := Str.ofString "reader") m3' F') N' hO hA'
end
section
open PySem PySem.W PySem.Calls PyProof.Rows
local macro_rules | `(tactic| k_all) => `(tactic| first | exact OwnOff.ne (by assumption) (by k_memK) | exact List.forall_mem_nil _ | (refine' List.forall_mem_cons.mpr ⟨?a, ?b⟩; (case a => k_ne); (case b => k_all)) | fail "tail")

theorem adr_with {t dt tq y dy z dz rm er du : Addr} (hap : Apart [t, dt, tq, y, dy, z, dz, rm, er]) (h1 : @LT.lt Nat _ er du) (h2 : @LT.lt Nat _ t du) (h3 : @LT.lt Nat _ dt du) (h4 : @LT.lt Nat _ tq du) (h5 : @LT.lt Nat _ y du) (h6 : @LT.lt Nat _ dy du) (h7 : @LT.lt Nat _ z du) (h8 : @LT.lt Nat _ dz du) (h9 : @LT.lt Nat _ rm du) : Apart [t, dt, tq, y, dy, z, dz, rm, du, er] := by
  have g : ∀ {a b : Nat}, @LT.lt Nat _ a b → Dif a b := fun h => Dif.mk (Nat.ne_of_lt h)
  obtain ⟨⟨a1, a2, a3, a4, a5, a6, a7, a8, _⟩, ⟨b1, b2, b3, b4, b5, b6, b7, _⟩, ⟨c1, c2, c3, c4, c5, c6, _⟩, ⟨e1, e2, e3, e4, e5, _⟩, ⟨f1, f2, f3, f4, _⟩, ⟨i1, i2, i3, _⟩, ⟨k1, k2, _⟩, ⟨l1, _⟩, _, _⟩ := hap
  exact ⟨⟨a1, a2, a3, a4, a5, a6, a7, g h2, a8, trivial⟩, ⟨b1, b2, b3, b4, b5, b6, g h3, b7, trivial⟩, ⟨c1, c2, c3, c4, c5, g h4, c6, trivial⟩, ⟨e1, e2, e3, e4, g h5, e5, trivial⟩, ⟨f1, f2, f3, g h6, f4, trivial⟩, ⟨i1, i2, g h7, i3, trivial⟩, ⟨k1, g h8, k2, trivial⟩, ⟨g h9, l1, trivial⟩, ⟨Dif.mk (Nat.ne_of_gt h1), trivial⟩, trivial, trivial⟩
abbrev ltOf {a b : Nat} {p : Prop} (_ : @LT.lt Nat _ a b ∧ p) : Nat := b
theorem law_end {w : World} {sc : Scope} {body : List Stmt} (hsc : sc = fScope lawF) (hbody : body = (fBody lawF).drop 7) {h₀ : Heap} {L : Addr} {s : Shared} {m1 : Str → Option Value} {Q : Flow → Shared → Prop} {E : Value → Shared → Prop} {loose : List Str} {mean : ExcName → Option Value} {mg mb : Str → Option Value}
    {t dt tq y dy z dz rm er ra : Addr} {j k : Nat → Tok} {o1 o2 o3 o4 o5 o6 : Value} {nn ne nr n a : Nat} {rws : List Value} {k0 k1 tT tp tt : Tok} {rows : List Row} {v : SV} {b : Nat} {Z : List (Addr × Obj)}
    (lF : Fr h₀ L s.heap (fun n => if n = Str.ofString "reader" then some (.ref t) else if n = Str.ofString "text" then some (.str ⟨(rowsText rows).toArray⟩ tt) else if n = Str.ofString "rows" then some (.ref ra) else m1 n))
    (lN : News h₀ L s.heap ((ra, listOf rws.toArray nr) :: (er, listOf #[] ne) :: (RLed w.params t dt tq j y o1 o2 o3 o4 o5 o6 [] nn ++ CLed w.params y dy z dz rm k v k0 k1 ⟨(rowsText rows).toArray⟩ tT (b : Int) tp ++ Z))) (hap : Apart [t, dt, tq, y, dy, z, dz, rm, er]) (hoff : OwnOff ((ra, listOf rws.toArray nr) :: Z) [t, dt, tq, y, dy, z, dz, rm, er]) (hrz : ∀ p ∈ Z, p.1 ≠ ra)
    (HA : At z rm (.ref er) ⟨(rowsText rows).toArray⟩ v a b 0) (hR : RowsAt Z rws rows) (hI : RowsIn rows) (hP : RowsP n n rows) (hn : n ≤ 10)
    (X : (K1 w.params).In h₀) (T : Top q1 loose mean mg mb h₀) (B : Below callerA h₀ [] h₀)
    (hE : PassesOwn (model r1.row.prog w) (callerA.deeper (envOf (Str.ofString "law") sc L 819 (.ref 818))) (envOf (Str.ofString "law") sc L 819 (.ref 818)) E)
    (hret : ∀ h' tk, (∀ b o, h₀.get? b = some o → h'.get? b = some o) → Q (.ret (.bool true)) { s with heap := h', toks := tk }) :
    wpAny (model r1.row.prog w) (callerA.deeper (envOf (Str.ofString "law") sc L 819 (.ref 818))) (execs body (envOf (Str.ofString "law") sc L 819 (.ref 818))) Q E s := by
  k_with_none
  (k_with "callWith" => (k_here; (with_reducible show wpAny _ _ (callWith _ (Value.builtin _) [_] _ _) _ _ _); refine callWith_method1 ?_))
  (k_with "call ref" => (k_here; (with_reducible show wpAny _ _ (call (Value.ref 133) _) _ _ _); refine Hold.out ?_))
  (k_with "execs cons" => ((with_reducible show wpAny _ _ (execs (Stmt.For _ _ _ _ _ :: _) _) _ _ _); refine Hold.out ?_))
  have HT : TxtOk ⟨(rowsText rows).toArray⟩ := txt_ok hI (by have := hP.1; omega)
  have hlen : (⟨(rowsText rows).toArray⟩ : Str).length ≤ 1000 := by
    show (rowsText rows).toArray.size ≤ 1000
    rw [List.size_toArray]
    have := text_len hI
    have := hP.1
    omega
  have X0 := X
  revert X; k_fill; intro X
  have hsc0 := hsc
  conv at hsc => rhs; whnf
  conv at hbody => rhs; whnf
  subst hsc hbody
  dsimp only [RLed, CLed, List.cons_append, List.nil_append] at lN
  k_steps
  refine ⟨?_⟩
  (rename Fr h₀ L _ _ => lF2); (rename News h₀ L _ ((_, _) :: _) => lN2); (rename _ ∧ _ ∧ _ ∧ _ ∧ _ ∧ _ ∧ _ ∧ _ ∧ _ ∧ _ ∧ AllLt _ _ => hlt)
  have hdu : ∀ b ∈ [t, dt, tq, y, dy, z, dz, rm, er], @LT.lt Nat _ b (ltOf hlt) := by
    obtain ⟨_, h1, h2, h3, h4, h5, h6, h7, h8, h9, _⟩ := hlt
    intro b hb
    simp only [List.mem_cons, List.not_mem_nil, or_false] at hb
    rcases hb with rfl | rfl | rfl | rfl | rfl | rfl | rfl | rfl | rfl <;> assumption
  have hap2 : Apart [t, dt, tq, y, dy, z, dz, rm, ltOf hlt, er] := adr_with hap (hdu _ (by simp)) (hdu _ (by simp)) (hdu _ (by simp)) (hdu _ (by simp)) (hdu _ (by simp)) (hdu _ (by simp)) (hdu _ (by simp)) (hdu _ (by simp)) (hdu _ (by simp))
  have hsplit : ∀ {b : Addr}, b ∈ [t, dt, tq, y, dy, z, dz, rm, ltOf hlt, er] → b = ltOf hlt ∨ b ∈ [t, dt, tq, y, dy, z, dz, rm, er] := fun {b} hb => by
    simp only [List.mem_cons, List.not_mem_nil, or_false] at hb ⊢
    rcases hb with h | h | h | h | h | h | h | h | h | h <;> simp [h]
  have hzlt : AllLt (ltOf hlt) Z := hlt.2.2.2.2.2.2.2.2.2.2
  have hralt : @LT.lt Nat _ ra (ltOf hlt) := hlt.1
  have hoff2 : OwnOff Z [t, dt, tq, y, dy, z, dz, rm, ltOf hlt, er] := fun p hp b hb => by
    rcases hsplit hb with rfl | hb
    · exact Nat.ne_of_lt (allLt_mem hzlt p hp)
    · exact hoff p (.tail _ hp) b hb
  have hra : ∀ b ∈ [t, dt, tq, y, dy, z, dz, rm, ltOf hlt, er], b ≠ ra := fun b hb => by
    rcases hsplit hb with rfl | hb
    · exact Nat.ne_of_gt hralt
    · exact (hoff _ (.head _) b hb).symm
  refine wpAny_execs_cons ?_
  refine loop2 (nr := nr) (c := ⟨t, dt, tq, y, dy, z, dz, rm, ltOf hlt, er, j, k, o1, o2, o3, o4, o5, o6, k0, k1, tT, ne⟩) (x := ⟨[], nn, [], 0, v, b, tp⟩) (Z := Z) rfl (by with_unfolding_all rfl) lF2 (News.part lN2 ?sub) hap2 hoff2 hra hrz HT hlen HA hR hI hP hn rfl rfl X T B hE ?_
  case sub => walk_at "my sub"
  intro h' tk m' x' a' Z' F' N' O' A'
  clear lN2 lF2 hra hoff2 hdu hoff hrz hap
  dsimp only [LLed, List.cons_append, List.nil_append] at N'
  dsimp only
  k_steps
  refine ⟨?_⟩
  (rename News h₀ L _ ((_, _) :: _) => kN)
  k_dflt (refine' use_char (A := []) (x := x') (Z := Z') (c := ⟨t, dt, tq, y, dy, z, dz, rm, ltOf hlt, er, j, k, o1, o2, o3, o4, o5, o6, k0, k1, tT, ne⟩) kN hap2 ?hA O' HT A' ?B ?F ?X ?T ?hk ?hd ?hu ?_; (case hA => exact off_nil); (case B => k_asm); (case F => k_asm); (case X => k_asm); (case T => k_asm); (case hk => first | exact rfl | assumption); (case hd => ktr_room); (case hu => ktr_units); k_whole)
  intro r' v9 b9 tp9 h9 tk9 hC F9 N9
  have hC2 : r' = .none ∧ v9.er = .ref er := by
    rcases hC with ⟨c', t', a', hc', e, hA', _⟩ | ⟨_, hc', e, hA'⟩
    · have := (List.getElem?_eq_some_iff.mp hc').1
      simp at this
    · exact ⟨e, hA'.er⟩
  obtain ⟨hC2, hC3⟩ := hC2
  subst hC2
  clear hC kN
  dsimp only [LLed, SEs, List.cons_append, List.nil_append] at N9
  rw [hC3] at N9
  k_steps
  (rename Fr h₀ L _ _ => kF)
  exact hret _ _ kF.keep
end
section
open PySem PySem.W PySem.Calls PyProof.Rows
local macro_rules | `(tactic| k_all) => `(tactic| first | exact OwnOff.ne (by assumption) (by k_memK) | exact List.forall_mem_nil _ | (refine' List.forall_mem_cons.mpr ⟨?a, ?b⟩; (case a => k_ne); (case b => k_all)) | fail "tail")

theorem rows_tup {tl : List (Addr × Obj)} {rws : List Value} {rows : List Row} (h : RowsAt tl rws rows) : ∃ tl', (∀ p ∈ tl', p ∈ tl ∧ kd p.2 = 2) ∧ RowsAt tl' rws rows := by
  induction h with
  | nil => exact ⟨[], (fun _ h => nomatch h), .nil⟩
  | cons a _ ih =>
    obtain ⟨D, t1, t2, t3, t4, e, hm⟩ := a
    obtain ⟨tl', h1, h2⟩ := ih
    refine ⟨(D, _) :: tl', fun p hp => ?_, .cons ⟨D, t1, t2, t3, t4, e, .head _⟩ (h2.mono fun p hp => .tail _ hp)⟩
    rcases List.mem_cons.mp hp with rfl | hp
    · exact ⟨hm, rfl⟩
    · exact h1 p hp
theorem canon {P : Params} {h₀ h : Heap} {L : Addr} {l Z : List (Addr × Obj)} (N : News h₀ L h l) {t dt tq y dy z dz rm er ra : Addr} {j k : Nat → Tok} {o1 o2 o3 o4 o5 o6 : Value} {v : SV} {nn ne nr : Nat} {rws : List Value} {k0 k1 tT tp : Tok} {TX : Str}
    (h1 : (t, instObj 762 dt) ∈ l) (h2 : (dt, dictOf (REs P j y tq o1 o2 o3 o4 o5 o6) 8) ∈ l) (h4 : (y, instObj 166 dy) ∈ l) (h5 : (dy, dictOf (SEs P k v) 10) ∈ l) (h3 : (tq, listOf #[] nn) ∈ l) (h6 : (z, instObj 73 dz) ∈ l) (h7 : (dz, dictOf (TEs P k0 k1 TX tT 0 tp) 2) ∈ l) (h8 : (rm, methodObj (.ref 148) (.ref y)) ∈ l) (h9 : (er, listOf #[] ne) ∈ l) (h10 : (ra, listOf rws.toArray nr) ∈ l)
    (d1 : tq ≠ er) (d2 : tq ≠ ra) (d3 : er ≠ ra) (hZ : ∀ p ∈ Z, p ∈ l ∧ kd p.2 = 2) :
    News h₀ L h (CLed P y dy z dz rm k v k0 k1 TX tT 0 tp ++ (RLed P t dt tq j y o1 o2 o3 o4 o5 o6 [] nn ++ ((er, listOf #[] ne) :: (ra, listOf rws.toArray nr) :: Z))) ∧
      Apart [t, dt, tq, y, dy, z, dz, rm, er] ∧ OwnOff ((ra, listOf rws.toArray nr) :: Z) [t, dt, tq, y, dy, z, dz, rm, er] ∧ ∀ p ∈ Z, p.1 ≠ ra := by
  have q : ∀ {a b : Addr} {o o' : Obj}, (a, o) ∈ l → (b, o') ∈ l → Nat.beq (kd o) (kd o') = false → a ≠ b := fun ha hb hk => ne_kd N ha hb (Nat.ne_of_beq_eq_false hk)
  refine ⟨fun p hp => N p ?_, ?_, ?_, ?_⟩
  · simp only [List.mem_append, List.mem_cons, List.not_mem_nil, or_false] at hp
    rcases hp with (rfl | rfl | rfl | rfl | rfl) | (rfl | rfl | rfl) | rfl | rfl | hp <;> first | assumption | exact (hZ p hp).1
  · refine ⟨⟨q h1 h2 rfl, q h1 h3 rfl, q h1 h4 rfl, q h1 h5 rfl, q h1 h6 rfl, q h1 h7 rfl, q h1 h8 rfl, q h1 h9 rfl, trivial⟩, ⟨q h2 h3 rfl, q h2 h4 rfl, q h2 h5 rfl, q h2 h6 rfl, q h2 h7 rfl, q h2 h8 rfl, q h2 h9 rfl, trivial⟩, ⟨q h3 h4 rfl, q h3 h5 rfl, q h3 h6 rfl, q h3 h7 rfl, q h3 h8 rfl, d1, trivial⟩,
      ⟨q h4 h5 rfl, q h4 h6 rfl, q h4 h7 rfl, q h4 h8 rfl, q h4 h9 rfl, trivial⟩, ⟨q h5 h6 rfl, q h5 h7 rfl, q h5 h8 rfl, q h5 h9 rfl, trivial⟩, ⟨q h6 h7 rfl, q h6 h8 rfl, q h6 h9 rfl, trivial⟩, ⟨q h7 h8 rfl, q h7 h9 rfl, trivial⟩, ⟨q h8 h9 rfl, trivial⟩, trivial, trivial⟩
  · have hz : ∀ {b : Addr} {o' : Obj}, (b, o') ∈ l → Nat.beq 2 (kd o') = false → ∀ p ∈ Z, p.1 ≠ b := fun hb hk p hp => ne_kd (o := p.2) N (hZ p hp).1 hb (by rw [(hZ p hp).2]; exact Nat.ne_of_beq_eq_false hk)
    refine off_cons (fun b hb => ?_) fun p hp b hb => ?_
    · simp only [List.mem_cons, List.not_mem_nil, or_false] at hb
      rcases hb with rfl | rfl | rfl | rfl | rfl | rfl | rfl | rfl | rfl
      · exact q h10 h1 rfl
      · exact q h10 h2 rfl
      · exact d2.symm
      · exact q h10 h4 rfl
      · exact q h10 h5 rfl
      · exact q h10 h6 rfl
      · exact q h10 h7 rfl
      · exact q h10 h8 rfl
      · exact d3.symm
    · simp only [List.mem_cons, List.not_mem_nil, or_false] at hb
      rcases hb with rfl | rfl | rfl | rfl | rfl | rfl | rfl | rfl | rfl
      · exact hz h1 rfl p hp
      · exact hz h2 rfl p hp
      · exact hz h3 rfl p hp
      · exact hz h4 rfl p hp
      · exact hz h5 rfl p hp
      · exact hz h6 rfl p hp
      · exact hz h7 rfl p hp
      · exact hz h8 rfl p hp
      · exact hz h9 rfl p hp
  · exact fun p hp => ne_kd (o := p.2) N (hZ p hp).1 h10 (by rw [(hZ p hp).2]; exact Nat.ne_of_beq_eq_false rfl)
theorem canon_back {h₀ h : Heap} {L : Addr} {P R Z : List (Addr × Obj)} {x y : Addr × Obj} (N : News h₀ L h (P ++ (R ++ (x :: y :: Z)))) : News h₀ L h (y :: x :: (R ++ P ++ Z)) := fun p hp => N p (by
  simp only [List.mem_append, List.mem_cons] at hp ⊢
  rcases hp with hp | hp | (hp | hp) | hp <;> simp [hp])
theorem use_first {w : World} {loose : List Str} {mean : ExcName → Option Value} {mg mb : Str → Option Value} {dp un : Nat} {gd : Option (List Code)} {cn : Str} {cs : Scope} {a : Addr} {ccd : Value} {cl : List (Str × Addr)} {outer : List Env} {A₀ : Around} {base h₀ : Heap} {L : Addr} {m : Str → Option Value} {s : Shared} {Q E : Value → Shared → Prop}
    {l Z : List (Addr × Obj)} (N : News h₀ L s.heap l) {t dt tq y dy z dz rm er ra : Addr} {t0 t1 t2 t3 t4 t5 t6 t7 t8 t9 j0 j1 j2 j3 j4 j5 j6 j7 : Tok} {o1 o2 o3 o4 o5 o6 nl : Value} {tC tS tO tL tP : Tok} {nn ne nr : Nat} {rws : List Value} {k0 k1 tT tp tn : Tok} {TX : Str} {n : Int} {b : Nat}
    (h1 : (t, instObj 762 dt) ∈ l) (h2 : (dt, dictOf (REs w.params (tokN j0 j1 j2 j3 j4 j5 j6 j7 0 0) y tq o1 o2 o3 o4 o5 o6) 8) ∈ l) (h4 : (y, instObj 166 dy) ∈ l) (h5 : (dy, dictOf (SEs w.params (tokN t0 t1 t2 t3 t4 t5 t6 t7 t8 t9) ⟨.ref rm, nl, .ref z, Str.ofString "", tC, 0, tS, 0, tO, .ref er, 0, tL, 0, tP, .none⟩) 10) ∈ l) (h3 : (tq, listOf #[] nn) ∈ l) (h6 : (z, instObj 73 dz) ∈ l) (h7 : (dz, dictOf (TEs w.params k0 k1 TX tT 0 tp) 2) ∈ l) (h8 : (rm, methodObj (.ref 148) (.ref y)) ∈ l) (h9 : (er, listOf #[] ne) ∈ l) (h10 : (ra, listOf rws.toArray nr) ∈ l)
    (d1 : tq ≠ er) (d2 : tq ≠ ra) (d3 : er ≠ ra) (hZ : ∀ p ∈ Z, p ∈ l ∧ kd p.2 = 2) (HT : TxtOk TX) (hn : n = (b : Int)) (hb : b ≤ TX.length)
    (B : Below A₀ base outer h₀) (F : Fr h₀ L s.heap m) (X : (K1 w.params).In h₀) (T : Top q1 loose mean mg mb h₀) (hk : cs.kind = .function) (hd : dp + 4 < recursionLimit) (hu : un + 32 < cLine)
    (k : ∀ r v' tp' h' tk, At z rm (.ref er) TX v' 0 b 0 → Fr h₀ L h' m → News h₀ L h' ((ra, listOf rws.toArray nr) :: (er, listOf #[] ne) :: (RLed w.params t dt tq (tokN j0 j1 j2 j3 j4 j5 j6 j7 0 0) y o1 o2 o3 o4 o5 o6 [] nn ++ CLed w.params y dy z dz rm (tokN t0 t1 t2 t3 t4 t5 t6 t7 t8 t9) v' k0 k1 TX tT ((b : Nat) : Int) tp' ++ Z)) → Apart [t, dt, tq, y, dy, z, dz, rm, er] → OwnOff ((ra, listOf rws.toArray nr) :: Z) [t, dt, tq, y, dy, z, dz, rm, er] → (∀ p ∈ Z, p.1 ≠ ra) → Q r { s with heap := h', toks := tk }) :
    wpAny (model r1.row.prog w) (ktrTop dp un gd cn cs L a ccd cl outer) (call (.ref 141) [.ref y, .int n tn]) Q E s := by
  obtain ⟨N1, a1, o1', o2'⟩ := canon N h1 h2 h4 h5 h3 h6 h7 h8 h9 h10 d1 d2 d3 hZ
  have a2 : Apart (([t, dt, tq] ++ [y, dy, z, dz, rm]) ++ [er]) := a1
  obtain ⟨a3, _, a4⟩ := a2.split
  obtain ⟨_, a5, a6⟩ := a3.split
  refine spec_useN (rc1' (b := b) HT hn hb rfl) N1 ?_ (nodup_of a5) B F X T hk hd hu ?_
  · intro p hp x hx
    rcases List.mem_append.mp hp with hp | hp
    · exact a6 p.1 (List.mem_map_of_mem (f := (·.1)) hp) x hx
    · rcases List.mem_cons.mp hp with rfl | hp
      · exact (a4 x (List.mem_append_right _ hx) er (.head _)).symm
      · exact o1' p hp x (show x ∈ ([t, dt, tq] ++ [y, dy, z, dz, rm]) ++ [er] from List.mem_append_left _ (List.mem_append_right _ hx))
  · rintro r P' h' tk ⟨v', tp', rfl, hA⟩ F' N' _
    exact k r v' tp' h' tk hA F' (canon_back N') a1 o1' o2'
theorem law_mid {w : World} {sc : Scope} {body : List Stmt} (hsc : sc = fScope lawF) (hbody : body = (fBody lawF).drop 4) {h₀ : Heap} {L : Addr} {s : Shared} {m1 : Str → Option Value} {Q : Flow → Shared → Prop} {E : Value → Shared → Prop} {loose : List Str} {mean : ExcName → Option Value} {mg mb : Str → Option Value} {ra ta : Addr} {nr nt : Nat} {tt : Tok} {ws rws : List Value} {tp : List Int} {rows : List Row} {tl : List (Addr × Obj)}
    (lF : Fr h₀ L s.heap (fun x => if x = Str.ofString "text" then some (.str ⟨(rowsText rows).toArray⟩ tt) else if x = Str.ofString "rows" then some (.ref ra) else if x = Str.ofString "tape" then some (.ref ta) else m1 x))
    (lN0 : News h₀ L s.heap ((ra, listOf rws.toArray nr) :: (ta, listOf ws.toArray nt) :: tl)) (hdif : Dif ra ta) (hi : IntsAre ws tp) (ht1 : 1 ≤ tp.length) (ht2 : tp.length ≤ 10)
    (hR0 : RowsAt tl rws rows) (hI : RowsIn rows) (hP : RowsP tp.length tp.length rows)
    (X : (K1 w.params).In h₀) (T : Top q1 loose mean mg mb h₀) (B : Below callerA h₀ [] h₀)
    (hE : PassesOwn (model r1.row.prog w) (callerA.deeper (envOf (Str.ofString "law") sc L 819 (.ref 818))) (envOf (Str.ofString "law") sc L 819 (.ref 818)) E)
    (hret : ∀ h' tk, (∀ b o, h₀.get? b = some o → h'.get? b = some o) → Q (.ret (.bool true)) { s with heap := h', toks := tk }) :
    wpAny (model r1.row.prog w) (callerA.deeper (envOf (Str.ofString "law") sc L 819 (.ref 818))) (execs body (envOf (Str.ofString "law") sc L 819 (.ref 818))) Q E s := by
  k_with_none
  (k_with "callWith" => (k_here; (with_reducible show wpAny _ _ (callWith _ (Value.builtin _) [_] _ _) _ _ _); refine callWith_method1 ?_))
  (k_with "call ref" => (k_here; (with_reducible show wpAny _ _ (call (Value.ref 141) _) _ _ _); refine Hold.out ?_))
  (k_with "execs cons" => ((with_reducible show wpAny _ _ (execs (Stmt.Assign [PySem.Expr.Name _ _] (PySem.Expr.List [] _) _ :: _) _) _ _ _); refine Hold.out ?_))
  obtain ⟨tl', htl, hR⟩ := rows_tup hR0
  have lN : News h₀ L s.heap ((ra, listOf rws.toArray nr) :: (ta, listOf ws.toArray nt) :: tl') := fun p hp => lN0 p (by
    rcases List.mem_cons.mp hp with rfl | hp
    · exact .head _
    · rcases List.mem_cons.mp hp with rfl | hp
      · exact .tail _ (.head _)
      · exact .tail _ (.tail _ (htl p hp).1))
  have hkd : ∀ p ∈ tl', kd p.2 = 2 := fun p hp => (htl p hp).2
  have hoff : OwnOff tl' [ra, ta] := fun p hp => off_cons (r := []) (o := p.2) (d := p.1) (fun b hb => by
    simp only [List.mem_cons, List.not_mem_nil, or_false] at hb
    have q : ∀ {b : Addr} {o' : Obj}, (b, o') ∈ ((ra, listOf rws.toArray nr) :: (ta, listOf ws.toArray nt) :: tl') → Nat.beq 2 (kd o') = false → p.1 ≠ b := fun hb hk => ne_kd (o := p.2) lN (.tail _ (.tail _ hp)) hb (by rw [hkd p hp]; exact Nat.ne_of_beq_eq_false hk)
    rcases hb with rfl | rfl
    · exact q (.head _) rfl
    · exact q (.tail _ (.head _)) rfl) off_nil _ (.head _)
  have HT : TxtOk ⟨(rowsText rows).toArray⟩ := txt_ok hI (by have := hP.1; omega)
  have hlen : (⟨(rowsText rows).toArray⟩ : Str).length ≤ 1000 := by
    show (rowsText rows).toArray.size ≤ 1000
    rw [List.size_toArray]
    have := text_len hI
    have := hP.1
    omega
  have X0 := X
  clear lN0 hR0 htl
  revert X; k_fill; intro X
  have hsc0 := hsc
  conv at hsc => rhs; whnf
  conv at hbody => rhs; whnf
  subst hsc hbody
  obtain ⟨b, hb9⟩ : ∃ b : Nat, Int.fmod tp.sum (((⟨(rowsText rows).toArray⟩ : Str).length : Int) + 1) = (b : Int) := ⟨_, (Int.toNat_of_nonneg (fm (n := tp.sum) (k := ((⟨(rowsText rows).toArray⟩ : Str).length : Int) + 1) (by omega)).1).symm⟩
  have hb8 : b ≤ (⟨(rowsText rows).toArray⟩ : Str).length := by have := (fm (n := tp.sum) (k := ((⟨(rowsText rows).toArray⟩ : Str).length : Int) + 1) (by omega)).2; omega
  k_steps
  refine ⟨?_⟩
  (rename News h₀ L _ ((_, _) :: _) => lN2)
  dsimp only at lN2
  k_dflt (refine' use_first (b := b) (rws := rws) (ra := ra) (nr := nr) (Z := tl') lN2 ?h1 ?h2 ?h4 ?h5 ?h3 ?h6 ?h7 ?h8 ?h9 ?h10 ?d1 ?d2 ?d3 ?hZ HT hb9 hb8 ?B ?F ?X ?T ?hk ?hd ?hu ?_)
  case h1 => k_memK
  case h2 => k_memK
  case h4 => k_memK
  case h5 => k_memK
  case h3 => k_memK
  case h6 => k_memK
  case h7 => k_memK
  case h8 => k_memK
  case h9 => k_memK
  case h10 => k_memK
  case d1 => k_ne
  case d2 => k_ne
  case d3 => k_ne
  case hZ => exact fun p hp => ⟨by walk_at "my own", hkd p hp⟩
  case B => k_asm
  case F => k_asm
  case X => k_asm
  case T => k_asm
  case hk => first | exact rfl | assumption
  case hd => ktr_room
  case hu => ktr_units
  intro r' v' tp' h' tk' A' F' N' a1 o1 o2
  k_steps
  refine ⟨?_⟩
  refine law_end (w := w) rfl (by with_unfolding_all rfl) (fr_have (x := Str.ofString "reader") rfl (fr_have (x := Str.ofString "text") rfl (fr_have (x := Str.ofString "rows") rfl F'))) N' a1 o1 o2 A' hR hI hP ht2 X0 T B hE hret
end
section
open PySem PySem.W PySem.Calls PyProof.Rows
theorem law_walk (w : World) (s1 : Shared) (l : Addr) (vs : List Value) (ns : List Int) (loose : List Str) (mean : ExcName → Option Value) (mg mb : Str → Option Value) (Q : Result → Shared → Prop)
      (X : (K1 w.params).In s1.heap) (T : Top q1 loose mean mg mb s1.heap) (hl : s1.heap.IsList l vs.toArray) (hi : IntsAre vs ns) (hn : ns.length ≤ 63) (hg : s1.gens = #[])
      (hret : ∀ h' tk, (∀ b o, s1.heap.get? b = some o → h'.get? b = some o) → Q (.ok (.ret (.bool true))) { s1 with heap := h', toks := tk }) :
      codeAny (model r1.row.prog w) callerA (.call (.ref 819) ⟨[.ref l], []⟩) Q s1 := by
  k_with_none
  (k_with "callWith" => (k_here; (with_reducible show wpAny _ _ (callWith _ (Value.builtin _) [_] _ _) _ _ _); refine callWith_method1 ?_))
  (k_with "execs cons" => ((with_reducible show wpAny _ _ (execs (Stmt.For _ _ _ _ _ :: _) _) _ _ _); refine Hold.out ?_))
  revert X; k_fill; intro X
  have B := below_caller s1.heap
  k_dflt (refine' code_top (binds := [(Str.ofString "script", .ref l)]) X T ?k6 ?k7 ?k9 ?kB ?_ ?c2 ?c3 ?c4 ?c5; (case k6 => k_is); (case k7 => k_is); (case k9 => first | exact BindsTo.of_eq rfl | exact binds_K (by k_in) rfl (by k_is) rfl rfl rfl); (case c5 => decide); (case kB => exact locs rfl); (case c2 => exact rfl); (case c3 => exact rfl); (case c4 => exact rfl); k_whole; intro h1 F; (try dsimp only); (try k_fold))
  have N0 : News s1.heap s1.heap.objs.size h1 [] := News.nil
  have hsz := hi.length
  k_steps
  refine ⟨?_⟩
  (rename Fr s1.heap _ _ _ => lF); (rename News s1.heap _ _ ((_, _) :: _) => lN); (rename IntsAre _ (_ ++ _) => hi2); (rename (@LT.lt Nat _ _ _) ∧ (@LT.lt Nat _ _ _) ∧ (@LT.lt Nat _ _ _) => hlt)
  have ht1 : 1 ≤ (List.take 9 ns ++ [(ns.length : Int)]).length := by simp
  have ht2 : (List.take 9 ns ++ [(ns.length : Int)]).length ≤ 10 := by simp; omega
  refine wpAny_execs_cons ?_
  refine loop1 (w := w) (nr := 0) (nt := 0) rfl (by with_unfolding_all rfl) (fr_have (x := Str.ofString "text") rfl (fr_have (x := Str.ofString "rows") rfl (fr_have (x := Str.ofString "tape") rfl lF))) (News.part lN ?sub) (Dif.mk (Nat.ne_of_gt hlt.1)) hi2 ht1 ht2 X T B ?hE ?hQ
  case sub =>
    intro p hp
    rcases List.mem_cons.mp hp with rfl | hp
    · exact .head _
    · rw [List.mem_singleton.mp hp]; exact .tail _ (.head _)
  case hE => first | passes_own | with_unfolding_all passes_own
  case hQ =>
    intro h' tk m' rws rows nr' tl tt' F' N' O' hR hI hP
    dsimp only
    refine law_mid (w := w) rfl (by with_unfolding_all rfl) F' N' (Dif.mk (Nat.ne_of_gt hlt.1)) hi2 ht1 ht2 hR hI hP X T B ?hE2 ?hret
    case hE2 => first | passes_own | with_unfolding_all passes_own
    case hret =>
      intro h9 tk9 hk9
      exact hret h9 tk9 hk9
theorem law1_holds : r1.Holds := law_entry law_walk
end
end Mine
open PySem PySem.W PyProof.Rows
theorem PySem.Challenge.cw_im0055_01_holds : PySem.Challenge.rw_im0055_01.Holds := by
  exact Mine.law1_holds
